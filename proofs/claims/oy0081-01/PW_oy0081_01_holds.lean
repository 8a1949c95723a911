import PyProof.Rows.All
import Wide.All
import OpenK.AllK
import Wide.FinOn
import KE.KDictSum
import KE.KSortTup
import KE.KLam
import KE.KBytesCut
import KE.KTypeOf
import PySem.Challenge.RW_oy0081_01
set_option Elab.async false
set_option maxRecDepth 100000
/-! part B0 -/
namespace Mine
open PySem PySem.W PySem.Calls PyProof.Rows

/-! ## the text's defs, by their places -/
def defBody (n : Nat) : List Stmt := match PySem.Challenge.pw_oy0081_01.main.body[n]? with
  | some (.FunctionDef _ _ b _ _ _ _ _ _ _) => b
  | _ => []
def defParams (n : Nat) : Arguments := match PySem.Challenge.pw_oy0081_01.main.body[n]? with
  | some (.FunctionDef _ a _ _ _ _ _ _ _ _) => a
  | _ => ⟨[], [], none, [], [], none, []⟩
def defScope (n : Nat) : Scope := match PySem.Challenge.pw_oy0081_01.main.body[n]? with
  | some (.FunctionDef _ _ _ _ _ _ s _ _ _) => s
  | _ => default

/-! ## what the top says of a heap -/
def GName (h : Heap) (x : Str) (v : Value) : Prop :=
  ∃ mg mb, h.Ns mainGlobals mg ∧ h.Ns builtinsNs mb ∧ (mg x = some v ∨ (mg x = none ∧ mb x = some v))
theorem GName.keeps {h h' : Heap} {x : Str} {v : Value} (g : GName h x v) (k : h.StaysIn h') : GName h' x v :=
  let ⟨mg, mb, a, b, c⟩ := g
  ⟨mg, mb, a.keeps k, b.keeps k, c⟩

/-- a def of the text stands at `f` -/
def FnAt (h : Heap) (f : Addr) (name : Str) (n : Nat) : Prop :=
  ∃ o doc pm an cdv ct, h.get? f = some o ∧ o.data = .func (fnOf name name (defParams n) (defBody n) (defScope n) .none .none doc pm an cdv ct) ∧ h.CodeRec cdv name
theorem FnAt.keeps {h h' : Heap} {f : Addr} {name : Str} {n : Nat} (g : FnAt h f name n) (k : h.StaysIn h') : FnAt h' f name n :=
  let ⟨o, doc, pm, an, cdv, ct, a, b, c⟩ := g
  ⟨o, doc, pm, an, cdv, ct, k _ _ a, b, c.keeps k⟩

/-- room for k more frames -/
structure Room (k : Nat) (A : Around) : Prop where
  handled : A.handled = none
  depth : A.depth + k < recursionLimit
  units : A.units + (3 * k + 40) < cLine
theorem Room.deeper {k : Nat} {A : Around} (r : Room (k + 1) A) (env : Env) : Room k (A.deeper env) :=
  ⟨r.handled, (by have := r.depth; show A.depth + 1 + k < _; omega), (by have := r.units; show A.units + 3 + _ < _; omega)⟩
theorem Room.less {k j : Nat} {A : Around} (r : Room k A) (h : j ≤ k) : Room j A :=
  ⟨r.handled, (by have := r.depth; omega), (by have := r.units; omega)⟩

section
variable {prog : Program} {w : World} {A : Around} {E : Value → Shared → Prop} {s : Shared} {env : Env}

theorem ev_glob {x : Str} {pos : Pos} {v : Value} {Q : Value → Shared → Prop} (g : GName s.heap x v) (h : Q v s)
    (hk : env.scope.kind = .function := by rfl) (hx : env.kindOf x = some .globalImplicit := by rfl) (hg : env.globals = mainGlobals := by rfl) (hb : env.builtins = builtinsNs := by rfl)
    (hd : (x == ("__debug__" : Str)) = false := by decide) : wpAny (model prog w) A (eval (.Name x pos) env) Q E s := by
  obtain ⟨mg, mb, a, b, c⟩ := g
  refine Name_function_global hk hx ?_ hd
  rcases c with c | ⟨c, d⟩
  · exact loadGlobal_global (hg ▸ a) c h
  · exact loadGlobal_builtin (hg ▸ a) c (hb ▸ b) d h

theorem ev_loc {x : Str} {pos : Pos} {v : Value} {m : Str → Option Value} {Q : Value → Shared → Prop} (hn : s.heap.Ns env.locals m) (hv : m x = some v) (h : Q v s)
    (hk : env.scope.kind = .function := by rfl) (hx : env.kindOf x = some .local := by rfl)
    (hd : (x == ("__debug__" : Str)) = false := by decide) : wpAny (model prog w) A (eval (.Name x pos) env) Q E s :=
  wpAny_Name (wpAny_loadName_local hk hx hn hv h) hd

/-- a def of the text is called by its name -/
theorem call_def {f : Addr} {name : Str} {n : Nat} {args : List Value} {binds : List (Str × Value)} {Q : Value → Shared → Prop} (hf : FnAt s.heap f name n) (hlim : s.heap.NoLimit) (hroom : A.depth < recursionLimit)
    (hbind : ∀ doc pm an cdv ct, bindArgs (fnOf name name (defParams n) (defBody n) (defScope n) .none .none doc pm an cdv ct) ⟨args, []⟩ = pure binds)
    (h : ∀ h₁ cdv, h₁.Ns s.heap.objs.size (fun x => binds.reverse.lookup x) → s.heap.StaysIn h₁ →
      wpAny (model prog w) (A.deeper (envOf name (defScope n) s.heap.objs.size f cdv)) (execs (defBody n) (envOf name (defScope n) s.heap.objs.size f cdv))
        (fun fl s' => Q (match fl with | .ret v => v | _ => .none) s') (fun _ _ => False) { s with heap := h₁, toks := s.toks + binds.length })
    (hloc : (binds.all fun x => decide ((defScope n).names.lookup x.1 = some .local)) = true := by rfl)
    (hcell : ∀ x ∈ (defScope n).names, x.2 ≠ .cell := by decide) (hco : (defScope n).isCoroutine = false := by rfl) (hgen : (defScope n).isGenerator = false := by rfl) (hk : (defScope n).kind = .function := by rfl) :
    wpAny (model prog w) A (call (.ref f) args) Q E s := by
  obtain ⟨o, doc, pm, an, cdv, ct, a, b, c⟩ := hf
  refine wpAny_call (codeAny_call_def hroom a b hlim c rfl (.of_eq (hbind _ _ _ _ _)) hcell (locs hloc) (fun h₁ hns hkeep => ?_) hco hgen hk)
  exact wpAny_mono (h h₁ cdv hns hkeep) (fun _ _ x => x) fun _ _ x => x.elim
end
end Mine
/-! part B1 -/
namespace Mine
open PySem PySem.W PySem.Calls PyProof.Rows
open Sem (wp)

/-! ## contexts under which no bytearray is held by a built-in of the stack -/
def okCode : Code → Bool
  | .builtin id _ => (["claim.caller", "type.__call__", "bytearray.__init__"] : List String).contains id
  | _ => true
def OkBelow (Γ : Ctx) : Prop := ∀ x ∈ Γ.below, okCode x.1 = true
def OkCtx (Γ : Ctx) : Prop := okCode Γ.code = true ∧ OkBelow Γ

def wpOk {α : Type} (M : Model) (A : Around) (t : Sem α) (Q : α → Shared → Prop) (E : Value → Shared → Prop) (s : Shared) : Prop :=
  ∀ Γ p, Γ.In A → OkCtx Γ → wp M Γ t (fun a _ s' => Q a s') (fun e _ s' => E e s') p s
def codeOk (M : Model) (A : Around) (c : Code) (R : Result → Shared → Prop) (s : Shared) : Prop :=
  ∀ Γ p, Γ.code = c → Γ.Below A → OkBelow Γ → wpCode M Γ R p s

section
variable {α β : Type} {M : Model} {A : Around} {E : Value → Shared → Prop} {s : Shared}

theorem wpOk_of {t : Sem α} {Q : α → Shared → Prop} (h : wpAny M A t Q E s) : wpOk M A t Q E s := fun Γ p hΓ _ => h Γ p hΓ
theorem codeOk_of {c : Code} {R : Result → Shared → Prop} (h : codeAny M A c R s) : codeOk M A c R s := fun Γ p hc hΓ _ => h Γ p hc hΓ
theorem wpOk_pure {a : α} {Q : α → Shared → Prop} (h : Q a s) : wpOk M A (pure a) Q E s := fun _ _ _ _ => h
theorem wpOk_mono {t : Sem α} {Q Q' : α → Shared → Prop} {E' : Value → Shared → Prop} (h : wpOk M A t Q E s)
    (hQ : ∀ a s, Q a s → Q' a s) (hE : ∀ e s, E e s → E' e s) : wpOk M A t Q' E' s :=
  fun Γ p hΓ ok => Sem.wp_mono M Γ t (fun a _ s => hQ a s) (fun e _ s => hE e s) p s (h Γ p hΓ ok)
theorem wpOk_post {t : Sem α} {Q Q' : α → Shared → Prop} (h : wpOk M A t Q E s) (hQ : ∀ a s, Q a s → Q' a s) : wpOk M A t Q' E s := wpOk_mono h hQ fun _ _ x => x
theorem wpOk_bind {m : Sem α} {f : α → Sem β} {Q : β → Shared → Prop} (h : wpOk M A m (fun a s' => wpOk M A (f a) Q E s') E s) :
    wpOk M A (m >>= f) Q E s := fun Γ p hΓ ok => by
  rw [Sem.wp_bind']
  exact Sem.wp_mono M Γ m (fun a p' s' h' => h' Γ p' hΓ ok) (fun _ _ _ h' => h') p s (h Γ p hΓ ok)
theorem wpOk_onRaise {m : Sem α} {k : Value → Sem Unit} {Q : α → Shared → Prop}
    (h : wpOk M A m Q (fun e s' => wpOk M A (k e) (fun _ s'' => E e s'') E s') s) : wpOk M A (m.onRaise k) Q E s := fun Γ p hΓ ok => by
  rw [Sem.wp_onRaise]
  exact Sem.wp_mono M Γ m (fun _ _ _ h' => h') (fun e p' s' h' => h' Γ p' hΓ ok) p s (h Γ p hΓ ok)
theorem wpOk_attempt {m : Sem α} {Q : Except Value α → Shared → Prop} (h : wpOk M A m (fun a => Q (.ok a)) (fun e => Q (.error e)) s) :
    wpOk M A m.attempt Q E s := fun Γ p hΓ ok => by rw [Sem.wp_attempt]; exact h Γ p hΓ ok
theorem wpOk_holding {vs : List Value} {m : Sem α} {Q : α → Shared → Prop} (h : wpOk M A m Q E s) : wpOk M A (holding vs m) Q E s :=
  fun Γ p hΓ ok => by rw [Sem.wp_holding]; exact h Γ p hΓ ok
theorem wpOk_keep {vs : List Value} {m : Sem α} {Q : α → Shared → Prop} (h : wpOk M A m Q E s) : wpOk M A (m.keep vs) Q E s :=
  fun Γ p hΓ ok => by rw [Sem.wp_keep]; exact h Γ p hΓ ok
theorem wpOk_standAt {pos : Pos} {Q : Unit → Shared → Prop} (h : Q () s) : wpOk M A (standAt pos) Q E s := fun _ _ _ _ => h
theorem wpOk_point {Q : Unit → Shared → Prop} (h : Q () s) : wpOk M A point Q E s := fun _ _ _ _ => h
theorem wpOk_rule {tag : String} {Q : Unit → Shared → Prop} (h : Q () s) : wpOk M A (rule tag) Q E s := fun _ _ _ _ => h

theorem ok_enter {Γ : Ctx} (ok : OkCtx Γ) (c : Code) (h : Option Value) (p : Pos) : OkBelow (Γ.enter c h p) := fun x hx => by
  rcases List.mem_cons.mp hx with rfl | hx
  · exact ok.1
  · exact ok.2 x hx

theorem codeOk_mono {c : Code} {R R' : Result → Shared → Prop} (h : codeOk M A c R s) (hR : ∀ r s, R r s → R' r s) : codeOk M A c R' s :=
  fun Γ p hc hΓ ok => wpCode_mono hR (h Γ p hc hΓ ok)
theorem wpOk_run {c : Code} {Q : Flow → Shared → Prop}
    (hc : codeOk M A c (fun r s' => match r with | .ok f => Q f s' | .error e => E e s') s) : wpOk M A (run c none) Q E s :=
  fun Γ p hΓ ok => by
    rw [Sem.wp_run]
    have e := hΓ.enter c none p (by intro x; cases x)
    rw [Around.mark_none] at e
    exact hc _ p rfl e (ok_enter ok _ _ _)
theorem wpOk_runValue {c : Code} {Q : Value → Shared → Prop}
    (hc : codeOk M A c (fun r s' => match r with | .ok (.ret v) => Q v s' | .ok _ => False | .error e => E e s') s) : wpOk M A (runValue c) Q E s :=
  fun Γ p hΓ ok => by
    rw [Sem.wp_runValue]
    exact hc _ p rfl (hΓ.enter c none p (by intro x; cases x)) (ok_enter ok _ _ _)
theorem wpOk_call {f : Value} {pos : List Value} {kw : List (Str × Value)} {Q : Value → Shared → Prop}
    (hc : codeOk M A (.call f ⟨pos, kw⟩) (fun r s' => match r with | .ok (.ret v) => Q v s' | .ok _ => False | .error e => E e s') s) :
    wpOk M A (call f pos kw) Q E s := wpOk_runValue hc
theorem codeOk_of_tree {c : Code} {R : Result → Shared → Prop} (hok : okCode c = true)
    (h : wpOk M (A.under c) (M.den c) (fun fin s' => match fin with | .done f => R (.ok f) s' | .again c' => c'.quiet = true ∧ codeOk M A c' R s')
      (fun e s' => R (.error e) s') s) : codeOk M A c R s := fun Γ p hc hΓ ok => by
  rw [wpCode_iff_wp, hc]
  refine Sem.wp_mono M Γ _ (fun fin p' s' h' => ?_) (fun _ _ _ h' => h') p s (h Γ p (hc ▸ hΓ.in) ⟨hc ▸ hok, ok⟩)
  cases fin with
  | done f => exact h'
  | again c' => exact ⟨h'.1, h'.2 (Γ.goto c') p' rfl (hΓ.goto c') ok⟩
theorem codeOk_loop {c : Code} {R : Result → Shared → Prop} (hok : okCode c = true) (hq : c.quiet = true) (I : Nat → Shared → Prop)
    (turn : ∀ n s, I n s → wpOk M (A.under c) (M.den c)
      (fun fin s' => match fin with | .done f => R (.ok f) s' | .again c' => c' = c ∧ ∃ m, m < n ∧ I m s') (fun e s' => R (.error e) s') s)
    (n : Nat) (h : I n s) : codeOk M A c R s := by
  induction n using Nat.strongRecOn generalizing s with
  | ind n ih =>
    refine codeOk_of_tree hok (wpOk_mono (turn n s h) (fun fin s' hf => ?_) fun _ _ h' => h')
    cases fin with
    | done f => exact hf
    | again c' => obtain ⟨rfl, m, hm, hI⟩ := hf; exact ⟨hq, ih m hm hI⟩
theorem wpOk_exported {v : Value} {Q : Bool → Shared → Prop} (h : Q false s) : wpOk M A (Builtin.Bytes.exported v) Q E s := fun Γ p _ ok => by
  have key : ∀ x : Code × Pos, okCode x.1 = true → ∀ f : Code × Pos → Bool, (∀ c p, (∀ id args, c ≠ .builtin id args) → f (c, p) = false) →
      (∀ id args p, (id = "claim.caller" ∨ id = "type.__call__" ∨ id = "bytearray.__init__") → f (.builtin id args, p) = false) → f x = false := by
    rintro ⟨c, p⟩ hc f h1 h2
    cases c with
    | builtin id args =>
      refine h2 id args p ?_
      simp only [okCode, List.contains_cons, List.contains_nil, Bool.or_false, Bool.or_eq_true, beq_iff_eq] at hc
      exact hc
    | _ => exact h1 _ _ (by intro _ _ q; cases q)
  unfold Builtin.Bytes.exported
  rw [Sem.wp_bind']
  unfold stack
  rw [Sem.wp_stack]
  show Q (((Γ.code, p) :: Γ.below).any _) s
  have e : ∀ f : Code × Pos → Bool, (∀ c p, (∀ id args, c ≠ .builtin id args) → f (c, p) = false) →
      (∀ id args p, (id = "claim.caller" ∨ id = "type.__call__" ∨ id = "bytearray.__init__") → f (.builtin id args, p) = false) → ((Γ.code, p) :: Γ.below).any f = false := by
    intro f h1 h2
    rw [List.any_eq_false]
    intro x hx
    have : okCode x.1 = true := by
      rcases List.mem_cons.mp hx with rfl | hx
      · exact ok.1
      · exact ok.2 x hx
    rw [key x this f h1 h2]
    exact Bool.false_ne_true
  rw [e _ ?_ ?_]
  · exact h
  · intro c p hc
    cases c with
    | builtin id args => exact absurd rfl (hc id args)
    | _ => rfl
  · rintro id ⟨pos, kw⟩ p (rfl | rfl | rfl) <;> (cases pos <;> first | rfl | exact (congrArg (Builtin.Bytes.sameRef _ _ && ·) (show Builtin.Bytes.decodersThatHold.contains _ = false from by decide +kernel)).trans (Bool.and_false _))
end
end Mine
/-! part B2 -/
namespace Mine
open PySem PySem.W PySem.Calls PyProof.Rows PySem.Builtin

/-! ## bytes: order -/
theorem slot_bytes_lt : Slot "bytes" (cmpInfo .Lt).2.1 "bytes.__lt__" :=
  .of (owner := "bytes") (n := "__lt__") (by rw [typeLookup_type, builtinLookup_eq_fast]; kernel_rfl) (by decide +kernel) (by decide +kernel) (by decide +kernel)
    (by first | exact .inl (by decide +kernel) | exact .inr (by decide +kernel)) (by rw [isSubtype_type]; kernel_rfl)
theorem entry_bytes_lt : entryFor table "bytes.__lt__" = some Builtin.«bytes.__lt__» := entryFor_of_tree (by kernel_rfl)
theorem args_bytes_lt (a b : Value) : argsOk "bytes.__lt__" ⟨[a, b], []⟩ := by
  unfold argsOk; rw [signature?_of (id := "bytes.__lt__") (n := ['_', '_', 't', 'l', '_', '_']) (o := ['s', 'e', 't', 'y', 'b']) (by kernel_rfl) FB.owner_bytes]; kernel_rfl
theorem slot_bytes_gt : Slot "bytes" (cmpInfo .Gt).2.1 "bytes.__gt__" :=
  .of (owner := "bytes") (n := "__gt__") (by rw [typeLookup_type, builtinLookup_eq_fast]; kernel_rfl) (by decide +kernel) (by decide +kernel) (by decide +kernel)
    (by first | exact .inl (by decide +kernel) | exact .inr (by decide +kernel)) (by rw [isSubtype_type]; kernel_rfl)
theorem entry_bytes_gt : entryFor table "bytes.__gt__" = some Builtin.«bytes.__gt__» := entryFor_of_tree (by kernel_rfl)
theorem args_bytes_gt (a b : Value) : argsOk "bytes.__gt__" ⟨[a, b], []⟩ := by
  unfold argsOk; rw [signature?_of (id := "bytes.__gt__") (n := ['_', '_', 't', 'g', '_', '_']) (o := ['s', 'e', 't', 'y', 'b']) (by kernel_rfl) FB.owner_bytes]; kernel_rfl

/-- Python's order of bytes, as the model reckons it -/
def bLt (b c : Array UInt8) : Bool := Bytes.order b.toList c.toList == .lt

theorem order_swap : ∀ a b : List UInt8, (Bytes.order a b == .gt) = (Bytes.order b a == .lt)
  | [], [] | [], _ :: _ | _ :: _, [] => rfl
  | x :: a, y :: b => by
    simp only [Bytes.order]
    by_cases h1 : x < y
    · have h2 : ¬ y < x := fun h => absurd (UInt8.lt_trans h1 h) (UInt8.lt_irrefl _)
      simp [h1, h2]
    · by_cases h2 : x > y
      · have h3 : y < x := h2
        simp [h1, h3]
      · have h3 : ¬ y < x := h2
        have h4 : ¬ y > x := h1
        simp only [h1, h2, h3, h4, if_false]
        exact order_swap a b

theorem gives_bytes_lt (b c : Array UInt8) (t u : Tok) : Gives («bytes.__lt__» ⟨[.bytes b t, .bytes c u], []⟩) (.val (.bool (bLt b c))) := by
  refine .of_wp fun M A E s Q hq => ?_
  show wpAny M A (isInstance (.bytes c u) (.type "bytes") >>= fun r => _) _ E s
  refine wpAny_bind (wpAny_isInstance (typeIs_bytes s c u) F.sub_bytes_bytes ?_)
  exact wpAny_pure ⟨_, rfl, hq⟩
theorem gives_bytes_gt (b c : Array UInt8) (t u : Tok) : Gives («bytes.__gt__» ⟨[.bytes b t, .bytes c u], []⟩) (.val (.bool (bLt c b))) := by
  refine .of_wp fun M A E s Q hq => ?_
  show wpAny M A (isInstance (.bytes c u) (.type "bytes") >>= fun r => _) _ E s
  refine wpAny_bind (wpAny_isInstance (typeIs_bytes s c u) F.sub_bytes_bytes ?_)
  have e : Bytes.holds "__gt__" (Bytes.order b.toList c.toList) = bLt c b := order_swap b.toList c.toList
  exact wpAny_pure ⟨_, rfl, by rw [e]; exact hq⟩

section
variable {prog : Program} {w : World} {A : Around} {E : Value → Shared → Prop} {s : Shared} {b c : Array UInt8} {t u : Tok} {Q : Value → Shared → Prop}
theorem lt_bytes (h : Q (.bool (bLt b c)) s) : wpAny (model prog w) A (compareOp .Lt (.bytes b t) (.bytes c u)) Q E s :=
  compareOp_gives (op := .Lt) (typeIs_bytes s b t) (typeIs_bytes s c u) slot_bytes_lt entry_bytes_lt (args_bytes_lt _ _) (gives_bytes_lt b c t u) (fun e => nomatch e) h
theorem gt_bytes (h : Q (.bool (bLt c b)) s) : wpAny (model prog w) A (compareOp .Gt (.bytes b t) (.bytes c u)) Q E s :=
  compareOp_gives (op := .Gt) (typeIs_bytes s b t) (typeIs_bytes s c u) slot_bytes_gt entry_bytes_gt (args_bytes_gt _ _) (gives_bytes_gt b c t u) (fun e => nomatch e) h
end

/-! ## three_way_cmp -/
section
variable {prog : Program} {w : World} {A : Around} {E : Value → Shared → Prop} {s : Shared} {b c : Array UInt8} {t u : Tok} {Q : Value → Shared → Prop}
theorem cmp_call {f : Addr} (hf : FnAt s.heap f "three_way_cmp" 27) (hlim : s.heap.NoLimit) (R : Room 1 A)
    (h : ∀ h' k tk, s.heap.StaysIn h' → Q (.int ((if bLt c b then 1 else 0) - (if bLt b c then 1 else 0)) k) { s with heap := h', toks := tk }) :
    wpAny (model prog w) A (call (.ref f) [.bytes b t, .bytes c u]) Q E s := by
  refine call_def (binds := [("x", .bytes b t), ("y", .bytes c u)]) hf hlim (by have := R.depth; omega) (fun _ _ _ _ _ => rfl) (fun h₁ cdv hn hk => ?_)
  refine wpAny_execs_cons ?_
  refine wpAny_Return_some ?_
  refine wpAny_BinOp ?_
  refine wpAny_Compare1 ?_
  refine ev_loc hn rfl ?_
  refine ev_loc hn rfl ?_
  refine gt_bytes ?_
  refine wpAny_Compare1 ?_
  refine ev_loc hn rfl ?_
  refine ev_loc hn rfl ?_
  refine lt_bytes ?_
  refine sub_bool ?_
  exact h _ _ _ hk
end
end Mine
/-! part B3 -/
namespace Mine
open PySem PySem.W PySem.Calls PyProof.Rows
open Sem (wp)

/-! ## a comprehension of one clause, its element under `wpOk`, no object in the list -/
section
variable {prog : Program} {w : World} {A : Around} {E : Value → Shared → Prop} {s : Shared} {env : Env}

theorem lt_of_some {h : Heap} {b : Addr} {o : Obj} (e : h.get? b = some o) : b < h.objs.size := Heap.lt_size e

theorem ok_compLoop {elt iter : Expr} {x : Str} {px : Pos} {scope : Scope} {pos : Pos} {I D : Addr} {fp wr : List Addr} {n : Nat} {P : Nat → Value → Prop} {St : Nat → Heap → Prop}
    {cenv : Env} {m : Str → Option Value} {R : Result → Shared → Prop} (W : Walks prog w A I fp wr n P St) (F : Nat → Value → Prop)
    (hx : cenv.kindOf x = some .local) (hk : cenv.scope.kind = .function)
    (hDC : D ≠ cenv.locals) (hDf : D ∉ fp) (hCf : cenv.locals ∉ fp)
    (hst : St 0 s.heap) (hacc : s.heap.PlainList D #[]) (hn : s.heap.Ns cenv.locals m)
    (helt : ∀ i v s₂ m₂, P i v → s₂.heap.Ns cenv.locals m₂ → m₂ x = some v → (∀ b o, b ≠ cenv.locals → b ∉ wr → b ≠ D → s.heap.get? b = some o → s₂.heap.get? b = some o) →
      wpOk (model prog w) A (eval elt cenv) (fun y s₃ => F i y ∧ Keeps s₂ s₃) (fun _ _ => False) s₂)
    (hR : ∀ h' tk m' (ys : List Value), h'.Ns cenv.locals m' → h'.IsList D ys.toArray → ys.length = n → (∀ j y, ys[j]? = some y → F j y) →
      (∀ b o, b ≠ cenv.locals → b ∉ wr → b ≠ D → s.heap.get? b = some o → h'.get? b = some o) → R (.ok .next) { s with heap := h', toks := tk })
    (hsz : n ≤ sizeLine) :
    codeOk (model prog w) A (.compLoop (.ListComp elt [⟨.Name x px, iter, [], 0⟩] scope pos) 0 (.ref I) (.ref D) cenv) R s := by
  have hp : (cenv.scope.kind == .class || (cenv.scope.kind == .module && cenv.locals != cenv.globals)) = false := by rw [hk]; rfl
  have hCw : cenv.locals ∉ wr := fun h => hCf (W.sub _ h)
  have hDw : D ∉ wr := fun h => hDf (W.sub _ h)
  refine codeOk_loop rfl rfl
    (fun k s' => ∃ h' tk m', ∃ ys : List Value, s' = { s with heap := h', toks := tk } ∧ St ys.length h' ∧ h'.PlainList D ys.toArray ∧ h'.Ns cenv.locals m' ∧ (∀ j y, ys[j]? = some y → F j y) ∧
      ys.length ≤ n ∧ k = n + 1 - ys.length ∧ (∀ b o, b ≠ cenv.locals → b ∉ wr → b ≠ D → s.heap.get? b = some o → h'.get? b = some o)) ?_ (n + 1)
    ⟨s.heap, s.toks, m, [], rfl, hst, hacc, hn, by simp, Nat.zero_le _, rfl, fun _ _ _ _ _ e => e⟩
  rintro k s' ⟨H, tk, m', ys, rfl, hst', hacc', hn', hF, hi, rfl, hk'⟩
  show wpOk _ A ((compTurn (.ListComp elt [⟨.Name x px, iter, [], 0⟩] scope pos) 0 (.ref I) (.ref D) cenv).onRaise (fun x => do noteFrame x cenv; theTreesLotGoes x)) _ _ _
  refine wpOk_onRaise ?_
  rw [compTurn_list1]
  refine wpOk_bind (wpOk_standAt (wpOk_bind ?_))
  by_cases hlt : ys.length < n
  · refine wpOk_of (W.item ys.length _ _ _ hlt hst' fun v h₁ tk₁ hPv hst₁ hk₁ => ?_)
    dsimp only
    refine wpOk_bind (wpOk_of (wpAny_pure (wpOk_bind (wpOk_of (wpAny_assign_Name (wpAny_storeName_local hx (hn'.at' fun o e => hk₁ _ o hCw e) (fun h₂ hn₂ hs₂ => ?_) hp))))))
    have up₂ : ∀ b o, b ≠ cenv.locals → b ∉ wr → H.get? b = some o → h₂.get? b = some o := fun b o hbC hbf e => hs₂.extBut b o hbC (hk₁ b o hbf e)
    have hst₂ : St (ys.length + 1) h₂ := W.frame _ _ _ hst₁ fun b hb o e => hs₂.extBut b o (fun h => hCf (h ▸ hb)) e
    refine wpOk_bind (wpOk_bind (wpOk_mono (helt ys.length v _ _ hPv hn₂ (by simp) fun b o hbC hbf hbD e => up₂ b o hbC hbf (hk' b o hbC hbf hbD e)) (fun y s₄ h₄ => ?_) fun _ _ x => x.elim))
    obtain ⟨hFy, h₄, tk₄, rfl, hk₄⟩ := h₄
    have hacc₄ : h₄.PlainList D ys.toArray := hacc'.at fun o e => hk₄ _ o (up₂ D o hDC hDw e)
    refine wpOk_bind (wpOk_of (wpAny_list_append_plain (hsz := by simp; omega) hacc₄ fun h₅ hl₅ hs₅ => wpOk_pure (wpOk_of (wpAny_pure ⟨rfl, ?_⟩))))
    refine ⟨n + 1 - (ys.length + 1), by omega, h₅, tk₄, _, ys ++ [y], rfl, ?_, by simpa using hl₅, (hn₂.keeps hk₄).sameBut hs₅ (Ne.symm hDC), ?_, by simp; omega, by simp, fun b o hbC hbf hbD e => hs₅.extBut b o hbD (hk₄ b o (up₂ b o hbC hbf (hk' b o hbC hbf hbD e)))⟩
    · have := W.frame _ _ h₅ hst₂ fun b hb o e => hs₅.extBut b o (fun h => hDf (h ▸ hb)) (hk₄ b o e)
      simpa using this
    · intro j z hj
      rcases Nat.lt_trichotomy j ys.length with h | h | h
      · exact hF j z (by rwa [List.getElem?_append_left h] at hj)
      · subst h; simp at hj; subst hj; exact hFy
      · rw [List.getElem?_eq_none (by simp; omega)] at hj; cases hj
  · have hin : ys.length = n := by omega
    refine wpOk_of (W.done _ _ _ (hin ▸ hst') fun h₁ tk₁ hk₁ => ?_)
    dsimp only
    refine wpOk_pure ?_
    exact hR h₁ tk₁ m' ys (hn'.at' fun o e => hk₁ _ o hCw e) (hacc'.at fun o e => hk₁ _ o hDw e).isList hin hF fun b o hbC hbf hbD e => hk₁ b o hbf (hk' b o hbC hbf hbD e)

theorem ok_ListComp {elt iter : Expr} {x : Str} {px : Pos} {scope : Scope} {cl : List (Str × Addr)} {pos : Pos} {Q : Value → Shared → Prop} (F : Nat → Value → Prop)
    (hclos : closureFor scope env = pure cl) (hcell : ∀ y ∈ scope.names, y.2 ≠ .cell) (hkind : scope.kind = .function)
    (hnames : ∀ y ∈ scope.names, y.2 = .local → scope.names.lookup y.1 = some .local) (hx : scope.names.lookup x = some .local)
    (h : wpAny (model prog w) A (eval iter env) (fun xv s₁ => wpAny (model prog w) A (pyIter xv) (fun it s₂ => ∃ I fp wr n P St, it = .ref I ∧ Walks prog w A I fp wr n P St ∧ n ≤ sizeLine ∧ St 0 s₂.heap ∧ (∀ b ∈ fp, b < s₂.heap.objs.size) ∧
      (∀ C i v s₃ m₃, s₂.heap.objs.size ≤ C → P i v → s₃.heap.Ns C m₃ → m₃ x = some v → (∀ b o, b ∉ wr → s₂.heap.get? b = some o → s₃.heap.get? b = some o) →
        wpOk (model prog w) A (eval elt (compEnvC scope cl C env)) (fun y s₄ => F i y ∧ Keeps s₃ s₄) (fun _ _ => False) s₃) ∧
      (∀ D h' tk (ys : List Value), s₂.heap.get? D = none → h'.IsList D ys.toArray → ys.length = n → (∀ j y, ys[j]? = some y → F j y) →
        (∀ b o, b ∉ wr → s₂.heap.get? b = some o → h'.get? b = some o) → Q (.ref D) { s₂ with heap := h', toks := tk })) E s₁) E s)
    (hs : ∀ x, foldedSetIterable iter env x = pure x := by intro _; rfl) :
    wpOk (model prog w) A (eval (.ListComp elt [⟨.Name x px, iter, [], 0⟩] scope pos) env) Q E s := by
  rw [eval_ListComp]
  unfold comprehension
  rw [hclos]
  show wpOk _ A (eval iter env >>= _) _ _ _
  refine wpOk_bind (wpOk_mono (wpOk_of h) (fun xv s₁ h₁ => wpOk_bind (wpOk_standAt ?_)) fun _ _ e => e)
  refine wpOk_bind (wpOk_of (wpAny_of_eq (hs xv) ?_))
  refine wpOk_bind (wpOk_holding (wpOk_mono (wpOk_of h₁) (fun it s₂ h₂ => ?_) fun _ _ e => e))
  obtain ⟨I, fp, wr, n, P, St, rfl, W, hsz, hst, hfp, hq, hQ⟩ := h₂
  refine wpOk_bind (wpOk_of (wpAny_newObj_type (wpOk_bind (wpOk_pure ?_)) (by simp [sizeOk])))
  refine wpOk_bind (wpOk_of (wpAny_newFunctionEnv hcell (by intro y hy; simp at hy) (fun h₁ hns₁ hsb₁ => ?_) hkind))
  dsimp only at hns₁ hsb₁ ⊢
  generalize hH2 : s₂.heap.push { cls := .type "list", dict := none, data := .seq ([] : List Value).toArray } = H2 at hns₁ hsb₁ ⊢
  have hC : H2.objs.size = s₂.heap.objs.size + 1 := by rw [← hH2, Heap.size_push]
  have hDC : s₂.heap.objs.size ≠ H2.objs.size := by rw [hC]; exact Nat.ne_of_lt (Nat.lt_succ_self _)
  have below : ∀ b, b < s₂.heap.objs.size → b ≠ H2.objs.size ∧ b ≠ s₂.heap.objs.size := fun b hb => ⟨by rw [hC]; exact Nat.ne_of_lt (Nat.lt_succ_of_lt hb), Nat.ne_of_lt hb⟩
  have hDf : s₂.heap.objs.size ∉ fp := fun hm => Nat.lt_irrefl _ (hfp _ hm)
  have hCf : H2.objs.size ∉ fp := fun hm => by have := hfp _ hm; rw [hC] at this; exact Nat.lt_irrefl _ (Nat.lt_of_succ_lt this)
  have old : ∀ b o, s₂.heap.get? b = some o → h₁.get? b = some o := fun b o e => hsb₁.extBut b o (below b (Heap.lt_size e)).1 (Heap.get?_push_of_some _ (hH2 ▸ Heap.get?_push_of_some _ e))
  have hacc : h₁.PlainList s₂.heap.objs.size #[] := ⟨_, hsb₁.extBut _ _ hDC (Heap.get?_push_of_some _ (hH2 ▸ Heap.get?_push_size _ rfl))⟩
  have hst₁ : St 0 h₁ := W.frame _ _ _ hst fun b _ o e => old b o e
  have fresh : s₂.heap.get? s₂.heap.objs.size = none := Heap.get?_none_of_le (Nat.le_refl _)
  have freshC : s₂.heap.get? H2.objs.size = none := Heap.get?_none_of_le (by rw [hC]; exact Nat.le_succ _)
  have hv : ∀ y ∈ (scope.names.filter fun y => (y.2 == .local || y.2 == .cell) && y.1 != (".0" : Str)).reverse, y.2 = .local →
      Env.kindOf (compEnvC scope cl H2.objs.size env) y.1 = some .local := fun y hy hl => lookup_relabel_local (hnames y (List.mem_filter.mp (List.mem_reverse.mp hy)).1 hl)
  refine wpOk_holding (wpOk_bind (wpOk_attempt (wpOk_holding (wpOk_run ?_))))
  have loop : codeOk (model prog w) A (.compLoop (.ListComp elt [⟨.Name x px, iter, [], 0⟩] scope pos) 0 (.ref I) (.ref s₂.heap.objs.size) (compEnvC scope cl H2.objs.size env))
      (fun r s' => r = .ok .next ∧ ∃ h' tk m' ys, s' = { s₂ with heap := h', toks := tk } ∧ h'.Ns H2.objs.size m' ∧ h'.IsList s₂.heap.objs.size (List.toArray ys) ∧ ys.length = n ∧ (∀ j y, ys[j]? = some y → F j y) ∧
        (∀ b o, b ∉ wr → s₂.heap.get? b = some o → h'.get? b = some o)) { s₂ with heap := h₁, toks := s₂.toks + ([] : List (Str × Value)).length } := by
    refine ok_compLoop (cenv := compEnvC scope cl H2.objs.size env) W F (lookup_relabel_local hx) (by simp [compEnvC, relabel, hkind]) hDC hDf hCf hst₁ hacc hns₁
      (fun i v s₃ m₃ hv hn hm hk => hq _ i v s₃ m₃ (by rw [hC]; exact Nat.le_succ _) hv hn hm fun b o hbf e => hk b o (below b (Heap.lt_size e)).1 hbf (below b (Heap.lt_size e)).2 (old b o e))
      (fun h' tk m' ys hn' hl' hlen hF' hk => ⟨rfl, h', tk, m', ys, rfl, hn', hl', hlen, hF', fun b o hbf e => hk b o (below b (Heap.lt_size e)).1 hbf (below b (Heap.lt_size e)).2 (old b o e)⟩) hsz
  refine codeOk_mono (R := fun r s' => r = .ok .next ∧ ∃ h' tk m' ys, s' = { s₂ with heap := h', toks := tk } ∧ h'.Ns H2.objs.size m' ∧ h'.IsList s₂.heap.objs.size (List.toArray ys) ∧ ys.length = n ∧ (∀ j y, ys[j]? = some y → F j y) ∧
        (∀ b o, b ∉ wr → s₂.heap.get? b = some o → h'.get? b = some o)) ?_ ?_
  · refine codeOk_of_tree rfl ?_
    show wpOk _ A ((compStart (.ListComp elt [⟨.Name x px, iter, [], 0⟩] scope pos) 0 (.ref I) (.ref s₂.heap.objs.size) (compEnvC scope cl H2.objs.size env)).onRaise (fun x => do noteFrame x (compEnvC scope cl H2.objs.size env); standAt theWindowsPlace)) _ _ _
    refine wpOk_onRaise ?_
    unfold compStart
    show wpOk _ A (ask >>= _) _ _ _
    refine wpOk_bind (wpOk_of (wpAny_askSetting ?_))
    dsimp only
    split
    · exact wpOk_of (wpAny_pure ⟨rfl, loop⟩)
    · refine wpOk_bind (wpOk_rule ?_)
      show wpOk _ A (standAt iter.pos >>= _) _ _ _
      exact wpOk_bind (wpOk_standAt (wpOk_bind (wpOk_of (W.self 0 _ _ _ hst₁ (wpOk_of (wpAny_pure ⟨rfl, loop⟩))))))
  · rintro r s' ⟨rfl, h', tk, m', ys, rfl, hn', hl', hlen, hF', hk'⟩
    dsimp only
    refine wpOk_bind (wpOk_holding (wpOk_of (wpAny_comp_letGo (cenv := compEnvC scope cl H2.objs.size env) (by simp [compEnvC, relabel, hkind]) _ _ m' hv hn' fun h'' m'' _ hs'' => wpOk_pure ?_)))
    have hs3 : Heap.SameBut H2.objs.size h' h'' := hs''
    exact hQ _ h'' tk ys fresh (hl'.extBut hs3.extBut hDC) hlen hF' fun b o hbf e => hs3.extBut b o (by rintro rfl; rw [freshC] at e; cases e) (hk' b o hbf e)
end
end Mine
/-! part B4 -/
namespace Mine
open PySem PySem.W PySem.Calls PyProof.Rows
open Sem (wp)

/-! ## bytearray -/
theorem mro_ba : mroOf (.type "bytearray") = pure [.type "bytearray", .type "object"] := by rw [mroOf_type]; kernel_rfl
theorem lookup_ba_new : typeLookup (.type "bytearray") "__new__" = pure (some (.builtin "bytearray.__new__")) := by rw [typeLookup_type, builtinLookup_eq_fast]; kernel_rfl
theorem slot_ba_init : Slot "bytearray" "__init__" "bytearray.__init__" :=
  .of (owner := "bytearray") (n := "__init__") (by rw [typeLookup_type, builtinLookup_eq_fast]; kernel_rfl) (by decide +kernel) (by decide +kernel) (by decide +kernel)
    (by first | exact .inl (by decide +kernel) | exact .inr (by decide +kernel)) (by rw [isSubtype_type]; kernel_rfl)
theorem called_ba : TypeCalled "bytearray" "bytearray.__new__" "bytearray.__init__" :=
  ⟨by decide +kernel, by decide +kernel, ⟨_, _, mro_ba⟩, madeBy_type mro_ba lookup_ba_new (by decide +kernel), by decide +kernel, by rw [isSubtype_type]; kernel_rfl, slot_ba_init⟩
theorem typeCall_ba (a : Value) : checkTypeCall "bytearray" ⟨[a], []⟩ = pure () := by kernel_rfl
theorem newCall_ba (a : Value) : checkBuiltinCall "bytearray.__new__" ⟨[.type "bytearray", a], []⟩ = pure () := by kernel_rfl
theorem plain_ba_new : plainId "bytearray.__new__" = true := by decide +kernel
theorem entry_ba_new : entryFor table "bytearray.__new__" = some Builtin.«list.__new__» := entryFor_alias (id' := "list.__new__") (by kernel_rfl) rfl (by decide +kernel) (by kernel_rfl)
theorem entry_ba_init : entryFor table "bytearray.__init__" = some Builtin.«bytearray.__init__» := entryFor_of_tree (by kernel_rfl)
theorem args_ba_init (a b : Value) : argsOk "bytearray.__init__" ⟨[a, b], []⟩ := by unfold argsOk; kernel_rfl
set_option maxRecDepth 1000000 in
set_option maxHeartbeats 4000000 in
theorem owner_ba_new : ("bytearray.__new__".splitOn ".__new__").headD "" = "bytearray" := by simp +decide [String.splitOn, String.splitOnAux]
theorem sub_ba : isSubtype (.type "bytearray") (.type "bytearray") = pure true := by rw [isSubtype_type]; kernel_rfl
theorem bind_ba (v : Value) : Builtin.Bytes.bindOptional "bytearray.__init__" "bytearray" ["source", "encoding", "errors"] [v] [] = pure [some v, none, none] := by kernel_rfl
theorem look_ba_release : typeLookup (.type "bytearray") "__release_buffer__" = pure (some (.builtin "bytearray.__release_buffer__")) := by rw [typeLookup_type, builtinLookup_eq_fast]; kernel_rfl
theorem look_ba_buffer : typeLookup (.type "bytearray") "__buffer__" = pure (some (.builtin "bytearray.__buffer__")) := by rw [typeLookup_type, builtinLookup_eq_fast]; kernel_rfl
theorem look_ba_bytes : typeLookup (.type "bytearray") "__bytes__" = pure none := by rw [typeLookup_type, builtinLookup_eq_fast]; kernel_rfl
theorem look_ba_index : typeLookup (.type "bytearray") "__index__" = pure none := by rw [typeLookup_type, builtinLookup_eq_fast]; kernel_rfl

abbrev baObj (b : Array UInt8) : Obj := { cls := .type "bytearray", data := .bytearray b }
def IsBa (h : Heap) (a : Addr) (b : Array UInt8) : Prop := h.get? a = some (baObj b)
theorem IsBa.typeIs {s : Shared} {a : Addr} {b : Array UInt8} (x : IsBa s.heap a b) : s.TypeIs (.ref a) "bytearray" := ⟨_, x, rfl⟩

section
variable {prog : Program} {w : World} {A : Around} {E : Value → Shared → Prop} {s : Shared}

theorem code_ba_new (a : Value) {Q₁ : Value → Shared → Prop}
    (h : Q₁ (.ref s.heap.objs.size) { s with heap := s.heap.push (baObj #[]) }) :
    codeAny (model prog w) A (.call (.builtin "bytearray.__new__") ⟨[.type "bytearray", a], []⟩) (wants Q₁ E) s := by
  refine codeAny_of_tree ?_
  show wpAny _ A.in1 (do checkBuiltinCall "bytearray.__new__" ⟨[.type "bytearray", a], []⟩; again (.builtin "bytearray.__new__" ⟨[.type "bytearray", a], []⟩)) _ _ s
  refine wpAny_bind (wpAny_of_eq (newCall_ba a) (wpAny_pure ⟨plainId_quiet plain_ba_new _, codeAny_builtin_stack entry_ba_new rfl fun p st => ?_⟩))
  rw [Around.under_plainId plain_ba_new _]
  have hsub := sub_ba
  have hown := owner_ba_new
  obtain ⟨hp, g, d, tk, os⟩ := s
  simp only [hown]
  wp_walk
  exact h

theorem slotIsOwn_ba {a : Addr} {b : Array UInt8} {nm id : String} {Q : Bool → Shared → Prop} (x : IsBa s.heap a b) (hl : typeLookup (.type "bytearray") (Str.ofString nm) = pure (some (.builtin id)))
    (he : id.endsWith ("." ++ nm) = true) (hd : id.dropRight (nm.length + 1) = "bytearray") (h : Q true s) : wpAny (model prog w) A (Builtin.Bytes.slotIsOwn (.ref a) nm) Q E s := by
  unfold Builtin.Bytes.slotIsOwn
  refine wpAny_bind (wpAny_specialOf x.typeIs hl ?_)
  dsimp only
  rw [he, hd]
  exact wpAny_isInstance x.typeIs sub_ba h
theorem ownRelease_ba {a : Addr} {b : Array UInt8} {Q : Bool → Shared → Prop} (x : IsBa s.heap a b) (h : Q false s) : wpAny (model prog w) A (Builtin.Bytes.ownRelease (.ref a)) Q E s := by
  unfold Builtin.Bytes.ownRelease
  exact wpAny_bind (slotIsOwn_ba x look_ba_release (by decide +kernel) (by decide +kernel) (wpAny_pure h))

theorem write_ba {a : Addr} {b : Array UInt8} {f : Array UInt8 → Array UInt8} {Q : Unit → Shared → Prop} (x : IsBa s.heap a b) (hz : (f b).size ≤ sizeLine)
    (h : ∀ h', IsBa h' a (f b) → Heap.SameBut a s.heap h' → Q () { s with heap := h' }) : wpAny (model prog w) A (Builtin.Bytes.write (.ref a) f) Q E s := by
  show wpAny _ _ (updateBytearray a f) _ _ _
  unfold updateBytearray
  refine wpAny_bind (wpAny_load x ?_)
  show wpAny _ _ (update a (Obj.mapBytearray f) >>= fun _ => lookBehind a) _ _ _
  refine wpAny_bind (wpAny_update x ?_)
  have e : (s.heap.update a (Obj.mapBytearray f)).get? a = some (baObj (f b)) := Heap.get?_update_self (Obj.mapBytearray f) x rfl
  refine wpAny_lookBehind e ?_ (h _ e (Heap.SameBut.update ..))
  show (if (f b).size > sizeLine then some "bytearray:memory" else none) = none
  rw [if_neg (Nat.not_lt.mpr hz)]

theorem payload_ba {a : Addr} {b : Array UInt8} {Q : Array UInt8 → Shared → Prop} (x : IsBa s.heap a b) (h : Q b s) : wpAny (model prog w) A (Builtin.Bytes.payload (.ref a)) Q E s := by
  unfold Builtin.Bytes.payload Builtin.Bytes.payload?
  exact wpAny_bind (wpAny_bind (wpAny_load x (wpAny_pure (wpAny_pure h))))
end
end Mine
/-! part B5 -/
namespace Mine
open PySem PySem.W PySem.Calls PyProof.Rows
open Sem (wp)

theorem ok_if_false {α : Type} {M : Model} {A : Around} {E : Value → Shared → Prop} {s : Shared} {c : Bool} {a b : Sem α} {Q : α → Shared → Prop} (hc : c = false) (h : wpOk M A b Q E s) : wpOk M A (if c = true then a else b) Q E s := by
  subst hc; exact h
theorem ok_if_true {α : Type} {M : Model} {A : Around} {E : Value → Shared → Prop} {s : Shared} {c : Bool} {a b : Sem α} {Q : α → Shared → Prop} (hc : c = true) (h : wpOk M A a Q E s) : wpOk M A (if c = true then a else b) Q E s := by
  subst hc; exact h
theorem ok_ite_neg {α : Type} {M : Model} {A : Around} {E : Value → Shared → Prop} {s : Shared} {c : Prop} [Decidable c] {a b : Sem α} {Q : α → Shared → Prop} (hc : ¬ c) (h : wpOk M A b Q E s) : wpOk M A (if c then a else b) Q E s := by
  rw [if_neg hc]; exact h
theorem ok_ite_pos {α : Type} {M : Model} {A : Around} {E : Value → Shared → Prop} {s : Shared} {c : Prop} [Decidable c] {a b : Sem α} {Q : α → Shared → Prop} (hc : c) (h : wpOk M A a Q E s) : wpOk M A (if c then a else b) Q E s := by
  rw [if_pos hc]; exact h

section
variable {prog : Program} {w : World} {A : Around} {E : Value → Shared → Prop} {s : Shared}

theorem ba_init {a : Addr} {n : Nat} {t : Tok} {Q : Fin → Shared → Prop} (x : IsBa s.heap a #[]) (hn : n ≤ 100000)
    (h : ∀ h', IsBa h' a (Array.replicate n 0) → Heap.SameBut a s.heap h' → Q (.done (.ret .none)) { s with heap := h' }) :
    wpOk (model prog w) A (Builtin.«bytearray.__init__» ⟨[.ref a, .int n t], []⟩) Q E s := by
  unfold Builtin.«bytearray.__init__»
  refine wpOk_bind (wpOk_of (ownRelease_ba x ?_))
  refine ok_if_false (by rfl) ?_
  refine wpOk_bind (wpOk_of (wpAny_of_eq (bind_ba _) ?_))
  refine wpOk_bind (wpOk_of (wpAny_of_eq (a := ()) rfl ?_))
  refine wpOk_bind (wpOk_of (wpAny_of_eq (a := ()) rfl ?_))
  refine wpOk_bind ?_
  refine wpOk_bind (m := Builtin.Bytes.exported (.ref a)) (wpOk_exported ?_)
  refine wpOk_bind (m := Builtin.Bytes.exportsOf (.ref a)) (wpOk_of ?_)
  unfold Builtin.Bytes.exportsOf
  refine wpAny_bind (wpAny_load x (wpAny_pure ?_))
  refine wpOk_pure ?_
  refine ok_if_false (by rfl) ?_
  refine wpOk_bind (wpOk_of (write_ba x (by simp) fun h₁ x₁ hs₁ => ?_))
  have e1 : asStr? (.int n t) = pure none := rfl
  refine wpOk_bind (m := asStr? (.int n t)) ?_
  refine wpOk_of ?_
  rw [e1]
  refine wpAny_pure ?_
  simp only [Option.isSome_none, Bool.false_eq_true, if_false, pure_bind]
  refine wpOk_bind ?_
  refine wpOk_of ?_
  have T1 : ({ s with heap := h₁ } : Shared).TypeIs (.int n t) "int" := typeIs_int _ _ _
  have e2 : wpAny (model prog w) A (specialOf (.int n t) "__index__") (fun r s' => r = some (.builtin "int.__index__") ∧ s' = { s with heap := h₁ }) E { s with heap := h₁ } := wpAny_specialOf T1 F.slot_int_index.lookup ⟨rfl, rfl⟩
  with_reducible refine wpAny_mono e2 ?_ (fun _ _ x => x)
  rintro _ _ ⟨rfl, rfl⟩
  simp only [Option.isSome_some, if_true]
  have e3 : asIndex (.int n t) = pure (n : Int) := rfl
  rw [e3, Sem.pure_eq, Sem.attempt_pure, ← Sem.pure_eq, pure_bind]
  have f1 : Builtin.Bytes.fitsIndex (n : Int) = true := by simp only [Builtin.Bytes.fitsIndex, Bool.and_eq_true, decide_eq_true_eq]; omega
  have f2 : ¬ ((n : Int) < 0) := by omega
  have f3 : ((n : Int) == 2 ^ 63 - 1) = false := by simp only [beq_eq_false_iff_ne, ne_eq]; omega
  have f4 : Builtin.Bytes.tooLong (n : Int).toNat = false := by rw [Int.toNat_natCast]; exact KBy.tooLong_not (by omega)
  simp only [f1, f2, f3, f4, Bool.not_true, Bool.false_eq_true, if_false]
  with_reducible refine wpOk_bind ?_
  with_reducible refine wpOk_rule ?_
  by_cases h0 : (n : Int) > 0
  · simp only [if_pos h0]
    with_reducible refine wpOk_bind ?_
    with_reducible refine wpOk_of ?_
    refine write_ba x₁ (by rw [Int.toNat_natCast, Array.size_replicate, sizeLine_eq]; omega) fun h₂ x₂ hs₂ => ?_
    rw [Int.toNat_natCast] at x₂
    exact wpOk_pure (h h₂ x₂ (hs₁.trans hs₂))
  · simp only [if_neg h0]
    have : n = 0 := by omega
    subst this
    exact wpOk_pure (h h₁ (by simpa using x₁) hs₁)

theorem den_builtin {id : String} {b : Builtin} {args : Args} (hb : entryFor table id = some b) : (model prog w).den (.builtin id args) = b args := by
  show (match entryFor table id with | some b => b args | none => unsupported ((withoutEnding? id "#data").getD id)) = _
  rw [hb]

theorem call_bytearray {n : Nat} {t : Tok} {Q : Value → Shared → Prop} (hn : n ≤ 100000)
    (h : ∀ a h', s.heap.get? a = none → s.heap.StaysIn h' → IsBa h' a (Array.replicate n 0) → Q (.ref a) { s with heap := h' }) :
    wpOk (model prog w) A (call (.type "bytearray") [.int n t]) Q E s := by
  refine wpOk_call (codeOk_of_tree rfl ?_)
  show wpOk _ _ (callAny (.type "bytearray") _) _ _ _
  refine wpOk_of (wpAny_pure ⟨Code.quiet_builtin _ (by decide +kernel), codeOk_of_tree rfl ?_⟩)
  rw [den_builtin F.entry_type_call]
  have h1 := called_ba.notType
  have h2 := called_ba.canCreate
  obtain ⟨c, tl, hmro⟩ := called_ba.mro
  unfold Builtin.«type.__call__»
  refine ok_if_false h1 ?_
  refine ok_if_false h2 ?_
  refine wpOk_bind (wpOk_of (wpAny_of_eq (typeCall_ba _) ?_))
  refine wpOk_bind (wpOk_of (wpAny_of_eq hmro ?_))
  refine ok_if_false (by rfl) ?_
  refine wpOk_bind (wpOk_of (wpAny_of_eq called_ba.made ?_))
  refine wpOk_bind (wpOk_pure ?_)
  refine wpOk_bind (wpOk_holding (wpOk_of (wpAny_call (codeAny_mono (code_ba_new (E := fun _ _ => False) (Q₁ := fun v s₁ => v = .ref s.heap.objs.size ∧ s₁ = { s with heap := s.heap.push (baObj #[]) }) _ ⟨rfl, rfl⟩) fun r s₁ hr => ?_))))
  cases r with
  | error e => exact hr.elim
  | ok fl =>
    cases fl with
    | ret obj =>
      obtain ⟨rfl, rfl⟩ := hr
      have x0 : IsBa (s.heap.push (baObj #[])) s.heap.objs.size #[] := Heap.get?_push_size _ rfl
      have T0 : ({ s with heap := s.heap.push (baObj #[]) } : Shared).TypeIs (.ref s.heap.objs.size) "bytearray" := ⟨_, x0, rfl⟩
      refine wpOk_bind (wpOk_of (wpAny_isInstance T0 sub_ba ?_))
      refine ok_if_false (by rfl) ?_
      refine wpOk_bind (wpOk_holding ?_)
      simp only [callSpecial?]
      refine wpOk_bind (wpOk_of (wpAny_specialOf T0 slot_ba_init.lookup ?_))
      dsimp only
      rw [slot_ba_init.bind]
      refine wpOk_holding (wpOk_bind (wpOk_pure (wpOk_bind (wpOk_call (codeOk_of_tree rfl ?_)))))
      show wpOk _ _ (do checkBuiltinCall "bytearray.__init__" _; again (.builtin "bytearray.__init__" _)) _ _ _
      refine wpOk_bind (wpOk_of (slot_ba_init.check _ _ _ _ _ _ _ _ T0 (args_ba_init _ _) ?_))
      refine wpOk_of (wpAny_pure ⟨plainId_quiet slot_ba_init.plain _, codeOk_of_tree rfl ?_⟩)
      rw [den_builtin entry_ba_init]
      refine ba_init (s := { s with heap := s.heap.push (baObj #[]) }) x0 hn fun h' x' hs' => ?_
      dsimp only
      refine wpOk_pure ?_
      dsimp only
      refine ok_if_false (by rfl) ?_
      refine wpOk_of (wpAny_pure ?_)
      dsimp only
      exact h _ h' (Heap.get?_none_of_le (Nat.le_refl _)) (fun b o e => hs'.extBut b o (Nat.ne_of_lt (Heap.lt_size e)) (Heap.get?_push_of_some _ e)) x'
    | _ => exact hr.elim
end
end Mine
/-! part B6 -/
namespace Mine
open PySem PySem.W PySem.Calls PyProof.Rows
open Sem (wp)

theorem slot_ba_setitem : Slot "bytearray" "__setitem__" "bytearray.__setitem__" :=
  .of (owner := "bytearray") (n := "__setitem__") (by rw [typeLookup_type, builtinLookup_eq_fast]; kernel_rfl) (by decide +kernel) (by decide +kernel) (by decide +kernel)
    (by first | exact .inl (by decide +kernel) | exact .inr (by decide +kernel)) (by rw [isSubtype_type]; kernel_rfl)
theorem entry_ba_setitem : entryFor table "bytearray.__setitem__" = some Builtin.«bytearray.__setitem__» := entryFor_of_tree (by kernel_rfl)
theorem args_ba_setitem (a b c : Value) : argsOk "bytearray.__setitem__" ⟨[a, b, c], []⟩ := by unfold argsOk; kernel_rfl

section
variable {prog : Program} {w : World} {A : Around} {E : Value → Shared → Prop} {s : Shared}

theorem setItem_ba {a : Addr} {b : Array UInt8} {k c : Int} {x : UInt8} {t u : Tok} {Q : Unit → Shared → Prop} (y : IsBa s.heap a b) (h0 : 0 ≤ k) (hk : k < b.size) (hz : b.size ≤ 100000) (hc : c = x.toNat)
    (h : ∀ h', IsBa h' a (b.setIfInBounds k.toNat x) → Heap.SameBut a s.heap h' → Q () { s with heap := h' }) :
    wpAny (model prog w) A (setItem (.ref a) (.int k t) (.int c u)) Q E s := by
  unfold setItem
  refine wpAny_holding ?_
  refine wpAny_bind (wpAny_sequenceKey y.typeIs (by decide) ?_)
  refine wpAny_bind (wpAny_callSpecial?_slot (name := Str.ofString "__setitem__") y.typeIs slot_ba_setitem
    (wpAny_call_entry slot_ba_setitem y.typeIs entry_ba_setitem ?_ (args_ba_setitem _ _ _)))
  show wpAny _ _ (Builtin.Bytes.subscript? (.int k t) >>= _) _ _ s
  refine wpAny_bind ?_
  unfold Builtin.Bytes.subscript?
  refine wpAny_bind (wpAny_specialOf (typeIs_int s k t) F.slot_int_index.lookup ?_)
  have f1 : Builtin.Bytes.fitsIndex k = true := by simp only [Builtin.Bytes.fitsIndex, Bool.and_eq_true, decide_eq_true_eq]; omega
  show wpAny _ _ (if (!Builtin.Bytes.fitsIndex k) = true then _ else pure (some k)) _ _ s
  rw [f1]
  refine wpAny_pure ?_
  show wpAny _ _ (Builtin.Bytes.byteValue (.int c u) >>= _) _ _ s
  refine wpAny_bind ?_
  unfold Builtin.Bytes.byteValue
  refine wpAny_bind (wpAny_of_eq (rfl : asIndex (.int c u) = pure c) ?_)
  have hx := x.toNat_lt
  refine bm_if_false (by simp only [Bool.or_eq_false_iff, decide_eq_false_iff_not]; omega) ?_
  refine wpAny_pure ?_
  refine wpAny_bind (payload_ba y ?_)
  have f2 : seqIndex? k b.size = some k.toNat := by
    have hn : ¬ k < 0 := by omega
    simp [seqIndex?, hn, h0, hk]
  rw [f2]
  have e : c.toNat.toUInt8 = x := by subst hc; simp
  rw [e]
  refine wpAny_bind (write_ba y (by rw [Array.size_setIfInBounds, sizeLine_eq]; omega) fun h' y' hs => ?_)
  exact wpAny_pure ⟨.none, rfl, wpAny_pure (h h' y' hs)⟩

theorem buffer_ba {id : String} {a : Addr} {b : Array UInt8} {Q : Option (Array UInt8) → Shared → Prop} (y : IsBa s.heap a b) (h : Q (some b) s) : wpAny (model prog w) A (Builtin.Bytes.buffer? id (.ref a) true) Q E s := by
  unfold Builtin.Bytes.buffer?
  refine wpAny_bind (wpAny_specialOf y.typeIs look_ba_buffer ?_)
  refine wpAny_bind (slotIsOwn_ba y look_ba_buffer (by decide +kernel) (by decide +kernel) ?_)
  refine bm_if_false rfl ?_
  refine wpAny_bind (wpAny_specialOf y.typeIs look_ba_buffer ?_)
  refine wpAny_bind (ownRelease_ba y ?_)
  refine bm_if_false rfl ?_
  exact wpAny_bind (payload_ba y (wpAny_pure h))

theorem bytes_new_ba {a : Addr} {b : Array UInt8} {Q : Value → Shared → Prop} (y : IsBa s.heap a b) (hz : b.size ≤ 100000) (h : ∀ t k, Q (.bytes b t) { s with toks := k }) :
    codeAny (model prog w) A (.call (.builtin "bytes.__new__") ⟨[.type "bytes", .ref a], []⟩) (wants Q E) s := by
  refine codeAny_of_tree ?_
  show wpAny _ A.in1 (do checkBuiltinCall "bytes.__new__" ⟨[.type "bytes", .ref a], []⟩; again (.builtin "bytes.__new__" ⟨[.type "bytes", .ref a], []⟩)) _ _ s
  refine wpAny_bind (wpAny_of_eq (F.bm_newCall _) (wpAny_pure ⟨plainId_quiet F.bm_plain _, codeAny_builtin F.bm_entry ?_⟩))
  rw [Around.under_plainId F.bm_plain _]
  unfold Builtin.«bytes.__new__»
  refine wpAny_bind (wpAny_of_eq (a := true) rfl ?_)
  refine bm_if_false rfl ?_
  refine wpAny_bind (wpAny_of_eq F.bm_sub ?_)
  refine bm_if_false rfl ?_
  refine wpAny_bind (wpAny_of_eq (F.bm_bind _) ?_)
  refine wpAny_bind (wpAny_of_eq (a := ()) rfl ?_)
  refine wpAny_bind (wpAny_of_eq (a := ()) rfl ?_)
  refine bm_if_false rfl ?_
  refine wpAny_bind (wpAny_specialOf y.typeIs look_ba_bytes ?_)
  refine wpAny_bind (wpAny_bind ?_)
  show wpAny _ _ (load a >>= _) _ _ _
  refine wpAny_bind (wpAny_load y ?_)
  refine wpAny_pure (wpAny_pure ?_)
  refine bm_if_false rfl ?_
  refine wpAny_bind (wpAny_specialOf y.typeIs look_ba_index ?_)
  refine bm_if_true rfl ?_
  first
    | refine wpAny_bind (buffer_ba y ?_)
    | (refine wpAny_bind ?_; refine wpAny_bind (buffer_ba y ?_))
  refine wpAny_bind (wpAny_rule ?_)
  refine wpAny_bind (wpAny_mkBytes ?_ (by rw [sizeLine_eq]; omega))
  show wpAny _ _ (if (Value.type "bytes" == Value.type "bytes") = true then _ else _) _ _ _
  refine bm_if_true (by decide) ?_
  first
    | exact wpAny_pure (h _ _)
    | exact wpAny_bind (wpAny_pure (wpAny_pure (h _ _)))

theorem call_bytes_ba {a : Addr} {b : Array UInt8} {Q : Value → Shared → Prop} (y : IsBa s.heap a b) (hz : b.size ≤ 100000) (h : ∀ t k, Q (.bytes b t) { s with toks := k }) :
    wpAny (model prog w) A (call (.type "bytes") [.ref a]) Q E s := by
  refine callType_codes (Q₁ := fun obj s₁ => s₁.TypeIs obj "bytes" ∧ Q obj s₁) F.bm_called (F.bm_typeCall _) F.entry_object_init
    (bytes_new_ba y hz fun t k => ⟨PySem.W.typeIs_bytes _ _ _, h t k⟩) fun obj s₁ h₁ => ?_
  exact ⟨h₁.1, F.args_object_init_2 obj _, object_init_meets F.bm_called.init.lookup F.bm_called.made (by decide) prog w A.in1 _ s₁ ⟨h₁.1, rfl, h₁.2⟩⟩

/-! ## a for over a source that walks, one local name -/
theorem for_name {x : Str} {px pos : Pos} {iter : Expr} {body : List Stmt} {env : Env} {Q : Flow → Shared → Prop}
    (h : wpAny (model prog w) A (eval iter env) (fun xv s₁ => wpAny (model prog w) A (pyIter xv) (fun it s₂ => ∃ I fp wr n P St, ∃ J : Nat → Shared → Prop, it = .ref I ∧ Walks prog w A I fp wr n P St ∧ St 0 s₂.heap ∧ J 0 s₂ ∧
      (∀ i v s₃ h₄ tk (E' : Value → Shared → Prop), i < n → P i v → J i s₃ → (∀ b o, b ∉ wr → s₃.heap.get? b = some o → h₄.get? b = some o) → St (i + 1) h₄ →
        wpAny (model prog w) A (storeName env x v) (fun _ s₅ => wpAny (model prog w) A (execs body env) (fun f s₆ => f = .next ∧ J (i + 1) s₆ ∧ St (i + 1) s₆.heap) E' s₅) E' { s₃ with heap := h₄, toks := tk }) ∧
      (∀ s₃ h₄ tk, J n s₃ → (∀ b o, b ∉ wr → s₃.heap.get? b = some o → h₄.get? b = some o) → Q .next { s₃ with heap := h₄, toks := tk })) E s₁) E s)
    (hs : ∀ x, foldedSetIterable iter env x = pure x := by intro _; rfl) :
    wpAny (model prog w) A (exec (.For (.Name x px) iter body [] pos) env) Q E s := by
  refine wpAny_For (wpAny_mono h (fun xv s₁ h₁ => wpAny_mono h₁ (fun it s₂ h₂ => ?_) fun _ _ e => e) fun _ _ e => e) hs
  obtain ⟨I, fp, wr, n, P, St, J, rfl, W, hst, hJ, step, fin⟩ := h₂
  refine codeAny_forLoop_any (fun k s' => ∃ i, i ≤ n ∧ k = n + 1 - i ∧ J i s' ∧ St i s'.heap) ?_ (n + 1) ⟨0, Nat.zero_le _, rfl, hJ, hst⟩
  rintro k s' ⟨i, hi, rfl, hJ', hst'⟩
  by_cases hlt : i < n
  · refine W.item i _ _ _ hlt hst' fun v h₁ tk hP hst₁ hk₁ => ?_
    dsimp only
    refine wpAny_of_eq (a := ()) rfl (wpAny_assign_Name ?_)
    refine wpAny_mono (step i v s' h₁ tk _ hlt hP hJ' hk₁ hst₁) (fun _ s₅ h₅ => wpAny_mono h₅ (fun f s₆ h₆ => ?_) fun _ _ e => e) fun _ _ e => e
    obtain ⟨rfl, hJ₆, hst₆⟩ := h₆
    exact ⟨n + 1 - (i + 1), by omega, i + 1, hlt, rfl, hJ₆, hst₆⟩
  · obtain rfl : i = n := by omega
    refine W.done _ _ _ hst' fun h₁ tk hk₁ => ?_
    exact wpAny_execs_nil (fin s' h₁ tk hJ' hk₁)
end
end Mine
/-! part B7 -/
namespace Mine
open PySem PySem.W PySem.Calls PyProof.Rows
open Sem (wp)

section
variable {prog : Program} {w : World} {A : Around} {E : Value → Shared → Prop} {s : Shared}

theorem ok_func {body : List Stmt} {env : Env} {Q : Value → Shared → Prop}
    (h : wpOk (model prog w) (A.deeper env) (execs body env) (fun fl s' => Q (match fl with | .ret v => v | _ => .none) s') (fun _ _ => False) s) :
    codeOk (model prog w) A (.func body env) (fun r s' => match r with | .ok (.ret v) => Q v s' | .ok _ => False | .error e => E e s') s := by
  refine codeOk_of_tree rfl ?_
  show wpOk _ (A.deeper env) (do point; match ← (execs body env).onRaise (leaving env) with | .ret v => ret v | _ => ret .none) _ _ s
  refine wpOk_bind (wpOk_point (wpOk_bind (wpOk_onRaise (wpOk_mono h (fun f s' h' => ?_) fun _ _ h' => h'.elim))))
  cases f <;> exact wpOk_of (wpAny_pure h')

theorem call_def_ok {f : Addr} {name : Str} {n : Nat} {args : List Value} {binds : List (Str × Value)} {Q : Value → Shared → Prop} (hf : FnAt s.heap f name n) (hlim : s.heap.NoLimit) (hroom : A.depth < recursionLimit)
    (hbind : ∀ doc pm an cdv ct, bindArgs (fnOf name name (defParams n) (defBody n) (defScope n) .none .none doc pm an cdv ct) ⟨args, []⟩ = pure binds)
    (h : ∀ h₁ cdv, h₁.Ns s.heap.objs.size (fun x => binds.reverse.lookup x) → s.heap.StaysIn h₁ →
      wpOk (model prog w) (A.deeper (envOf name (defScope n) s.heap.objs.size f cdv)) (execs (defBody n) (envOf name (defScope n) s.heap.objs.size f cdv))
        (fun fl s' => Q (match fl with | .ret v => v | _ => .none) s') (fun _ _ => False) { s with heap := h₁, toks := s.toks + binds.length })
    (hloc : (binds.all fun x => decide ((defScope n).names.lookup x.1 = some .local)) = true := by rfl)
    (hcell : ∀ x ∈ (defScope n).names, x.2 ≠ .cell := by decide) (hco : (defScope n).isCoroutine = false := by rfl) (hgen : (defScope n).isGenerator = false := by rfl) (hk : (defScope n).kind = .function := by rfl) :
    wpOk (model prog w) A (call (.ref f) args) Q E s := by
  obtain ⟨o, doc, pm, an, cdv, ct, ho, hd, c, oc, vs, tq, hc, hoc, hdc, hq⟩ := hf
  refine wpOk_call (codeOk_of_tree rfl ?_)
  show wpOk _ _ (callAny (.ref f) _) _ _ s
  simp only [callAny]
  refine wpOk_bind (wpOk_of (wpAny_load ho ?_))
  simp only [hd, callFunction, hco, hgen, hc]
  refine wpOk_bind (m := field (.ref c) 1) (wpOk_of (wpAny_field hoc hdc hq (wpOk_bind (wpOk_pure ?_))))
  refine wpOk_bind ?_
  rw [← hc, hbind]
  refine wpOk_pure (wpOk_bind (wpOk_of (wpAny_newFunctionEnv hcell (locs hloc) (fun h₁ hns hsb => wpOk_bind (wpOk_of (wpAny_enterFrame ?_ hroom (wpOk_of (wpAny_pure ⟨rfl, ?_⟩))))) hk)))
  · exact hlim.fresh _ hsb
  · refine ok_func ?_
    exact h h₁ cdv hns fun b o e => hsb.extBut b o (Nat.ne_of_lt (Heap.lt_size e)) (Heap.get?_push_of_some _ e)

/-! ## _byteswap -/
/-- every group of `wd` octets turned about -/
def swapB (d : Array UInt8) (wd : Nat) : Array UInt8 := Array.ofFn fun p : _root_.Fin d.size => d.getD (p / wd * wd + (wd - 1 - p % wd)) 0

structure SwapAt (d : Array UInt8) (wd i j : Nat) (b : Array UInt8) : Prop where
  size : b.size = d.size
  done : ∀ p, p < d.size → (p / wd < i ∨ (p / wd = i ∧ wd - 1 - p % wd < j)) → b[p]? = some (d.getD (p / wd * wd + (wd - 1 - p % wd)) 0)
theorem SwapAt.start (d : Array UInt8) (wd : Nat) : SwapAt d wd 0 0 (Array.replicate d.size 0) := ⟨by simp, fun p _ h => by rcases h with h | h; exact absurd h (Nat.not_lt_zero _); exact absurd h.2 (Nat.not_lt_zero _)⟩
theorem SwapAt.next {d : Array UInt8} {wd i : Nat} {b : Array UInt8} (hw : 0 < wd) (x : SwapAt d wd i wd b) : SwapAt d wd (i + 1) 0 b :=
  ⟨x.size, fun p hp h => x.done p hp (by have := Nat.mod_lt p hw; omega)⟩
theorem SwapAt.step {d : Array UInt8} {wd i j : Nat} {b : Array UInt8} (hw : 0 < wd) (hj : j < wd) (x : SwapAt d wd i j b) :
    SwapAt d wd i (j + 1) (b.setIfInBounds (i * wd + wd - 1 - j) (d.getD (i * wd + j) 0)) := by
  refine ⟨by rw [Array.size_setIfInBounds]; exact x.size, fun p hp h => ?_⟩
  have hm := Nat.mod_lt p hw
  have hdm := Nat.div_add_mod p wd
  by_cases hq : p = i * wd + wd - 1 - j
  · have e1 : p = (wd - 1 - j) + wd * i := by rw [Nat.mul_comm wd i]; omega
    have e2 : p / wd = i := by rw [e1, Nat.add_mul_div_left _ _ hw, Nat.div_eq_of_lt (by omega)]; omega
    have e3 : p % wd = wd - 1 - j := by rw [e1, Nat.add_mul_mod_self_left, Nat.mod_eq_of_lt (by omega)]
    rw [e2, e3, show wd - 1 - (wd - 1 - j) = j by omega, ← hq]
    rw [Array.getElem?_setIfInBounds]
    simp [x.size, hp]
  · rw [Array.getElem?_setIfInBounds_ne (by omega)]
    refine x.done p hp ?_
    rcases h with h | ⟨h1, h2⟩
    · exact .inl h
    · refine .inr ⟨h1, ?_⟩
      rcases Nat.lt_or_ge (wd - 1 - p % wd) j with h3 | h3
      · exact h3
      · exfalso
        apply hq
        have : wd - 1 - p % wd = j := by omega
        rw [h1, Nat.mul_comm] at hdm
        omega
theorem SwapAt.fin {d : Array UInt8} {wd n : Nat} {b : Array UInt8} (hw : 0 < wd) (hd : d.size = n * wd) (x : SwapAt d wd n 0 b) : b = swapB d wd := by
  apply Array.ext_getElem?
  intro p
  by_cases hp : p < d.size
  · rw [x.done p hp (.inl (by rw [Nat.div_lt_iff_lt_mul hw]; omega))]
    simp [swapB, hp]
  · rw [Array.getElem?_eq_none (by rw [x.size]; omega), Array.getElem?_eq_none (by simp [swapB]; omega)]
end
end Mine
/-! part B8 -/
namespace Mine
open PySem PySem.W PySem.Calls PyProof.Rows
open Sem (wp)

section
variable {prog : Program} {w : World} {A : Around} {E : Value → Shared → Prop} {s : Shared} {env : Env}

/-! ## calls by a global name -/
theorem ev_callB {x : Str} {p pos : Pos} {id : String} {e : Expr} {rest : List Expr} {Q : Value → Shared → Prop} (g : GName s.heap x (.builtin id))
    (h : wpAny (model prog w) A (spliced (backTo pos (starEach (e :: rest) env))) (fun vs s₁ => wpAny (model prog w) A (call (.builtin id) vs) Q E s₁) E s)
    (he : starEach (e :: rest) env = (false, eval e env) :: starEach rest env := by rfl) (hplain : (backTo pos (starEach rest env)).any (·.1) = false := by rfl)
    (hk : env.scope.kind = .function := by rfl) (hx : env.kindOf x = some .globalImplicit := by rfl) (hg : env.globals = mainGlobals := by rfl) (hb : env.builtins = builtinsNs := by rfl)
    (hd : (x == ("__debug__" : Str)) = false := by decide) : wpAny (model prog w) A (eval (.Call (.Name x p) (e :: rest) [] pos) env) Q E s := by
  refine wpAny_Call_Name_kw (ev_glob g ?_ hk hx hg hb hd)
  rw [he] at h ⊢
  exact callWith_builtin (by show (false || (backTo pos (starEach rest env)).any (·.1)) = false; rw [hplain]; rfl) (evalArgs_plain h)
theorem ev_callT {x : Str} {p pos : Pos} {T : String} {e : Expr} {rest : List Expr} {Q : Value → Shared → Prop} (g : GName s.heap x (.type T))
    (h : wpAny (model prog w) A (spliced (backTo pos (starEach (e :: rest) env))) (fun vs s₁ => wpAny (model prog w) A (call (.type T) vs) Q E s₁) E s)
    (he : starEach (e :: rest) env = (false, eval e env) :: starEach rest env := by rfl) (hplain : (backTo pos (starEach rest env)).any (·.1) = false := by rfl)
    (hk : env.scope.kind = .function := by rfl) (hx : env.kindOf x = some .globalImplicit := by rfl) (hg : env.globals = mainGlobals := by rfl) (hb : env.builtins = builtinsNs := by rfl)
    (hd : (x == ("__debug__" : Str)) = false := by decide) : wpAny (model prog w) A (eval (.Call (.Name x p) (e :: rest) [] pos) env) Q E s := by
  refine wpAny_Call_Name_kw (ev_glob g ?_ hk hx hg hb hd)
  rw [he] at h ⊢
  exact PySem.callWith_type (by show (false || (backTo pos (starEach rest env)).any (·.1)) = false; rw [hplain]; rfl) (evalArgs_plain h)
theorem ev_callF {x : Str} {p pos : Pos} {f : Addr} {name : Str} {n : Nat} {e : Expr} {rest : List Expr} {Q : Value → Shared → Prop} (g : GName s.heap x (.ref f)) (hf : FnAt s.heap f name n)
    (h : wpAny (model prog w) A (spliced (backTo pos (starEach (e :: rest) env))) (fun vs s₁ => s.heap.StaysIn s₁.heap ∧ wpAny (model prog w) A (call (.ref f) vs) Q E s₁) E s)
    (he : starEach (e :: rest) env = (false, eval e env) :: starEach rest env := by rfl)
    (hk : env.scope.kind = .function := by rfl) (hx : env.kindOf x = some .globalImplicit := by rfl) (hg : env.globals = mainGlobals := by rfl) (hb : env.builtins = builtinsNs := by rfl)
    (hd : (x == ("__debug__" : Str)) = false := by decide) : wpAny (model prog w) A (eval (.Call (.Name x p) (e :: rest) [] pos) env) Q E s := by
  obtain ⟨o, doc, pm, an, cdv, ct, ho, hfd, _⟩ := hf
  refine wpAny_Call_Name_kw (ev_glob g ?_ hk hx hg hb hd)
  rw [he] at h ⊢
  exact callWith_function (evalArgs_plain (wpAny_mono h (fun vs s₁ h₁ => ⟨⟨h₁.1 _ _ ho, hfd⟩, h₁.2⟩) fun _ _ x => x))

theorem ok_callT {x : Str} {p pos : Pos} {T : String} {e : Expr} {rest : List Expr} {Q : Value → Shared → Prop} (g : GName s.heap x (.type T))
    (h : wpAny (model prog w) A (spliced (backTo pos (starEach (e :: rest) env))) (fun vs s₁ => wpOk (model prog w) A (call (.type T) vs) Q E s₁) E s)
    (he : starEach (e :: rest) env = (false, eval e env) :: starEach rest env := by rfl) (hplain : (backTo pos (starEach rest env)).any (·.1) = false := by rfl)
    (hk : env.scope.kind = .function := by rfl) (hx : env.kindOf x = some .globalImplicit := by rfl) (hg : env.globals = mainGlobals := by rfl) (hb : env.builtins = builtinsNs := by rfl)
    (hd : (x == ("__debug__" : Str)) = false := by decide) : wpOk (model prog w) A (eval (.Call (.Name x p) (e :: rest) [] pos) env) Q E s := by
  rw [arm_eval_Call_Name']
  refine wpOk_bind (wpOk_of (ev_glob g ?_ hk hx hg hb hd))
  rw [he] at h ⊢
  have hpl : (((backTo pos ((false, eval e env) :: starEach rest env)).any (·.1)) || (backToKw pos (keywordEach [] env)).any (·.1.isNone)) = false := by show ((false || (backTo pos (starEach rest env)).any (·.1)) || false) = false; rw [hplain]; rfl
  have hargs : wpOk (model prog w) A (evalArgs (.type T) true (backTo pos ((false, eval e env) :: starEach rest env)) (backToKw pos (keywordEach [] env))) (fun a s₁ => wpOk (model prog w) A (call (.type T) ([] ++ a.pos) a.kw) Q E s₁) E s := wpOk_of (evalArgs_plain (Q := fun a s₁ => wpOk (model prog w) A (call (.type T) ([] ++ a.pos) a.kw) Q E s₁) h)
  unfold callWith
  refine wpOk_bind (wpOk_holding (wpOk_mono hargs (fun a s₁ h₁ => wpOk_bind (wpOk_standAt ?_)) fun _ _ x => x))
  simp only [hpl]
  refine wpOk_bind (wpOk_pure ?_)
  exact wpOk_bind (wpOk_mono h₁ (fun r s₂ hr => wpOk_bind (wpOk_holding (wpOk_point (wpOk_pure hr)))) fun _ _ x => x)
theorem ok_callF {x : Str} {p pos : Pos} {f : Addr} {name : Str} {n : Nat} {e : Expr} {rest : List Expr} {Q : Value → Shared → Prop} (g : GName s.heap x (.ref f)) (hf : FnAt s.heap f name n)
    (h : wpAny (model prog w) A (spliced (backTo pos (starEach (e :: rest) env))) (fun vs s₁ => s.heap.StaysIn s₁.heap ∧ wpOk (model prog w) A (call (.ref f) vs) Q E s₁) E s)
    (he : starEach (e :: rest) env = (false, eval e env) :: starEach rest env := by rfl) (hplain : (backTo pos (starEach rest env)).any (·.1) = false := by rfl)
    (hk : env.scope.kind = .function := by rfl) (hx : env.kindOf x = some .globalImplicit := by rfl) (hg : env.globals = mainGlobals := by rfl) (hb : env.builtins = builtinsNs := by rfl)
    (hd : (x == ("__debug__" : Str)) = false := by decide) : wpOk (model prog w) A (eval (.Call (.Name x p) (e :: rest) [] pos) env) Q E s := by
  obtain ⟨o, doc, pm, an, cdv, ct, ho, hfd, _⟩ := hf
  rw [arm_eval_Call_Name']
  refine wpOk_bind (wpOk_of (ev_glob g ?_ hk hx hg hb hd))
  rw [he] at h ⊢
  have hpl : (((backTo pos ((false, eval e env) :: starEach rest env)).any (·.1)) || (backToKw pos (keywordEach [] env)).any (·.1.isNone)) = false := by show ((false || (backTo pos (starEach rest env)).any (·.1)) || false) = false; rw [hplain]; rfl
  have hargs : wpOk (model prog w) A (evalArgs (.ref f) true (backTo pos ((false, eval e env) :: starEach rest env)) (backToKw pos (keywordEach [] env))) (fun a s₁ => s.heap.StaysIn s₁.heap ∧ wpOk (model prog w) A (call (.ref f) ([] ++ a.pos) a.kw) Q E s₁) E s := wpOk_of (evalArgs_plain (Q := fun a s₁ => s.heap.StaysIn s₁.heap ∧ wpOk (model prog w) A (call (.ref f) ([] ++ a.pos) a.kw) Q E s₁) h)
  unfold callWith
  refine wpOk_bind (wpOk_holding (wpOk_mono hargs (fun a s₁ h₁ => wpOk_bind (wpOk_standAt ?_)) fun _ _ x => x))
  have tail : ∀ {t : Sem Value}, wpOk (model prog w) A t Q E s₁ → wpOk (model prog w) A (t >>= fun r => holding [r] point >>= fun _ => pure r) Q E s₁ :=
    fun ht => wpOk_bind (wpOk_mono ht (fun r s₂ hr => wpOk_bind (wpOk_holding (wpOk_point (wpOk_pure hr)))) fun _ _ x => x)
  simp only [hpl]
  refine wpOk_bind (m := keeperOf (.ref f)) (wpOk_of ?_)
  unfold keeperOf
  refine wpAny_bind (wpAny_load (h₁.1 _ _ ho) ?_)
  rw [hfd]
  refine wpAny_pure ?_
  have marked : ∀ mk : Value, wpOk (model prog w) A (callMarked mk (.ref f) ([] ++ a.pos) a.kw) Q E s₁ := fun mk => by unfold callMarked; exact wpOk_keep h₁.2
  dsimp only
  split
  · exact tail h₁.2
  · exact tail (marked _)

theorem ok_Assign_Name {x : Str} {pos' pos : Pos} {value : Expr} {Q : Flow → Shared → Prop}
    (h : wpOk (model prog w) A (eval value env) (fun v s₁ => wpAny (model prog w) A (storeName env x v) (fun _ => Q .next) E s₁) E s)
    (hs : swapsWith value (some (.Name x pos')) pos.line env = pure false := by rfl) :
    wpOk (model prog w) A (exec (.Assign [.Name x pos'] value pos) env) Q E s := by
  rw [exec_Assign_Name env x pos' value pos hs]
  exact wpOk_bind (wpOk_standAt (wpOk_bind (wpOk_mono h (fun v s₁ h₁ => wpOk_bind (wpOk_standAt (wpOk_bind (wpOk_of (wpAny_bindName (wpAny_mono h₁ (fun _ _ q => wpOk_pure q) fun _ _ x => x)))))) fun _ _ x => x)))
theorem ok_execs_cons {st : Stmt} {rest : List Stmt} {Q : Flow → Shared → Prop}
    (h : wpOk (model prog w) A (exec st env) (fun f s' => match f with | .next => wpOk (model prog w) A (execs rest env) Q E s' | f => Q f s') E s) :
    wpOk (model prog w) A (execs (st :: rest) env) Q E s := by
  rw [execs_cons]
  refine wpOk_bind (wpOk_mono h (fun f s' h' => ?_) fun _ _ x => x)
  cases f <;> first | exact h' | exact wpOk_pure h'
end
end Mine
/-! part B9 -/
namespace Mine
open PySem PySem.W PySem.Calls PyProof.Rows
open Sem (wp)

structure SwSt (s : Shared) (L a : Addr) (vd vw vi : Value) (b : Array UInt8) (s' : Shared) : Prop where
  same : ∃ h tk, s' = { s with heap := h, toks := tk }
  keep : s.heap.StaysIn s'.heap
  ns : ∃ m, s'.heap.Ns L m ∧ m "data" = some vd ∧ m "width" = some vw ∧ m "swapped_data" = some (.ref a) ∧ (vi ≠ .none → m "i" = some vi)
  ba : IsBa s'.heap a b

theorem SwSt.iter {s s' : Shared} {L a I : Addr} {vd vw vi : Value} {b : Array UInt8} {h : Heap} {tk : Nat} (x : SwSt s L a vd vw vi b s') (hL : L ≠ I) (ha : a ≠ I) (hI : s.heap.get? I = none)
    (hk : ∀ b o, b ∉ [I] → s'.heap.get? b = some o → h.get? b = some o) : SwSt s L a vd vw vi b { s' with heap := h, toks := tk } := by
  obtain ⟨⟨h', tk', rfl⟩, keep, ⟨m, n1, n2⟩, ba⟩ := x
  exact ⟨⟨_, _, rfl⟩, fun b o e => hk b o (fun q => by rw [List.mem_singleton] at q; subst q; rw [hI] at e; cases e) (keep b o e), ⟨m, n1.at' fun o e => hk _ o (by simpa using hL) e, n2⟩, hk _ _ (by simpa using ha) ba⟩

theorem SwSt.keeps {s s' : Shared} {L a : Addr} {vd vw vi : Value} {b : Array UInt8} {h : Heap} {tk : Nat} (x : SwSt s L a vd vw vi b s') (hk : s'.heap.StaysIn h) : SwSt s L a vd vw vi b { s' with heap := h, toks := tk } := by
  obtain ⟨⟨h', tk', rfl⟩, keep, ⟨m, n1, n2⟩, ba⟩ := x
  exact ⟨⟨_, _, rfl⟩, fun b o e => hk b o (keep b o e), ⟨m, n1.keeps hk, n2⟩, hk _ _ ba⟩
theorem SwSt.write {s s' : Shared} {L a : Addr} {vd vw vi : Value} {b b' : Array UInt8} {h : Heap} {tk : Nat} (x : SwSt s L a vd vw vi b s') (ha : s.heap.get? a = none) (hs : Heap.SameBut a s'.heap h) (y : IsBa h a b') : SwSt s L a vd vw vi b' { s' with heap := h, toks := tk } := by
  obtain ⟨⟨h', tk', rfl⟩, keep, ⟨m, n1, n2⟩, ba⟩ := x
  have hLa : L ≠ a := by rintro rfl; obtain ⟨_, _, _, q, qd, _⟩ := n1; rw [show h'.get? L = some (baObj b) from ba] at q; cases q; cases qd
  exact ⟨⟨_, _, rfl⟩, fun c o e => hs.extBut c o (by rintro rfl; rw [ha] at e; cases e) (keep c o e), ⟨m, n1.sameBut hs hLa, n2⟩, y⟩
theorem SwSt.ne {s s' : Shared} {L a : Addr} {vd vw vi : Value} {b : Array UInt8} (x : SwSt s L a vd vw vi b s') : a ≠ L := by
  obtain ⟨_, _, ⟨m, ⟨_, _, _, q, qd, _⟩, _⟩, ba⟩ := x
  rintro rfl
  rw [show s'.heap.get? a = some (baObj b) from ba] at q; cases q; cases qd
theorem SwSt.store {s s' : Shared} {L a : Addr} {vd vw vi vi' : Value} {b : Array UInt8} {h : Heap} {tk : Nat} {m' : Str → Option Value} (x : SwSt s L a vd vw vi b s') (hL : s.heap.get? L = none) (hs : Heap.SameBut L s'.heap h) (n : h.Ns L m')
    (h1 : m' "data" = some vd ∧ m' "width" = some vw ∧ m' "swapped_data" = some (.ref a) ∧ (vi' ≠ .none → m' "i" = some vi')) : SwSt s L a vd vw vi' b { s' with heap := h, toks := tk } := by
  have ne := x.ne
  obtain ⟨⟨h', tk', rfl⟩, keep, _, ba⟩ := x
  exact ⟨⟨_, _, rfl⟩, fun c o e => hs.extBut c o (by rintro rfl; rw [hL] at e; cases e) (keep c o e), ⟨m', n, h1⟩, hs.extBut _ _ ne ba⟩

theorem rangeSize_blocks {n wd : Nat} (hw : 0 < wd) : Builtin.Range.rangeSize 0 ((n * wd : Nat) : Int) (wd : Int) = (n : Int) := by
  unfold Builtin.Range.rangeSize
  rw [if_pos (by omega)]
  rcases Nat.eq_zero_or_pos n with rfl | hn
  · rw [if_neg (by simp)]; simp
  · have h1 : 0 < n * wd := Nat.mul_pos hn hw
    rw [if_pos (by omega)]
    have e : ((n * wd : Nat) : Int) - 0 - 1 = ((n * wd - 1 : Nat) : Int) := by omega
    rw [e, ← Int.natCast_ediv]
    have : (n * wd - 1) / wd = n - 1 := by
      rw [show n * wd - 1 = (wd - 1) + wd * (n - 1) by
        obtain ⟨k, rfl⟩ : ∃ k, n = k + 1 := ⟨n - 1, by omega⟩
        rw [Nat.add_mul, Nat.mul_comm wd]; simp; omega]
      rw [Nat.add_mul_div_left _ _ hw, Nat.div_eq_of_lt (by omega)]; omega
    rw [this]; omega
theorem small_blocks {n wd : Nat} (hw : 0 < wd) (hz : n * wd ≤ 1000) (hwz : wd ≤ 1000) : Builtin.Range.small 0 ((n * wd : Nat) : Int) (wd : Int) = true := by
  unfold Builtin.Range.small
  rw [rangeSize_blocks hw]
  have hn : n ≤ 1000 := Nat.le_trans (Nat.le_mul_of_pos_right _ hw) hz
  simp only [Builtin.Range.rangeFitsLong, Bool.and_eq_true, Bool.or_eq_true, decide_eq_true_eq, beq_iff_eq]
  rw [if_pos (by omega)]
  simp only [decide_eq_true_eq, Bool.and_eq_true]
  omega

section
variable {prog : Program} {w : World} {A : Around} {E : Value → Shared → Prop} {s : Shared}
theorem bytes_item {d : Array UInt8} {i : Int} {t ui : Tok} {value slice : Expr} {Q : Value → Shared → Prop} (hz : d.size ≤ 100000) (h0 : 0 ≤ i) (h1 : i < d.size)
    (h : Q (.int (d.getD i.toNat 0).toNat s.toks) { s with toks := s.toks + 1 })
    (hs : subscripted slice false (.bytes d t) (.int i ui) = operate [.bytes d t, .int i ui] (getItem (.bytes d t) (.int i ui)) := by with_unfolding_all rfl)
    (ht : ∀ r, letTemporaryGo value (.bytes d t) r = pure () := by intro _; with_unfolding_all rfl) :
    wpAny (model prog w) A (subscriptTail value slice (.bytes d t) (.int i ui)) Q E s := by
  refine KBy.item_N (x := d.toList) (by simp; omega) h0 (by simpa using h1) ?_ hs ht
  have e : d.toList.getD i.toNat 0 = d.getD i.toNat 0 := by simp [Array.getD, List.getD]; split <;> simp_all
  rw [e]; exact h
theorem swap_call {f : Addr} {d : Array UInt8} {wi : Int} {wd n : Nat} {t u : Tok} {Q : Value → Shared → Prop} (hf : FnAt s.heap f "_byteswap" 1) (hlim : s.heap.NoLimit) (R : Room 1 A)
    (g1 : GName s.heap "bytearray" (.type "bytearray")) (g2 : GName s.heap "len" (.builtin "len")) (g3 : GName s.heap "range" (.type "range")) (g4 : GName s.heap "bytes" (.type "bytes"))
    (hw : 0 < wd) (hwi : wi = wd) (hd : d.size = n * wd) (hz : d.size ≤ 1000) (hwz : wd ≤ 1000)
    (h : ∀ h' k tk, s.heap.StaysIn h' → Q (.bytes (swapB d wd) k) { s with heap := h', toks := tk }) :
    wpOk (model prog w) A (call (.ref f) [.bytes d t, .int wi u]) Q E s := by
  refine call_def_ok (binds := [("data", .bytes d t), ("width", .int wi u)]) hf hlim (by have := R.depth; omega) (fun _ _ _ _ _ => rfl) (fun h₁ cdv hn hk => ?_)
  have hh : (A.deeper (envOf "_byteswap" (defScope 1) s.heap.objs.size f cdv)).handled = none := R.handled
  refine ok_execs_cons ?_
  refine ok_Assign_Name ?_
  refine ok_callT (g1.keeps hk) ?_
  refine wpAny_items_cons ?_
  refine ev_callB (g2.keeps hk) ?_
  refine wpAny_items_cons ?_
  refine ev_loc hn rfl ?_
  refine wpAny_items_nil ?_
  refine len_bytes (by omega) ?_
  refine wpAny_items_nil ?_
  refine call_bytearray (n := d.size) (by omega) fun a h₂ ha hk₂ hB => ?_
  refine wpAny_storeName_local rfl (hn.keeps hk₂) (fun h₃ hn₃ hs₃ => ?_) rfl
  dsimp only
  have hLa : s.heap.objs.size ≠ a := by rintro rfl; obtain ⟨_, _, _, q, _⟩ := hn; rw [ha] at q; cases q
  have old₃ : s.heap.StaysIn h₃ := fun b o e => hs₃.extBut b o (Nat.ne_of_lt (Heap.lt_size e)) (hk₂ b o (hk b o e))
  have S₃ : SwSt s s.heap.objs.size a (.bytes d t) (.int wi u) .none (Array.replicate d.size 0) { s with heap := h₃, toks := s.toks } :=
    ⟨⟨_, _, rfl⟩, old₃, ⟨_, hn₃, rfl, rfl, rfl, fun q => absurd rfl q⟩, hs₃.extBut _ _ (Ne.symm hLa) hB⟩
  refine ok_execs_cons (wpOk_of ?_)
  refine for_name ?_
  refine ev_callT (g3.keeps old₃) ?_
  refine wpAny_items_cons ?_
  refine wpAny_Constant_int ?_
  refine wpAny_items_cons ?_
  refine ev_callB (g2.keeps old₃) ?_
  refine wpAny_items_cons ?_
  refine ev_loc hn₃ rfl ?_
  refine wpAny_items_nil ?_
  refine len_bytes (by omega) ?_
  refine wpAny_items_cons ?_
  refine ev_loc hn₃ rfl ?_
  refine wpAny_items_nil ?_
  subst hwi
  refine call_range_3 (by omega) ?_ (.inl ?_)
  · rw [hd]
    refine wpAny_pyIter_range (Heap.get?_push_size _ rfl) (small_blocks hw (by omega) hwz) ?_
    rw [rangeSize_blocks hw]
    generalize hL : s.heap.objs.size = L at *
    generalize hI : (h₃.push _).objs.size = I
    have hLI : L ≠ I := by
      have := hn₃.lt
      rw [← hI, Heap.size_push]; exact Nat.ne_of_lt (Nat.lt_succ_of_lt this)
    have haI : a ≠ I := by
      have := Heap.lt_size S₃.ba
      rw [← hI, Heap.size_push]; exact Nat.ne_of_lt (Nat.lt_succ_of_lt this)
    have hI0 : s.heap.get? I = none := Heap.get?_none_of_le (by
      have := hn₃.lt
      rw [hL, ← hI, Heap.size_push]; exact Nat.le_succ_of_le (Nat.le_of_lt this))
    refine ⟨I, [I], [I], n, _, _, fun i s' => ∃ b, SwSt s L a (.bytes d t) (.int wd u) .none b s' ∧ SwapAt d wd i 0 b, rfl, Walks.range hh I 0 wd n, ?_, ?_, ?_, ?_⟩
    · show IsRangeIter _ I _ _ _
      rw [← hI]
      simpa using Heap.get?_push_size (h₃.push _) rfl
    · exact ⟨_, S₃.keeps (fun b o e => Heap.get?_push_of_some _ (Heap.get?_push_of_some _ e)), SwapAt.start d wd⟩
    · rintro i v s₃ h₄ tk E' hi ⟨tv, rfl⟩ ⟨b, S, W⟩ hk₄ hst₄
      have S₄ := S.iter (tk := tk) hLI haI hI0 hk₄
      have hL0 : s.heap.get? L = none := Heap.get?_none_of_le (by rw [hL]; exact Nat.le_refl _)
      have ha0 : s.heap.get? a = none := by cases e : s.heap.get? a with | none => rfl | some o => rw [hk a o e] at ha; cases ha
      obtain ⟨m, n1, nd, nw, nsd, _⟩ := S₄.ns
      refine wpAny_storeName_local rfl n1 (fun h₅ hn₅ hs₅ => ?_) rfl
      dsimp only
      have S₅ := S₄.store (tk := tk + 1) (vi' := .int (0 + i * wd) tv) hL0 hs₅ hn₅ ⟨nd, nw, nsd, fun _ => rfl⟩
      have it₅ : IsRangeIter h₅ I (0 + ((i + 1 : Nat) : Int) * wd) ((n : Int) - ((i + 1 : Nat) : Int)) wd := hs₅.extBut _ _ (Ne.symm hLI) hst₄
      refine wpAny_execs_cons ?_
      refine for_name ?_
      refine ev_callT (g3.keeps S₅.keep) ?_
      refine wpAny_items_cons ?_
      refine ev_loc hn₅ nw ?_
      refine wpAny_items_nil ?_
      refine call_range_1 ?_
      refine wpAny_pyIter_range (Heap.get?_push_size _ rfl) (small_one (by omega) (by omega) (by omega) (by omega)) ?_
      rw [rangeSize_one, if_pos (by omega), show ((wd : Int) - 0) = (wd : Int) by omega]
      generalize hI2 : (h₅.push _).objs.size = I₂
      have hLI2 : L ≠ I₂ := by
        have := hn₅.lt
        rw [← hI2, Heap.size_push]; exact Nat.ne_of_lt (Nat.lt_succ_of_lt this)
      have haI2 : a ≠ I₂ := by
        have := Heap.lt_size S₅.ba
        rw [← hI2, Heap.size_push]; exact Nat.ne_of_lt (Nat.lt_succ_of_lt this)
      have hII2 : I ≠ I₂ := by
        have := Heap.lt_size it₅
        rw [← hI2, Heap.size_push]; exact Nat.ne_of_lt (Nat.lt_succ_of_lt this)
      have hI20 : s.heap.get? I₂ = none := Heap.get?_none_of_le (by
        have := hn₅.lt
        rw [hL, ← hI2, Heap.size_push]; exact Nat.le_succ_of_le (Nat.le_of_lt this))
      refine ⟨I₂, [I₂], [I₂], wd, _, _, fun j s' => ∃ b, SwSt s L a (.bytes d t) (.int wd u) (.int (0 + i * wd) tv) b s' ∧ SwapAt d wd i j b ∧ IsRangeIter s'.heap I (0 + ((i + 1 : Nat) : Int) * wd) ((n : Int) - ((i + 1 : Nat) : Int)) wd, rfl, Walks.range hh I₂ 0 1 wd, ?_, ?_, ?_, ?_⟩
      · show IsRangeIter _ I₂ _ _ _
        rw [← hI2]
        simpa using Heap.get?_push_size (h₅.push _) rfl
      · exact ⟨_, S₅.keeps (fun b o e => Heap.get?_push_of_some _ (Heap.get?_push_of_some _ e)), W, Heap.get?_push_of_some _ (Heap.get?_push_of_some _ it₅)⟩
      · rintro j v s₆ h₇ tk₇ E'' hj ⟨tj, rfl⟩ ⟨b, S₆, W₆, it₆⟩ hk₇ hst₇
        have S₇ := S₆.iter (tk := tk₇) hLI2 haI2 hI20 hk₇
        have it₇ : IsRangeIter h₇ I _ _ _ := hk₇ _ _ (by simpa using hII2) it₆
        obtain ⟨m₇, n7, nd7, nw7, nsd7, ni7⟩ := S₇.ns
        refine wpAny_storeName_local rfl n7 (fun h₈ hn₈ hs₈ => ?_) rfl
        dsimp only
        have ni7' := ni7 (by intro q; cases q)
        have S₈ := S₇.store (tk := tk₇ + 1) (vi' := .int (0 + i * wd) tv) hL0 hs₈ hn₈ ⟨nd7, nw7, nsd7, fun _ => ni7'⟩
        have it₈ : IsRangeIter h₈ I _ _ _ := hs₈.extBut _ _ (Ne.symm hLI) it₇
        have it2₈ : IsRangeIter h₈ I₂ _ _ _ := hs₈.extBut _ _ (Ne.symm hLI2) hst₇
        have hblk : i * wd + wd ≤ d.size := by
          rw [hd]
          calc i * wd + wd = (i + 1) * wd := by rw [Nat.add_mul, Nat.one_mul]
            _ ≤ n * wd := Nat.mul_le_mul_right _ hi
        have c1 : ((i * wd : Nat) : Int) = (i : Int) * (wd : Int) := by push_cast; rfl
        refine wpAny_execs_cons ?_
        refine wpAny_Assign_Subscript ?_
        refine Subscript_ ?_
        refine ev_loc hn₈ nd7 ?_
        refine wpAny_BinOp ?_
        refine ev_loc hn₈ ni7' ?_
        refine ev_loc hn₈ rfl ?_
        refine add_int ?_
        refine bytes_item (by omega) (by omega) (by omega) ?_
        refine ev_loc hn₈ nsd7 ?_
        refine wpAny_BinOp ?_
        refine wpAny_BinOp ?_
        refine wpAny_BinOp ?_
        refine ev_loc hn₈ ni7' ?_
        refine ev_loc hn₈ nw7 ?_
        refine add_int ?_
        refine wpAny_Constant_int ?_
        refine sub_int ?_
        refine ev_loc hn₈ rfl ?_
        refine sub_int ?_
        refine setItem_ba S₈.ba (by omega) (by rw [W₆.size]; omega) (by rw [W₆.size]; omega) rfl fun h₉ y₉ hs₉ => ?_
        dsimp only
        refine wpAny_execs_nil ⟨rfl, ⟨_, S₈.write ha0 hs₉ y₉, ?_, hs₉.extBut _ _ (Ne.symm haI) it₈⟩, hs₉.extBut _ _ (Ne.symm haI2) it2₈⟩
        have e1 : (0 + (i : Int) * wd + wd - 1 - (0 + (j : Int) * 1)).toNat = i * wd + wd - 1 - j := by omega
        have e2 : (0 + (i : Int) * wd + (0 + (j : Int) * 1)).toNat = i * wd + j := by omega
        rw [e1, e2]
        exact W₆.step hw hj
      · rintro s₆ h₇ tk₇ ⟨b, S₆, W₆, it₆⟩ hk₇
        have S₇ := S₆.iter (tk := tk₇) hLI2 haI2 hI20 hk₇
        refine wpAny_execs_nil ⟨rfl, ⟨b, ⟨S₇.same, S₇.keep, ?_, S₇.ba⟩, W₆.next hw⟩, hk₇ _ _ (by simpa using hII2) it₆⟩
        obtain ⟨m₇, q1, q2, q3, q4, _⟩ := S₇.ns
        exact ⟨m₇, q1, q2, q3, q4, fun q => absurd rfl q⟩
    · rintro s₃ h₄ tk ⟨b, S, W⟩ hk₄
      have S₄ := S.iter (tk := tk) hLI haI hI0 hk₄
      obtain ⟨m, n1, nd, nw, nsd, _⟩ := S₄.ns
      refine ok_execs_cons (wpOk_of ?_)
      refine wpAny_Return_some ?_
      refine ev_callT (g4.keeps S₄.keep) ?_
      refine wpAny_items_cons ?_
      refine ev_loc n1 nsd ?_
      refine wpAny_items_nil ?_
      refine call_bytes_ba S₄.ba (by rw [W.size]; omega) fun k tk' => ?_
      dsimp only
      rw [W.fin hw hd]
      obtain ⟨⟨h', tk2, e⟩, keep, _⟩ := S₄
      have e' : h₄ = h' := congrArg Shared.heap e
      have e2 : ({ s₃ with heap := h₄, toks := tk' } : Shared) = { s with heap := h₄, toks := tk' } := by
        obtain ⟨⟨h3, tk3, rfl⟩, _⟩ := S
        rfl
      show Q _ { s₃ with heap := h₄, toks := tk' }
      rw [e2]
      exact h h₄ k tk' keep
  · exact PyProof.noPylong_small (by omega)
end
end Mine
/-! part C1 -/
namespace Mine
open PySem PySem.W PySem.Calls PyProof.Rows
open Sem (wp)

/-! ## _law_fields -/
def modeOf (x : Int) : Int := [32768, 16384, 40960, 49152].getD (x.fmod 4).toNat 0 + (x.fdiv 4).fmod 4096
def sizeOf' (x : Int) : Int := (x.fdiv 16384).fmod (2 ^ 24)
def placeOf' (x : Int) : Int := (x.fdiv (2 ^ 38)).fmod (2 ^ 40)
def fieldsOf' (x : Int) : List Int := [modeOf x, sizeOf' x, placeOf' x]

structure GKinds (h : Heap) : Prop where
  reg : ∃ t, GName h "S_IFREG" (.int 32768 t)
  dir : ∃ t, GName h "S_IFDIR" (.int 16384 t)
  lnk : ∃ t, GName h "S_IFLNK" (.int 40960 t)
  sock : ∃ t, GName h "S_IFSOCK" (.int 49152 t)
theorem GKinds.keeps {h h' : Heap} (g : GKinds h) (k : h.StaysIn h') : GKinds h' :=
  ⟨g.reg.imp fun _ x => x.keeps k, g.dir.imp fun _ x => x.keeps k, g.lnk.imp fun _ x => x.keeps k, g.sock.imp fun _ x => x.keeps k⟩

section
variable {prog : Program} {w : World} {A : Around} {E : Value → Shared → Prop} {s : Shared}

theorem fields_call {f : Addr} {x : Int} {t : Tok} {Q : Value → Shared → Prop} (hf : FnAt s.heap f "_law_fields" 29) (hlim : s.heap.NoLimit) (R : Room 1 A) (G : GKinds s.heap)
    (h : ∀ h' T vs tk, s.heap.StaysIn h' → s.heap.get? T = none → h'.IsList T (List.toArray vs) → IntsAre vs (fieldsOf' x) → Q (.ref T) { s with heap := h', toks := tk }) :
    wpAny (model prog w) A (call (.ref f) [.int x t]) Q E s := by
  refine call_def (binds := [("x", .int x t)]) hf hlim (by have := R.depth; omega) (fun _ _ _ _ _ => rfl) (fun h₁ cdv hn hk => ?_)
  have G₁ := G.keeps hk
  obtain ⟨⟨t1, r1⟩, ⟨t2, r2⟩, ⟨t3, r3⟩, ⟨t4, r4⟩⟩ := G₁
  refine wpAny_execs_cons ?_
  refine wpAny_Return_some ?_
  refine wpAny_List ?_
  refine wpAny_items_cons ?_
  refine wpAny_BinOp ?_
  refine Subscript_ ?_
  refine wpAny_List ?_
  refine wpAny_items_cons ?_
  refine ev_glob r1 ?_
  refine wpAny_items_cons ?_
  refine ev_glob r2 ?_
  refine wpAny_items_cons ?_
  refine ev_glob r3 ?_
  refine wpAny_items_cons ?_
  refine ev_glob r4 ?_
  refine wpAny_items_nil ⟨by simp [sizeLine_eq], ?_⟩
  dsimp only
  have kp : ∀ b o, h₁.get? b = some o → (h₁.push { cls := .type "list", data := .seq (List.toArray [.int 32768 t1, .int 16384 t2, .int 40960 t3, .int 49152 t4]) }).get? b = some o := fun b o e => Heap.get?_push_of_some _ e
  have hl : (h₁.push { cls := .type "list", data := .seq (List.toArray [.int 32768 t1, .int 16384 t2, .int 40960 t3, .int 49152 t4]) }).IsList h₁.objs.size (List.toArray [.int 32768 t1, .int 16384 t2, .int 40960 t3, .int 49152 t4]) := ⟨_, Heap.get?_push_size _ rfl, rfl, _, rfl⟩
  have hn₂ := hn.keeps kp
  refine wpAny_BinOp ?_
  refine ev_loc hn₂ rfl ?_
  refine wpAny_Constant_int ?_
  refine mod_int' (by decide) ?_
  have m0 : 0 ≤ x.fmod 4 := Int.fmod_nonneg_of_pos _ (by decide)
  have m1 : x.fmod 4 < 4 := Int.fmod_lt_of_pos _ (by decide)
  obtain ⟨ti, hi⟩ : ∃ ti, [Value.int 32768 t1, .int 16384 t2, .int 40960 t3, .int 49152 t4][(x.fmod 4).toNat]? = some (.int ([32768, 16384, 40960, 49152].getD (x.fmod 4).toNat 0) ti) := by
    have : (x.fmod 4).toNat < 4 := by omega
    generalize (x.fmod 4).toNat = k at this
    match k, this with
    | 0, _ => exact ⟨_, rfl⟩
    | 1, _ => exact ⟨_, rfl⟩
    | 2, _ => exact ⟨_, rfl⟩
    | 3, _ => exact ⟨_, rfl⟩
  refine item_litK hl m0 (by omega) hi ?_
  refine wpAny_BinOp ?_
  refine wpAny_BinOp ?_
  refine ev_loc hn₂ rfl ?_
  refine wpAny_Constant_int ?_
  refine floordiv_int (by decide) ?_ (.inl (PyProof.noPylong_small (by decide)))
  refine wpAny_Constant_int ?_
  refine mod_int' (by decide) ?_
  refine add_int ?_
  refine wpAny_items_cons ?_
  refine wpAny_BinOp ?_
  refine wpAny_BinOp ?_
  refine ev_loc hn₂ rfl ?_
  refine wpAny_Constant_int ?_
  refine floordiv_int (by decide) ?_ (.inl (PyProof.noPylong_small (by decide)))
  refine wpAny_BinOp ?_
  refine wpAny_Constant_int ?_
  refine wpAny_Constant_int ?_
  refine pow_int_small (by decide) (by decide) (by decide) ?_
  refine mod_int' (by decide) ?_
  refine wpAny_items_cons ?_
  refine wpAny_BinOp ?_
  refine wpAny_BinOp ?_
  refine ev_loc hn₂ rfl ?_
  refine wpAny_BinOp ?_
  refine wpAny_Constant_int ?_
  refine wpAny_Constant_int ?_
  refine pow_int_small (by decide) (by decide) (by decide) ?_
  refine floordiv_int (by decide) ?_ (.inl (PyProof.noPylong_of_log2 (by decide +kernel)))
  refine wpAny_BinOp ?_
  refine wpAny_Constant_int ?_
  refine wpAny_Constant_int ?_
  refine pow_int_small (by decide) (by decide) (by decide) ?_
  refine mod_int' (by decide) ?_
  refine wpAny_items_nil ⟨by simp [sizeLine_eq], ?_⟩
  dsimp only
  refine h _ _ _ _ (fun b o e => Heap.get?_push_of_some _ (kp b o (hk b o e))) ?_ ⟨_, Heap.get?_push_size _ rfl, rfl, _, rfl⟩ (.cons _ _ (.cons _ _ (.cons _ _ .nil)))
  cases e : s.heap.get? _ with
  | none => rfl
  | some o => exact absurd (Heap.lt_size (kp _ o (hk _ o e))) (Nat.lt_irrefl _)
end
end Mine
/-! part C2 -/
namespace Mine
open PySem PySem.W PySem.Calls PyProof.Rows
open Sem (wp)

theorem turn2_in (elt iter target target2 iter2 : Expr) (scope : Scope) (pos : Pos) (it acc : Value) (env : Env) :
    compTurn (.ListComp elt [⟨target, iter, [], 0⟩, ⟨target2, iter2, [], 0⟩] scope pos) 1 it acc env = (standAt iter2.pos >>= fun _ => pyNext it >>= fun r => match r with
      | none => pure (.done .next)
      | some v => letOwnedTupleGo target2 it v >>= fun _ => assign target2 env v >>= fun _ =>
        (eval elt env >>= fun x => call (.builtin "list.append") [acc, x] >>= fun _ => pure ()) >>= fun _ =>
          again (.compLoop (.ListComp elt [⟨target, iter, [], 0⟩, ⟨target2, iter2, [], 0⟩] scope pos) 1 it acc env)) := by rfl
theorem turn2_out (elt iter target target2 iter2 : Expr) (scope : Scope) (pos : Pos) (it acc : Value) (env : Env) :
    compTurn (.ListComp elt [⟨target, iter, [], 0⟩, ⟨target2, iter2, [], 0⟩] scope pos) 0 it acc env = (standAt iter.pos >>= fun _ => pyNext it >>= fun r => match r with
      | none => pure (.done .next)
      | some v => letOwnedTupleGo target it v >>= fun _ => assign target env v >>= fun _ =>
        eval iter2 env >>= fun x => standAt iter2.pos >>= fun _ => foldedSetIterable iter2 env x >>= fun x => holding [x] (pyIter x) >>= fun it2 =>
          runOwn (.compStart (.ListComp elt [⟨target, iter, [], 0⟩, ⟨target2, iter2, [], 0⟩] scope pos) 1 it2 acc env) env >>= fun _ =>
          again (.compLoop (.ListComp elt [⟨target, iter, [], 0⟩, ⟨target2, iter2, [], 0⟩] scope pos) 0 it acc env)) := by rfl

section
variable {prog : Program} {w : World} {A : Around} {E : Value → Shared → Prop} {s : Shared} {env : Env}

/-- the inner clause: a range of `m` -/
theorem inner2 {elt iter target iter2 : Expr} {x1 x2 : Str} {px2 : Pos} {scope : Scope} {pos : Pos} {I D : Addr} {m : Nat} {v1 : Value} {cenv : Env} {m₀ : Str → Option Value} {R : Result → Shared → Prop} {ys₀ : List Value} (F : Nat → Value → Prop)
    (hh : A.handled = none) (hx : cenv.kindOf x2 = some .local) (hk : cenv.scope.kind = .function) (h12 : x1 ≠ x2) (hDC : D ≠ cenv.locals) (hDI : D ≠ I) (hCI : cenv.locals ≠ I)
    (hst : IsRangeIter s.heap I 0 m 1) (hacc : s.heap.PlainList D ys₀.toArray) (hn : s.heap.Ns cenv.locals m₀) (hv1 : m₀ x1 = some v1)
    (helt : ∀ k t s₂ m₂, k < m → s₂.heap.Ns cenv.locals m₂ → m₂ x1 = some v1 → m₂ x2 = some (.int k t) → (∀ b o, b ≠ cenv.locals → b ≠ I → b ≠ D → s.heap.get? b = some o → s₂.heap.get? b = some o) →
      ∀ E' : Value → Shared → Prop, wpAny (model prog w) A (eval elt cenv) (fun y s₃ => F k y ∧ Keeps s₂ s₃) E' s₂)
    (hR : ∀ h' tk m' (ys : List Value), h'.Ns cenv.locals m' → m' x1 = some v1 → h'.PlainList D (ys₀ ++ ys).toArray → ys.length = m → (∀ j y, ys[j]? = some y → F j y) →
      (∀ b o, b ≠ cenv.locals → b ≠ I → b ≠ D → s.heap.get? b = some o → h'.get? b = some o) → R (.ok .next) { s with heap := h', toks := tk })
    (hsz : ys₀.length + m ≤ sizeLine) :
    codeAny (model prog w) A (.compLoop (.ListComp elt [⟨target, iter, [], 0⟩, ⟨.Name x2 px2, iter2, [], 0⟩] scope pos) 1 (.ref I) (.ref D) cenv) R s := by
  have hp : (cenv.scope.kind == .class || (cenv.scope.kind == .module && cenv.locals != cenv.globals)) = false := by rw [hk]; rfl
  have W := Walks.range (prog := prog) (w := w) hh I 0 1 m
  refine codeAny_loop rfl
    (fun k s' => ∃ h' tk m', ∃ ys : List Value, s' = { s with heap := h', toks := tk } ∧ IsRangeIter h' I (0 + (ys.length : Nat) * 1) ((m : Int) - (ys.length : Nat)) 1 ∧ h'.PlainList D (ys₀ ++ ys).toArray ∧ h'.Ns cenv.locals m' ∧ m' x1 = some v1 ∧ (∀ j y, ys[j]? = some y → F j y) ∧
      ys.length ≤ m ∧ k = m + 1 - ys.length ∧ (∀ b o, b ≠ cenv.locals → b ≠ I → b ≠ D → s.heap.get? b = some o → h'.get? b = some o)) ?_ (m + 1)
    ⟨s.heap, s.toks, m₀, [], rfl, by simpa using hst, by simpa using hacc, hn, hv1, by simp, Nat.zero_le _, rfl, fun _ _ _ _ _ e => e⟩
  rintro k s' ⟨H, tk, m', ys, rfl, hst', hacc', hn', hv1', hF, hi, rfl, hk'⟩
  show wpAny _ A ((compTurn (.ListComp elt [⟨target, iter, [], 0⟩, ⟨.Name x2 px2, iter2, [], 0⟩] scope pos) 1 (.ref I) (.ref D) cenv).onRaise (fun x => do noteFrame x cenv; theTreesLotGoes x)) _ _ _
  refine wpAny_onRaise ?_
  rw [turn2_in]
  refine wpAny_bind (wpAny_standAt (wpAny_bind ?_))
  by_cases hlt : ys.length < m
  · refine W.item ys.length _ _ _ hlt hst' fun v h₁ tk₁ hPv hst₁ hk₁ => ?_
    obtain ⟨tv, rfl⟩ := hPv
    dsimp only
    rw [show (0 + (ys.length : Int) * 1) = (ys.length : Int) by omega]
    refine wpAny_bind (wpAny_pure (wpAny_bind (wpAny_assign_Name (wpAny_storeName_local hx (hn'.at' fun o e => hk₁ _ o (by simpa using hCI) e) (fun h₂ hn₂ hs₂ => ?_) hp))))
    have up₂ : ∀ b o, b ≠ cenv.locals → b ≠ I → H.get? b = some o → h₂.get? b = some o := fun b o hbC hbf e => hs₂.extBut b o hbC (hk₁ b o (by simpa using hbf) e)
    have hst₂ : IsRangeIter h₂ I (0 + ((ys.length + 1 : Nat) : Int) * 1) ((m : Int) - ((ys.length + 1 : Nat) : Int)) 1 := hs₂.extBut _ _ (Ne.symm hCI) hst₁
    refine wpAny_bind (wpAny_bind (wpAny_mono (helt ys.length tv _ _ hlt hn₂ (by simp [h12, hv1']) (by simp) (fun b o hbC hbf hbD e => up₂ b o hbC hbf (hk' b o hbC hbf hbD e)) _) (fun y s₄ h₄ => ?_) fun _ _ x => x))
    obtain ⟨hFy, h₄, tk₄, rfl, hk₄⟩ := h₄
    have hacc₄ : h₄.PlainList D (ys₀ ++ ys).toArray := hacc'.at fun o e => hk₄ _ o (up₂ D o hDC hDI e)
    refine wpAny_bind (wpAny_list_append_plain (hsz := by simp; omega) hacc₄ fun h₅ hl₅ hs₅ => wpAny_pure (wpAny_pure ⟨rfl, ?_⟩))
    refine ⟨m + 1 - (ys.length + 1), by omega, h₅, tk₄, _, ys ++ [y], rfl, ?_, by simpa [List.append_assoc] using hl₅, (hn₂.keeps hk₄).sameBut hs₅ (Ne.symm hDC), by simp [h12, hv1'], ?_, by simp; omega, by simp, fun b o hbC hbf hbD e => hs₅.extBut b o hbD (hk₄ b o (up₂ b o hbC hbf (hk' b o hbC hbf hbD e)))⟩
    · have := hs₅.extBut _ _ (Ne.symm hDI) (hk₄ _ _ hst₂)
      simpa using this
    · intro j z hj
      rcases Nat.lt_trichotomy j ys.length with h | h | h
      · exact hF j z (by rwa [List.getElem?_append_left h] at hj)
      · subst h; simp at hj; subst hj; exact hFy
      · rw [List.getElem?_eq_none (by simp; omega)] at hj; cases hj
  · have hin : ys.length = m := by omega
    refine W.done _ _ _ (hin ▸ hst') fun h₁ tk₁ hk₁ => ?_
    dsimp only
    refine wpAny_pure ?_
    exact hR h₁ tk₁ m' ys (hn'.at' fun o e => hk₁ _ o (by simpa using hCI) e) hv1' (hacc'.at fun o e => hk₁ _ o (by simpa using hDI) e) hin hF fun b o hbC hbf hbD e => hk₁ b o (by simpa using hbf) (hk' b o hbC hbf hbD e)
end
end Mine
/-! part C3 -/
namespace Mine
open PySem PySem.W PySem.Calls PyProof.Rows
open Sem (wp)

section
variable {prog : Program} {w : World} {A : Around} {E : Value → Shared → Prop} {s : Shared} {env : Env}

theorem comp2 {elt iter1 iter2 : Expr} {x1 x2 : Str} {px1 px2 : Pos} {scope : Scope} {cl : List (Str × Addr)} {pos : Pos} {Q : Value → Shared → Prop} (F : Nat → Nat → Value → Prop) (m : Nat) (hh : A.handled = none)
    (hclos : closureFor scope env = pure cl) (hcell : ∀ y ∈ scope.names, y.2 ≠ .cell) (hkind : scope.kind = .function)
    (hnames : ∀ y ∈ scope.names, y.2 = .local → scope.names.lookup y.1 = some .local) (hx1 : scope.names.lookup x1 = some .local) (hx2 : scope.names.lookup x2 = some .local) (h12 : x1 ≠ x2)
    (h : wpAny (model prog w) A (eval iter1 env) (fun xv s₁ => wpAny (model prog w) A (pyIter xv) (fun it s₂ => ∃ I fp wr n P St, it = .ref I ∧ Walks prog w A I fp wr n P St ∧ n * m ≤ sizeLine ∧ St 0 s₂.heap ∧ (∀ b ∈ fp, b < s₂.heap.objs.size) ∧
      (∀ C i v s₃ m₃ (E' : Value → Shared → Prop), s₂.heap.objs.size ≤ C → i < n → P i v → s₃.heap.Ns C m₃ → m₃ x1 = some v → (∀ b o, b ∉ wr → s₂.heap.get? b = some o → s₃.heap.get? b = some o) →
        wpAny (model prog w) A (eval iter2 (compEnvC scope cl C env)) (fun xv2 s₄ => wpAny (model prog w) A (pyIter xv2) (fun it2 s₅ => ∃ I2, it2 = .ref I2 ∧ Keeps s₃ s₅ ∧ s₃.heap.get? I2 = none ∧ IsRangeIter s₅.heap I2 0 m 1) E' s₄) E' s₃) ∧
      (∀ C i v k t s₃ m₃ (E' : Value → Shared → Prop), s₂.heap.objs.size ≤ C → i < n → P i v → k < m → s₃.heap.Ns C m₃ → m₃ x1 = some v → m₃ x2 = some (.int (k : Nat) t) → (∀ b o, b ∉ wr → s₂.heap.get? b = some o → s₃.heap.get? b = some o) →
        wpAny (model prog w) A (eval elt (compEnvC scope cl C env)) (fun y s₄ => F i k y ∧ Keeps s₃ s₄) E' s₃) ∧
      (∀ D h' tk (ys : List Value), s₂.heap.get? D = none → h'.IsList D ys.toArray → ys.length = n * m → (∀ i k y, i < n → k < m → ys[i * m + k]? = some y → F i k y) →
        (∀ b o, b ∉ wr → s₂.heap.get? b = some o → h'.get? b = some o) → Q (.ref D) { s₂ with heap := h', toks := tk })) E s₁) E s)
    (hs : ∀ x, foldedSetIterable iter1 env x = pure x := by intro _; rfl) (hs2 : ∀ C x, foldedSetIterable iter2 (compEnvC scope cl C env) x = pure x := by intro _ _; rfl) :
    wpAny (model prog w) A (eval (.ListComp elt [⟨.Name x1 px1, iter1, [], 0⟩, ⟨.Name x2 px2, iter2, [], 0⟩] scope pos) env) Q E s := by
  rw [eval_ListComp]
  refine wpAny_comprehension_free (use := none) rfl hs hclos hkind hnames (wpAny_mono h (fun xv s₁ h₁ => wpAny_mono h₁ (fun it s₂ h₂ => ?_) fun _ _ e => e) fun _ _ e => e)
  obtain ⟨I, fp, wr, n, P, St, rfl, W, hsz, hst, hfp, hin, helt, hQ⟩ := h₂
  refine wpAny_newObj_type (wpAny_newFunctionEnv hcell (by intro y hy; simp at hy) (fun h₁ hns₁ hsb₁ => ?_) hkind)
  dsimp only at hns₁ hsb₁ ⊢
  generalize hH2 : s₂.heap.push { cls := .type "list", dict := none, data := .seq ([] : List Value).toArray } = H2 at hns₁ hsb₁ ⊢
  have hC : H2.objs.size = s₂.heap.objs.size + 1 := by rw [← hH2, Heap.size_push]
  have hDC : s₂.heap.objs.size ≠ H2.objs.size := by rw [hC]; exact Nat.ne_of_lt (Nat.lt_succ_self _)
  have hCle : s₂.heap.objs.size ≤ H2.objs.size := by rw [hC]; exact Nat.le_succ _
  have below : ∀ b, b < s₂.heap.objs.size → b ≠ H2.objs.size ∧ b ≠ s₂.heap.objs.size := fun b hb => ⟨by rw [hC]; exact Nat.ne_of_lt (Nat.lt_succ_of_lt hb), Nat.ne_of_lt hb⟩
  have hDf : s₂.heap.objs.size ∉ fp := fun hm => Nat.lt_irrefl _ (hfp _ hm)
  have hCf : H2.objs.size ∉ fp := fun hm => by have := hfp _ hm; rw [hC] at this; exact Nat.lt_irrefl _ (Nat.lt_of_succ_lt this)
  have hDw : s₂.heap.objs.size ∉ wr := fun hm => hDf (W.sub _ hm)
  have hCw : H2.objs.size ∉ wr := fun hm => hCf (W.sub _ hm)
  have old : ∀ b o, s₂.heap.get? b = some o → h₁.get? b = some o := fun b o e => hsb₁.extBut b o (below b (Heap.lt_size e)).1 (Heap.get?_push_of_some _ (hH2 ▸ Heap.get?_push_of_some _ e))
  have hacc : h₁.PlainList s₂.heap.objs.size #[] := ⟨_, hsb₁.extBut _ _ hDC (Heap.get?_push_of_some _ (hH2 ▸ Heap.get?_push_size _ rfl))⟩
  have hst₁ : St 0 h₁ := W.frame _ _ _ hst fun b _ o e => old b o e
  have fresh : ∀ a, s₂.heap.objs.size ≤ a → s₂.heap.get? a = none := fun a ha => Heap.get?_none_of_le ha
  have kC1 : (compEnvC scope cl H2.objs.size env).kindOf x1 = some .local := lookup_relabel_local hx1
  have kC2 : (compEnvC scope cl H2.objs.size env).kindOf x2 = some .local := lookup_relabel_local hx2
  have kF : (compEnvC scope cl H2.objs.size env).scope.kind = .function := by simp [compEnvC, relabel, hkind]
  have hp : ((compEnvC scope cl H2.objs.size env).scope.kind == .class || ((compEnvC scope cl H2.objs.size env).scope.kind == .module && (compEnvC scope cl H2.objs.size env).locals != (compEnvC scope cl H2.objs.size env).globals)) = false := by rw [kF]; rfl
  have loop : codeAny (model prog w) A (.compLoop (.ListComp elt [⟨.Name x1 px1, iter1, [], 0⟩, ⟨.Name x2 px2, iter2, [], 0⟩] scope pos) 0 (.ref I) (.ref s₂.heap.objs.size) (compEnvC scope cl H2.objs.size env))
        (compPost (model prog w) A E none Q (.ref s₂.heap.objs.size) H2.objs.size) { s₂ with heap := h₁, toks := s₂.toks + ([] : List (Str × Value)).length } := by
    refine codeAny_loop rfl
      (fun k s' => ∃ i h' tk m', ∃ ys : List Value, s' = { s₂ with heap := h', toks := tk } ∧ St i h' ∧ h'.PlainList s₂.heap.objs.size ys.toArray ∧ h'.Ns H2.objs.size m' ∧ ys.length = i * m ∧ (∀ i' k y, i' < i → k < m → ys[i' * m + k]? = some y → F i' k y) ∧
        i ≤ n ∧ k = n + 1 - i ∧ (∀ b o, b ∉ wr → s₂.heap.get? b = some o → h'.get? b = some o)) ?_ (n + 1)
      ⟨0, h₁, _, _, [], rfl, hst₁, hacc, hns₁, by simp, by simp, Nat.zero_le _, rfl, fun b o _ e => old b o e⟩
    rintro k s' ⟨i, H, tk, m', ys, rfl, hst', hacc', hn', hlen, hF, hi, rfl, hk'⟩
    show wpAny _ A ((compTurn (.ListComp elt [⟨.Name x1 px1, iter1, [], 0⟩, ⟨.Name x2 px2, iter2, [], 0⟩] scope pos) 0 (.ref I) (.ref s₂.heap.objs.size) (compEnvC scope cl H2.objs.size env)).onRaise (fun x => do noteFrame x (compEnvC scope cl H2.objs.size env); theTreesLotGoes x)) _ _ _
    refine wpAny_onRaise ?_
    rw [turn2_out]
    refine wpAny_bind (wpAny_standAt (wpAny_bind ?_))
    by_cases hlt : i < n
    · refine W.item i _ _ _ hlt hst' fun v h₂ tk₂ hPv hst₂ hk₂ => ?_
      dsimp only
      refine wpAny_bind (wpAny_pure (wpAny_bind (wpAny_assign_Name (wpAny_storeName_local kC1 (hn'.at' fun o e => hk₂ _ o hCw e) (fun h₃ hn₃ hs₃ => ?_) hp))))
      have hs₃' : Heap.SameBut H2.objs.size h₂ h₃ := hs₃
      have hn₃' : h₃.Ns H2.objs.size (fun x => if x = x1 then some v else m' x) := hn₃
      have up₃ : ∀ b o, b ∉ wr → s₂.heap.get? b = some o → h₃.get? b = some o := fun b o hbf e => hs₃'.extBut b o (below b (Heap.lt_size e)).1 (hk₂ b o hbf (hk' b o hbf e))
      have hst₃ : St (i + 1) h₃ := W.frame _ _ _ hst₂ fun b hb o e => hs₃'.extBut b o (fun q => hCf (q ▸ hb)) e
      have hacc₃ : h₃.PlainList s₂.heap.objs.size ys.toArray := hacc'.at fun o e => hs₃'.extBut _ o hDC (hk₂ _ o hDw e)
      refine wpAny_bind (wpAny_mono (hin _ i v { s₂ with heap := h₃, toks := tk₂ + 1 } _ _ hCle hlt hPv hn₃' (by simp) up₃) (fun xv2 s₄ h₄ => ?_) fun _ _ x => x)
      refine wpAny_bind (wpAny_standAt (wpAny_bind (wpAny_of_eq (hs2 _ xv2) (wpAny_bind (wpAny_holding (wpAny_mono h₄ (fun it2 s₅ h₅ => ?_) fun _ _ x => x))))))
      obtain ⟨I2, rfl, ⟨h₅, tk₅, rfl, hk₅⟩, hI2, hit2⟩ := h₅
      have hk₅' : ∀ b o, h₃.get? b = some o → h₅.get? b = some o := hk₅
      have hI2' : h₃.get? I2 = none := hI2
      have hDI2 : s₂.heap.objs.size ≠ I2 := by rintro rfl; obtain ⟨_, ho⟩ := hacc₃; rw [hI2'] at ho; cases ho
      have hCI2 : H2.objs.size ≠ I2 := by rintro rfl; obtain ⟨_, _, _, ho, _⟩ := hn₃'; rw [hI2'] at ho; cases ho
      have W2 := Walks.range (prog := prog) (w := w) hh I2 0 1 m
      have nk : n * m = i * m + m + (n - (i + 1)) * m := by
        obtain ⟨q, rfl⟩ : ∃ q, n = i + 1 + q := ⟨n - (i + 1), by omega⟩
        rw [show i + 1 + q - (i + 1) = q by omega, Nat.add_mul, Nat.add_mul, Nat.one_mul]
      refine wpAny_bind (wpAny_runOwn (h := none) ?_)
      rw [Around.mark_none]
      have inl := inner2 (prog := prog) (w := w) (A := A) (elt := elt) (iter := iter1) (target := .Name x1 px1) (iter2 := iter2) (x1 := x1) (x2 := x2) (px2 := px2) (scope := scope) (pos := pos) (s := { s₂ with heap := h₅, toks := tk₅ }) (I := I2) (D := s₂.heap.objs.size) (m := m) (v1 := v) (cenv := compEnvC scope cl H2.objs.size env)
        (R := fun r s' => r = .ok .next ∧ ∃ h' tk m'' ys', s' = { s₂ with heap := h', toks := tk } ∧ h'.Ns H2.objs.size m'' ∧ h'.PlainList s₂.heap.objs.size (ys ++ ys').toArray ∧ ys'.length = m ∧ (∀ j y, ys'[j]? = some y → F i j y) ∧ (∀ b o, b ≠ H2.objs.size → b ≠ I2 → b ≠ s₂.heap.objs.size → h₅.get? b = some o → h'.get? b = some o))
        (F i) hh kC2 kF h12 hDC hDI2 hCI2 hit2 (hacc₃.at fun o e => hk₅' _ o e) (hn₃'.keeps hk₅') (by simp)
        (fun k t s₆ m₆ hk₆ hn₆ h61 h62 hk6 E' => helt _ i v k t s₆ m₆ E' hCle hlt hPv hk₆ hn₆ h61 h62 fun b o hbf e => hk6 b o (below b (Heap.lt_size e)).1 (by rintro rfl; rw [up₃ _ o hbf e] at hI2'; cases hI2') (below b (Heap.lt_size e)).2 (hk₅' b o (up₃ b o hbf e)))
        (fun h' tk m'' ys' q1 q2 q3 q4 q5 q6 => ⟨rfl, h', tk, m'', ys', rfl, q1, q3, q4, q5, q6⟩) (by rw [hlen]; omega)
      refine codeAny_mono (R := fun r s' => r = .ok .next ∧ ∃ h' tk m'' ys', s' = { s₂ with heap := h', toks := tk } ∧ h'.Ns H2.objs.size m'' ∧ h'.PlainList s₂.heap.objs.size (ys ++ ys').toArray ∧ ys'.length = m ∧ (∀ j y, ys'[j]? = some y → F i j y) ∧ (∀ b o, b ≠ H2.objs.size → b ≠ I2 → b ≠ s₂.heap.objs.size → h₅.get? b = some o → h'.get? b = some o)) ?_ ?_
      · refine codeAny_of_tree ?_
        show wpAny _ A ((compStart (.ListComp elt [⟨.Name x1 px1, iter1, [], 0⟩, ⟨.Name x2 px2, iter2, [], 0⟩] scope pos) 1 (.ref I2) (.ref s₂.heap.objs.size) (compEnvC scope cl H2.objs.size env)).onRaise (fun x => do noteFrame x (compEnvC scope cl H2.objs.size env); standAt theWindowsPlace)) _ _ _
        refine wpAny_onRaise ?_
        unfold compStart
        show wpAny _ A (ask >>= _) _ _ _
        refine wpAny_bind (wpAny_askSetting ?_)
        dsimp only
        split
        · exact wpAny_pure ⟨rfl, inl⟩
        · refine wpAny_bind (wpAny_rule ?_)
          show wpAny _ A (standAt iter2.pos >>= _) _ _ _
          exact wpAny_bind (wpAny_standAt (wpAny_bind (W2.self 0 _ _ _ (by simpa using hit2) (wpAny_pure ⟨rfl, inl⟩))))
      · rintro r s' ⟨rfl, h₆, tk₆, m₆, ys', rfl, hn₆, hacc₆, hlen₆, hF₆, hk₆⟩
        dsimp only
        refine wpAny_pure ⟨rfl, n + 1 - (i + 1), by omega, i + 1, h₆, tk₆, m₆, ys ++ ys', rfl, ?_, hacc₆, hn₆, ?_, ?_, hlt, rfl, ?_⟩
        · exact W.frame _ _ _ hst₃ fun b hb o e => hk₆ b o (fun q => hCf (q ▸ hb)) (by rintro rfl; rw [e] at hI2'; cases hI2') (fun q => hDf (q ▸ hb)) (hk₅' b o e)
        · rw [List.length_append, hlen, hlen₆, Nat.add_mul, Nat.one_mul]
        · intro i' k' y hi' hk2 hy
          by_cases hii : i' < i
          · refine hF i' k' y hii hk2 ?_
            have : i' * m + k' < ys.length := by
              rw [hlen]
              calc i' * m + k' < i' * m + m := by omega
                _ = (i' + 1) * m := by rw [Nat.add_mul, Nat.one_mul]
                _ ≤ i * m := Nat.mul_le_mul_right _ hii
            rwa [List.getElem?_append_left this] at hy
          · obtain rfl : i' = i := by omega
            rw [List.getElem?_append_right (by rw [hlen]; omega), hlen, show i' * m + k' - i' * m = k' by omega] at hy
            exact hF₆ k' y hy
        · intro b o hbf e
          exact hk₆ b o (below b (Heap.lt_size e)).1 (by rintro rfl; rw [up₃ _ o hbf e] at hI2'; cases hI2') (below b (Heap.lt_size e)).2 (hk₅' b o (up₃ b o hbf e))
    · obtain rfl : i = n := by omega
      refine W.done _ _ _ hst' fun h₂ tk₂ hk₂ => ?_
      dsimp only
      refine wpAny_pure ?_
      refine ⟨m', hn'.at' fun o e => hk₂ _ o hCw e, fun h'' hs'' => ?_⟩
      have hl : h₂.IsList s₂.heap.objs.size ys.toArray := (hacc'.at fun o e => hk₂ _ o hDw e).isList
      exact hQ _ h'' _ ys (fresh _ (Nat.le_refl _)) (hl.extBut hs''.extBut hDC) hlen (fun i' k' y a b c => hF i' k' y a b c) fun b o hbf e => hs''.extBut b o (below b (Heap.lt_size e)).1 (hk₂ b o hbf (hk' b o hbf e))
  exact codeAny_compStart_list loop (W.self 0 _ _ _ hst₁ loop)
end
end Mine
/-! part D1 -/
namespace Mine
open PySem PySem.W PySem.Calls PyProof.Rows
open Sem (wp)

/-! ## calls of defs with cells -/
section
variable {prog : Program} {w : World} {A : Around} {E : Value → Shared → Prop} {s : Shared} {env : Env}

theorem call_defC {f : Addr} {name : Str} {n : Nat} {args : List Value} {binds : List (Str × Value)} {Q : Value → Shared → Prop} (hf : FnAt s.heap f name n) (hlim : s.heap.NoLimit) (hroom : A.depth < recursionLimit)
    (hbind : ∀ doc pm an cdv ct, bindArgs (fnOf name name (defParams n) (defBody n) (defScope n) .none .none doc pm an cdv ct) ⟨args, []⟩ = pure binds)
    (h : ∀ h₁ cdv tk, h₁.Ns s.heap.objs.size (bindL (envOfC name (defScope n) s.heap.objs.size f cdv).kindOf binds fun _ => none) →
      (∀ k c, (cellsFrom (s.heap.objs.size + 1) (defScope n).names []).lookup k = some c → h₁.IsCell c (bindC (envOfC name (defScope n) s.heap.objs.size f cdv).kindOf binds (fun _ => none) k)) → s.heap.StaysIn h₁ →
      wpAny (model prog w) (A.deeper (envOfC name (defScope n) s.heap.objs.size f cdv)) (execs (defBody n) (envOfC name (defScope n) s.heap.objs.size f cdv))
        (fun fl s' => Q (match fl with | .ret v => v | _ => .none) s') (fun _ _ => False) { s with heap := h₁, toks := tk })
    (hkind : ∀ x ∈ binds, (defScope n).names.lookup x.1 = some .local ∨ ((defScope n).names.lookup x.1 = some .cell ∧ ((cellsFrom (s.heap.objs.size + 1) (defScope n).names []).lookup x.1).isSome = true))
    (hco : (defScope n).isCoroutine = false := by rfl) (hgen : (defScope n).isGenerator = false := by rfl) (hk : (defScope n).kind = .function := by rfl) :
    wpAny (model prog w) A (call (.ref f) args) Q E s := by
  obtain ⟨o, doc, pm, an, cdv, ct, a, b, c⟩ := hf
  refine wpAny_call (codeAny_call_cells hroom a b hlim c rfl (hbind _ _ _ _ _) rfl hkind (fun s₁ X => ?_) hco hgen hk)
  obtain ⟨h₁, tk, rfl, _⟩ := X.done
  exact wpAny_mono (h h₁ cdv tk X.toInCall.ns X.cell X.toInCall.keep) (fun _ _ x => x) fun _ _ x => x.elim

theorem ev_cell {x : Str} {pos : Pos} {c : Addr} {v : Value} {Q : Value → Shared → Prop} (hv : s.heap.IsCell c (some v)) (h : Q v s)
    (hc : env.cells.lookup x = some c := by rfl) (hk : env.scope.kind = .function := by rfl) (hx : env.kindOf x = some .cell := by rfl)
    (hd : (x == ("__debug__" : Str)) = false := by decide) : wpAny (model prog w) A (eval (.Name x pos) env) Q E s :=
  wpAny_Name (wpAny_loadName_cell hk hx hc hv h) hd
theorem ev_free {x : Str} {pos : Pos} {c : Addr} {v : Value} {Q : Value → Shared → Prop} (hv : s.heap.IsCell c (some v)) (h : Q v s)
    (hc : env.cells.lookup x = some c := by rfl) (hk : env.scope.kind = .function := by rfl) (hx : env.kindOf x = some .free := by rfl)
    (hd : (x == ("__debug__" : Str)) = false := by decide) (hn : (x == ("__classdict__" : Str)) = false := by decide) : wpAny (model prog w) A (eval (.Name x pos) env) Q E s :=
  wpAny_Name (wpAny_loadName_free hk hx hc hv h hn) hd
end

/-! ## lists of records -/
theorem intsAre_get : ∀ {vs : List Value} {ns : List Int}, IntsAre vs ns → ∀ (i : Nat) (n : Int), ns[i]? = some n → ∃ t, vs[i]? = some (.int n t)
  | _, _, .nil, i, n, h => by simp at h
  | _, _, .cons n t r, 0, m, h => by simp at h; subst h; exact ⟨t, rfl⟩
  | _, _, .cons n t r, i + 1, m, h => by simpa using intsAre_get r i m (by simpa using h)
theorem intsAre_len : ∀ {vs : List Value} {ns : List Int}, IntsAre vs ns → vs.length = ns.length
  | _, _, .nil => rfl
  | _, _, .cons n t r => by simp [intsAre_len r]
theorem intsAre_make : ∀ (vs : List Value) (ns : List Int), vs.length = ns.length → (∀ (i : Nat) v n, vs[i]? = some v → ns[i]? = some n → ∃ t, v = .int n t) → IntsAre vs ns
  | [], [], _, _ => .nil
  | [], _ :: _, h, _ => by simp at h
  | _ :: _, [], h, _ => by simp at h
  | v :: vs, n :: ns, h, hg => by
    obtain ⟨t, rfl⟩ := hg 0 v n rfl rfl
    exact .cons n t (intsAre_make vs ns (by simpa using h) fun i v n a b => hg (i + 1) v n (by simpa using a) (by simpa using b))

/-- a list of lists of numbers -/
def RowsAt (h : Heap) (l : Addr) (rs : List (List Int)) : Prop :=
  ∃ as : List Value, h.IsList l as.toArray ∧ as.length = rs.length ∧ ∀ (i : Nat) r, rs[i]? = some r → ∃ T vs, as[i]? = some (.ref T) ∧ h.IsList T (List.toArray vs) ∧ IntsAre vs r
theorem RowsAt.keeps {h h' : Heap} {l : Addr} {rs : List (List Int)} (x : RowsAt h l rs) (k : h.StaysIn h') : RowsAt h' l rs :=
  let ⟨as, a, b, c⟩ := x
  ⟨as, a.at fun o e => k _ o e, b, fun i r e => let ⟨T, vs, p, q, t⟩ := c i r e; ⟨T, vs, p, q.at fun o e => k _ o e, t⟩⟩

def wdN (j : Nat) : Nat := [2, 3, 5].getD j 0
def fieldN (x : Int) (j : Nat) : Int := (fieldsOf' x).getD j 0
def colInt (xs : List Int) (j : Nat) (high : Bool) (p : Nat) : Int :=
  ((fieldN (xs.getD (p / wdN j) 0) j).fdiv (256 ^ (if high then wdN j - 1 - p % wdN j else p % wdN j))).fmod 256
def colNs (xs : List Int) (j : Nat) (high : Bool) : List Int := (List.range (xs.length * wdN j)).map (colInt xs j high)
theorem colNs_bound (xs : List Int) (j : Nat) (high : Bool) : ∀ n ∈ colNs xs j high, 0 ≤ n ∧ n < 256 := by
  intro n hn
  obtain ⟨p, _, rfl⟩ := List.mem_map.mp hn
  exact ⟨Int.fmod_nonneg_of_pos _ (by decide), Int.fmod_lt_of_pos _ (by decide)⟩
end Mine
/-! part D2 -/
namespace Mine
open PySem PySem.W PySem.Calls PyProof.Rows
open Sem (wp)

section
variable {prog : Program} {w : World} {A : Around} {E : Value → Shared → Prop} {s : Shared}

theorem ltg {h : Heap} {b : Nat} {o : Obj} (e : h.get? b = some o) : @LT.lt Nat _ b h.objs.size := Heap.lt_size e
theorem item_int {value slice : Expr} {l : Addr} {vs : List Value} {k n : Int} {u : Tok} {Q : Value → Shared → Prop} (hl : s.heap.IsList l vs.toArray) (h0 : 0 ≤ k) (hhi : k < 2 ^ 63) (hx : ∃ t, vs[k.toNat]? = some (.int n t)) (h : ∀ t, Q (.int n t) s)
    (hs : subscripted slice false (.ref l) (.int k u) = operate [.ref l, .int k u] (getItem (.ref l) (.int k u)) := by with_unfolding_all rfl) :
    wpAny (model prog w) A (subscriptTail value slice (.ref l) (.int k u)) Q E s := by
  obtain ⟨t, hx⟩ := hx
  exact item_litK hl h0 hhi hx (h t) hs

theorem column_call {f fl : Addr} {xs : List Int} {j : Nat} {ji : Int} {tj : Tok} {high : Bool} {Q : Value → Shared → Prop} (hf : FnAt s.heap f "_law_column" 30) (hlim : s.heap.NoLimit) (R : Room 1 A)
    (g1 : GName s.heap "range" (.type "range")) (g2 : GName s.heap "bytes" (.type "bytes")) (hR : RowsAt s.heap fl (xs.map fieldsOf')) (hj : j < 3) (hji : ji = (j : Int)) (hxs : xs.length ≤ 100)
    (h : ∀ h' t tk, s.heap.StaysIn h' → Q (.bytes (byteArr (colNs xs j high)) t) { s with heap := h', toks := tk }) :
    wpAny (model prog w) A (call (.ref f) [.ref fl, .int ji tj, .bool high]) Q E s := by
  refine call_defC (binds := [("fields", .ref fl), ("j", .int ji tj), ("high", .bool high)]) hf hlim (by have := R.depth; omega) (fun _ _ _ _ _ => rfl) (fun h₁ cdv tk₁ hn hc hk => ?_)
    (by intro x hx; simp only [List.mem_cons, List.not_mem_nil, or_false] at hx; rcases hx with rfl | rfl | rfl; exact .inl rfl; exact .inr ⟨rfl, rfl⟩; exact .inr ⟨rfl, rfl⟩)
  have c1 : h₁.IsCell (s.heap.objs.size + 1) (some (.int ji tj)) := hc "j" _ rfl
  have c2 : h₁.IsCell (s.heap.objs.size + 1 + 1) (some (.bool high)) := hc "high" _ rfl
  have c3 : h₁.IsCell (s.heap.objs.size + 1 + 1 + 1) none := hc "wide" _ rfl
  have hh : A.handled = none := R.handled
  generalize hL : s.heap.objs.size = L at *
  refine wpAny_execs_cons ?_
  refine wpAny_Assign_Name ?_
  refine Subscript_ ?_
  refine wpAny_List ?_
  refine wpAny_items_cons ?_
  refine wpAny_Constant_int ?_
  refine wpAny_items_cons ?_
  refine wpAny_Constant_int ?_
  refine wpAny_items_cons ?_
  refine wpAny_Constant_int ?_
  refine wpAny_items_nil ⟨by simp [sizeLine_eq], ?_⟩
  dsimp only
  have kp : ∀ b o v, h₁.get? b = some o → (h₁.push v).get? b = some o := fun b o v e => Heap.get?_push_of_some _ e
  refine ev_cell (c1.keeps fun b o e => kp b o _ e) ?_
  have hw0 : 0 < wdN j ∧ wdN j ≤ 5 := by match j, hj with | 0, _ => decide | 1, _ => decide | 2, _ => decide
  obtain ⟨wi, hwi⟩ : ∃ wi : Int, wi = (wdN j : Int) := ⟨_, rfl⟩
  refine item_int (n := wi) ⟨_, Heap.get?_push_size _ rfl, rfl, _, rfl⟩ (by omega) (by omega) (by subst hji hwi; match j, hj with | 0, _ => exact ⟨_, rfl⟩ | 1, _ => exact ⟨_, rfl⟩ | 2, _ => exact ⟨_, rfl⟩) fun tw => ?_
  refine wpAny_storeName_cell rfl rfl (c := L + 1 + 1 + 1) (by rfl) (c3.keeps fun b o e => kp b o _ e) fun h₂ d3 hs₂ => ?_
  have k2 : ∀ b o, b ≠ L + 1 + 1 + 1 → h₁.get? b = some o → h₂.get? b = some o := fun b o hb e => hs₂.extBut b o hb (kp b o _ e)
  have d1 : h₂.IsCell (L + 1) (some (.int ji tj)) := let ⟨o, a, b⟩ := c1; ⟨o, k2 _ _ (by omega) a, b⟩
  have d2 : h₂.IsCell (L + 1 + 1) (some (.bool high)) := let ⟨o, a, b⟩ := c2; ⟨o, k2 _ _ (by omega) a, b⟩
  have ks : s.heap.StaysIn h₂ := fun b o e => k2 b o (by have := ltg e; rw [hL] at this; intro q; rw [q] at this; omega) (hk b o e)
  have hn₂ := hn.at' fun o e => k2 L o (by omega) e
  refine wpAny_execs_cons ?_
  refine wpAny_Return_some ?_
  refine ev_callT (g2.keeps ks) ?_
  refine spliced_more ?_
  obtain ⟨as, hl, hlen, has⟩ := hR.keeps ks
  refine comp2 (fun i k y => ∃ t, y = .int (colInt xs j high (i * wdN j + k)) t) (wdN j) hh rfl (by decide) rfl (by decide) rfl rfl (by decide) ?_
  refine ev_loc hn₂ rfl ?_
  refine wpAny_pyIter_list hl ?_
  have nf : fl ≠ h₂.objs.size := by obtain ⟨o, a, _⟩ := hl; exact Nat.ne_of_lt (Heap.lt_size a)
  have hl' : (h₂.push { cls := .type "list_iterator", data := .fields #[.ref fl, .int 0 0] }).IsList fl as.toArray := hl.at fun o e => Heap.get?_push_of_some _ e
  dsimp only
  refine ⟨h₂.objs.size, _, _, _, _, _, rfl, Walks.list (by exact hh) _ fl nf as.toArray, ?_, ⟨⟨_, Heap.get?_push_size _ rfl, rfl, rfl⟩, hl'⟩, ?_, ?_, ?_, ?_⟩
  · have : as.toArray.size * wdN j ≤ 100 * 5 := Nat.mul_le_mul (by simp [hlen]; omega) hw0.2
    simp only [sizeLine_eq]; omega
  · intro b hb
    simp only [List.mem_cons, List.not_mem_nil, or_false] at hb
    show b < (h₂.push _).objs.size
    rw [Heap.size_push]
    rcases hb with rfl | rfl
    · exact Nat.lt_succ_self _
    · obtain ⟨o, a, _⟩ := hl; exact Nat.lt_succ_of_lt (ltg a)
  · intro C i v s₃ m₃ E' hC hi hv hn₃ hm₃ hk₃
    have up : ∀ b o, b ≠ h₂.objs.size → h₂.get? b = some o → s₃.heap.get? b = some o := fun b o hb e => hk₃ b o (by simpa using hb) (Heap.get?_push_of_some _ e)
    have lt2 : ∀ b o, h₂.get? b = some o → s₃.heap.get? b = some o := fun b o e => up b o (Nat.ne_of_lt (Heap.lt_size e)) e
    refine ev_callT (g1.keeps fun b o e => lt2 b o (ks b o e)) ?_
    refine spliced_more ?_
    refine ev_cell (d3.keeps lt2) ?_
    refine spliced_none ?_
    refine call_range_1 ?_
    refine wpAny_pyIter_range (Heap.get?_push_size _ rfl) (small_one (by omega) (by omega) (by omega) (by omega)) ?_
    rw [rangeSize_one, if_pos (by omega), show (wi - 0) = (wdN j : Int) by omega]
    refine ⟨_, rfl, ⟨_, _, rfl, fun b o e => Heap.get?_push_of_some _ (Heap.get?_push_of_some _ e)⟩, ?_, Heap.get?_push_size _ rfl⟩
    exact Heap.get?_none_of_le (by dsimp only; rw [Heap.size_push]; omega)
  · intro C i v k t s₃ m₃ E' hC hi hv hkm hn₃ hm₁ hm₂ hk₃
    have up : ∀ b o, b ≠ h₂.objs.size → h₂.get? b = some o → s₃.heap.get? b = some o := fun b o hb e => hk₃ b o (by simpa using hb) (Heap.get?_push_of_some _ e)
    have lt2 : ∀ b o, h₂.get? b = some o → s₃.heap.get? b = some o := fun b o e => up b o (Nat.ne_of_lt (Heap.lt_size e)) e
    have hix : i < xs.length := by simpa [hlen] using hi
    obtain ⟨T, vs, hT, hTl, hTi⟩ := has i (fieldsOf' xs[i]) (by simp [hix])
    have hvT : v = .ref T := by
      have : as.toArray[i]? = some v := hv
      rw [List.getElem?_toArray, hT] at this
      exact (Option.some.inj this).symm
    subst hvT
    obtain ⟨ki, hki⟩ : ∃ ki : Int, ki = (k : Int) := ⟨_, rfl⟩
    rw [← hki] at hm₂
    refine wpAny_BinOp ?_
    refine wpAny_BinOp ?_
    refine Subscript_ ?_
    refine ev_loc hn₃ hm₁ ?_
    refine ev_cell (d1.keeps lt2) ?_
    refine item_int (n := fieldN xs[i] j) (hTl.at fun o e => lt2 _ o e) (by omega) (by omega) (intsAre_get hTi _ _ (by subst hji; simp only [Int.toNat_natCast, fieldN]; match j, hj with | 0, _ => rfl | 1, _ => rfl | 2, _ => rfl)) fun tf => ?_
    refine wpAny_BinOp ?_
    refine wpAny_Constant_int ?_
    refine wpAny_IfExp ?_
    refine isTrue_plain ?_
    refine ev_cell (d2.keeps lt2) ?_
    refine wpAny_truthy_bool ?_
    have hi0 : (i * wdN j + k) / wdN j = i := by rw [Nat.mul_comm, Nat.mul_add_div hw0.1, Nat.div_eq_of_lt hkm, Nat.add_zero]
    have hi1 : (i * wdN j + k) % wdN j = k := by rw [Nat.mul_comm, Nat.mul_add_mod, Nat.mod_eq_of_lt hkm]
    have hxi : xs.getD i 0 = xs[i] := by simp [hix]
    have fin : ∀ (t1 t2 : Tok) (e : Int) (s₄ : Shared), e = ((if high then wdN j - 1 - k else k : Nat) : Int) → Keeps s₃ s₄ →
        wpAny (model prog w) (A.deeper (envOfC "_law_column" (defScope 30) L f cdv)) (binaryOp .Pow (.int 256 t1) (.int e t2)) (fun pv s₅ => wpAny (model prog w) (A.deeper (envOfC "_law_column" (defScope 30) L f cdv)) (binaryOp .FloorDiv (.int (fieldN xs[i] j) tf) pv) (fun dv s₆ => ∀ t3 s₇, Keeps s₆ s₇ → wpAny (model prog w) (A.deeper (envOfC "_law_column" (defScope 30) L f cdv)) (binaryOp .Mod dv (.int 256 t3)) (fun y s₈ => (∃ t, y = .int (colInt xs j high (i * wdN j + k)) t) ∧ Keeps s₃ s₈) E' s₇) E' s₅) E' s₄ := by
      intro t1 t2 e s₄ he hk₄
      have he5 : e.toNat < 5 := by split at he <;> omega
      have hp : (256 ^ e.toNat : Int).natAbs.log2 < 9000 ∧ (256 : Int) ^ e.toNat ≠ 0 := by
        generalize e.toNat = q at he5
        match q, he5 with | 0, _ => decide +kernel | 1, _ => decide +kernel | 2, _ => decide +kernel | 3, _ => decide +kernel | 4, _ => decide +kernel
      refine pow_int_small (by omega) (by omega) (by decide) ?_
      refine floordiv_int hp.2 ?_ (.inl (PyProof.noPylong_of_log2 hp.1))
      intro t3 s₇ hk₇
      refine mod_int' (prog := prog) (w := w) (a := (fieldN xs[i] j).fdiv (256 ^ e.toNat)) (b := 256) (by decide) ?_
      refine ⟨⟨s₇.toks, ?_⟩, ?_⟩
      · congr 1
        unfold colInt
        rw [hi0, hi1, hxi, he, Int.toNat_natCast]
      · obtain ⟨a, b, rfl, c⟩ := hk₄
        obtain ⟨a', b', rfl, c'⟩ := hk₇
        exact ⟨a', _, rfl, fun p q r => c' p q (c p q r)⟩
    cases high
    · refine ev_loc hn₃ hm₂ ?_
      refine wpAny_mono (fin _ _ ki _ (by simpa using hki) ⟨_, _, rfl, fun _ _ r => r⟩) (fun pv s₅ h₅ => wpAny_mono h₅ (fun dv s₆ h₆ => ?_) fun _ _ x => x) fun _ _ x => x
      refine wpAny_Constant_int ?_
      exact h₆ _ _ ⟨_, _, rfl, fun _ _ r => r⟩
    · refine wpAny_BinOp ?_
      refine wpAny_BinOp ?_
      refine ev_cell (d3.keeps lt2) ?_
      refine wpAny_Constant_int ?_
      refine sub_int ?_
      refine ev_loc hn₃ hm₂ ?_
      refine sub_int ?_
      refine wpAny_mono (fin _ _ (wi - 1 - ki) _ (by simp; omega) ⟨_, _, rfl, fun _ _ r => r⟩) (fun pv s₅ h₅ => wpAny_mono h₅ (fun dv s₆ h₆ => ?_) fun _ _ x => x) fun _ _ x => x
      refine wpAny_Constant_int ?_
      exact h₆ _ _ ⟨_, _, rfl, fun _ _ r => r⟩
  · intro D h' tk ys hD hly hyl hyF hk'
    refine spliced_none ?_
    have hiy : IntsAre ys (colNs xs j high) := by
      refine intsAre_make _ _ (by simp [colNs, hyl, hlen]) fun p v n hv hn => ?_
      have hp : p < ys.length := by
        rcases Nat.lt_or_ge p ys.length with q | q
        · exact q
        · rw [List.getElem?_eq_none q] at hv; cases hv
      have hpn : p < xs.length * wdN j := by simpa [hyl, hlen] using hp
      have e : p / wdN j * wdN j + p % wdN j = p := by rw [Nat.mul_comm]; exact Nat.div_add_mod _ _
      obtain ⟨t, rfl⟩ := hyF (p / wdN j) (p % wdN j) v (by simp [hlen]; exact (Nat.div_lt_iff_lt_mul hw0.1).mpr hpn) (Nat.mod_lt _ hw0.1) (by rw [e]; exact hv)
      refine ⟨t, ?_⟩
      rw [e]
      simp [colNs, hpn] at hn
      rw [hn]
    refine call_bytes_ints hly hiy (colNs_bound _ _ _) (by have : xs.length * wdN j ≤ 100 * 5 := Nat.mul_le_mul hxs hw0.2
                                                           rw [hyl]; simp only [List.size_toArray, hlen, List.length_map, sizeLine_eq]; omega) (by exact hh) fun h₅ t₅ k₅ hk₅ => ?_
    dsimp only
    refine h _ _ _ fun b o e => hk₅ b o (hk' b o ?_ (Heap.get?_push_of_some _ (ks b o e)))
    simp only [List.mem_cons, List.not_mem_nil, or_false]
    exact fun q => Nat.lt_irrefl _ (q ▸ ltg (ks b o e))
end
end Mine
/-! part E1 -/
namespace Mine
open PySem PySem.W PySem.Calls PyProof.Rows
open Sem (wp)

theorem cellsFrom_append : ∀ (names : List (Str × NameKind)) (n : Nat) (acc : List (Str × Addr)), cellsFrom n names acc = cellsFrom n names [] ++ acc
  | [], _, _ => rfl
  | (name, kind) :: r, n, acc => by
    unfold cellsFrom
    split
    · rw [cellsFrom_append r (n + 1) ((name, n) :: acc), cellsFrom_append r (n + 1) [(name, n)]]; simp
    · exact cellsFrom_append r n acc

theorem paired_map {α β : Type} {F G : α → β → Prop} (h : ∀ a b, F a b → G a b) : ∀ {l₁ : List α} {l₂ : List β}, Paired F l₁ l₂ → Paired G l₁ l₂
  | _, _, .nil => .nil
  | _, _, .cons x t => .cons (h _ _ x) (paired_map h t)

/-- the frame of a comprehension -/
def cenvG (scope : Scope) (cl : List (Str × Addr)) (C : Addr) (env : Env) : Env := { compEnvC scope cl C env with cells := cellsFrom (C + 1) scope.names cl }
/-- the cells that a comprehension makes -/
def ownCells (scope : Scope) (C : Addr) : List Addr := (cellsFrom (C + 1) scope.names []).map (·.2)
theorem ownCells_lt {scope : Scope} {C : Addr} : ∀ c ∈ ownCells scope C, C < c := by
  have key : ∀ (names : List (Str × NameKind)) (n : Nat) (acc : List (Str × Addr)), (∀ x ∈ acc, C < x.2) → C < n → ∀ x ∈ cellsFrom n names acc, C < x.2 := by
    intro names
    induction names with
    | nil => intro n acc ha _ x hx; exact ha x hx
    | cons y r ih =>
      intro n acc ha hn x hx
      obtain ⟨name, kind⟩ := y
      unfold cellsFrom at hx
      split at hx
      · exact ih (n + 1) _ (fun z hz => by rcases List.mem_cons.mp hz with rfl | hz; exact hn; exact ha z hz) (Nat.lt_succ_of_lt hn) x hx
      · exact ih n acc ha hn x hx
  intro c hc
  obtain ⟨x, hx, rfl⟩ := List.mem_map.mp hc
  exact key scope.names (C + 1) [] (fun _ h => by cases h) (Nat.lt_succ_self _) x hx

section
variable {prog : Program} {w : World} {A : Around} {E : Value → Shared → Prop} {s : Shared} {env : Env}

/-- what a turn leaves -/
def TurnEnd (scope : Scope) (C : Addr) (s s' : Shared) : Prop :=
  ∃ h' tk m', s' = { s with heap := h', toks := tk } ∧ h'.Ns C m' ∧ (∀ c ∈ ownCells scope C, ∃ u, h'.IsCell c u) ∧ ∀ b o, b ≠ C → b ∉ ownCells scope C → s.heap.get? b = some o → h'.get? b = some o

theorem newEnv_cl {scope : Scope} {cl : List (Str × Addr)} {Q : Env → Shared → Prop} (h : ∀ h₁, h₁.Ns s.heap.objs.size (fun _ => none) → (∀ c ∈ ownCells scope s.heap.objs.size, h₁.IsCell c none) → s.heap.StaysIn h₁ →
      Q { scope := scope, locals := s.heap.objs.size, globals := env.globals, cells := cellsFrom (s.heap.objs.size + 1) scope.names cl, qual := env.qual, func := none, code := env.code, frame := env.frame, builtins := env.builtins } { s with heap := h₁ }) :
    wpAny (model prog w) A (newFunctionEnv scope env.globals cl [] env.qual none .none (some env)) Q E s := by
  simp only [newFunctionEnv, Option.isSome_some, if_true]
  refine wpAny_bind (wpAny_alloc ?_)
  refine wpAny_bind (wpAny_layCells _ (fun name kind cells => by cases hkc : kind == NameKind.cell <;> simp [hkc]) _ _ _ _ ?_)
  have ok := cellsFrom_ok scope.names (s.heap.push { cls := .type "dict", data := .dict #[] }) (s.heap.objs.size + 1) [] ⟨fun _ _ hm => (nomatch hm), List.Pairwise.nil⟩ (by rw [Heap.size_push]; exact Nat.le_refl _)
  rw [Heap.size_push] at ok
  rw [show ({ s with heap := s.heap.push { cls := .type "dict", data := .dict #[] } } : Shared).heap.objs.size = s.heap.objs.size + 1 from Heap.size_push ..]
  refine wpAny_bind (wpAny_pure (wpAny_pure ?_))
  refine h _ ((Heap.Ns.new s.heap (.type "dict")).keeps (pushCells_keeps _ _)) (fun c hc => ?_) fun b o e => pushCells_keeps _ _ b o (Heap.get?_push_of_some _ e)
  obtain ⟨x, hx, rfl⟩ := List.mem_map.mp hc
  exact (ok.empty x.1 x.2 hx).1

theorem compG {elt iter target : Expr} {ifs : List Expr} {scope : Scope} {cl : List (Str × Addr)} {pos : Pos} {Q : Value → Shared → Prop}
    (hclos : closureFor scope env = pure cl) (hkind : scope.kind = .function)
    (hnames : ∀ y ∈ scope.names, y.2 = .local → scope.names.lookup y.1 = some .local)
    (h : wpAny (model prog w) A (eval iter env) (fun xv s₁ => wpAny (model prog w) A (pyIter xv) (fun it s₂ => ∃ I fp wr n P Md St, ∃ (sel : Nat → Bool) (F : Nat → Value → Heap → Prop), it = .ref I ∧ KTurns prog w A target I fp wr n P Md St ∧
      (∀ (s : Shared) (Q : Value → Shared → Prop) (E : Value → Shared → Prop), St 0 s.heap → Q (.ref I) s → wpAny (model prog w) A (pyIter (.ref I)) Q E s) ∧ n ≤ sizeLine ∧ St 0 s₂.heap ∧ (∀ b ∈ fp, b < s₂.heap.objs.size) ∧
      (∀ i y h h', F i y h → (∀ b o, b ≠ s₂.heap.objs.size → b ≠ s₂.heap.objs.size + 1 → b ∉ ownCells scope (s₂.heap.objs.size + 1) → b ∉ wr → h.get? b = some o → h'.get? b = some o) → F i y h') ∧
      (∀ i v s₃ m₃ (ys : List Value) (E' : Value → Shared → Prop), i < n → P i v s₃.heap → St (i + 1) s₃.heap → s₃.heap.Ns (s₂.heap.objs.size + 1) m₃ → (∀ c ∈ ownCells scope (s₂.heap.objs.size + 1), ∃ u, s₃.heap.IsCell c u) →
        s₃.heap.IsList s₂.heap.objs.size ys.toArray → (∀ b o, b ∉ wr → s₂.heap.get? b = some o → s₃.heap.get? b = some o) →
        wpAny (model prog w) A (assign target (cenvG scope cl (s₂.heap.objs.size + 1) env) v) (fun _ s₄ =>
          wpAny (model prog w) A (forIn ifs true fun c r => if r = true then do let ok ← isTrue c (cenvG scope cl (s₂.heap.objs.size + 1) env) (eval c (cenvG scope cl (s₂.heap.objs.size + 1) env)); pure (ForInStep.yield ok) else pure (ForInStep.yield r)) (fun ok s₅ => ok = sel i ∧
            if ok = true then wpAny (model prog w) A (eval elt (cenvG scope cl (s₂.heap.objs.size + 1) env)) (fun y s₆ => TurnEnd scope (s₂.heap.objs.size + 1) s₃ s₆ ∧ F i y s₆.heap) E' s₅ else TurnEnd scope (s₂.heap.objs.size + 1) s₃ s₅) E' s₄) E' s₃) ∧
      (∀ h' tk (ys : List Value), h'.IsList s₂.heap.objs.size ys.toArray → Paired (fun i y => F i y h') ((List.range n).filter sel) ys →
        (∀ b o, b ∉ wr → s₂.heap.get? b = some o → h'.get? b = some o) → Q (.ref s₂.heap.objs.size) { s₂ with heap := h', toks := tk })) E s₁) E s)
    (hs : ∀ x, foldedSetIterable iter env x = pure x := by intro _; rfl) :
    wpAny (model prog w) A (eval (.ListComp elt [⟨target, iter, ifs, 0⟩] scope pos) env) Q E s := by
  rw [eval_ListComp]
  refine wpAny_comprehension_free (use := none) rfl hs hclos hkind hnames (wpAny_mono h (fun xv s₁ h₁ => wpAny_mono h₁ (fun it s₂ h₂ => ?_) fun _ _ e => e) fun _ _ e => e)
  obtain ⟨I, fp, wr, n, P, Md, St, sel, F, rfl, W, hself, hsz, hst, hfp, hFs, hstep, hQ⟩ := h₂
  refine wpAny_newObj_type (newEnv_cl (fun h₁ hns₁ hcs₁ hk₁ => ?_))
  have hC : (s₂.heap.push { cls := .type "list", dict := none, data := .seq ([] : List Value).toArray }).objs.size = s₂.heap.objs.size + 1 := Heap.size_push ..
  dsimp only at hns₁ hcs₁ hk₁ ⊢
  rw [hC] at hns₁ hcs₁ ⊢
  generalize hN : s₂.heap.objs.size = N at *
  have cell_gt : ∀ c ∈ ownCells scope (N + 1), N + 1 < c := ownCells_lt
  have ltN : ∀ b o, s₂.heap.get? b = some o → b < N := fun b o e => hN ▸ ltg e
  have old : ∀ b o, s₂.heap.get? b = some o → h₁.get? b = some o := fun b o e => hk₁ b o (Heap.get?_push_of_some _ e)
  have hacc : h₁.PlainList N #[] := ⟨_, hk₁ _ _ (by subst hN; exact Heap.get?_push_size _ rfl)⟩
  have hst₁ : St 0 h₁ := W.frame _ _ _ hst fun b _ o e => old b o e
  have fpC : ∀ b ∈ fp, b ≠ N + 1 ∧ b ≠ N ∧ b ∉ ownCells scope (N + 1) := fun b hb => by
    have q : b < N := hfp b hb
    refine ⟨fun e => ?_, fun e => ?_, fun hm => ?_⟩
    · rw [e] at q; exact absurd q (Nat.not_lt.mpr (Nat.le_succ _))
    · rw [e] at q; exact absurd q (Nat.lt_irrefl _)
    · exact absurd (Nat.lt_trans (Nat.lt_trans q (Nat.lt_succ_self _)) (cell_gt b hm)) (Nat.lt_irrefl _)
  have wrC : ∀ b ∈ wr, b ≠ N + 1 ∧ b ≠ N ∧ b ∉ ownCells scope (N + 1) := fun b hb => fpC b (W.sub b hb)
  have nN : N ≠ N + 1 := Nat.ne_of_lt (Nat.lt_succ_self N)
  have NC : N ∉ ownCells scope (N + 1) := fun hm => absurd (cell_gt N hm) (by omega)
  have N1C : N + 1 ∉ ownCells scope (N + 1) := fun hm => absurd (cell_gt _ hm) (Nat.lt_irrefl _)
  have loop : codeAny (model prog w) A (.compLoop (.ListComp elt [⟨target, iter, ifs, 0⟩] scope pos) 0 (.ref I) (.ref N) (cenvG scope cl (N + 1) env))
        (compPost (model prog w) A E none Q (.ref N) (N + 1)) { s₂ with heap := h₁ } := by
    refine codeAny_loop rfl
      (fun k s' => ∃ i h' tk m', ∃ ys : List Value, s' = { s₂ with heap := h', toks := tk } ∧ St i h' ∧ h'.PlainList N ys.toArray ∧ h'.Ns (N + 1) m' ∧ (∀ c ∈ ownCells scope (N + 1), ∃ u, h'.IsCell c u) ∧ Paired (fun i y => F i y h') ((List.range i).filter sel) ys ∧
        i ≤ n ∧ k = n + 1 - i ∧ (∀ b o, b ∉ wr → s₂.heap.get? b = some o → h'.get? b = some o)) ?_ (n + 1)
      ⟨0, h₁, _, _, [], rfl, hst₁, hacc, hns₁, fun c hc => ⟨_, hcs₁ c hc⟩, .nil, Nat.zero_le _, rfl, fun b o _ e => old b o e⟩
    rintro k s' ⟨i, H, tk, m', ys, rfl, hst', hacc', hn', hc', hF, hi, rfl, hk'⟩
    show wpAny _ A ((compTurn (.ListComp elt [⟨target, iter, ifs, 0⟩] scope pos) 0 (.ref I) (.ref N) (cenvG scope cl (N + 1) env)).onRaise (fun x => do noteFrame x (cenvG scope cl (N + 1) env); theTreesLotGoes x)) _ _ _
    refine wpAny_onRaise ?_
    rw [compTurn_list]
    refine wpAny_bind (wpAny_standAt (wpAny_bind ?_))
    by_cases hlt : i < n
    · refine W.item i _ _ _ hlt hst' fun v h₂ tk₂ hMd hk₂ => ?_
      dsimp only
      refine wpAny_bind (W.go i v _ _ _ hMd fun h₃ hP hst₃ hk₃ => ?_)
      have up : ∀ b o, b ∉ wr → H.get? b = some o → h₃.get? b = some o := fun b o hb e => hk₃ b o hb (hk₂ b o hb e)
      have hnw : N ∉ wr := fun hm => (wrC _ hm).2.1 rfl
      have h1w : N + 1 ∉ wr := fun hm => (wrC _ hm).1 rfl
      have hacc₃ : h₃.PlainList N ys.toArray := hacc'.at fun o e => up _ o hnw e
      have hlen : ys.length ≤ i := by rw [← hF.length]; exact Nat.le_trans (List.length_filter_le ..) (by simp)
      refine wpAny_bind (wpAny_mono (hstep i v { s₂ with heap := h₃, toks := tk₂ } m' ys _ hlt hP hst₃ (hn'.at' fun o e => up _ o h1w e)
        (fun c hc => let ⟨u, o, a, b⟩ := hc' c hc; ⟨u, o, up c o (fun hm => (wrC c hm).2.2 hc) a, b⟩) hacc₃.isList fun b o hb e => up b o hb (hk' b o hb e)) (fun _ s₄ h₄ => ?_) fun _ _ x => x)
      refine wpAny_bind (wpAny_mono h₄ (fun ok s₅ h₅ => ?_) fun _ _ x => x)
      obtain ⟨rfl, h₅⟩ := h₅
      cases hsel : sel i with
      | false =>
        rw [hsel, if_neg (by decide)] at h₅
        obtain ⟨h₆, tk₆, m₆, rfl, hn₆, hc₆, hk₆⟩ := h₅
        refine wpAny_pure ⟨rfl, n + 1 - (i + 1), by omega, i + 1, h₆, tk₆, m₆, ys, rfl, W.frame _ _ _ hst₃ fun b hb o e => hk₆ b o (fpC b hb).1 (fpC b hb).2.2 e, hacc₃.at fun o e => hk₆ _ o nN NC e, hn₆, hc₆, ?_, hlt, rfl, fun b o hb e => ?_⟩
        · rw [List.range_succ, List.filter_append]
          simp only [List.filter_cons, hsel, List.filter_nil, Bool.false_eq_true, if_false, List.append_nil]
          exact paired_map (fun i y x => hFs i y _ _ x fun b o h1 h2 h3 h4 e => hk₆ b o h2 h3 (up b o h4 e)) hF
        · have q := ltN b o e
          exact hk₆ b o (fun x => absurd q (by rw [x]; exact Nat.not_lt.mpr (Nat.le_succ _))) (fun x => absurd (Nat.lt_trans q (Nat.lt_succ_self _)) (Nat.lt_asymm (cell_gt b x))) (up b o hb (hk' b o hb e))
      | true =>
        rw [hsel, if_pos rfl] at h₅
        refine wpAny_bind (wpAny_bind (wpAny_mono h₅ (fun y s₆ h₆ => ?_) fun _ _ x => x))
        obtain ⟨⟨h₆, tk₆, m₆, rfl, hn₆, hc₆, hk₆⟩, hFy⟩ := h₆
        have hacc₆ : h₆.PlainList N ys.toArray := hacc₃.at fun o e => hk₆ _ o nN NC e
        refine wpAny_bind (wpAny_list_append_plain (hsz := by simp; omega) hacc₆ fun h₇ hl₇ hs₇ => wpAny_pure (wpAny_pure ⟨rfl, ?_⟩))
        refine ⟨n + 1 - (i + 1), by omega, i + 1, h₇, tk₆, m₆, ys ++ [y], rfl, W.frame _ _ _ hst₃ fun b hb o e => hs₇.extBut b o (fpC b hb).2.1 (hk₆ b o (fpC b hb).1 (fpC b hb).2.2 e), by simpa using hl₇, hn₆.sameBut hs₇ nN.symm,
          fun c hc => let ⟨u, o, a, b⟩ := hc₆ c hc; ⟨u, o, hs₇.extBut c o (fun x => NC (x ▸ hc)) a, b⟩, ?_, hlt, rfl, fun b o hb e => ?_⟩
        · rw [List.range_succ, List.filter_append]
          simp only [List.filter_cons, hsel, List.filter_nil, if_true]
          refine Paired.snoc (paired_map (fun i y x => hFs i y _ _ x fun b o h1 h2 h3 h4 e => hs₇.extBut b o h1 (hk₆ b o h2 h3 (up b o h4 e))) hF) (hFs i y _ _ hFy fun b o h1 h2 h3 h4 e => hs₇.extBut b o h1 e)
        · have q := ltN b o e
          exact hs₇.extBut b o (fun x => absurd q (by rw [x]; exact Nat.lt_irrefl _)) (hk₆ b o (fun x => absurd q (by rw [x]; exact Nat.not_lt.mpr (Nat.le_succ _))) (fun x => absurd (Nat.lt_trans q (Nat.lt_succ_self _)) (Nat.lt_asymm (cell_gt b x))) (up b o hb (hk' b o hb e)))
    · obtain rfl : i = n := by omega
      refine W.done _ _ _ hst' fun h₂ tk₂ hk₂ => ?_
      dsimp only
      have hnw : N ∉ wr := fun hm => (wrC _ hm).2.1 rfl
      have h1w : N + 1 ∉ wr := fun hm => (wrC _ hm).1 rfl
      refine wpAny_pure ?_
      refine ⟨m', hn'.at' fun o e => hk₂ _ o h1w e, fun h'' hs'' => ?_⟩
      have hl : h₂.IsList N ys.toArray := (hacc'.at fun o e => hk₂ _ o hnw e).isList
      exact hQ h'' _ ys (hl.extBut hs''.extBut nN) (paired_map (fun i y x => hFs i y _ _ x fun b o h1 h2 h3 h4 e => hs''.extBut b o h2 (hk₂ b o h4 e)) hF)
        fun b o hbf e => hs''.extBut b o (fun x => absurd (ltN b o e) (by rw [x]; exact Nat.not_lt.mpr (Nat.le_succ _))) (hk₂ b o hbf (hk' b o hbf e))
  exact codeAny_compStart_list loop (hself _ _ _ hst₁ loop)
end
end Mine
/-! part E2 -/
namespace Mine
open PySem PySem.W PySem.Calls PyProof.Rows
open Sem (wp)

section
variable {prog : Program} {w : World} {A : Around} {E : Value → Shared → Prop} {s : Shared} {env : Env}

theorem name_go {x : Str} {px : Pos} {I : Addr} {fp wr : List Addr} {n : Nat} {P : Nat → Value → Prop} {St : Nat → Heap → Prop} (W : Walks prog w A I fp wr n P St) :
    KTurns prog w A (.Name x px) I fp wr n (fun i v _ => P i v) (fun i v h => P i v ∧ St (i + 1) h) St := KTurns.ofWalks W fun _ _ _ _ _ _ hQ => wpAny_pure hQ

theorem none_own {scope : Scope} {C : Addr} (hcell : ∀ y ∈ scope.names, y.2 ≠ .cell) : ownCells scope C = [] := by
  have key : ∀ (names : List (Str × NameKind)) (n : Nat), (∀ y ∈ names, y.2 ≠ .cell) → cellsFrom n names [] = [] := by
    intro names
    induction names with
    | nil => intro _ _; rfl
    | cons y r ih =>
      intro n hc
      obtain ⟨name, kind⟩ := y
      unfold cellsFrom
      rw [if_neg (by have := hc _ List.mem_cons_self; simpa using this)]
      exact ih n fun z hz => hc z (List.mem_cons_of_mem _ hz)
  unfold ownCells
  rw [key _ _ hcell]; rfl

/-- one clause, a local name, no test -/
theorem compL {elt iter : Expr} {x : Str} {px : Pos} {scope : Scope} {cl : List (Str × Addr)} {pos : Pos} {Q : Value → Shared → Prop}
    (hclos : closureFor scope env = pure cl) (hcell : ∀ y ∈ scope.names, y.2 ≠ .cell) (hkind : scope.kind = .function)
    (hnames : ∀ y ∈ scope.names, y.2 = .local → scope.names.lookup y.1 = some .local) (hx : scope.names.lookup x = some .local)
    (h : wpAny (model prog w) A (eval iter env) (fun xv s₁ => wpAny (model prog w) A (pyIter xv) (fun it s₂ => ∃ I fp wr n P St, ∃ (F : Nat → Value → Heap → Prop), it = .ref I ∧ Walks prog w A I fp wr n P St ∧ n ≤ sizeLine ∧ St 0 s₂.heap ∧ (∀ b ∈ fp, b < s₂.heap.objs.size) ∧
      (∀ i y h h', F i y h → (∀ b o, b ≠ s₂.heap.objs.size → b ≠ s₂.heap.objs.size + 1 → b ∉ wr → h.get? b = some o → h'.get? b = some o) → F i y h') ∧
      (∀ i v s₃ m₃ (ys : List Value) (E' : Value → Shared → Prop), i < n → P i v → St (i + 1) s₃.heap → s₃.heap.Ns (s₂.heap.objs.size + 1) m₃ → m₃ x = some v → s₃.heap.IsList s₂.heap.objs.size ys.toArray → (∀ b o, b ∉ wr → s₂.heap.get? b = some o → s₃.heap.get? b = some o) →
        wpAny (model prog w) A (eval elt (cenvG scope cl (s₂.heap.objs.size + 1) env)) (fun y s₄ => F i y s₄.heap ∧ Keeps s₃ s₄) E' s₃) ∧
      (∀ h' tk (ys : List Value), h'.IsList s₂.heap.objs.size ys.toArray → Paired (fun i y => F i y h') (List.range n) ys →
        (∀ b o, b ∉ wr → s₂.heap.get? b = some o → h'.get? b = some o) → Q (.ref s₂.heap.objs.size) { s₂ with heap := h', toks := tk })) E s₁) E s)
    (hs : ∀ x, foldedSetIterable iter env x = pure x := by intro _; rfl) :
    wpAny (model prog w) A (eval (.ListComp elt [⟨.Name x px, iter, [], 0⟩] scope pos) env) Q E s := by
  refine compG hclos hkind hnames (wpAny_mono h (fun xv s₁ h₁ => wpAny_mono h₁ (fun it s₂ h₂ => ?_) fun _ _ e => e) fun _ _ e => e) hs
  obtain ⟨I, fp, wr, n, P, St, F, rfl, W, hsz, hst, hfp, hFs, hstep, hQ⟩ := h₂
  have hoc : ∀ C, ownCells scope C = [] := fun C => none_own hcell
  refine ⟨I, fp, wr, n, _, _, St, fun _ => true, F, rfl, name_go W, W.self 0, hsz, hst, hfp, fun i y h h' hf hk => hFs i y h h' hf fun b o a b' c e => hk b o a b' (by rw [hoc]; exact List.not_mem_nil) c e, ?_, fun h' tk ys hl hp hk => hQ h' tk ys hl (by rw [List.filter_eq_self.mpr (fun _ _ => rfl)] at hp; exact hp) hk⟩
  intro i v s₃ m₃ ys E' hi hP hst₃ hn₃ _ hl₃ hk₃
  have kC : (cenvG scope cl (s₂.heap.objs.size + 1) env).kindOf x = some .local := lookup_relabel_local hx
  have hp : ((cenvG scope cl (s₂.heap.objs.size + 1) env).scope.kind == .class || ((cenvG scope cl (s₂.heap.objs.size + 1) env).scope.kind == .module && (cenvG scope cl (s₂.heap.objs.size + 1) env).locals != (cenvG scope cl (s₂.heap.objs.size + 1) env).globals)) = false := by simp [cenvG, compEnvC, relabel, hkind]
  refine wpAny_assign_Name (wpAny_storeName_local kC hn₃ (fun h₄ hn₄ hs₄ => wpAny_tests_nil ⟨rfl, ?_⟩) hp)
  rw [if_pos rfl]
  have hs₄' : Heap.SameBut (s₂.heap.objs.size + 1) s₃.heap h₄ := hs₄
  have hn₄' : h₄.Ns (s₂.heap.objs.size + 1) (fun y => if y = x then some v else m₃ y) := hn₄
  have nN : s₂.heap.objs.size ≠ s₂.heap.objs.size + 1 := Nat.ne_of_lt (Nat.lt_succ_self _)
  refine wpAny_mono (hstep i v { s₃ with heap := h₄, toks := s₃.toks + 1 } _ ys E' hi hP (W.frame _ _ _ hst₃ fun b hb o e => hs₄'.extBut b o (fun q => ?_) e) hn₄' (by simp) (hl₃.extBut hs₄'.extBut nN) fun b o hb e => hs₄'.extBut b o (fun q => ?_) (hk₃ b o hb e)) (fun y s₅ h₅ => ?_) fun _ _ e => e
  · exact absurd (hfp b hb) (by rw [q]; exact Nat.not_lt.mpr (Nat.le_succ _))
  · exact absurd (ltg e) (by rw [q]; exact Nat.not_lt.mpr (Nat.le_succ _))
  · obtain ⟨hf, h₅, tk₅, rfl, hk₅⟩ := h₅
    exact ⟨⟨h₅, tk₅, _, rfl, hn₄'.keeps hk₅, by rw [hoc]; simp, fun b o hb _ e => hk₅ b o (hs₄'.extBut b o hb e)⟩, hf⟩

/-- one clause, a local name, one test -/
theorem compLT {elt iter test : Expr} {x : Str} {px : Pos} {scope : Scope} {cl : List (Str × Addr)} {pos : Pos} {Q : Value → Shared → Prop}
    (hclos : closureFor scope env = pure cl) (hcell : ∀ y ∈ scope.names, y.2 ≠ .cell) (hkind : scope.kind = .function)
    (hnames : ∀ y ∈ scope.names, y.2 = .local → scope.names.lookup y.1 = some .local) (hx : scope.names.lookup x = some .local)
    (h : wpAny (model prog w) A (eval iter env) (fun xv s₁ => wpAny (model prog w) A (pyIter xv) (fun it s₂ => ∃ I fp wr n P St, ∃ (sel : Nat → Bool) (F : Nat → Value → Heap → Prop), it = .ref I ∧ Walks prog w A I fp wr n P St ∧ n ≤ sizeLine ∧ St 0 s₂.heap ∧ (∀ b ∈ fp, b < s₂.heap.objs.size) ∧
      (∀ i y h h', F i y h → (∀ b o, b ≠ s₂.heap.objs.size → b ≠ s₂.heap.objs.size + 1 → b ∉ wr → h.get? b = some o → h'.get? b = some o) → F i y h') ∧
      (∀ i v s₃ m₃ (ys : List Value) (E' : Value → Shared → Prop), i < n → P i v → St (i + 1) s₃.heap → s₃.heap.Ns (s₂.heap.objs.size + 1) m₃ → m₃ x = some v → s₃.heap.IsList s₂.heap.objs.size ys.toArray → (∀ b o, b ∉ wr → s₂.heap.get? b = some o → s₃.heap.get? b = some o) →
        wpAny (model prog w) A (isTrue test (cenvG scope cl (s₂.heap.objs.size + 1) env) (eval test (cenvG scope cl (s₂.heap.objs.size + 1) env))) (fun ok s₄ => ok = sel i ∧ Keeps s₃ s₄ ∧ (ok = true → wpAny (model prog w) A (eval elt (cenvG scope cl (s₂.heap.objs.size + 1) env)) (fun y s₅ => F i y s₅.heap ∧ Keeps s₄ s₅) E' s₄)) E' s₃) ∧
      (∀ h' tk (ys : List Value), h'.IsList s₂.heap.objs.size ys.toArray → Paired (fun i y => F i y h') ((List.range n).filter sel) ys →
        (∀ b o, b ∉ wr → s₂.heap.get? b = some o → h'.get? b = some o) → Q (.ref s₂.heap.objs.size) { s₂ with heap := h', toks := tk })) E s₁) E s)
    (hs : ∀ x, foldedSetIterable iter env x = pure x := by intro _; rfl) :
    wpAny (model prog w) A (eval (.ListComp elt [⟨.Name x px, iter, [test], 0⟩] scope pos) env) Q E s := by
  refine compG hclos hkind hnames (wpAny_mono h (fun xv s₁ h₁ => wpAny_mono h₁ (fun it s₂ h₂ => ?_) fun _ _ e => e) fun _ _ e => e) hs
  obtain ⟨I, fp, wr, n, P, St, sel, F, rfl, W, hsz, hst, hfp, hFs, hstep, hQ⟩ := h₂
  have hoc : ∀ C, ownCells scope C = [] := fun C => none_own hcell
  refine ⟨I, fp, wr, n, _, _, St, sel, F, rfl, name_go W, W.self 0, hsz, hst, hfp, fun i y h h' hf hk => hFs i y h h' hf fun b o a b' c e => hk b o a b' (by rw [hoc]; exact List.not_mem_nil) c e, ?_, fun h' tk ys hl hp hk => hQ h' tk ys hl hp hk⟩
  intro i v s₃ m₃ ys E' hi hP hst₃ hn₃ _ hl₃ hk₃
  have kC : (cenvG scope cl (s₂.heap.objs.size + 1) env).kindOf x = some .local := lookup_relabel_local hx
  have hp : ((cenvG scope cl (s₂.heap.objs.size + 1) env).scope.kind == .class || ((cenvG scope cl (s₂.heap.objs.size + 1) env).scope.kind == .module && (cenvG scope cl (s₂.heap.objs.size + 1) env).locals != (cenvG scope cl (s₂.heap.objs.size + 1) env).globals)) = false := by simp [cenvG, compEnvC, relabel, hkind]
  refine wpAny_assign_Name (wpAny_storeName_local kC hn₃ (fun h₄ hn₄ hs₄ => wpAny_tests_one ?_) hp)
  have hs₄' : Heap.SameBut (s₂.heap.objs.size + 1) s₃.heap h₄ := hs₄
  have hn₄' : h₄.Ns (s₂.heap.objs.size + 1) (fun y => if y = x then some v else m₃ y) := hn₄
  have nN : s₂.heap.objs.size ≠ s₂.heap.objs.size + 1 := Nat.ne_of_lt (Nat.lt_succ_self _)
  refine wpAny_mono (hstep i v { s₃ with heap := h₄, toks := s₃.toks + 1 } _ ys E' hi hP (W.frame _ _ _ hst₃ fun b hb o e => hs₄'.extBut b o (fun q => ?_) e) hn₄' (by simp) (hl₃.extBut hs₄'.extBut nN) fun b o hb e => hs₄'.extBut b o (fun q => ?_) (hk₃ b o hb e)) (fun ok s₅ h₅ => ?_) fun _ _ e => e
  · exact absurd (hfp b hb) (by rw [q]; exact Nat.not_lt.mpr (Nat.le_succ _))
  · exact absurd (ltg e) (by rw [q]; exact Nat.not_lt.mpr (Nat.le_succ _))
  · obtain ⟨ho, ⟨h₅, tk₅, rfl, hk₅⟩, hel⟩ := h₅
    refine ⟨ho, ?_⟩
    split
    · rename_i hok
      refine wpAny_mono (hel hok) (fun y s₆ h₆ => ?_) fun _ _ e => e
      obtain ⟨hf, h₆, tk₆, rfl, hk₆⟩ := h₆
      exact ⟨⟨h₆, tk₆, _, rfl, (hn₄'.keeps hk₅).keeps hk₆, by rw [hoc]; simp, fun b o hb _ e => hk₆ b o (hk₅ b o (hs₄'.extBut b o hb e))⟩, hf⟩
    · exact ⟨h₅, tk₅, _, rfl, hn₄'.keeps hk₅, by rw [hoc]; simp, fun b o hb _ e => hk₅ b o (hs₄'.extBut b o hb e)⟩

/-- one clause, a name in a cell, no test -/
theorem compC {elt iter : Expr} {x : Str} {px : Pos} {scope : Scope} {cl : List (Str × Addr)} {pos : Pos} {Q : Value → Shared → Prop}
    (hclos : closureFor scope env = pure cl) (hown : ∀ C, ownCells scope C = [C + 1]) (hkind : scope.kind = .function)
    (hnames : ∀ y ∈ scope.names, y.2 = .local → scope.names.lookup y.1 = some .local) (hx : ∀ C, (cenvG scope cl C env).kindOf x = some .cell) (hxc : ∀ C, (cenvG scope cl C env).cells.lookup x = some (C + 1))
    (h : wpAny (model prog w) A (eval iter env) (fun xv s₁ => wpAny (model prog w) A (pyIter xv) (fun it s₂ => ∃ I fp wr n P St, ∃ (F : Nat → Value → Heap → Prop), it = .ref I ∧ Walks prog w A I fp wr n P St ∧ n ≤ sizeLine ∧ St 0 s₂.heap ∧ (∀ b ∈ fp, b < s₂.heap.objs.size) ∧
      (∀ i y h h', F i y h → (∀ b o, b ≠ s₂.heap.objs.size → b ≠ s₂.heap.objs.size + 1 → b ≠ s₂.heap.objs.size + 1 + 1 → b ∉ wr → h.get? b = some o → h'.get? b = some o) → F i y h') ∧
      (∀ i v s₃ m₃ (ys : List Value) (E' : Value → Shared → Prop), i < n → P i v → St (i + 1) s₃.heap → s₃.heap.Ns (s₂.heap.objs.size + 1) m₃ → s₃.heap.IsCell (s₂.heap.objs.size + 1 + 1) (some v) → s₃.heap.IsList s₂.heap.objs.size ys.toArray → (∀ b o, b ∉ wr → s₂.heap.get? b = some o → s₃.heap.get? b = some o) →
        wpAny (model prog w) A (eval elt (cenvG scope cl (s₂.heap.objs.size + 1) env)) (fun y s₄ => F i y s₄.heap ∧ Keeps s₃ s₄) E' s₃) ∧
      (∀ h' tk (ys : List Value), h'.IsList s₂.heap.objs.size ys.toArray → Paired (fun i y => F i y h') (List.range n) ys →
        (∀ b o, b ∉ wr → s₂.heap.get? b = some o → h'.get? b = some o) → Q (.ref s₂.heap.objs.size) { s₂ with heap := h', toks := tk })) E s₁) E s)
    (hs : ∀ x, foldedSetIterable iter env x = pure x := by intro _; rfl) :
    wpAny (model prog w) A (eval (.ListComp elt [⟨.Name x px, iter, [], 0⟩] scope pos) env) Q E s := by
  refine compG hclos hkind hnames (wpAny_mono h (fun xv s₁ h₁ => wpAny_mono h₁ (fun it s₂ h₂ => ?_) fun _ _ e => e) fun _ _ e => e) hs
  obtain ⟨I, fp, wr, n, P, St, F, rfl, W, hsz, hst, hfp, hFs, hstep, hQ⟩ := h₂
  refine ⟨I, fp, wr, n, _, _, St, fun _ => true, F, rfl, name_go W, W.self 0, hsz, hst, hfp, fun i y h h' hf hk => hFs i y h h' hf fun b o a b' b'' c e => hk b o a b' (by rw [hown]; simpa using b'') c e, ?_, fun h' tk ys hl hp hk => hQ h' tk ys hl (by rw [List.filter_eq_self.mpr (fun _ _ => rfl)] at hp; exact hp) hk⟩
  intro i v s₃ m₃ ys E' hi hP hst₃ hn₃ hc₃ hl₃ hk₃
  have kF : (cenvG scope cl (s₂.heap.objs.size + 1) env).scope.kind = .function := by simp [cenvG, compEnvC, relabel, hkind]
  obtain ⟨u, hu⟩ := hc₃ (s₂.heap.objs.size + 1 + 1) (by rw [hown]; simp)
  refine wpAny_assign_Name (wpAny_storeName_cell kF (hx _) (hxc _) hu fun h₄ hc₄ hs₄ => wpAny_tests_nil ⟨rfl, ?_⟩)
  rw [if_pos rfl]
  have n1 : s₂.heap.objs.size + 1 ≠ s₂.heap.objs.size + 1 + 1 := Nat.ne_of_lt (Nat.lt_succ_self _)
  have n0 : s₂.heap.objs.size ≠ s₂.heap.objs.size + 1 + 1 := Nat.ne_of_lt (Nat.lt_succ_of_lt (Nat.lt_succ_self _))
  have bel : ∀ b : Nat, b < s₂.heap.objs.size → b ≠ s₂.heap.objs.size + 1 + 1 := fun b hb => by omega
  refine wpAny_mono (hstep i v { s₃ with heap := h₄ } m₃ ys E' hi hP (W.frame _ _ _ hst₃ fun b hb o e => hs₄.extBut b o (bel b (hfp b hb)) e) (hn₃.sameBut hs₄ n1) hc₄ (hl₃.extBut hs₄.extBut n0) fun b o hb e => hs₄.extBut b o (bel b (ltg e)) (hk₃ b o hb e)) (fun y s₅ h₅ => ?_) fun _ _ e => e
  obtain ⟨hf, h₅, tk₅, rfl, hk₅⟩ := h₅
  refine ⟨⟨h₅, tk₅, _, rfl, (hn₃.sameBut hs₄ n1).keeps hk₅, fun c hc => ?_, fun b o _ hb e => hk₅ b o (hs₄.extBut b o (by rw [hown] at hb; simpa using hb) e)⟩, hf⟩
  rw [hown] at hc
  obtain rfl : c = s₂.heap.objs.size + 1 + 1 := by simpa using hc
  exact ⟨_, hc₄.keeps hk₅⟩
end
end Mine
/-! part E3 -/
namespace Mine
open PySem PySem.W PySem.Calls PyProof.Rows
open Sem (wp)

/-- order of numbers, one after the other -/
def cmpL : List Int → List Int → Int
  | a :: as, b :: bs => if a = b then cmpL as bs else if a < b then -1 else 1
  | _, _ => 0

section
variable {prog : Program} {w : World} {A : Around} {E : Value → Shared → Prop} {s : Shared} {env : Env}

theorem add_ll {l b : Addr} {vs ws : List Value} {Q : Value → Shared → Prop} (hl : s.heap.IsList l vs.toArray) (hb : s.heap.IsList b ws.toArray)
    (h : Q (.ref s.heap.objs.size) { s with heap := s.heap.push { cls := .type "list", data := .seq (vs ++ ws).toArray } }) (hsz : vs.length + ws.length ≤ sizeLine) :
    wpAny (model prog w) A (binaryOp .Add (.ref l) (.ref b)) Q E s := by
  obtain ⟨⟨cls, dd, data, sl⟩, ho, hc, n, hd⟩ := id hl
  obtain ⟨⟨cls2, dd2, data2, sl2⟩, ho2, hc2, n2, hd2⟩ := id hb
  simp only at hc hd hc2 hd2
  subst hc hd hc2 hd2
  have e : vs.toArray ++ ws.toArray = (vs ++ ws).toArray := by simp
  refine concat_meets ⟨_, ho, rfl⟩ ⟨_, ho2, rfl⟩ noFill_list_add seq_list_add PySem.F.slot_list_add PySem.F.entry_list_add (PySem.F.args_list_add_2 _ _) (list_addW l b vs.toArray ws.toArray n n2 dd dd2 sl sl2 (by simpa using hsz)) ⟨ho, ho2, ?_⟩
  rw [e]
  exact h

theorem get_getD {α : Type} {l : List α} {i : Nat} {d : α} (h : i < l.length) : l[i]? = some (l.getD i d) := by simp [h]

theorem first_differ {a0 a1 a2 b0 b1 b2 : Int} {ys : List Value}
    (h : Paired (fun i y => ∃ t, y = Value.int ([a0, a1, a2].getD i 0 - [b0, b1, b2].getD i 0) t) ((List.range 3).filter fun i => [a0, a1, a2].getD i 0 != [b0, b1, b2].getD i 0) ys) (t0 : Tok) :
    ∃ d t, (ys ++ [.int 0 t0])[0]? = some (.int d t) ∧ cmpL [a0, a1, a2] [b0, b1, b2] = (if d = 0 then 0 else if d < 0 then -1 else 1) := by
  have er : List.range 3 = [0, 1, 2] := rfl
  rw [er] at h
  simp only [List.filter_cons, List.filter_nil, List.getD_cons_zero, List.getD_cons_succ] at h
  by_cases c0 : a0 = b0
  · by_cases c1 : a1 = b1
    · by_cases c2 : a2 = b2
      · simp only [c0, c1, c2, bne_self_eq_false, Bool.false_eq_true, if_false] at h
        cases h
        exact ⟨0, t0, rfl, by simp [cmpL, c0, c1, c2]⟩
      · simp only [c0, c1, bne_self_eq_false, Bool.false_eq_true, if_false, bne_iff_ne.mpr c2, if_true] at h
        cases h with | cons hy hr =>
        obtain ⟨t, rfl⟩ := hy
        refine ⟨_, t, rfl, ?_⟩
        have : a2 - b2 ≠ 0 := by omega
        simp only [cmpL, c0, c1, c2, if_true, if_false, List.getD_cons_zero, List.getD_cons_succ, this]
        split <;> split <;> first | rfl | omega
    · simp only [c0, bne_self_eq_false, Bool.false_eq_true, if_false, bne_iff_ne.mpr c1, if_true] at h
      cases h with | cons hy hr =>
      obtain ⟨t, rfl⟩ := hy
      refine ⟨_, t, rfl, ?_⟩
      have : a1 - b1 ≠ 0 := by omega
      simp only [cmpL, c0, c1, if_true, if_false, List.getD_cons_zero, List.getD_cons_succ, this]
      split <;> split <;> first | rfl | omega
  · simp only [bne_iff_ne.mpr c0, if_true] at h
    cases h with | cons hy hr =>
    obtain ⟨t, rfl⟩ := hy
    refine ⟨_, t, rfl, ?_⟩
    have : a0 - b0 ≠ 0 := by omega
    simp only [cmpL, c0, if_false, List.getD_cons_zero, this]
    split <;> split <;> first | rfl | omega

theorem order_call {f l1 l2 : Addr} {vs ws : List Value} {as bs : List Int} {Q : Value → Shared → Prop} (hf : FnAt s.heap f "_law_order" 32) (hlim : s.heap.NoLimit) (R : Room 1 A)
    (g1 : GName s.heap "zip" (.type "zip")) (hl1 : s.heap.IsList l1 vs.toArray) (hl2 : s.heap.IsList l2 ws.toArray) (h1 : IntsAre vs as) (h2 : IntsAre ws bs) (ha : as.length = 3) (hb : bs.length = 3)
    (h : ∀ h' t tk, s.heap.StaysIn h' → Q (.int (cmpL as bs) t) { s with heap := h', toks := tk }) :
    wpAny (model prog w) A (call (.ref f) [.ref l1, .ref l2]) Q E s := by
  obtain ⟨a0, a1, a2, rfl⟩ : ∃ a0 a1 a2, as = [a0, a1, a2] := by match as, ha with | [a, b, c], _ => exact ⟨_, _, _, rfl⟩
  obtain ⟨b0, b1, b2, rfl⟩ : ∃ b0 b1 b2, bs = [b0, b1, b2] := by match bs, hb with | [a, b, c], _ => exact ⟨_, _, _, rfl⟩
  have hvl : vs.length = 3 := intsAre_len h1
  have hwl : ws.length = 3 := intsAre_len h2
  refine call_def (binds := [("one", .ref l1), ("two", .ref l2)]) hf hlim (by have := R.depth; omega) (fun _ _ _ _ _ => rfl) (fun h₁ cdv hn hk => ?_)
  have hh : A.handled = none := R.handled
  refine wpAny_execs_cons ?_
  refine wpAny_Assign_Name ?_
  refine wpAny_BinOp ?_
  refine compG rfl rfl (by decide) ?_
  refine ev_callT (g1.keeps hk) ?_
  refine spliced_more ?_
  refine ev_loc hn rfl ?_
  refine spliced_more ?_
  refine ev_loc hn rfl ?_
  refine spliced_none ?_
  have k1 : h₁.IsList l1 vs.toArray := hl1.at fun o e => hk _ o e
  have k2 : h₁.IsList l2 ws.toArray := hl2.at fun o e => hk _ o e
  have q1 : l1 < h₁.objs.size := by obtain ⟨o, a, _⟩ := k1; exact ltg a
  have q2 : l2 < h₁.objs.size := by obtain ⟨o, a, _⟩ := k2; exact ltg a
  refine call_zip_2 k1 k2 fun h₂ hz hTI hTO hi1 hi2 hsz₂ hk₂ => ?_
  refine wpAny_pyIter_zip hz ?_
  have W := (WalksT.zip2 (prog := prog) (w := w) (A := A.deeper (envOf "_law_order" (defScope 32) s.heap.objs.size f cdv)) hh _ _ _ _ _ _ _ (zipApart_new q1 q2) vs.toArray ws.toArray).toU
  have st0 : IsZip h₂ (h₁.objs.size + 4) (h₁.objs.size + 2) (h₁.objs.size + 3) .none ∧ IsPair h₂ (h₁.objs.size + 2) (.ref h₁.objs.size) (.ref (h₁.objs.size + 1)) ∧ (∃ a b, IsPair h₂ (h₁.objs.size + 3) a b) ∧ h₂.IsListIter h₁.objs.size l1 0 ∧ h₂.IsListIter (h₁.objs.size + 1) l2 0 ∧ h₂.IsList l1 vs.toArray ∧ h₂.IsList l2 ws.toArray :=
    ⟨hz, hTI, ⟨_, _, hTO⟩, hi1, hi2, k1.at fun o e => hk₂ _ o e, k2.at fun o e => hk₂ _ o e⟩
  refine ⟨_, _, _, _, _, _, _, fun i => [a0, a1, a2].getD i 0 != [b0, b1, b2].getD i 0, fun i y _ => ∃ t, y = Value.int ([a0, a1, a2].getD i 0 - [b0, b1, b2].getD i 0) t, rfl, KTurns.ofWalksU W, W.self 0, ?_, st0, ?_, fun _ _ _ _ x _ => x, ?_, ?_⟩
  · simp [hvl, hwl, sizeLine_eq]
  · intro b hb
    show (b : Nat) < h₂.objs.size
    rw [show h₂.objs.size = h₁.objs.size + 5 from hsz₂]
    simp only [List.mem_cons, List.not_mem_nil, or_false] at hb
    have q1' : @LT.lt Nat _ l1 h₁.objs.size := q1
    have q2' : @LT.lt Nat _ l2 h₁.objs.size := q2
    generalize (h₁.objs.size : Nat) = N at *
    rcases hb with rfl | rfl | rfl | rfl | rfl | rfl | rfl
    · exact Nat.add_lt_add_left (by decide) N
    · exact Nat.add_lt_add_left (by decide) N
    · exact Nat.add_lt_add_left (by decide) N
    · exact Nat.lt_add_of_pos_right (by decide)
    · exact Nat.add_lt_add_left (by decide) N
    · exact Nat.lt_of_lt_of_le q1' (Nat.le_add_right _ _)
    · exact Nat.lt_of_lt_of_le q2' (Nat.le_add_right _ _)
  · intro i v s₃ m₃ ys E' hi hP hst₃ hn₃ _ hl₃ hk₃
    have hi3 : i < 3 := by simpa [hvl, hwl] using hi
    obtain ⟨T, vals, rfl, ⟨x, y, hx, hy, rfl⟩, hT⟩ := hP
    obtain ⟨ta, hta⟩ := intsAre_get h1 i ([a0, a1, a2].getD i 0) (get_getD hi3)
    obtain ⟨tb, htb⟩ := intsAre_get h2 i ([b0, b1, b2].getD i 0) (get_getD hi3)
    rw [List.getElem?_toArray] at hx hy
    obtain rfl : x = .int ([a0, a1, a2].getD i 0) ta := by rw [hta] at hx; exact (Option.some.inj hx).symm
    obtain rfl : y = .int ([b0, b1, b2].getD i 0) tb := by rw [htb] at hy; exact (Option.some.inj hy).symm
    refine kcp_assign hh hT rfl rfl rfl hn₃ fun h₄ tk₄ hn₄ hk₄ => ?_
    refine wpAny_tests_one ?_
    refine wpAny_isTrue_Compare1 ?_
    refine ev_loc hn₄ rfl ?_
    refine ev_loc hn₄ rfl ?_
    refine ne_int ?_
    refine wpAny_truthy_bool ⟨rfl, ?_⟩
    split
    · refine wpAny_BinOp ?_
      refine ev_loc hn₄ rfl ?_
      refine ev_loc hn₄ rfl ?_
      refine sub_int ⟨⟨h₄, _, _, rfl, hn₄, fun c hc => absurd hc (by rw [none_own (by decide)]; exact List.not_mem_nil), fun b o hb _ e => hk₄ b o hb e⟩, _, rfl⟩
    · exact ⟨h₄, _, _, rfl, hn₄, fun c hc => absurd hc (by rw [none_own (by decide)]; exact List.not_mem_nil), fun b o hb _ e => hk₄ b o hb e⟩
  · intro h' tk ys hl hp hk'
    have hp' : Paired (fun i y => ∃ t, y = Value.int ([a0, a1, a2].getD i 0 - [b0, b1, b2].getD i 0) t) ((List.range 3).filter fun i => [a0, a1, a2].getD i 0 != [b0, b1, b2].getD i 0) ys := by
      have e : min vs.toArray.size ws.toArray.size = 3 := by simp [hvl, hwl]
      rw [e] at hp
      exact hp
    have hyl : ys.length ≤ 3 := by rw [← hp'.length]; exact Nat.le_trans (List.length_filter_le ..) (by simp)
    refine wpAny_List ?_
    refine wpAny_items_cons ?_
    refine wpAny_Constant_int ?_
    refine wpAny_items_nil ⟨by simp [sizeLine_eq], ?_⟩
    dsimp only
    obtain ⟨d, td, hd, hcmp⟩ := first_differ hp' tk
    refine add_ll (hl.at fun o e => Heap.get?_push_of_some _ e) ⟨_, Heap.get?_push_size _ rfl, rfl, _, rfl⟩ ?_ (by simp [sizeLine_eq]; omega)
    dsimp only
    have up : ∀ b o, h₁.get? b = some o → h'.get? b = some o := fun b o e => hk' b o (by
      simp only [List.mem_cons, List.not_mem_nil, or_false]
      have hb : @LT.lt Nat _ b h₁.objs.size := ltg e
      rintro (q | q | q | q) <;> rw [q] at hb
      · exact absurd hb (Nat.not_lt.mpr (Nat.le_add_right _ _))
      · exact absurd hb (Nat.not_lt.mpr (Nat.le_add_right _ _))
      · exact absurd hb (Nat.lt_irrefl _)
      · exact absurd hb (Nat.not_lt.mpr (Nat.le_add_right _ _))) (hk₂ b o e)
    refine wpAny_storeName_local rfl ((hn.keeps up).keeps fun b o e => Heap.get?_push_of_some _ (Heap.get?_push_of_some _ e)) (fun h₅ hn₅ hs₅ => ?_) rfl
    have up5 : ∀ b o, b ≠ s.heap.objs.size → ((h'.push { cls := .type "list", data := .seq (List.toArray [.int 0 tk]) }).push { cls := .type "list", data := .seq (ys ++ [Value.int 0 tk]).toArray }).get? b = some o → h₅.get? b = some o := fun b o hb e => hs₅.extBut b o hb e
    have hL : @LT.lt Nat _ s.heap.objs.size h'.objs.size := (hn.keeps up).lt
    have hdl : h₅.IsList (h'.push { cls := .type "list", data := .seq (List.toArray [.int 0 tk]) }).objs.size (ys ++ [Value.int 0 tk]).toArray := ⟨_, up5 _ _ (by rw [Heap.size_push]; exact Nat.ne_of_gt (Nat.lt_succ_of_lt hL)) (Heap.get?_push_size _ rfl), rfl, _, rfl⟩
    have kall : s.heap.StaysIn h₅ := fun b o e => up5 b o (Nat.ne_of_lt (ltg e)) (Heap.get?_push_of_some _ (Heap.get?_push_of_some _ (up b o (hk b o e))))
    refine wpAny_execs_cons ?_
    refine wpAny_Return_some ?_
    refine wpAny_IfExp ?_
    refine wpAny_isTrue_Compare1 ?_
    refine Subscript_ ?_
    refine ev_loc hn₅ rfl ?_
    refine wpAny_Constant_int ?_
    refine item_int (n := d) hdl (by decide) (by decide) ⟨td, hd⟩ fun t₁ => ?_
    refine wpAny_Constant_int ?_
    refine eq_int ?_
    refine wpAny_truthy_bool ?_
    rw [hcmp] at h
    split
    · rename_i hz0
      rw [if_pos (beq_iff_eq.mp hz0)] at h
      refine wpAny_Constant_int ?_
      exact h _ _ _ kall
    · rename_i hz0
      rw [if_neg (fun q => hz0 (beq_iff_eq.mpr q))] at h
      refine wpAny_IfExp ?_
      refine wpAny_isTrue_Compare1 ?_
      refine Subscript_ ?_
      refine ev_loc hn₅ rfl ?_
      refine wpAny_Constant_int ?_
      refine item_int (n := d) hdl (by decide) (by decide) ⟨td, hd⟩ fun t₁ => ?_
      refine wpAny_Constant_int ?_
      refine lt_int ?_
      refine wpAny_truthy_bool ?_
      split
      · rename_i hz1
        rw [if_pos (of_decide_eq_true hz1)] at h
        refine wpAny_UnaryOp ?_
        refine wpAny_Constant_int ?_
        refine PyProof.Rows.neg_int ?_
        exact h _ _ _ kall
      · rename_i hz1
        rw [if_neg (fun q => hz1 (decide_eq_true q))] at h
        refine wpAny_Constant_int ?_
        exact h _ _ _ kall
end
end Mine
/-! part E4 -/
namespace Mine
open PySem PySem.W PySem.Calls PyProof.Rows
open Sem (wp)
open AutoSeq1 (wpAny_loadPart')

/-! ## enumerate over a tuple -/
section
variable {prog : Program} {w : World} {A : Around} {E : Value → Shared → Prop} {s : Shared}

theorem nextOf_tuple_item {it t : Addr} {i : Nat} {items : Array Value} {x : Value} {Q : Value → Shared → Prop} (hit : s.heap.IsTupleIter it t i) (ht : s.heap.IsTuple t items) (hx : items[i]? = some x)
    (hQ : ∀ h', h'.IsTupleIter it t (i + 1) → Heap.SameBut it s.heap h' → Q x { s with heap := h' }) : wpAny (model prog w) A (Builtin.SmallTypes.nextOf (.ref it)) Q E s := by
  obtain ⟨o, ho, hc, hd⟩ := id hit
  obtain ⟨ol, hol, _, nl, hdl⟩ := ht
  unfold Builtin.SmallTypes.nextOf
  refine wpAny_bind (wpAny_callSpecial?_slot (name := Str.ofString "__next__") hit.typeIs PySem.F.slot_tuple_iterator_next
    (wpAny_call_entry PySem.F.slot_tuple_iterator_next hit.typeIs PySem.F.entry_tuple_iterator_next ?_ (PySem.F.args_tuple_iterator_next_1 _)))
  show wpAny _ _ (field (.ref it) 0 >>= _) _ _ s
  refine wpAny_bind (wpAny_field ho hd (x := .ref t) rfl ?_)
  show wpAny _ _ (if (Value.ref t == Value.none) = true then _ else _) _ _ s
  rw [if_neg (show ¬ ((Value.ref t == Value.none) = true) from Bool.false_ne_true)]
  show wpAny _ _ (field (.ref it) 1 >>= _) _ _ s
  refine wpAny_bind (wpAny_field ho hd (x := .int i 0) rfl ?_)
  show wpAny _ _ (seqItems? (.ref t) >>= _) _ _ s
  refine wpAny_bind (wpAny_seqItems hol hdl ?_)
  simp only [Int.toNat_natCast, hx]
  refine wpAny_bind (wpAny_setField ho hd (by simp) (wpAny_pure ⟨x, rfl, wpAny_pure (hQ _ ?_ (Heap.SameBut.update ..))⟩))
  exact ⟨_, Heap.get?_update_self _ ho (Obj.isFreed_of_fields (Obj.data_mapFields hd _)), (Obj.cls_mapFields ..).trans hc, by rw [Obj.data_mapFields hd]; simp [rawInt]⟩

theorem nextOf_tuple_end {it t : Addr} {i : Nat} {items : Array Value} {Q : Value → Shared → Prop} (hh : A.handled = none) (hit : s.heap.IsTupleIter it t i) (ht : s.heap.IsTuple t items) (hx : items[i]? = none)
    (hE : ∀ h' e, Heap.ExtBut it s.heap h' → (∃ o, h'.get? e = some o ∧ o.cls = .type "StopIteration") → E (.ref e) { s with heap := h' }) : wpAny (model prog w) A (Builtin.SmallTypes.nextOf (.ref it)) Q E s := by
  obtain ⟨o, ho, hc, hd⟩ := id hit
  obtain ⟨ol, hol, _, nl, hdl⟩ := ht
  unfold Builtin.SmallTypes.nextOf
  refine wpAny_bind (wpAny_callSpecial?_slot (name := Str.ofString "__next__") hit.typeIs PySem.F.slot_tuple_iterator_next
    (wpAny_call_entry PySem.F.slot_tuple_iterator_next hit.typeIs PySem.F.entry_tuple_iterator_next ?_ (PySem.F.args_tuple_iterator_next_1 _)))
  show wpAny _ _ (field (.ref it) 0 >>= _) _ _ s
  refine wpAny_bind (wpAny_field ho hd (x := .ref t) rfl ?_)
  show wpAny _ _ (if (Value.ref t == Value.none) = true then _ else _) _ _ s
  rw [if_neg (show ¬ ((Value.ref t == Value.none) = true) from Bool.false_ne_true)]
  show wpAny _ _ (field (.ref it) 1 >>= _) _ _ s
  refine wpAny_bind (wpAny_field ho hd (x := .int i 0) rfl ?_)
  show wpAny _ _ (seqItems? (.ref t) >>= _) _ _ s
  refine wpAny_bind (wpAny_seqItems hol hdl ?_)
  simp only [Int.toNat_natCast, hx]
  refine wpAny_bind (wpAny_rule (wpAny_bind (wpAny_setField ho hd (by simp) ?_)))
  show wpAny _ _ (newExc (.type "StopIteration") [] >>= _) _ _ _
  refine wpAny_bind ?_
  simp only [newExc, newTuple]
  refine wpAny_bind (wpAny_newObj_type ?_ (by size_fits))
  refine wpAny_bind (m := firstArgMember _ _) (wpAny_of_eq (a := Value.none) (by first | rfl | (simp only [firstArgMember]; rfl)) ?_)
  refine wpAny_newObj_type ?_ (by size_fits)
  simp only [raiseNew]
  refine wpAny_bind (wpAny_handled ?_)
  first | rw [show A.in1.handled = none from hh] | rw [hh]
  refine wpAny_bind (wpAny_pure (wpAny_throw ?_))
  exact hE _ _ (((Heap.SameBut.update ..).extBut.push _).push _) ⟨_, Heap.get?_push_size _ rfl, rfl⟩

theorem draws_tuple (hh : A.handled = none) (it l : Addr) (hne : l ≠ it) (items : Array Value) :
    Draws prog w A it [it, l] items.size (fun i v => items[i]? = some v) (fun i h => h.IsTupleIter it l i ∧ h.IsTuple l items) where
  live := fun _ _ st => let ⟨o, ho, _⟩ := st.1; ⟨o, ho⟩
  frame := fun _ _ _ st hk => ⟨st.1.at fun o e => hk it (by simp) o e, st.2.at fun o e => hk l (by simp) o e⟩
  item := fun i s Q E hi st hQ => by
    refine nextOf_tuple_item st.1 st.2 (x := items[i]) (by simp [hi]) fun h' hit' hs' => ?_
    exact hQ _ h' s.toks (by simp [hi]) ⟨hit', st.2.extBut hs'.extBut hne⟩ hs'
  done := fun s Q E st hE => nextOf_tuple_end hh st.1 st.2 (by simp) hE
end

theorem meets_enumerate_tuple (l : Addr) (items : Array Value) (n : Nat) (dct : Option Addr) (sl : Array (Option Value)) :
    Meets (Builtin.«enumerate.__new__» ⟨[.type "enumerate", .ref l], []⟩) (fun _ R s => s.heap.get? l = some { cls := .type "tuple", dict := dct, data := .seq items n, slots := sl } ∧
      R (.ok (.ret (.ref (s.heap.push { cls := .type "tuple_iterator", data := .fields #[.ref l, .int 0 0] }).objs.size)))
        { s with heap := (s.heap.push { cls := .type "tuple_iterator", data := .fields #[.ref l, .int 0 0] }).push { cls := .type "enumerate", data := .fields #[.none, .bool false, .ref s.heap.objs.size, rawInt 0, .none, .none] } }) :=
  .of_wp fun prog w A R s h => by
    obtain ⟨hp, g, d, tk, os⟩ := s; obtain ⟨hl, h⟩ := h
    have hsub := sub_enumerate
    have hL : Heap.IsTuple (Shared.heap ⟨hp, g, d, tk, os⟩) l items := ⟨_, hl, rfl, n, rfl⟩
    wp_walk using wpAny_loadPart' hl
    refine wpAny_stack_any fun st => wpAny_pure ?_
    split
    · rename_i c _ _ _ _ _
      cases (c == Value.type "enumerate")
      · wp_walk using wpAny_loadPart' hl, wpAny_pyIter_tuple hL
        exact ⟨_, rfl, h⟩
      · wp_walk using wpAny_loadPart' hl, wpAny_pyIter_tuple hL
        exact ⟨_, rfl, h⟩
    · wp_walk using wpAny_loadPart' hl, wpAny_pyIter_tuple hL
      exact ⟨_, rfl, h⟩

section
variable {prog : Program} {w : World} {A : Around} {E : Value → Shared → Prop} {s : Shared}

theorem call_enumerate_tuple {l : Addr} {items : Array Value} {Q : Value → Shared → Prop} (hL : s.heap.IsTuple l items)
    (h : ∀ h', IsEnum h' (s.heap.objs.size + 1) s.heap.objs.size 0 .none → h'.IsTupleIter s.heap.objs.size l 0 → h'.objs.size = s.heap.objs.size + 2 →
      (∀ b o, s.heap.get? b = some o → h'.get? b = some o) → Q (.ref (s.heap.objs.size + 1)) { s with heap := h' }) :
    wpAny (model prog w) A (call (.type "enumerate") [.ref l]) Q E s := by
  obtain ⟨⟨c, dct, dt, sl⟩, hl, hc, n, hd⟩ := hL
  replace hc : c = .type "tuple" := hc
  replace hd : dt = .seq items n := hd
  subst hc hd
  refine callType_new PySem.F.called_enumerate (by decide) (PySem.F.typeCall_enumerate_1 _) (PySem.F.newCall_enumerate_1 _) (fun obj => PySem.F.args_object_init_2 obj _) PySem.F.entry_enumerate_new
    (meets_enumerate_tuple l items n dct sl) ⟨hl, ?_⟩
  have hz : (s.heap.push { cls := .type "tuple_iterator", data := .fields #[.ref l, .int 0 0] }).objs.size = s.heap.objs.size + 1 := Heap.size_push ..
  show _ ∧ _
  rw [hz]
  have he : IsEnum ((s.heap.push { cls := .type "tuple_iterator", data := .fields #[.ref l, .int 0 0] }).push
      { cls := .type "enumerate", data := .fields #[.none, .bool false, .ref s.heap.objs.size, rawInt 0, .none, .none] }) (s.heap.objs.size + 1) s.heap.objs.size 0 .none := by
    have := Heap.get?_push_size (s.heap.push { cls := .type "tuple_iterator", data := .fields #[.ref l, .int 0 0] })
      (o := { cls := .type "enumerate", data := .fields #[.none, .bool false, .ref s.heap.objs.size, rawInt 0, .none, .none] }) rfl
    rw [hz] at this; exact this
  refine ⟨⟨_, he, rfl⟩, h _ he ⟨_, Heap.get?_push_of_some _ (Heap.get?_push_size _ rfl), rfl, rfl⟩ (by rw [Heap.size_push, hz]) fun b o x => Heap.get?_push_of_some _ (Heap.get?_push_of_some _ x)⟩

/-! ## a for with any target -/
theorem forG {target iter : Expr} {body orelse : List Stmt} {pos : Pos} {env : Env} {Q : Flow → Shared → Prop}
    (h : wpAny (model prog w) A (eval iter env) (fun xv s₁ => wpAny (model prog w) A (pyIter xv) (fun it s₂ => ∃ I fp wr n P Md St, ∃ J : Nat → Shared → Prop, it = .ref I ∧ KTurns prog w A target I fp wr n P Md St ∧ St 0 s₂.heap ∧ J 0 s₂ ∧
      (∀ i v s₃ h₄ tk (E' : Value → Shared → Prop), i < n → P i v h₄ → J i s₃ → (∀ b o, b ∉ wr → s₃.heap.get? b = some o → h₄.get? b = some o) → St (i + 1) h₄ →
        wpAny (model prog w) A (assign target env v) (fun _ s₅ => wpAny (model prog w) A (execs body env) (fun f s₆ => match f with
          | .next | .cont => J (i + 1) s₆ ∧ St (i + 1) s₆.heap
          | .brk => Q .next s₆
          | .ret r => Q (.ret r) s₆) E' s₅) E' { s₃ with heap := h₄, toks := tk }) ∧
      (∀ s₃ h₄ tk (E' : Value → Shared → Prop), J n s₃ → (∀ b o, b ∉ wr → s₃.heap.get? b = some o → h₄.get? b = some o) → wpAny (model prog w) A (execs orelse env) Q E' { s₃ with heap := h₄, toks := tk })) E s₁) E s)
    (hs : ∀ x, foldedSetIterable iter env x = pure x := by intro _; rfl) :
    wpAny (model prog w) A (exec (.For target iter body orelse pos) env) Q E s := by
  refine wpAny_For (wpAny_mono h (fun xv s₁ h₁ => wpAny_mono h₁ (fun it s₂ h₂ => ?_) fun _ _ e => e) fun _ _ e => e) hs
  obtain ⟨I, fp, wr, n, P, Md, St, J, rfl, W, hst, hJ, step, fin⟩ := h₂
  refine codeAny_forLoop_any (fun k s' => ∃ i, i ≤ n ∧ k = n + 1 - i ∧ J i s' ∧ St i s'.heap) ?_ (n + 1) ⟨0, Nat.zero_le _, rfl, hJ, hst⟩
  rintro k s' ⟨i, hi, rfl, hJ', hst'⟩
  by_cases hlt : i < n
  · refine W.item i _ _ _ hlt hst' fun v h₁ tk hMd hk₁ => ?_
    dsimp only
    refine W.go i v _ _ _ hMd fun h₃ hP hst₃ hk₃ => ?_
    refine wpAny_mono (step i v s' h₃ tk _ hlt hP hJ' (fun b o hb e => hk₃ b o hb (hk₁ b o hb e)) hst₃) (fun _ s₅ h₅ => wpAny_mono h₅ (fun f s₆ h₆ => ?_) fun _ _ e => e) fun _ _ e => e
    cases f with
    | next => exact ⟨n + 1 - (i + 1), by omega, i + 1, hlt, rfl, h₆⟩
    | cont => exact ⟨n + 1 - (i + 1), by omega, i + 1, hlt, rfl, h₆⟩
    | brk => exact h₆
    | ret r => exact h₆
  · obtain rfl : i = n := by omega
    refine W.done _ _ _ hst' fun h₁ tk hk₁ => ?_
    exact fin s' h₁ tk _ hJ' hk₁

theorem go_tuple {elts : List Expr} {k : Nat} {pos : Pos} {I t : Addr} {i : Nat} {v : Value} {Q : Unit → Shared → Prop} (hit : s.heap.IsTupleIter I t i) (hQ : Q () s) :
    wpAny (model prog w) A (letOwnedTupleGo (.Tuple elts k pos) (.ref I) v) Q E s := by
  obtain ⟨o, ho, hc, hd⟩ := hit
  unfold letOwnedTupleGo
  cases v with
  | ref T =>
    refine wpAny_bind (wpAny_load ho ?_)
    rw [hc, hd]
    show wpAny _ A (if (["enumerate", "zip", "dict_itemiterator", "dict_reverseitemiterator", "odict_iterator", "itertools.zip_longest", "itertools.pairwise"].contains "tuple_iterator" && _) = true then _ else _) Q E s
    rw [if_neg (by
      intro h
      rw [show (["enumerate", "zip", "dict_itemiterator", "dict_reverseitemiterator", "odict_iterator", "itertools.zip_longest", "itertools.pairwise"].contains "tuple_iterator") = false from by decide, Bool.false_and] at h
      cases h)]
    exact wpAny_pure hQ
  | _ => exact wpAny_pure hQ
theorem turns_tuple (hh : A.handled = none) {elts : List Expr} {k : Nat} {pos : Pos} (I ax : Addr) (hne : ax ≠ I) (items : Array Value) :
    KTurns prog w A (.Tuple elts k pos) I [I, ax] [I] items.size (fun i v _ => items[i]? = some v) (fun i v h => items[i]? = some v ∧ h.IsTupleIter I ax (i + 1) ∧ h.IsTuple ax items) (fun i h => h.IsTupleIter I ax i ∧ h.IsTuple ax items) :=
  KTurns.ofWalks (Walks.tuple hh I ax hne items) fun _ _ _ _ _ st hQ => go_tuple st.1 hQ
end
end Mine
/-! part F1 -/
namespace Mine
open PySem PySem.W PySem.Calls PyProof.Rows
open Sem (wp)

/-! ## filemode -/
def fmTab : List (List (Int × Str)) :=
  [[(40960, "l"), (49152, "s"), (32768, "-"), (24576, "b"), (16384, "d"), (8192, "c"), (4096, "p")],
   [(256, "r")], [(128, "w")], [(2112, "s"), (2048, "S"), (64, "x")],
   [(32, "r")], [(16, "w")], [(1032, "s"), (1024, "S"), (8, "x")],
   [(4, "r")], [(2, "w")], [(513, "t"), (512, "T"), (1, "x")]]
def fmHit (i : Nat) (m b : Int) : Bool := if i = 0 then Builtin.bitAnd m 61440 == b else Builtin.bitAnd m b == b
def fmChar (i : Nat) (m : Int) (row : List (Int × Str)) : Str := match row.find? (fun p => fmHit i m p.1) with
  | some p => p.2
  | none => if i = 0 then "?" else "-"
def fmTexts (m : Int) : List Str := (List.range 10).map fun i => fmChar i m (fmTab.getD i [])

structure TableAt (h : Heap) (tb : Addr) (rs : List Value) : Prop where
  tup : h.IsTuple tb rs.toArray
  len : rs.length = 10
  row : ∀ (i : Nat) row, fmTab[i]? = some row → ∃ R ps, rs[i]? = some (.ref R) ∧ h.IsTuple R (List.toArray ps) ∧ ps.length = row.length ∧
    ∀ (j : Nat) b c, row[j]? = some (b, c) → ∃ T tb tc, ps[j]? = some (.ref T) ∧ h.IsTuple T #[.int b tb, .str c tc]
theorem TableAt.keeps {h h' : Heap} {tb : Addr} {rs : List Value} (x : TableAt h tb rs) (k : h.StaysIn h') : TableAt h' tb rs where
  tup := x.tup.at fun o e => k _ o e
  len := x.len
  row := fun i row e => let ⟨R, ps, a, b, c, d⟩ := x.row i row e
    ⟨R, ps, a, b.at fun o e => k _ o e, c, fun j b c e => let ⟨T, tb, tc, p, q⟩ := d j b c e; ⟨T, tb, tc, p, q.at fun o e => k _ o e⟩⟩

section
variable {prog : Program} {w : World} {A : Around} {E : Value → Shared → Prop} {s : Shared} {env : Env}

theorem ifmt_call {f : Addr} {m : Int} {t : Tok} {Q : Value → Shared → Prop} (hf : FnAt s.heap f "S_IFMT" 3) (hlim : s.heap.NoLimit) (R : Room 1 A)
    (h : ∀ h' t tk, s.heap.StaysIn h' → Q (.int (Builtin.bitAnd m 61440) t) { s with heap := h', toks := tk }) :
    wpAny (model prog w) A (call (.ref f) [.int m t]) Q E s := by
  refine call_def (binds := [("mode", .int m t)]) hf hlim (by have := R.depth; omega) (fun _ _ _ _ _ => rfl) (fun h₁ cdv hn hk => ?_)
  refine wpAny_execs_cons ?_
  refine wpAny_Return_some ?_
  refine wpAny_BinOp ?_
  refine ev_loc hn rfl ?_
  refine wpAny_Constant_int ?_
  refine and_int ?_
  exact h _ _ _ hk

theorem append_stmt {x : Str} {px apos pos epos : Pos} {elt : Expr} {L P : Addr} {m : Str → Option Value} {its : Array Value} {Q : Flow → Shared → Prop} (hL : env.locals = L)
    (hn : s.heap.Ns L m) (hx : m x = some (.ref P)) (hP : PlainL s.heap P its) (hsz : its.size ≤ sizeLine)
    (h : wpAny (model prog w) A (eval elt env) (fun y s₁ => PlainL s₁.heap P its ∧ ∀ h', PlainL h' P (its.push y) → Heap.SameBut P s₁.heap h' → Q .next { s₁ with heap := h' }) E s)
    (hk : env.scope.kind = .function := by rfl) (hxl : env.kindOf x = some .local := by rfl) (hd : (x == ("__debug__" : Str)) = false := by decide)
    (hbase : attributeBase (.Name x px) "append" env (eval (.Name x px) env) = eval (.Name x px) env := by rfl)
    (hfew : ((backTo pos (starEach [elt] env)).all (fun x => !x.1) && (backToKw pos (keywordEach [] env)).all (fun x => x.1.isSome)
      && decide (([elt] : List Expr).length + ([] : List Keyword).length + (if ([] : List Keyword).isEmpty then 0 else 1) < 30)) = true := by rfl)
    (hline : (apos.endLine == pos.line) = true := by rfl)
    (htrees : backTo pos (starEach [elt] env) = [(false, eval elt env)] := by rfl)
    (hi : interactive env = false := by rfl) (hs : swapsWith (.Call (.Attribute (.Name x px) "append" apos) [elt] [] pos) none epos.line env = pure false := by rfl) :
    wpAny (model prog w) A (exec (.Expr (.Call (.Attribute (.Name x px) "append" apos) [elt] [] pos) epos) env) Q E s := by
  refine wpAny_Expr ?_ hi hs
  refine wpAny_Call_append hbase hfew hline htrees ?_
  refine ev_loc (hL ▸ hn) hx ?_ hk hxl hd
  refine ⟨P, its, rfl, hP, wpAny_mono h (fun y s₁ h₁ => ?_) fun _ _ e => e⟩
  exact list_append_plainL h₁.1 (fun h' hp hs' => h₁.2 h' hp hs') hsz
end
end Mine
/-! part F2 -/
namespace Mine
open PySem PySem.W PySem.Calls PyProof.Rows
open Sem (wp)

def FmSt (s : Shared) (L P : Addr) (m : Int) (tm : Tok) (txt : List Str) (s' : Shared) : Prop :=
  ∃ h tk mm l, s' = { s with heap := h, toks := tk } ∧ h.Ns L mm ∧ mm "mode" = some (.int m tm) ∧ mm "perm" = some (.ref P) ∧ PlainL h P (strValues l).toArray ∧ l.map (·.1) = txt ∧ s.heap.StaysIn h
def FmIn (s : Shared) (L : Addr) (h₅ : Heap) (m : Int) (tm : Tok) (P : Addr) (i : Nat) (ti : Tok) (row : List (Int × Str)) (j : Nat) (s' : Shared) : Prop :=
  ∃ h tk mm, s' = { s with heap := h, toks := tk } ∧ h.Ns L mm ∧ mm "mode" = some (.int m tm) ∧ mm "perm" = some (.ref P) ∧ mm "index" = some (.int i ti) ∧ (∀ b o, b ≠ L → h₅.get? b = some o → h.get? b = some o) ∧ ∀ p ∈ row.take j, fmHit i m p.1 = false

theorem fmTexts_take {i : Nat} {m : Int} {row : List (Int × Str)} (hr : fmTab[i]? = some row) (hi : i < 10) : (fmTexts m).take (i + 1) = (fmTexts m).take i ++ [fmChar i m row] := by
  rw [List.take_add_one]
  congr 1
  have : fmTab.getD i [] = row := by simp [List.getD, hr]
  simp only [fmTexts, List.getElem?_map, List.getElem?_range hi, Option.map_some, this]
  rfl
theorem fmTexts_len (m : Int) : (fmTexts m).length = 10 := by simp [fmTexts]
theorem fmTab_one : ∀ row ∈ fmTab, ∀ p ∈ row, p.2.length = 1 := by decide
theorem fmChar_len {i : Nat} {m : Int} {row : List (Int × Str)} (hr : row ∈ fmTab) : (fmChar i m row).length = 1 := by
  unfold fmChar
  cases e : row.find? (fun p => fmHit i m p.1) with
  | some p => exact fmTab_one row hr p (List.mem_of_find?_eq_some e)
  | none => dsimp only; split <;> rfl
theorem fmTexts_ok (m : Int) : JoinOk "" (fmTexts m) = true := by
  unfold JoinOk
  rw [Bool.not_eq_true']
  have hB : ∀ y ∈ fmTexts m, y.length ≤ 1 := by
    intro y hy
    obtain ⟨i, hi, rfl⟩ := List.mem_map.mp hy
    have hi' : i < fmTab.length := List.mem_range.mp hi
    rw [fmChar_len (by rw [List.getD_eq_getElem?_getD, List.getElem?_eq_getElem hi']; exact List.getElem_mem hi')]
    exact Nat.le_refl _
  exact PySem.StrLaws.joinFits hB (by rw [fmTexts_len]; decide)
theorem find_first {α : Type} {p : α → Bool} {l : List α} {j : Nat} {a : α} (ha : l[j]? = some a) (hp : p a = true) (hn : ∀ x ∈ l.take j, p x = false) : l.find? p = some a := by
  induction l generalizing j with
  | nil => simp at ha
  | cons x r ih =>
    cases j with
    | zero => simp at ha; subst ha; simp [hp]
    | succ j =>
      rw [List.find?_cons, hn x (by simp)]
      exact ih (by simpa using ha) fun y hy => hn y (by simp [hy])
theorem find_none {α : Type} {p : α → Bool} {l : List α} (hn : ∀ x ∈ l, p x = false) : l.find? p = none := by
  simp [List.find?_eq_none]; intro x hx; simp [hn x hx]

section
variable {prog : Program} {w : World} {A : Around} {E : Value → Shared → Prop} {s : Shared}
set_option maxHeartbeats 1600000 in
theorem filemode_call {f fi tb : Addr} {rs : List Value} {m : Int} {tm : Tok} {Q : Value → Shared → Prop} (hf : FnAt s.heap f "filemode" 24) (hlim : s.heap.NoLimit) (R : Room 2 A)
    (g1 : GName s.heap "enumerate" (.type "enumerate")) (g2 : GName s.heap "_filemode_table" (.ref tb)) (g3 : GName s.heap "S_IFMT" (.ref fi)) (hfi : FnAt s.heap fi "S_IFMT" 3) (hT : TableAt s.heap tb rs)
    (h : ∀ h' t tk, s.heap.StaysIn h' → Q (.str (Txt.join "" (fmTexts m)) t) { s with heap := h', toks := tk }) :
    wpAny (model prog w) A (call (.ref f) [.int m tm]) Q E s := by
  refine call_def (binds := [("mode", .int m tm)]) hf hlim (by have := R.depth; omega) (fun _ _ _ _ _ => rfl) (fun h₁ cdv hn hk => ?_)
  have hh : A.handled = none := R.handled
  generalize hL : s.heap.objs.size = L at *
  have ltL : ∀ b o, s.heap.get? b = some o → @LT.lt Nat _ b L := fun b o e => hL ▸ ltg e
  refine wpAny_execs_cons ?_
  refine wpAny_Assign_Name ?_
  refine wpAny_List ?_
  refine wpAny_items_nil ⟨by simp [sizeLine_eq], ?_⟩
  dsimp only
  have hLP : @LT.lt Nat _ L h₁.objs.size := hn.lt
  refine wpAny_storeName_local rfl (hn.keeps fun b o e => Heap.get?_push_of_some _ e) (fun h₂ hn₂ hs₂ => ?_) rfl
  have hs₂' : Heap.SameBut L (h₁.push { cls := .type "list", data := .seq (List.toArray []) }) h₂ := hs₂
  generalize hP : h₁.objs.size = P at *
  have hPL : PlainL h₂ P (strValues []).toArray := ⟨_, _, hs₂'.extBut _ _ (Nat.ne_of_gt hLP) (by rw [← hP]; exact Heap.get?_push_size _ rfl), rfl, rfl, rfl⟩
  have k2 : s.heap.StaysIn h₂ := fun b o e => hs₂'.extBut b o (Nat.ne_of_lt (ltL b o e)) (Heap.get?_push_of_some _ (hk b o e))
  refine wpAny_execs_cons ?_
  refine forG ?_
  refine ev_callT (g1.keeps k2) ?_
  refine spliced_more ?_
  refine ev_glob (g2.keeps k2) ?_
  refine spliced_none ?_
  refine call_enumerate_tuple ((hT.keeps k2).tup) fun h₃ he hit hsz₃ hk₃ => ?_
  refine wpAny_pyIter_enum he ?_
  have tblt : @LT.lt Nat _ tb h₂.objs.size := by obtain ⟨o, a, _⟩ := (hT.keeps k2).tup; exact ltg a
  have Llt : @LT.lt Nat _ L h₂.objs.size := hn₂.lt
  have Plt : @LT.lt Nat _ P h₂.objs.size := hPL.lt
  generalize hN : h₂.objs.size = N at *
  have W := (WalksT.enumerateD (prog := prog) (w := w) (A := A.deeper (envOf "filemode" (defScope 24) L f cdv)) (draws_tuple (by exact hh) N tb (Nat.ne_of_lt tblt) rs.toArray) (N + 1) (Nat.succ_ne_self _) (by simp only [List.mem_cons, List.not_mem_nil, or_false]; rintro (q | q); exact Nat.succ_ne_self _ q; exact absurd (q ▸ tblt) (Nat.not_lt.mpr (Nat.le_succ _))) (by simp)).toU
  refine ⟨_, _, _, _, _, _, _, fun i => FmSt s L P m tm ((fmTexts m).take i), rfl, KTurns.ofWalksU W, ⟨⟨_, he⟩, hit, (hT.keeps k2).tup.at fun o e => hk₃ _ o e⟩, ?_, ?_, ?_⟩
  · exact ⟨h₃, _, _, [], rfl, hn₂.keeps hk₃, rfl, rfl, hPL.keeps hk₃, rfl, fun b o e => hk₃ b o (k2 b o e)⟩
  · intro i v s₃ h₄ tk E' hi hP4 hJ hk₄ hst₄
    obtain ⟨h₃', tk₃, mm, l, rfl, hn₃, q1, q2, hp, hl, hk₃'⟩ := hJ
    have hi10 : i < 10 := by simpa [hT.len] using hi
    obtain ⟨T, vals, rfl, ⟨ti, x, hx, rfl⟩, hTT⟩ := hP4
    obtain ⟨row, hrow⟩ : ∃ row, fmTab[i]? = some row := ⟨_, List.getElem?_eq_getElem hi10⟩
    have LN : L ∉ [N + 1, N] := by simp only [List.mem_cons, List.not_mem_nil, or_false]; rintro (q | q) <;> rw [q] at Llt; exact absurd Llt (Nat.not_lt.mpr (Nat.le_succ _)); exact absurd Llt (Nat.lt_irrefl _)
    have PN : P ∉ [N + 1, N] := by simp only [List.mem_cons, List.not_mem_nil, or_false]; rintro (q | q) <;> rw [q] at Plt; exact absurd Plt (Nat.not_lt.mpr (Nat.le_succ _)); exact absurd Plt (Nat.lt_irrefl _)
    have sN : ∀ b o, s.heap.get? b = some o → b ∉ [N + 1, N] := fun b o e hm => by
      have q := ltL b o e
      simp only [List.mem_cons, List.not_mem_nil, or_false] at hm
      rcases hm with r | r <;> rw [r] at q
      · exact absurd (Nat.lt_trans q Llt) (Nat.not_lt.mpr (Nat.le_succ _))
      · exact absurd (Nat.lt_trans q Llt) (Nat.lt_irrefl _)
    have k4 : s.heap.StaysIn h₄ := fun b o e => hk₄ b o (sN b o e) (hk₃' b o e)
    have sL : ∀ b o, s.heap.get? b = some o → b ≠ L := fun b o e => Nat.ne_of_lt (ltL b o e)
    have sP : ∀ b o, s.heap.get? b = some o → b ≠ P := fun b o e => Nat.ne_of_lt (Nat.lt_trans (ltL b o e) hLP)
    obtain ⟨Rw, ps, hRs, hRt0, hpl, hpr⟩ := hT.row i row hrow
    have RwL : @LT.lt Nat _ Rw L := by obtain ⟨o, a, _⟩ := hRt0; exact ltL _ o a
    have tbL : @LT.lt Nat _ tb L := by obtain ⟨o, a, _⟩ := hT.tup; exact ltL _ o a
    have fpL : ∀ b ∈ (N + 1) :: [N, tb], b ≠ L ∧ b ≠ P := by
      intro b hb
      simp only [List.mem_cons, List.not_mem_nil, or_false] at hb
      rcases hb with r | r | r <;> subst r
      · exact ⟨Nat.ne_of_gt (Nat.lt_succ_of_lt Llt), Nat.ne_of_gt (Nat.lt_succ_of_lt Plt)⟩
      · exact ⟨Nat.ne_of_gt Llt, Nat.ne_of_gt Plt⟩
      · exact ⟨Nat.ne_of_lt tbL, Nat.ne_of_lt (Nat.lt_trans tbL hLP)⟩
    obtain rfl : x = .ref Rw := by
      have : rs.toArray[i]? = some x := hx
      rw [List.getElem?_toArray, hRs] at this
      exact (Option.some.inj this).symm
    refine kcp_assign hh hTT rfl rfl rfl (hn₃.at' fun o e => hk₄ _ o LN e) fun h₅ tk₅ hn₅ hk₅ => ?_
    have hn₅' : h₅.Ns L (fun z => if z = "table" then some (.ref Rw) else if z = "index" then some (.int i ti) else mm z) := hn₅
    have hk₅' : ∀ b o, b ≠ L → h₄.get? b = some o → h₅.get? b = some o := hk₅
    have hp₅ : PlainL h₅ P (strValues l).toArray := let ⟨o, n, e, r⟩ := hp; ⟨o, n, hk₅' P o (Nat.ne_of_gt hLP) (hk₄ P o PN e), r⟩
    have k5 : s.heap.StaysIn h₅ := fun b o e => hk₅' b o (sL b o e) (k4 b o e)
    have hlen : l.length ≤ 10 := by
      have := congrArg List.length hl
      rw [List.length_map, List.length_take, fmTexts_len] at this
      omega
    have fin : ∀ (h₆ : Heap) tk₆ mm₆ (c : Str) (tc : Tok), h₆.Ns L mm₆ → mm₆ "mode" = some (.int m tm) → mm₆ "perm" = some (.ref P) → PlainL h₆ P ((strValues l).toArray.push (.str c tc)) → c = fmChar i m row →
        (∀ b o, b ≠ L → b ≠ P → h₅.get? b = some o → h₆.get? b = some o) →
        FmSt s L P m tm ((fmTexts m).take (i + 1)) { s with heap := h₆, toks := tk₆ } ∧ ((∃ old, IsEnum h₆ (N + 1) N ((i + 1 : Nat) : Int) old) ∧ h₆.IsTupleIter N tb (i + 1) ∧ h₆.IsTuple tb rs.toArray) := by
      intro h₆ tk₆ mm₆ c tc a1 a2 a3 a4 a5 a6
      refine ⟨⟨h₆, tk₆, mm₆, l ++ [(c, tc)], rfl, a1, a2, a3, by simpa [strValues] using a4, by rw [List.map_append, hl, fmTexts_take hrow hi10, a5]; rfl, fun b o e => a6 b o (sL b o e) (sP b o e) (k5 b o e)⟩, ?_⟩
      exact W.frame _ _ _ hst₄ fun b hb o e => a6 b o (fpL b hb).1 (fpL b hb).2 (hk₅' b o (fpL b hb).1 e)
    have hRt : h₅.IsTuple Rw ps.toArray := hRt0.at fun o e => k5 _ o e
    have RwI : @LT.lt Nat _ Rw h₅.objs.size := by obtain ⟨o, a, _⟩ := hRt; exact ltg a
    have LI : @LT.lt Nat _ L h₅.objs.size := hn₅'.lt
    refine wpAny_execs_cons ?_
    refine forG ?_
    refine ev_loc hn₅' rfl ?_
    refine wpAny_pyIter_tuple hRt ?_
    generalize hI : h₅.objs.size = I2 at *
    refine ⟨_, _, _, _, _, _, _, FmIn s L h₅ m tm P i ti row, rfl, turns_tuple (by exact hh) I2 Rw (Nat.ne_of_lt RwI) ps.toArray, ⟨⟨_, by rw [← hI]; exact Heap.get?_push_size _ rfl, rfl, rfl⟩, hRt.at fun o e => Heap.get?_push_of_some _ e⟩, ?_, ?_, ?_⟩
    · exact ⟨_, _, _, rfl, hn₅'.keeps fun b o e => Heap.get?_push_of_some _ e, q1, q2, rfl, fun b o _ e => Heap.get?_push_of_some _ e, by simp⟩
    · intro j v' s₆ h₇ tk₇ E'' hj hv' hJ' hk₇ hst₇
      obtain ⟨h₆, tk₆, mm₆, rfl, hn₆, r1, r2, r3, hk₆, hno⟩ := hJ'
      have up7 : ∀ b o, b ≠ L → h₅.get? b = some o → h₇.get? b = some o := fun b o hb e => hk₇ b o (by simp only [List.mem_cons, List.not_mem_nil, or_false]; exact fun q => absurd (hI ▸ ltg e : @LT.lt Nat _ b I2) (by rw [q]; exact Nat.lt_irrefl _)) (hk₆ b o hb e)
      have hn₇ : h₇.Ns L mm₆ := hn₆.at' fun o e => hk₇ _ o (by simp only [List.mem_cons, List.not_mem_nil, or_false]; exact Nat.ne_of_lt LI) e
      have hjr : j < row.length := by simpa [hpl] using hj
      obtain ⟨T', tb', tc', hT', hTt'⟩ := hpr j row[j].1 row[j].2 (List.getElem?_eq_getElem hjr)
      obtain rfl : v' = .ref T' := by
        have : ps.toArray[j]? = some v' := hv'
        rw [List.getElem?_toArray, hT'] at this
        exact (Option.some.inj this).symm
      refine kcp_assign hh (hTt'.at fun o e => up7 _ o (sL _ o e) (k5 _ o e)) rfl rfl rfl hn₇ fun h₈ tk₈ hn₈ hk₈ => ?_
      obtain ⟨mm₈, hn₈', m1, m2, m3, m4, m5⟩ : ∃ mm : Str → Option Value, h₈.Ns L mm ∧ mm "mode" = some (.int m tm) ∧ mm "perm" = some (.ref P) ∧ mm "index" = some (.int i ti) ∧ mm "bit" = some (.int row[j].1 tb') ∧ mm "char" = some (.str row[j].2 tc') :=
        ⟨_, hn₈, r1, r2, r3, rfl, rfl⟩
      have up8 : ∀ b o, b ≠ L → h₅.get? b = some o → h₈.get? b = some o := fun b o hb e => hk₈ b o hb (up7 b o hb e)
      have k8 : s.heap.StaysIn h₈ := fun b o e => up8 b o (sL b o e) (k5 b o e)
      have miss : ∀ (h₉ : Heap) (tk₉ : Nat), (∀ b o, h₈.get? b = some o → h₉.get? b = some o) → fmHit i m row[j].1 = false → FmIn s L h₅ m tm P i ti row (j + 1) { s with heap := h₉, toks := tk₉ } ∧ h₉.IsTupleIter I2 Rw (j + 1) ∧ h₉.IsTuple Rw ps.toArray := by
        intro h₉ tk₉ hk₉ hf
        refine ⟨⟨h₉, tk₉, mm₈, rfl, hn₈'.keeps hk₉, m1, m2, m3, fun b o hb e => hk₉ b o (up8 b o hb e), ?_⟩, hst₇.1.at fun o e => hk₉ _ o (hk₈ _ o (Nat.ne_of_gt LI) e), hst₇.2.at fun o e => hk₉ _ o (hk₈ _ o (Nat.ne_of_lt RwL) e)⟩
        intro q hq
        rw [List.take_add_one, List.getElem?_eq_getElem hjr] at hq
        rcases List.mem_append.mp hq with hq | hq
        · exact hno q hq
        · simp at hq; subst hq; exact hf
      have hitc : fmHit i m row[j].1 = true → row[j].2 = fmChar i m row := by
        intro hf
        unfold fmChar
        rw [find_first (p := fun p : Int × Str => fmHit i m p.1) (List.getElem?_eq_getElem hjr) hf hno]
      have hp₈ : PlainL h₈ P (strValues l).toArray := let ⟨o, n, e, r⟩ := hp₅; ⟨o, n, up8 P o (Nat.ne_of_gt hLP) e, r⟩
      have szl : (strValues l).toArray.size ≤ sizeLine := by simp [strValues, sizeLine_eq]; omega
      refine wpAny_execs_cons ?_
      refine wpAny_If ?_
      refine wpAny_isTrue_Compare1 ?_
      refine ev_loc hn₈' m3 ?_
      refine wpAny_Constant_int ?_
      refine eq_int ?_
      refine wpAny_truthy_bool ?_
      by_cases hi0 : i = 0
      · rw [if_pos (by rw [hi0]; rfl)]
        refine wpAny_execs_cons ?_
        refine wpAny_If ?_
        refine wpAny_isTrue_Compare1 ?_
        refine ev_callF (g3.keeps k8) (hfi.keeps k8) ?_
        refine spliced_more ?_
        refine ev_loc hn₈' m1 ?_
        refine spliced_none ⟨fun _ _ e => e, ?_⟩
        refine ifmt_call (hfi.keeps k8) (hlim.keeps k8) (R.deeper _) fun h₉ t₉ tk₉ hk₉ => ?_
        refine ev_loc (hn₈'.keeps hk₉) m4 ?_
        refine eq_int ?_
        refine wpAny_truthy_bool ?_
        have hh' : fmHit i m row[j].1 = (Builtin.bitAnd m 61440 == row[j].1) := by simp [fmHit, hi0]
        cases hc : (Builtin.bitAnd m 61440 == row[j].1) with
        | true =>
          rw [if_pos rfl]
          refine wpAny_execs_cons ?_
          refine append_stmt rfl (hn₈'.keeps hk₉) m2 (hp₈.keeps hk₉) szl ?_
          refine ev_loc (hn₈'.keeps hk₉) m5 ?_
          refine ⟨hp₈.keeps hk₉, fun h₁₀ hp₁₀ hs₁₀ => ?_⟩
          refine wpAny_execs_cons ?_
          refine wpAny_Break ?_
          refine wpAny_execs_nil ?_
          exact fin h₁₀ _ mm₈ _ _ ((hn₈'.keeps hk₉).sameBut hs₁₀ (Nat.ne_of_lt hLP)) m1 m2 hp₁₀ (hitc (hh'.trans hc)) fun b o hb hb' e => hs₁₀.extBut b o hb' (hk₉ b o (up8 b o hb e))
        | false =>
          rw [if_neg (by decide)]
          refine wpAny_execs_nil ?_
          refine wpAny_execs_nil ?_
          refine wpAny_execs_nil ?_
          exact miss h₉ _ hk₉ (hh'.trans hc)
      · rw [if_neg (by simpa using hi0)]
        refine wpAny_execs_cons ?_
        refine wpAny_If ?_
        refine wpAny_isTrue_Compare1 ?_
        refine wpAny_BinOp ?_
        refine ev_loc hn₈' m1 ?_
        refine ev_loc hn₈' m4 ?_
        refine and_int ?_
        refine ev_loc hn₈' m4 ?_
        refine eq_int ?_
        refine wpAny_truthy_bool ?_
        have hh' : fmHit i m row[j].1 = (Builtin.bitAnd m row[j].1 == row[j].1) := by simp [fmHit, hi0]
        cases hc : (Builtin.bitAnd m row[j].1 == row[j].1) with
        | true =>
          rw [if_pos rfl]
          refine wpAny_execs_cons ?_
          refine append_stmt rfl hn₈' m2 hp₈ szl ?_
          refine ev_loc hn₈' m5 ?_
          refine ⟨hp₈, fun h₁₀ hp₁₀ hs₁₀ => ?_⟩
          refine wpAny_execs_cons ?_
          refine wpAny_Break ?_
          refine wpAny_execs_nil ?_
          exact fin h₁₀ _ mm₈ _ _ (hn₈'.sameBut hs₁₀ (Nat.ne_of_lt hLP)) m1 m2 hp₁₀ (hitc (hh'.trans hc)) fun b o hb hb' e => hs₁₀.extBut b o hb' (up8 b o hb e)
        | false =>
          rw [if_neg (by decide)]
          refine wpAny_execs_nil ?_
          refine wpAny_execs_nil ?_
          refine wpAny_execs_nil ?_
          exact miss h₈ _ (fun _ _ e => e) (hh'.trans hc)
    · intro s₆ h₇ tk₇ E'' hJ' hk₇
      obtain ⟨h₆, tk₆, mm₆, rfl, hn₆, r1, r2, r3, hk₆, hno⟩ := hJ'
      have up7 : ∀ b o, b ≠ L → h₅.get? b = some o → h₇.get? b = some o := fun b o hb e => hk₇ b o (by simp only [List.mem_cons, List.not_mem_nil, or_false]; exact fun q => absurd (hI ▸ ltg e : @LT.lt Nat _ b I2) (by rw [q]; exact Nat.lt_irrefl _)) (hk₆ b o hb e)
      have hn₇ : h₇.Ns L mm₆ := hn₆.at' fun o e => hk₇ _ o (by simp only [List.mem_cons, List.not_mem_nil, or_false]; exact Nat.ne_of_lt LI) e
      have hp₇ : PlainL h₇ P (strValues l).toArray := let ⟨o, n, e, r⟩ := hp₅; ⟨o, n, up7 P o (Nat.ne_of_gt hLP) e, r⟩
      have szl : (strValues l).toArray.size ≤ sizeLine := by simp [strValues, sizeLine_eq]; omega
      have hno' : ∀ x ∈ row, fmHit i m x.1 = false := by
        have e : row.take ps.toArray.size = row := by rw [List.size_toArray, hpl, List.take_length]
        rw [e] at hno; exact hno
      have hch : fmChar i m row = if i = 0 then ("?" : Str) else ("-" : Str) := by
        unfold fmChar
        rw [find_none (p := fun p : Int × Str => fmHit i m p.1) hno']
      refine wpAny_execs_cons ?_
      refine wpAny_If ?_
      refine wpAny_isTrue_Compare1 ?_
      refine ev_loc hn₇ r3 ?_
      refine wpAny_Constant_int ?_
      refine eq_int ?_
      refine wpAny_truthy_bool ?_
      by_cases hi0 : i = 0
      · rw [if_pos (by rw [hi0]; rfl)]
        rw [if_pos hi0] at hch
        refine wpAny_execs_cons ?_
        refine append_stmt rfl hn₇ r2 hp₇ szl ?_
        refine wpAny_Constant_str ?_
        refine ⟨hp₇, fun h₁₀ hp₁₀ hs₁₀ => ?_⟩
        refine wpAny_execs_nil ?_
        refine wpAny_execs_nil ?_
        refine wpAny_execs_nil ?_
        exact fin h₁₀ _ mm₆ _ _ (hn₇.sameBut hs₁₀ (Nat.ne_of_lt hLP)) r1 r2 hp₁₀ hch.symm fun b o hb hb' e => hs₁₀.extBut b o hb' (up7 b o hb e)
      · rw [if_neg (by simpa using hi0)]
        rw [if_neg hi0] at hch
        refine wpAny_execs_cons ?_
        refine append_stmt rfl hn₇ r2 hp₇ szl ?_
        refine wpAny_Constant_str ?_
        refine ⟨hp₇, fun h₁₀ hp₁₀ hs₁₀ => ?_⟩
        refine wpAny_execs_nil ?_
        refine wpAny_execs_nil ?_
        refine wpAny_execs_nil ?_
        exact fin h₁₀ _ mm₆ _ _ (hn₇.sameBut hs₁₀ (Nat.ne_of_lt hLP)) r1 r2 hp₁₀ hch.symm fun b o hb hb' e => hs₁₀.extBut b o hb' (up7 b o hb e)
  · intro s₃ h₄ tk E' hJ hk₄
    obtain ⟨h₃', tk₃, mm, l, rfl, hn₃, q1, q2, hp, hl, hk₃'⟩ := hJ
    have e10 : rs.toArray.size = 10 := by simp [hT.len]
    refine wpAny_execs_nil ?_
    refine wpAny_execs_cons ?_
    refine wpAny_Return_some ?_
    have LN : L ∉ [N + 1, N] := by simp only [List.mem_cons, List.not_mem_nil, or_false]; rintro (q | q) <;> rw [q] at Llt; exact absurd Llt (Nat.not_lt.mpr (Nat.le_succ _)); exact absurd Llt (Nat.lt_irrefl _)
    have PN : P ∉ [N + 1, N] := by simp only [List.mem_cons, List.not_mem_nil, or_false]; rintro (q | q) <;> rw [q] at Plt; exact absurd Plt (Nat.not_lt.mpr (Nat.le_succ _)); exact absurd Plt (Nat.lt_irrefl _)
    refine wpAny_Call_method rfl rfl rfl PySem.F.plainAttrs_str PySem.F.slot_str_join PySem.F.type_str_join ?_
    refine wpAny_Constant_str ?_
    refine ⟨typeIs_str _ _ _, ?_, ?_⟩
    · intro a e; cases e
    refine callWith_builtin rfl (evalArgs_plain ?_)
    refine spliced_cons ?_
    refine ev_loc (hn₃.at' fun o e => hk₄ _ o LN e) q2 ?_
    refine spliced_nil ?_
    refine SC.join (texts := fmTexts m) (hp.isList.at fun o e => hk₄ _ o PN e) (by rw [hl, e10, ← fmTexts_len m, List.take_length]) (fmTexts_ok m) fun t' k => ?_
    exact h _ _ _ fun b o e => hk₄ b o (fun hm => by
      have q := ltL b o e
      simp only [List.mem_cons, List.not_mem_nil, or_false] at hm
      rcases hm with r | r <;> rw [r] at q
      · exact absurd (Nat.lt_trans q Llt) (Nat.not_lt.mpr (Nat.le_succ _))
      · exact absurd (Nat.lt_trans q Llt) (Nat.lt_irrefl _)) (hk₃' b o e)
end
end Mine
/-! part G0 -/
namespace Mine
open PySem PySem.W PySem.Calls PyProof.Rows
open Sem (wp)
section
variable {prog : Program} {w : World} {A : Around} {E E' : Value → Shared → Prop} {s : Shared}

/-- `range(n)`, and its iterator -/
theorem range_iter {n : Int} {m : Nat} {t : Tok} {Q : Value → Shared → Prop} (hn : n = (m : Int)) (hm : m ≤ 100000)
    (h : ∀ h' I tk, IsRangeIter h' I 0 m 1 → s.heap.StaysIn h' → s.heap.get? I = none → s.heap.objs.size ≤ I → I < h'.objs.size → Q (.ref I) { s with heap := h', toks := tk }) :
    wpAny (model prog w) A (call (.type "range") [.int n t]) (fun xv s₁ => wpAny (model prog w) A (pyIter xv) Q E s₁) E' s := by
  subst hn
  refine call_range_1 ?_
  refine wpAny_pyIter_range (Heap.get?_push_size _ rfl) (small_one (by omega) (by omega) (by omega) (by omega)) ?_
  rw [show Builtin.Range.rangeSize 0 (m : Int) 1 = (m : Int) by rw [rangeSize_one]; split <;> omega]
  refine h _ _ _ (Heap.get?_push_size _ rfl) (fun b o e => Heap.get?_push_of_some _ (Heap.get?_push_of_some _ e)) (Heap.get?_none_of_le ?_) ?_ ?_
  · dsimp only; rw [Heap.size_push]; exact Nat.le_succ _
  · dsimp only; rw [Heap.size_push]; exact Nat.le_succ _
  · dsimp only; rw [Heap.size_push _ { cls := .type "range_iterator", data := _ }]; exact Nat.lt_succ_self _

/-- a range object -/
theorem range_obj {n : Int} {t : Tok} {Q : Value → Shared → Prop}
    (h : ∀ h' R tk u v, IsRange h' R 0 n 1 u t v → s.heap.StaysIn h' → s.heap.get? R = none → s.heap.objs.size ≤ R → R < h'.objs.size → Q (.ref R) { s with heap := h', toks := tk }) :
    wpAny (model prog w) A (call (.type "range") [.int n t]) Q E s := by
  refine call_range_1 ?_
  refine h _ _ _ _ _ (Heap.get?_push_size _ rfl) (fun b o e => Heap.get?_push_of_some _ e) (Heap.get?_none_of_le (Nat.le_refl _)) (Nat.le_refl _) ?_
  rw [Heap.size_push]; exact Nat.lt_succ_self _
theorem range_obj_iter {n : Int} {m : Nat} {r : Addr} {t u v : Tok} {Q : Value → Shared → Prop} (hr : IsRange s.heap r 0 n 1 t u v) (hn : n = (m : Int)) (hm : m ≤ 100000)
    (h : ∀ h' I, IsRangeIter h' I 0 m 1 → s.heap.StaysIn h' → s.heap.get? I = none → s.heap.objs.size ≤ I → I < h'.objs.size → Q (.ref I) { s with heap := h' }) :
    wpAny (model prog w) A (pyIter (.ref r)) Q E s := by
  subst hn
  refine wpAny_pyIter_range hr (small_one (by omega) (by omega) (by omega) (by omega)) ?_
  rw [show Builtin.Range.rangeSize 0 (m : Int) 1 = (m : Int) by rw [rangeSize_one]; split <;> omega]
  refine h _ _ (Heap.get?_push_size _ rfl) (fun b o e => Heap.get?_push_of_some _ e) (Heap.get?_none_of_le (Nat.le_refl _)) (Nat.le_refl _) ?_
  rw [Heap.size_push]; exact Nat.lt_succ_self _

/-- the iterator of a list -/
theorem list_iter {l : Addr} {items : Array Value} {Q : Value → Shared → Prop} (hl : s.heap.IsList l items)
    (h : ∀ h' I, h'.IsListIter I l 0 → h'.IsList l items → s.heap.StaysIn h' → s.heap.get? I = none → s.heap.objs.size ≤ I → I < h'.objs.size → l ≠ I → Q (.ref I) { s with heap := h' }) :
    wpAny (model prog w) A (pyIter (.ref l)) Q E s := by
  refine wpAny_pyIter_list hl ?_
  have hlt : l < s.heap.objs.size := by obtain ⟨o, a, _⟩ := hl; exact ltg a
  refine h _ _ ⟨_, Heap.get?_push_size _ rfl, rfl, rfl⟩ (hl.at fun o e => Heap.get?_push_of_some _ e) (fun b o e => Heap.get?_push_of_some _ e) (Heap.get?_none_of_le (Nat.le_refl _)) (Nat.le_refl _) ?_ (Nat.ne_of_lt hlt)
  rw [Heap.size_push]; exact Nat.lt_succ_self _
end
end Mine
/-! part G1 -/
namespace Mine
open PySem PySem.W PySem.Calls PyProof.Rows
open Sem (wp)

/-! ## _law_signs -/
def sgKind (q : Int) : Str := if q = 8 then "-" else if q = 4 then "d" else if q = 10 then "l" else "s"
def sgThree (n : Int) (k : Nat) : Int := (n.fdiv (8 ^ (2 - k))).fmod 8
def sgOwn (n : Int) (k : Nat) : Int := ((n.fdiv 512).fdiv (2 ^ (2 - k))).fmod 2
def sgA (n : Int) (k : Nat) : Str := if (sgThree n k).fdiv 4 == 1 then "r" else "-"
def sgB (n : Int) (k : Nat) : Str := if ((sgThree n k).fdiv 2).fmod 2 == 1 then "w" else "-"
def sgL (n : Int) (k : Nat) : Str := [("-" : Str), "x", Txt.item "SST" k, Txt.item "sst" k].getD ((sgThree n k).fmod 2 + 2 * sgOwn n k).toNat ""
def sgUp (n : Int) : Nat → Str
  | 0 => sgKind (n.fdiv 4096)
  | k + 1 => sgUp n k ++ sgA n k ++ sgB n k ++ sgL n k
theorem sgA_len (n : Int) (k : Nat) : (sgA n k).length = 1 := by unfold sgA; split <;> rfl
theorem sgB_len (n : Int) (k : Nat) : (sgB n k).length = 1 := by unfold sgB; split <;> rfl

def SgSt (s : Shared) (L : Addr) (n : Int) (tn : Tok) (k : Nat) (s' : Shared) : Prop :=
  ∃ h tk mm t, s' = { s with heap := h, toks := tk } ∧ h.Ns L mm ∧ mm "number" = some (.int n tn) ∧ mm "signs" = some (.str (sgUp n k) t) ∧ s.heap.StaysIn h

section
variable {prog : Program} {w : World} {A : Around} {E : Value → Shared → Prop} {s : Shared}
theorem item_str' {value slice : Expr} {l : Addr} {vs : List Value} {k : Int} {x : Str} {u : Tok} {Q : Value → Shared → Prop} (hl : s.heap.IsList l vs.toArray) (h0 : 0 ≤ k) (hhi : k < 2 ^ 63) (hx : ∃ t, vs[k.toNat]? = some (.str x t)) (h : ∀ t, Q (.str x t) s)
    (hs : subscripted slice false (.ref l) (.int k u) = operate [.ref l, .int k u] (getItem (.ref l) (.int k u)) := by with_unfolding_all rfl) :
    wpAny (model prog w) A (subscriptTail value slice (.ref l) (.int k u)) Q E s := by
  obtain ⟨t, hx⟩ := hx
  exact item_litK hl h0 hhi hx (h t) hs


/-- a pair stored in two local names, the second first -/
theorem swap2 {env : Env} {a b : Str} {T : Addr} {x y : Value} {m : Str → Option Value} {Q : Unit → Shared → Prop} (hh : A.handled = none) (ht : s.heap.IsTuple T #[x, y]) (hn : s.heap.Ns env.locals m)
    (h : ∀ (h' : Heap) (tk : Nat), h'.Ns env.locals (fun z => if z = a then some x else if z = b then some y else m z) → (∀ c o, c ≠ env.locals → s.heap.get? c = some o → h'.get? c = some o) → Q () { s with heap := h', toks := tk })
    (ha : env.kindOf a = some .local := by rfl) (hb : env.kindOf b = some .local := by rfl) (hp : (env.scope.kind == .class || (env.scope.kind == .module && env.locals != env.globals)) = false := by rfl) :
    wpAny (model prog w) A (unpackItems (.ref T) 2 none) (fun items s₂ => wpAny (model prog w) A (assignInOrder [bindName env b, bindName env a] items.reverse) Q E s₂) E s := by
  refine unpackItems_tuple (items := #[x, y]) hh ht fun h₁ he₁ => ?_
  have hL : env.locals ≠ s.heap.objs.size := Nat.ne_of_lt hn.lt
  have hn₁ : h₁.Ns env.locals m := hn.at' fun o e => he₁ _ o hL e
  have up₁ : ∀ c o, s.heap.get? c = some o → h₁.get? c = some o := fun c o e => he₁ c o (Nat.ne_of_lt (Heap.lt_size e)) e
  show wpAny _ _ (assignInOrder [bindName env b, bindName env a] [y, x]) _ _ _
  refine assignInOrder_cons ?_
  refine wpAny_bindName (wpAny_storeName_local hb hn₁ (fun h₂ hn₂ hs₂ => ?_) hp)
  refine assignInOrder_cons ?_
  refine wpAny_bindName (wpAny_storeName_local ha hn₂ (fun h₃ hn₃ hs₃ => ?_) hp)
  refine assignInOrder_nil ?_
  exact h h₃ _ hn₃ fun c o hc e => hs₃.extBut c o hc (hs₂.extBut c o hc (up₁ c o e))

end
end Mine
/-! part G2 -/
namespace Mine
open PySem PySem.W PySem.Calls PyProof.Rows
open Sem (wp)
section
variable {prog : Program} {w : World} {A : Around} {E : Value → Shared → Prop} {s : Shared}

def forBody : Stmt → List Stmt
  | .For _ _ b _ _ => b
  | _ => []
def sgRest : List Stmt := (forBody ((defBody 31).getD 1 (.Pass default))).drop 1
theorem sgThree_lt (n : Int) (k : Nat) : 0 ≤ sgThree n k ∧ sgThree n k < 8 := ⟨Int.fmod_nonneg_of_pos _ (by decide), Int.fmod_lt_of_pos _ (by decide)⟩
theorem sgOwn_lt (n : Int) (k : Nat) : 0 ≤ sgOwn n k ∧ sgOwn n k < 2 := ⟨Int.fmod_nonneg_of_pos _ (by decide), Int.fmod_lt_of_pos _ (by decide)⟩
theorem sgL_len (n : Int) (k : Nat) (hk : k < 3) : (sgL n k).length = 1 := by
  have h3 := sgThree_lt n k
  have h4 := sgOwn_lt n k
  have h5 : 0 ≤ (sgThree n k).fmod 2 ∧ (sgThree n k).fmod 2 < 2 := ⟨Int.fmod_nonneg_of_pos _ (by decide), Int.fmod_lt_of_pos _ (by decide)⟩
  unfold sgL
  have : ((sgThree n k).fmod 2 + 2 * sgOwn n k).toNat < 4 := by omega
  generalize ((sgThree n k).fmod 2 + 2 * sgOwn n k).toNat = q at this
  match q, this, k, hk with
  | 0, _, _, _ => rfl
  | 1, _, _, _ => rfl
  | 2, _, 0, _ => rfl
  | 2, _, 1, _ => rfl
  | 2, _, 2, _ => rfl
  | 3, _, 0, _ => rfl
  | 3, _, 1, _ => rfl
  | 3, _, 2, _ => rfl
theorem sgKind_len (q : Int) : (sgKind q).length = 1 := by unfold sgKind; split <;> (try split) <;> (try split) <;> rfl
theorem sgUp_len (n : Int) : ∀ k : Nat, k ≤ 3 → (sgUp n k).length = 1 + 3 * k
  | 0, _ => sgKind_len _
  | k + 1, hk => by
    have e : ∀ a b : Str, (a ++ b).length = a.length + b.length := fun a b => by first | exact Str.length_append a b | simp
    rw [sgUp, e, e, e, sgUp_len n k (by omega), sgA_len, sgB_len, sgL_len n k (by omega)]; omega

theorem str_ite {c : Bool} {a b x : Str} {ka kb : Nat} {pa pb : Pos} {env : Env} {Q : Value → Shared → Prop} (hx : x = if c then a else b) (h : ∀ t tk, Q (.str x t) { s with toks := tk }) :
    if c = true then wpAny (model prog w) A (eval (.Constant (.str a) ka pa) env) Q E s else wpAny (model prog w) A (eval (.Constant (.str b) kb pb) env) Q E s := by
  subst hx
  cases c
  · exact wpAny_Constant_str (h _ _)
  · exact wpAny_Constant_str (h _ _)
set_option maxHeartbeats 1600000 in
theorem sg_tail {f : Addr} {cdv : Value} {L : Addr} {m7 : Str → Option Value} {n ki : Int} {k : Nat} {tn tsg tk' t3 t4 : Tok} {Q : Flow → Shared → Prop}
    (hn7 : s.heap.Ns L m7) (b1 : m7 "number" = some (.int n tn)) (b2 : m7 "signs" = some (.str (sgUp n k) tsg)) (b3 : m7 "k" = some (.int ki tk')) (b4 : m7 "three" = some (.int (sgThree n k) t3)) (b5 : m7 "own" = some (.int (sgOwn n k) t4)) (hki : ki = (k : Int)) (hk3 : k < 3)
    (h : ∀ h₈ tk m8 t8, h₈.Ns L m8 → m8 "number" = some (.int n tn) → m8 "signs" = some (.str (sgUp n (k + 1)) t8) → (∀ b o, b ≠ L → s.heap.get? b = some o → h₈.get? b = some o) → Q .next { s with heap := h₈, toks := tk }) :
    wpAny (model prog w) A (execs sgRest (envOf "_law_signs" (defScope 31) L f cdv)) Q E s := by
  refine wpAny_execs_cons ?_
  refine wpAny_Assign_Name ?_
  refine Subscript_ ?_
  refine wpAny_List ?_
  refine wpAny_items_cons ?_
  refine wpAny_Constant_str ?_
  refine wpAny_items_cons ?_
  refine wpAny_Constant_str ?_
  refine wpAny_items_cons ?_
  refine Subscript_ ?_
  refine wpAny_Constant_str ?_
  refine ev_loc hn7 b3 ?_
  have fs : fitsSsize ki = true := by subst hki; match k, hk3 with | 0, _ => rfl | 1, _ => rfl | 2, _ => rfl
  have e3a : ("SST" : Str).length = 3 := rfl
  have e3b : ("sst" : Str).length = 3 := rfl
  refine item_str fs (by rw [e3a]; omega) (by rw [e3a]; omega) fun _ => ?_
  refine wpAny_items_cons ?_
  refine Subscript_ ?_
  refine wpAny_Constant_str ?_
  refine ev_loc hn7 b3 ?_
  refine item_str fs (by rw [e3b]; omega) (by rw [e3b]; omega) fun _ => ?_
  refine wpAny_items_nil ⟨by simp [sizeLine_eq], ?_⟩
  dsimp only
  refine wpAny_BinOp ?_
  refine wpAny_BinOp ?_
  refine ev_loc (hn7.keeps fun b o e => Heap.get?_push_of_some _ e) b4 ?_
  refine wpAny_Constant_int ?_
  refine mod_int' (by decide) ?_
  refine wpAny_BinOp ?_
  refine wpAny_Constant_int ?_
  refine ev_loc (hn7.keeps fun b o e => Heap.get?_push_of_some _ e) b5 ?_
  refine mul_int ?_
  refine add_int ?_
  have h3 := sgThree_lt n k
  have h4 := sgOwn_lt n k
  have h5 : 0 ≤ (sgThree n k).fmod 2 ∧ (sgThree n k).fmod 2 < 2 := ⟨Int.fmod_nonneg_of_pos _ (by decide), Int.fmod_lt_of_pos _ (by decide)⟩
  have e4 : ((sgThree n k).fmod 2 + 2 * sgOwn n k).toNat < 4 := by omega
  have eL : ∀ t1 t2 t3 t4 : Tok, ∃ t, [Value.str "-" t1, .str "x" t2, .str (Txt.item "SST" ki) t3, .str (Txt.item "sst" ki) t4][((sgThree n k).fmod 2 + 2 * sgOwn n k).toNat]? = some (.str (sgL n k) t) := by
    intro t1 t2 t3 t4
    subst hki
    unfold sgL
    generalize ((sgThree n k).fmod 2 + 2 * sgOwn n k).toNat = q at e4
    match q, e4 with
    | 0, _ => exact ⟨_, rfl⟩
    | 1, _ => exact ⟨_, rfl⟩
    | 2, _ => exact ⟨_, rfl⟩
    | 3, _ => exact ⟨_, rfl⟩
  refine item_str' ⟨_, Heap.get?_push_size _ rfl, rfl, _, rfl⟩ (by omega) (by omega) (eL _ _ _ _) fun tl => ?_
  refine wpAny_storeName_local rfl (hn7.keeps fun b o e => Heap.get?_push_of_some _ e) (fun h₂ hn₂ hs₂ => ?_) rfl
  have hs₂' : ∀ b o, b ≠ L → s.heap.get? b = some o → h₂.get? b = some o := fun b o hb e => hs₂.extBut b o hb (Heap.get?_push_of_some _ e)
  obtain ⟨m9, hn9, c1, c2, c3, c4⟩ : ∃ mm : Str → Option Value, h₂.Ns L mm ∧ mm "number" = some (.int n tn) ∧ mm "signs" = some (.str (sgUp n k) tsg) ∧ mm "three" = some (.int (sgThree n k) t3) ∧ mm "last" = some (.str (sgL n k) tl) := ⟨_, hn₂, b1, b2, b4, rfl⟩
  clear hs₂ hn₂
  dsimp only
  generalize s.toks + 1 + 1 + 1 + 1 + 1 + 1 + 1 + 1 + 1 + 1 + 1 + 1 + 1 = tkk
  have hU := sgUp_len n k (by omega)
  have lA := sgA_len n k
  have lB := sgB_len n k
  have lL := sgL_len n k hk3
  have ea : ∀ a b : Str, (a ++ b).length = a.length + b.length := fun a b => by first | exact Str.length_append a b | simp
  refine wpAny_execs_cons ?_
  refine wpAny_Assign_Name ?_
  refine wpAny_BinOp ?_
  refine wpAny_BinOp ?_
  refine wpAny_BinOp ?_
  refine ev_loc hn9 c2 ?_
  refine wpAny_IfExp ?_
  refine wpAny_isTrue_Compare1 ?_
  refine wpAny_BinOp ?_
  refine ev_loc hn9 c3 ?_
  refine wpAny_Constant_int ?_
  refine floordiv_int (by decide) ?_ (.inl (PyProof.noPylong_small (by decide)))
  refine wpAny_Constant_int ?_
  refine eq_int ?_
  refine wpAny_truthy_bool ?_
  dsimp only
  refine str_ite (x := sgA n k) rfl fun ta tka => ?_
  refine PyProof.Rows.add_str ?_ (by rw [hU, lA, sizeLine_eq]; omega)
  intro tp tkp
  refine wpAny_IfExp ?_
  refine wpAny_isTrue_Compare1 ?_
  refine wpAny_BinOp ?_
  refine wpAny_BinOp ?_
  refine ev_loc hn9 c3 ?_
  refine wpAny_Constant_int ?_
  refine floordiv_int (by decide) ?_ (.inl (PyProof.noPylong_small (by decide)))
  refine wpAny_Constant_int ?_
  refine mod_int' (by decide) ?_
  refine wpAny_Constant_int ?_
  refine eq_int ?_
  refine wpAny_truthy_bool ?_
  dsimp only
  refine str_ite (x := sgB n k) rfl fun tb tkb => ?_
  refine PyProof.Rows.add_str ?_ (by rw [ea, hU, lA, lB, sizeLine_eq]; omega)
  intro tp2 tkp2
  refine ev_loc hn9 c4 ?_
  refine PyProof.Rows.add_str ?_ (by rw [ea, ea, hU, lA, lB, lL, sizeLine_eq]; omega)
  intro tp3 tkp3
  refine wpAny_storeName_local rfl hn9 (fun h₃ hn₃ hs₃ => ?_) rfl
  dsimp only
  refine wpAny_execs_nil ?_
  exact h h₃ _ _ tp3 hn₃ c1 rfl fun b o hb e => hs₃.extBut b o hb (hs₂' b o hb e)
end
section
variable {prog : Program} {w : World} {A : Around} {E : Value → Shared → Prop} {s : Shared}
set_option maxHeartbeats 1600000 in
theorem signs_call {f : Addr} {n : Int} {tn : Tok} {Q : Value → Shared → Prop} (hf : FnAt s.heap f "_law_signs" 31) (hlim : s.heap.NoLimit) (R : Room 1 A)
    (g1 : GName s.heap "range" (.type "range")) (hq : n.fdiv 4096 = 8 ∨ n.fdiv 4096 = 4 ∨ n.fdiv 4096 = 10 ∨ n.fdiv 4096 = 12)
    (h : ∀ h' t tk, s.heap.StaysIn h' → Q (.str (sgUp n 3) t) { s with heap := h', toks := tk }) :
    wpAny (model prog w) A (call (.ref f) [.int n tn]) Q E s := by
  refine call_def (binds := [("number", .int n tn)]) hf hlim (by have := R.depth; omega) (fun _ _ _ _ _ => rfl) (fun h₁ cdv hn hk => ?_)
  have hh : A.handled = none := R.handled
  generalize hL : s.heap.objs.size = L at *
  have ltL : ∀ b o, s.heap.get? b = some o → @LT.lt Nat _ b L := fun b o e => hL ▸ ltg e
  refine wpAny_execs_cons ?_
  refine wpAny_Assign_Name ?_
  refine Subscript_ ?_
  refine wpAny_Dict_walk (knd := intKind prog w) rfl rfl (by simp) (by simp) ?_
  refine pairTrees_cons_walk ?_
  refine wpAny_Constant_int ?_
  refine wpAny_Constant_str ?_
  refine pairTrees_cons_walk ?_
  refine wpAny_Constant_int ?_
  refine wpAny_Constant_str ?_
  refine pairTrees_cons_walk ?_
  refine wpAny_Constant_int ?_
  refine wpAny_Constant_str ?_
  refine pairTrees_cons_walk ?_
  refine wpAny_Constant_int ?_
  refine wpAny_Constant_str ?_
  refine evalPairs_nil ?_
  refine ⟨[(8, _), (4, _), (10, _), (12, _)], ⟨intKind_is _ _ _ _, rfl, intKind_is _ _ _ _, rfl, intKind_is _ _ _ _, rfl, intKind_is _ _ _ _, rfl, trivial⟩, Heap.DictOf.new _, fun h₂ hd hs₂ => ?_⟩
  dsimp only at hs₂ hd ⊢
  have k2 : ∀ b o, h₁.get? b = some o → h₂.get? b = some o := fun b o e => hs₂.extBut b o (Nat.ne_of_lt (ltg e)) (Heap.get?_push_of_some _ e)
  refine wpAny_BinOp ?_
  refine ev_loc (hn.keeps k2) rfl ?_
  refine wpAny_Constant_int ?_
  refine floordiv_int (by decide) ?_ (.inl (PyProof.noPylong_small (by decide)))
  obtain ⟨tv, hv⟩ : ∃ tv, valueAt (merged [] [((8 : Int), Value.str "-" (s.toks + 1 + 1)), (4, Value.str "d" (s.toks + 1 + 1 + 1 + 1)), (10, Value.str "l" (s.toks + 1 + 1 + 1 + 1 + 1 + 1)), (12, Value.str "s" (s.toks + 1 + 1 + 1 + 1 + 1 + 1 + 1 + 1))]) (n.fdiv 4096) = some (.str (sgKind (n.fdiv 4096)) tv) := by
    rcases hq with e | e | e | e <;> rw [e] <;> exact ⟨_, rfl⟩
  refine tail_any hd.typeIs slot_dict_getitem.lookup (wpAny_getItem_of (intKind_is _ _ _ _) hd.mapOf hv ?_) (by with_unfolding_all rfl)
  have kL : h₂.Ns L (fun x => [(("number" : Str), Value.int n tn)].reverse.lookup x) := hn.keeps k2
  refine wpAny_storeName_local rfl kL (fun h₃ hn₃ hs₃ => ?_) rfl
  have hs₃' : Heap.SameBut L h₂ h₃ := hs₃
  have k3 : s.heap.StaysIn h₃ := fun b o e => hs₃'.extBut b o (Nat.ne_of_lt (ltL b o e)) (k2 b o (hk b o e))
  refine wpAny_execs_cons ?_
  refine forG ?_
  refine ev_callT (g1.keeps k3) ?_
  refine spliced_more ?_
  refine wpAny_Constant_int ?_
  refine spliced_none ?_
  refine range_iter (m := 3) rfl (by decide) fun h₃' I tk₃ hI k3' _ hIle _ => ?_
  have LI : @LT.lt Nat _ L I := Nat.lt_of_lt_of_le hn₃.lt hIle
  refine ⟨I, _, _, 3, _, _, _, fun k => SgSt s L n tn k, rfl, name_go (Walks.range (by exact hh) I 0 1 3), ?_, ?_, ?_, ?_⟩
  · simpa using hI
  · exact ⟨_, _, _, tv, rfl, hn₃.keeps k3', rfl, rfl, fun b o e => k3' b o (k3 b o e)⟩
  · intro k v s₃ h₄ tk₄ E' hk3 hv hJ hk₄ hst₄
    obtain ⟨h₅, tk₅, mm, tsg, rfl, hn₅, q1, q2, hk₅⟩ := hJ
    obtain ⟨tk', rfl⟩ := hv
    obtain ⟨ki, hki⟩ : ∃ ki : Int, ki = (k : Int) := ⟨_, rfl⟩
    rw [show (0 : Int) + (k : Int) * 1 = ki by omega]
    have LIn : L ∉ [I] := by simp only [List.mem_cons, List.not_mem_nil, or_false]; exact Nat.ne_of_lt LI
    have hn₄ : h₄.Ns L mm := hn₅.at' fun o e => hk₄ _ o LIn e
    have k4 : s.heap.StaysIn h₄ := fun b o e => hk₄ b o (by simp only [List.mem_cons, List.not_mem_nil, or_false]; exact Nat.ne_of_lt (Nat.lt_trans (ltL b o e) LI)) (hk₅ b o e)
    refine wpAny_assign_Name (wpAny_storeName_local rfl hn₄ (fun h₆ hn₆ hs₆ => ?_) rfl)
    have hs₆' : Heap.SameBut L h₄ h₆ := hs₆
    obtain ⟨m6, hn6, a1, a2, a3⟩ : ∃ mm : Str → Option Value, h₆.Ns L mm ∧ mm "number" = some (.int n tn) ∧ mm "signs" = some (.str (sgUp n k) tsg) ∧ mm "k" = some (.int ki tk') := ⟨_, hn₆, q1, q2, rfl⟩
    have fits : ∀ e : Nat, e < 3 → (8 ^ e : Int).natAbs.log2 < 9000 ∧ (8 : Int) ^ e ≠ 0 ∧ (2 ^ e : Int).natAbs.log2 < 9000 ∧ (2 : Int) ^ e ≠ 0 := by
      intro e he
      match e, he with | 0, _ => decide +kernel | 1, _ => decide +kernel | 2, _ => decide +kernel
    have e2 : (2 - ki).toNat = 2 - k := by omega
    obtain ⟨f1, f2, f3, f4⟩ := fits (2 - ki).toNat (by omega)
    refine wpAny_execs_cons ?_
    refine Assign_Tuple_swapped (names := ["three", "own"]) ?_
    refine wpAny_Tuple ?_
    refine wpAny_items_cons ?_
    refine wpAny_BinOp ?_
    refine wpAny_BinOp ?_
    refine ev_loc hn6 a1 ?_
    refine wpAny_BinOp ?_
    refine wpAny_Constant_int ?_
    refine wpAny_BinOp ?_
    refine wpAny_Constant_int ?_
    refine ev_loc hn6 a3 ?_
    refine sub_int ?_
    refine pow_int_small (by omega) (by omega) (by decide) ?_
    refine floordiv_int f2 ?_ (.inl (PyProof.noPylong_of_log2 f1))
    refine wpAny_Constant_int ?_
    refine mod_int' (by decide) ?_
    refine wpAny_items_cons ?_
    refine wpAny_BinOp ?_
    refine wpAny_BinOp ?_
    refine wpAny_BinOp ?_
    refine ev_loc hn6 a1 ?_
    refine wpAny_Constant_int ?_
    refine floordiv_int (by decide) ?_ (.inl (PyProof.noPylong_small (by decide)))
    refine wpAny_BinOp ?_
    refine wpAny_Constant_int ?_
    refine wpAny_BinOp ?_
    refine wpAny_Constant_int ?_
    refine ev_loc hn6 a3 ?_
    refine sub_int ?_
    refine pow_int_small (by omega) (by omega) (by decide) ?_
    refine floordiv_int f4 ?_ (.inl (PyProof.noPylong_of_log2 f3))
    refine wpAny_Constant_int ?_
    refine mod_int' (by decide) ?_
    refine wpAny_items_nil ⟨by simp [sizeLine_eq], ?_⟩
    dsimp only
    refine swap2 (by exact hh) ⟨_, Heap.get?_push_size _ rfl, rfl, _, rfl⟩ (hn6.keeps fun b o e => Heap.get?_push_of_some _ e) fun h₇ tk₇ hn₇ hk₇ => ?_
    obtain ⟨m7, hn7, b1, b2, b3, b4, b5⟩ : ∃ mm : Str → Option Value, h₇.Ns L mm ∧ mm "number" = some (.int n tn) ∧ mm "signs" = some (.str (sgUp n k) tsg) ∧ mm "k" = some (.int ki tk') ∧ (∃ t, mm "three" = some (.int (sgThree n k) t)) ∧ (∃ t, mm "own" = some (.int (sgOwn n k) t)) := by
      have w1 : sgThree n k = (n.fdiv (8 ^ (2 - ki).toNat)).fmod 8 := by rw [e2]; rfl
      have w2 : sgOwn n k = ((n.fdiv 512).fdiv (2 ^ (2 - ki).toNat)).fmod 2 := by rw [e2]; rfl
      rw [w1, w2]
      exact ⟨_, hn₇, a1, a2, a3, ⟨_, rfl⟩, ⟨_, rfl⟩⟩
    obtain ⟨t3, b4⟩ := b4
    obtain ⟨t4, b5⟩ := b5
    have k7 : ∀ b o, b ≠ L → h₄.get? b = some o → h₇.get? b = some o := fun b o hb e => hk₇ b o hb (Heap.get?_push_of_some _ (hs₆'.extBut b o hb e))
    clear hk₇ hn₇ hs₆ hn₆
    generalize tk₇ = tk₈
    refine sg_tail (L := L) hn7 b1 b2 b3 b4 b5 hki hk3 ?_
    intro h₈ tk₉ m8 t8 hn8 d1 d2 k8
    exact ⟨⟨h₈, tk₉, m8, t8, rfl, hn8, d1, d2, fun b o e => k8 b o (Nat.ne_of_lt (ltL b o e)) (k7 b o (Nat.ne_of_lt (ltL b o e)) (k4 b o e))⟩, k8 _ _ (Nat.ne_of_gt LI) (k7 _ _ (Nat.ne_of_gt LI) hst₄)⟩
  · intro s₃ h₄ tk₄ E' hJ hk₄
    obtain ⟨h₅, tk₅, mm, tsg, rfl, hn₅, q1, q2, hk₅⟩ := hJ
    refine wpAny_execs_nil ?_
    refine wpAny_execs_cons ?_
    refine wpAny_Return_some ?_
    have LIn : L ∉ [I] := by simp only [List.mem_cons, List.not_mem_nil, or_false]; exact Nat.ne_of_lt LI
    refine ev_loc (hn₅.at' fun o e => hk₄ _ o LIn e) q2 ?_
    exact h _ _ _ fun b o e => hk₄ b o (by simp only [List.mem_cons, List.not_mem_nil, or_false]; exact Nat.ne_of_lt (Nat.lt_trans (ltL b o e) LI)) (hk₅ b o e)
end
end Mine
/-! part K1 -/
namespace Mine
open PySem PySem.W PySem.Calls PyProof.Rows PySem.SeqAt
open Sem (wp)

/-! ## lists of bytes -/
abbrev Bs := Array UInt8
def bOf : Value → Bs
  | .bytes b _ => b
  | _ => #[]
def BsAre (vs : List Value) (bs : List Bs) : Prop := (∀ v ∈ vs, ∃ b t, v = .bytes b t) ∧ vs.map bOf = bs
theorem BsAre.nil : BsAre [] [] := ⟨fun _ h => (nomatch h), rfl⟩
theorem BsAre.append {vs ws : List Value} {bs cs : List Bs} (h : BsAre vs bs) (g : BsAre ws cs) : BsAre (vs ++ ws) (bs ++ cs) :=
  ⟨fun v hv => by rcases List.mem_append.mp hv with q | q; exact h.1 v q; exact g.1 v q, by rw [List.map_append, h.2, g.2]⟩
theorem BsAre.one (b : Bs) (t : Tok) : BsAre [.bytes b t] [b] := ⟨fun v hv => by rw [List.mem_singleton] at hv; exact ⟨b, t, hv⟩, rfl⟩
theorem BsAre.len {vs : List Value} {bs : List Bs} (h : BsAre vs bs) : vs.length = bs.length := by rw [← h.2, List.length_map]
theorem BsAre.get {vs : List Value} {bs : List Bs} (h : BsAre vs bs) {i : Nat} {b : Bs} (hb : bs[i]? = some b) : ∃ t, vs[i]? = some (.bytes b t) := by
  rw [← h.2, List.getElem?_map] at hb
  cases e : vs[i]? with
  | none => rw [e] at hb; cases hb
  | some v =>
    rw [e] at hb
    obtain ⟨c, t, rfl⟩ := h.1 v (List.mem_of_getElem? e)
    cases hb
    exact ⟨t, rfl⟩
theorem BsAre.getV {vs : List Value} {bs : List Bs} (h : BsAre vs bs) {i : Nat} {v : Value} (hv : vs[i]? = some v) : ∃ b t, v = .bytes b t ∧ bs[i]? = some b := by
  obtain ⟨c, t, rfl⟩ := h.1 v (List.mem_of_getElem? hv)
  exact ⟨c, t, rfl, by rw [← h.2, List.getElem?_map, hv]; rfl⟩
theorem BsAre.make {vs : List Value} {bs : List Bs} (hl : vs.length = bs.length) (h : ∀ (i : Nat) (v : Value) (b : Bs), vs[i]? = some v → bs[i]? = some b → ∃ t, v = .bytes b t) : BsAre vs bs := by
  refine ⟨fun v hv => ?_, ?_⟩
  · obtain ⟨i, hi, rfl⟩ := List.mem_iff_getElem.mp hv
    obtain ⟨t, e⟩ := h i _ (bs[i]'(hl ▸ hi)) (List.getElem?_eq_getElem hi) (List.getElem?_eq_getElem _)
    exact ⟨_, t, e⟩
  · apply List.ext_getElem?
    intro i
    rw [List.getElem?_map]
    cases e : vs[i]? with
    | none =>
      have : bs[i]? = none := by rw [List.getElem?_eq_none_iff] at e ⊢; omega
      rw [this]; rfl
    | some v =>
      have hi : i < vs.length := by
        rcases Nat.lt_or_ge i vs.length with q | q
        · exact q
        · rw [List.getElem?_eq_none q] at e; cases e
      obtain ⟨t, rfl⟩ := h i v (bs[i]'(hl ▸ hi)) e (List.getElem?_eq_getElem _)
      rw [List.getElem?_eq_getElem (hl ▸ hi)]; rfl

theorem beq_bs (b c : Bs) : (b.toList == c.toList) = decide (b = c) := by
  by_cases h : b = c
  · subst h; simp
  · rw [decide_eq_false h, beq_eq_false_iff_ne]; exact fun q => h (Array.toList_inj.mp q)

theorem eqAt_bytes {A : Around} {s : Shared} {b c : Bs} {t u : Tok} : EqAt A s (.bytes b t) (.bytes c u) (decide (b = c)) := fun prog w E Q h => by
  unfold eqBool
  refine wpAny_holding ?_
  refine wpAny_ite_split (fun hab => ?_) (fun _ => ?_)
  · have := eq_of_beq hab
    injection this with e _
    subst e
    rw [decide_eq_true rfl] at h
    exact wpAny_bind (wpAny_rule (wpAny_pure h))
  · refine wpAny_bind (show wpAny (model prog w) A (compareOp .Eq (.bytes b t) (.bytes c u)) _ E s from eq_bytes ?_)
    rw [beq_bs]
    exact wpAny_truthy_bool h

theorem any_bs {vs : List Value} {bs : List Bs} (h : BsAre vs bs) (b : Bs) : (vs.toArray.any fun y => decide (bOf y = b)) = decide (b ∈ bs) := by
  rw [List.any_toArray, ← h.2]
  by_cases q : b ∈ vs.map bOf
  · rw [decide_eq_true q, List.any_eq_true]
    obtain ⟨v, hv, e⟩ := List.mem_map.mp q
    exact ⟨v, hv, decide_eq_true e⟩
  · rw [decide_eq_false q, List.any_eq_false]
    intro v hv e
    exact q (List.mem_map.mpr ⟨v, hv, of_decide_eq_true e⟩)

section
variable {prog : Program} {w : World} {A : Around} {E : Value → Shared → Prop} {s : Shared}
theorem notIn_bs {l : Addr} {vs : List Value} {bs : List Bs} {b : Bs} {t : Tok} {Q : Value → Shared → Prop} (hl : s.heap.IsList l vs.toArray) (hb : BsAre vs bs)
    (h : Q (.bool (!decide (b ∈ bs))) s) : wpAny (model prog w) A (compareOp .NotIn (.bytes b t) (.ref l)) Q E s := by
  refine notIn_listAt (fun y => decide (bOf y = b)) hl (fun y hy => ?_) ?_
  · obtain ⟨c, u, rfl⟩ := hb.1 y (by simpa using hy)
    exact eqAt_bytes
  · rw [any_bs hb]; exact h
theorem item_bs {value slice : Expr} {l : Addr} {vs : List Value} {bs : List Bs} {k : Int} {b : Bs} {u : Tok} {Q : Value → Shared → Prop} (hl : s.heap.IsList l vs.toArray) (hb : BsAre vs bs) (h0 : 0 ≤ k) (hhi : k < 2 ^ 63) (hx : bs[k.toNat]? = some b) (h : ∀ t, Q (.bytes b t) s)
    (hs : subscripted slice false (.ref l) (.int k u) = operate [.ref l, .int k u] (getItem (.ref l) (.int k u)) := by with_unfolding_all rfl) :
    wpAny (model prog w) A (subscriptTail value slice (.ref l) (.int k u)) Q E s := by
  obtain ⟨t, hx⟩ := hb.get hx
  exact item_litK hl h0 hhi hx (h t) hs
theorem item_bs_neg {value slice : Expr} {l : Addr} {vs : List Value} {bs : List Bs} {k : Int} {b : Bs} {u : Tok} {Q : Value → Shared → Prop} (hl : s.heap.IsList l vs.toArray) (hb : BsAre vs bs) (h0 : k < 0) (h1 : -(bs.length : Int) ≤ k) (hz : bs.length ≤ 1000) (hx : bs[(k + bs.length).toNat]? = some b) (h : ∀ t, Q (.bytes b t) s)
    (hs : subscripted slice false (.ref l) (.int k u) = operate [.ref l, .int k u] (getItem (.ref l) (.int k u)) := by with_unfolding_all rfl) :
    wpAny (model prog w) A (subscriptTail value slice (.ref l) (.int k u)) Q E s := by
  obtain ⟨t, hx⟩ := hb.get hx
  have e := hb.len
  exact tail_any hl.typeIs slot_list_getitem.lookup (wpAny_getItem_list_neg hl h0 (by simp [e]; omega) (by omega) (by simp only [List.size_toArray, e]; simpa using hx) (h t)) hs
theorem ne_list_ns {h : Heap} {P L : Addr} {items : Array Value} {m : Str → Option Value} (hl : h.IsList P items) (hn : h.Ns L m) : P ≠ L := by
  rintro rfl
  obtain ⟨_, _, _, q, qd, _⟩ := hn
  obtain ⟨o, a, _, n, hd⟩ := hl
  rw [a] at q; cases q
  rw [hd] at qd; cases qd
theorem ne_list_iter {h : Heap} {P I l : Addr} {i : Nat} {items : Array Value} (hl : h.IsList P items) (hn : h.IsListIter I l i) : P ≠ I := by
  rintro rfl
  obtain ⟨o', q, _, qd⟩ := hn
  obtain ⟨o, a, _, n, hd⟩ := hl
  rw [a] at q; cases q
  rw [hd] at qd; cases qd
end

/-! ## _law_alone -/
def stepA (two : List Bs) (acc : List Bs) (key : Bs) : List Bs := if key ∉ two ∧ (bLt (two.getLastD #[]) key = true ∨ key ∉ acc) then acc ++ [key] else acc
def aloneF (one two : List Bs) : List Bs := one.foldl (stepA two) []
theorem stepA_len (two acc : List Bs) (key : Bs) : (stepA two acc key).length ≤ acc.length + 1 := by unfold stepA; split <;> simp
theorem aloneF_len (two : List Bs) : ∀ (one acc : List Bs), (one.foldl (stepA two) acc).length ≤ acc.length + one.length
  | [], _ => Nat.le_refl _
  | k :: r, acc => by rw [List.foldl_cons, List.length_cons]; have := aloneF_len two r (stepA two acc k); have := stepA_len two acc k; omega

def AlSt (s : Shared) (L l2 I : Addr) (acc : List Bs) (s' : Shared) : Prop :=
  ∃ h tk mm P vs, s' = { s with heap := h, toks := tk } ∧ h.Ns L mm ∧ mm "two" = some (.ref l2) ∧ mm "alone" = some (.ref P) ∧ h.IsList P (List.toArray vs) ∧ BsAre vs acc ∧ s.heap.StaysIn h ∧ P ≠ I

def ifBody : Stmt → List Stmt
  | .If _ b _ _ => b
  | _ => []
def alTurn : List Stmt := forBody ((defBody 33).getD 1 (.Pass default))
section
variable {prog : Program} {w : World} {A : Around} {E : Value → Shared → Prop} {s : Shared}
def AlEnd (s : Shared) (L l2 P : Addr) (acc : List Bs) (s₇ : Shared) : Prop :=
  ∃ h tk mm P' us, s₇ = { s with heap := h, toks := tk } ∧ h.Ns L mm ∧ mm "two" = some (.ref l2) ∧ mm "alone" = some (.ref P') ∧ h.IsList P' (List.toArray us) ∧ BsAre us acc ∧ (∀ c o, c ≠ L → s.heap.get? c = some o → h.get? c = some o) ∧ (P' = P ∨ s.heap.get? P' = none)
set_option maxHeartbeats 1600000 in
theorem al_turn {f L l2 P : Addr} {cdv : Value} {m6 : Str → Option Value} {us ws : List Value} {acc two : List Bs} {b : Bs} {tb : Tok} (hn6 : s.heap.Ns L m6) (c1 : m6 "two" = some (.ref l2)) (c2 : m6 "alone" = some (.ref P)) (c3 : m6 "key" = some (.bytes b tb))
    (hP : s.heap.IsList P us.toArray) (hus : BsAre us acc) (hl2 : s.heap.IsList l2 ws.toArray) (h2 : BsAre ws two) (hne : two ≠ []) (hz : acc.length ≤ 1000) (hz2 : two.length ≤ 1000) :
    wpAny (model prog w) A (execs alTurn (envOf "_law_alone" (defScope 33) L f cdv)) (fun fl s₇ => fl = .next ∧ AlEnd s L l2 P (stepA two acc b) s₇) E s := by
  have stay : b ∈ two ∨ (bLt (two.getLastD #[]) b = false ∧ b ∈ acc) → ∀ tk, AlEnd s L l2 P (stepA two acc b) { s with toks := tk } := by
    intro hc tk
    have : stepA two acc b = acc := by
      unfold stepA; rw [if_neg]
      rintro ⟨x1, x2⟩
      rcases hc with hc | ⟨hc1, hc2⟩
      · exact x1 hc
      · rcases x2 with x2 | x2
        · rw [hc1] at x2; cases x2
        · exact x2 hc2
    rw [this]
    exact ⟨_, tk, m6, P, us, rfl, hn6, c1, c2, hP, hus, fun _ _ _ e => e, .inl rfl⟩
  have tl : 0 < two.length := by cases two with | nil => exact absurd rfl hne | cons _ _ => simp
  have lastE : two[(-1 + (two.length : Int)).toNat]? = some (two.getLastD #[]) := by
    have : (-1 + (two.length : Int)).toNat = two.length - 1 := by omega
    rw [this, List.getLastD_eq_getLast?, List.getLast?_eq_getElem?]
    have q : two[two.length - 1]? = some (two[two.length - 1]'(by omega)) := List.getElem?_eq_getElem _
    rw [q]; rfl
  have add : ∀ tk (E' : Value → Shared → Prop), (b ∉ two ∧ (bLt (two.getLastD #[]) b = true ∨ b ∉ acc)) → wpAny (model prog w) A (execs (ifBody (alTurn.getD 0 (.Pass default))) (envOf "_law_alone" (defScope 33) L f cdv)) (fun fl s₇ => fl = .next ∧ AlEnd s L l2 P (stepA two acc b) s₇) E' { s with toks := tk } := by
    intro tk E' hc
    have e : stepA two acc b = acc ++ [b] := by unfold stepA; rw [if_pos hc]
    rw [e]
    refine wpAny_execs_cons ?_
    refine wpAny_Assign_Name ?_
    refine wpAny_BinOp ?_
    refine ev_loc hn6 c2 ?_
    refine wpAny_List ?_
    refine wpAny_items_cons ?_
    refine ev_loc hn6 c3 ?_
    refine wpAny_items_nil ⟨by simp [sizeLine_eq], ?_⟩
    dsimp only
    refine add_ll (hP.at fun o e => Heap.get?_push_of_some _ e) ⟨_, Heap.get?_push_size _ rfl, rfl, _, rfl⟩ ?_ (by simp only [hus.len, sizeLine_eq, List.length_singleton]; omega)
    dsimp only
    refine wpAny_storeName_local rfl (hn6.keeps fun c o e => Heap.get?_push_of_some _ (Heap.get?_push_of_some _ e)) (fun h₇ hn₇ hs₇ => ?_) rfl
    have k7 : ∀ c o, c ≠ L → s.heap.get? c = some o → h₇.get? c = some o := fun c o hb e => hs₇.extBut c o hb (Heap.get?_push_of_some _ (Heap.get?_push_of_some _ e))
    have L6 : @LT.lt Nat _ L s.heap.objs.size := hn6.lt
    refine wpAny_execs_nil ⟨rfl, h₇, _, _, _, us ++ [.bytes b tb], rfl, hn₇, c1, rfl, ⟨_, hs₇.extBut _ _ ?_ (Heap.get?_push_size _ rfl), rfl, _, rfl⟩, hus.append (BsAre.one b tb), k7, .inr (Heap.get?_none_of_le ?_)⟩
    · rw [Heap.size_push]; exact Nat.ne_of_gt (Nat.lt_succ_of_lt L6)
    · rw [Heap.size_push]; exact Nat.le_succ _
  have fin : ∀ c : Bool, c = decide (b ∉ two ∧ (bLt (two.getLastD #[]) b = true ∨ b ∉ acc)) → ∀ tk (E' : Value → Shared → Prop),
      (if c = true then wpAny (model prog w) A (execs (ifBody (alTurn.getD 0 (.Pass default))) (envOf "_law_alone" (defScope 33) L f cdv)) (fun fl s₇ => match fl with
          | .next => wpAny (model prog w) A (execs [] (envOf "_law_alone" (defScope 33) L f cdv)) (fun fl s₇ => fl = .next ∧ AlEnd s L l2 P (stepA two acc b) s₇) E' s₇
          | fl => fl = .next ∧ AlEnd s L l2 P (stepA two acc b) s₇) E' { s with toks := tk }
        else wpAny (model prog w) A (execs [] (envOf "_law_alone" (defScope 33) L f cdv)) (fun fl s₇ => match fl with
          | .next => wpAny (model prog w) A (execs [] (envOf "_law_alone" (defScope 33) L f cdv)) (fun fl s₇ => fl = .next ∧ AlEnd s L l2 P (stepA two acc b) s₇) E' s₇
          | fl => fl = .next ∧ AlEnd s L l2 P (stepA two acc b) s₇) E' { s with toks := tk }) := by
    intro c hc tk E'
    split
    · rename_i hct
      rw [hct] at hc
      refine wpAny_mono (add tk E' (of_decide_eq_true hc.symm)) (fun fl s₇ h₇ => ?_) fun _ _ x => x
      obtain ⟨rfl, h₇⟩ := h₇
      exact wpAny_execs_nil ⟨rfl, h₇⟩
    · rename_i hct
      have hc' : ¬ (b ∉ two ∧ (bLt (two.getLastD #[]) b = true ∨ b ∉ acc)) := fun q => hct (by rw [hc]; exact decide_eq_true q)
      refine wpAny_execs_nil (wpAny_execs_nil ⟨rfl, stay ?_ tk⟩)
      by_cases q1 : b ∈ two
      · exact .inl q1
      · right
        by_cases q2 : bLt (two.getLastD #[]) b = true
        · exact absurd ⟨q1, .inl q2⟩ hc'
        · by_cases q3 : b ∈ acc
          · exact ⟨by simpa using q2, q3⟩
          · exact absurd ⟨q1, .inr q3⟩ hc'
  refine wpAny_execs_cons ?_
  refine wpAny_If ?_
  refine isTrue_and ?_
  refine wpAny_isTrue_Compare1 ?_
  refine ev_loc hn6 c3 ?_
  refine ev_loc hn6 c1 ?_
  refine notIn_bs hl2 h2 ?_
  refine wpAny_truthy_bool ?_
  by_cases hbt : b ∈ two
  · rw [if_neg (by simp [hbt])]
    exact fin false (by simp [hbt]) _ _
  · rw [if_pos (by simp [hbt])]
    refine isTrue_and ?_
    refine isTrue_or ?_
    refine wpAny_isTrue_Compare1 ?_
    refine ev_loc hn6 c3 ?_
    refine Subscript_ ?_
    refine ev_loc hn6 c1 ?_
    refine wpAny_UnaryOp ?_
    refine wpAny_Constant_int ?_
    refine PyProof.Rows.neg_int ?_
    refine item_bs_neg hl2 h2 (by decide) (by omega) hz2 lastE fun tla => ?_
    refine gt_bytes ?_
    refine wpAny_truthy_bool ?_
    cases hq : bLt (two.getLastD #[]) b with
    | true =>
      rw [if_pos rfl, if_pos rfl]
      exact isTrue_and_nil (fin true (decide_eq_true ⟨hbt, .inl hq⟩).symm _ _)
    | false =>
      rw [if_neg (by decide)]
      refine isTrue_or ?_
      refine wpAny_isTrue_Compare1 ?_
      refine ev_loc hn6 c3 ?_
      refine ev_loc hn6 c2 ?_
      refine notIn_bs hP hus ?_
      refine wpAny_truthy_bool ?_
      by_cases hba : b ∈ acc
      · rw [if_neg (by simp [hba])]
        refine isTrue_or_nil ?_
        rw [if_neg (by decide)]
        exact fin false (decide_eq_false (by rintro ⟨_, q | q⟩; rw [hq] at q; cases q; exact q hba)).symm _ _
      · rw [if_pos (by simp [hba]), if_pos rfl]
        exact isTrue_and_nil (fin true (decide_eq_true ⟨hbt, .inr hba⟩).symm _ _)

theorem alone_call {f l1 l2 : Addr} {vs ws : List Value} {one two : List Bs} {Q : Value → Shared → Prop} (hf : FnAt s.heap f "_law_alone" 33) (hlim : s.heap.NoLimit) (R : Room 1 A)
    (hl1 : s.heap.IsList l1 vs.toArray) (hl2 : s.heap.IsList l2 ws.toArray) (h1 : BsAre vs one) (h2 : BsAre ws two) (hne : two ≠ []) (hz1 : one.length ≤ 1000) (hz2 : two.length ≤ 1000)
    (h : ∀ h' P us tk, s.heap.StaysIn h' → h'.IsList P (List.toArray us) → BsAre us (aloneF one two) → Q (.ref P) { s with heap := h', toks := tk }) :
    wpAny (model prog w) A (call (.ref f) [.ref l1, .ref l2]) Q E s := by
  refine call_def (binds := [("one", .ref l1), ("two", .ref l2)]) hf hlim (by have := R.depth; omega) (fun _ _ _ _ _ => rfl) (fun h₁ cdv hn hk => ?_)
  have hh : A.handled = none := R.handled
  generalize hL : s.heap.objs.size = L at *
  have ltL : ∀ b o, s.heap.get? b = some o → @LT.lt Nat _ b L := fun b o e => hL ▸ ltg e
  refine wpAny_execs_cons ?_
  refine wpAny_Assign_Name ?_
  refine wpAny_List ?_
  refine wpAny_items_nil ⟨by simp [sizeLine_eq], ?_⟩
  dsimp only
  have hLP : @LT.lt Nat _ L h₁.objs.size := hn.lt
  refine wpAny_storeName_local rfl (hn.keeps fun b o e => Heap.get?_push_of_some _ e) (fun h₂ hn₂ hs₂ => ?_) rfl
  have hs₂' : Heap.SameBut L (h₁.push { cls := .type "list", data := .seq (List.toArray []) }) h₂ := hs₂
  have k2 : s.heap.StaysIn h₂ := fun b o e => hs₂'.extBut b o (Nat.ne_of_lt (ltL b o e)) (Heap.get?_push_of_some _ (hk b o e))
  have hP₂ : h₂.IsList h₁.objs.size (List.toArray []) := ⟨_, hs₂'.extBut _ _ (Nat.ne_of_gt hLP) (Heap.get?_push_size _ rfl), rfl, _, rfl⟩
  obtain ⟨m2, hn2, a1, a2, a3⟩ : ∃ mm : Str → Option Value, h₂.Ns L mm ∧ mm "one" = some (.ref l1) ∧ mm "two" = some (.ref l2) ∧ mm "alone" = some (.ref h₁.objs.size) := ⟨_, hn₂, rfl, rfl, rfl⟩
  clear hs₂ hn₂
  refine wpAny_execs_cons ?_
  refine forG ?_
  refine ev_loc hn2 a1 ?_
  refine list_iter (hl1.at fun o e => k2 _ o e) fun h₃ I hI hl1₃ k3 hI0 hIle hIlt hne1 => ?_
  have LI : @LT.lt Nat _ L I := Nat.lt_of_lt_of_le hn2.lt hIle
  refine ⟨I, _, _, _, _, _, _, fun i => AlSt s L l2 I ((one.take i).foldl (stepA two) []), rfl, name_go (Walks.list (by exact hh) I l1 hne1 vs.toArray), ⟨hI, hl1₃⟩, ?_, ?_, ?_⟩
  · exact ⟨h₃, _, m2, _, [], rfl, hn2.keeps k3, a2, a3, hP₂.at fun o e => k3 _ o e, BsAre.nil, fun b o e => k3 b o (k2 b o e), ne_list_iter (hP₂.at fun o e => k3 _ o e) hI⟩
  · intro i v s₃ h₄ tk₄ E' hi hv hJ hk₄ hst₄
    obtain ⟨h₅, tk₅, mm, P, us, rfl, hn₅, q2, q3, hP₅, hus, hk₅, hPI⟩ := hJ
    have hv' : vs[i]? = some v := by simpa using hv
    obtain ⟨b, tb, rfl, hb⟩ := h1.getV hv'
    have LIn : L ∉ [I] := by simp only [List.mem_cons, List.not_mem_nil, or_false]; exact Nat.ne_of_lt LI
    have hn₄ : h₄.Ns L mm := hn₅.at' fun o e => hk₄ _ o LIn e
    have k4 : s.heap.StaysIn h₄ := fun b o e => hk₄ b o (by simp only [List.mem_cons, List.not_mem_nil, or_false]; exact Nat.ne_of_lt (Nat.lt_trans (ltL b o e) LI)) (hk₅ b o e)
    have hP₄ : h₄.IsList P us.toArray := hP₅.at fun o e => hk₄ _ o (by simpa using hPI) e
    have hbT : (one.take (i + 1)).foldl (stepA two) [] = stepA two ((one.take i).foldl (stepA two) []) b := by
      rw [List.take_add_one, hb, List.foldl_append]; rfl
    have hacc := aloneF_len two (one.take i) []
    have htl : (one.take i).length ≤ 1000 := by rw [List.length_take]; omega
    refine wpAny_assign_Name (wpAny_storeName_local rfl hn₄ (fun h₆ hn₆ hs₆ => ?_) rfl)
    have hs₆' : Heap.SameBut L h₄ h₆ := hs₆
    have hP₆ : h₆.IsList P us.toArray := hP₄.extBut hs₆'.extBut (ne_list_ns hP₄ hn₄)
    have k6 : s.heap.StaysIn h₆ := fun b o e => hs₆'.extBut b o (Nat.ne_of_lt (ltL b o e)) (k4 b o e)
    have hI₆ : h₆.IsListIter I l1 (i + 1) := hst₄.1.at fun o e => hs₆'.extBut _ o (Nat.ne_of_gt LI) e
    dsimp only
    refine wpAny_mono (al_turn (l2 := l2) (P := P) (b := b) (tb := tb) hn₆ q2 q3 rfl hP₆ hus (hl2.at fun o e => k6 _ o e) h2 hne (by simp only [List.length_nil] at hacc; omega) hz2) (fun fl s₇ h₇ => ?_) fun _ _ x => x
    obtain ⟨rfl, h₇, tk₇, m₇, P', us', rfl, n₇, d1, d2, d3, d4, d5, d6⟩ := h₇
    have d5' : ∀ c o, c ≠ L → h₆.get? c = some o → h₇.get? c = some o := d5
    refine ⟨⟨h₇, tk₇, m₇, P', us', rfl, n₇, d1, d2, d3, by rw [hbT]; exact d4, fun b o e => d5' b o (Nat.ne_of_lt (ltL b o e)) (k6 b o e), ?_⟩, hI₆.at fun o e => d5' _ o (Nat.ne_of_gt LI) e, hl1.at fun o e => d5' _ o (Nat.ne_of_lt (ltL _ o e)) (k6 _ o e)⟩
    rcases d6 with rfl | d6
    · exact hPI
    · rintro rfl
      obtain ⟨o, a, _⟩ := hI₆
      rw [show h₆.get? P' = none from d6] at a; cases a
  · intro s₃ h₄ tk₄ E' hJ hk₄
    obtain ⟨h₅, tk₅, mm, P, us, rfl, hn₅, q2, q3, hP₅, hus, hk₅, hPI⟩ := hJ
    have LIn : L ∉ [I] := by simp only [List.mem_cons, List.not_mem_nil, or_false]; exact Nat.ne_of_lt LI
    have eT : one.take vs.toArray.size = one := by rw [List.size_toArray, h1.len, List.take_length]
    rw [eT] at hus
    refine wpAny_execs_nil ?_
    refine wpAny_execs_cons ?_
    refine wpAny_Return_some ?_
    refine ev_loc (hn₅.at' fun o e => hk₄ _ o LIn e) q3 ?_
    exact h _ _ us _ (fun b o e => hk₄ b o (by simp only [List.mem_cons, List.not_mem_nil, or_false]; exact Nat.ne_of_lt (Nat.lt_trans (ltL b o e) LI)) (hk₅ b o e)) (hP₅.at fun o e => hk₄ _ o (by simpa using hPI) e) hus
end
end Mine
/-! part S0 -/
namespace Mine
open PySem PySem.W PySem.Calls PyProof.Rows
open Sem (wp)

/-! ## what a raise may touch -/
/-- objects of `B`, and those that are no record, stay, up to the slots of the frames -/
def Xs (B : Heap) (FS : List Addr) (h h' : Heap) : Prop :=
  ∀ b o, h.get? b = some o → ((∃ o', B.get? b = some o') ∨ ∀ vs, o.data ≠ .fields vs) → (∃ sl, h'.get? b = some { o with slots := sl }) ∧ (b ∉ FS → h'.get? b = some o)
theorem Xs.refl (B : Heap) (FS : List Addr) (h : Heap) : Xs B FS h h := fun _ o e _ => ⟨⟨o.slots, e⟩, fun _ => e⟩
theorem Xs.trans {B : Heap} {FS : List Addr} {h₁ h₂ h₃ : Heap} (x : Xs B FS h₁ h₂) (y : Xs B FS h₂ h₃) : Xs B FS h₁ h₃ := fun b o e c => by
  obtain ⟨⟨sl, e1⟩, k1⟩ := x b o e c
  obtain ⟨⟨sl2, e2⟩, _⟩ := y b _ e1 c
  exact ⟨⟨sl2, e2⟩, fun hb => (y b o (k1 hb) c).2 hb⟩
theorem Xs.of_stays {B : Heap} {FS : List Addr} {h h' : Heap} (k : h.StaysIn h') : Xs B FS h h' := fun b o e _ => ⟨⟨o.slots, k b o e⟩, fun _ => k b o e⟩
theorem Xs.ns {B : Heap} {FS : List Addr} {h h' : Heap} (x : Xs B FS h h') {a : Addr} {m : Str → Option Value} (hn : h.Ns a m) : h'.Ns a m := by
  obtain ⟨o, es, ep, ho, hd, r⟩ := hn
  obtain ⟨⟨sl, e⟩, _⟩ := x a o ho (.inr fun vs q => by rw [hd] at q; cases q)
  exact ⟨_, es, ep, e, hd, r⟩
theorem Xs.plain {B : Heap} {FS : List Addr} {h h' : Heap} (x : Xs B FS h h') {a : Addr} {its : Array Value} (hl : PlainL h a its) : PlainL h' a its := by
  obtain ⟨o, n, ho, hc, hn, hd⟩ := hl
  obtain ⟨⟨sl, e⟩, _⟩ := x a o ho (.inr fun vs q => by rw [hd] at q; cases q)
  exact ⟨_, n, e, hc, hn, hd⟩
theorem Xs.list {B : Heap} {FS : List Addr} {h h' : Heap} (x : Xs B FS h h') {a : Addr} {its : Array Value} (hl : h.IsList a its) : h'.IsList a its := by
  obtain ⟨o, ho, hc, n, hd⟩ := hl
  obtain ⟨⟨sl, e⟩, _⟩ := x a o ho (.inr fun vs q => by rw [hd] at q; cases q)
  exact ⟨_, e, hc, n, hd⟩

/-- a heap kept up to the slots of frames -/
def KpB (FS : List Addr) (h h' : Heap) : Prop := ∀ b o, h.get? b = some o → (∃ sl, h'.get? b = some { o with slots := sl }) ∧ (b ∉ FS → h'.get? b = some o)
theorem KpB.of_stays {FS : List Addr} {h h' : Heap} (k : h.StaysIn h') : KpB FS h h' := fun b o e => ⟨⟨o.slots, k b o e⟩, fun _ => k b o e⟩
theorem KpB.trans {FS : List Addr} {h₁ h₂ h₃ : Heap} (x : KpB FS h₁ h₂) (y : KpB FS h₂ h₃) : KpB FS h₁ h₃ := fun b o e => by
  obtain ⟨⟨sl, e1⟩, k1⟩ := x b o e
  obtain ⟨⟨sl2, e2⟩, _⟩ := y b _ e1
  exact ⟨⟨sl2, e2⟩, fun hb => (y b o (k1 hb)).2 hb⟩
theorem KpB.ns {FS : List Addr} {h h' : Heap} (x : KpB FS h h') {a : Addr} {m : Str → Option Value} (hn : h.Ns a m) : h'.Ns a m := by
  obtain ⟨o, es, ep, ho, hd, r⟩ := hn
  obtain ⟨⟨sl, e⟩, _⟩ := x a o ho
  exact ⟨_, es, ep, e, hd, r⟩
theorem KpB.list {FS : List Addr} {h h' : Heap} (x : KpB FS h h') {a : Addr} {its : Array Value} (hl : h.IsList a its) : h'.IsList a its := by
  obtain ⟨o, ho, hc, n, hd⟩ := hl
  obtain ⟨⟨sl, e⟩, _⟩ := x a o ho
  exact ⟨_, e, hc, n, hd⟩
theorem KpB.tuple {FS : List Addr} {h h' : Heap} (x : KpB FS h h') {a : Addr} {its : Array Value} (hl : h.IsTuple a its) : h'.IsTuple a its := by
  obtain ⟨o, ho, hc, n, hd⟩ := hl
  obtain ⟨⟨sl, e⟩, _⟩ := x a o ho
  exact ⟨_, e, hc, n, hd⟩
theorem KpB.cell {FS : List Addr} {h h' : Heap} (x : KpB FS h h') {a : Addr} {v : Option Value} (hl : h.IsCell a v) : h'.IsCell a v := by
  obtain ⟨o, ho, hd⟩ := hl
  obtain ⟨⟨sl, e⟩, _⟩ := x a o ho
  exact ⟨_, e, hd⟩
theorem KpB.gname {FS : List Addr} {h h' : Heap} (x : KpB FS h h') {y : Str} {v : Value} (g : GName h y v) : GName h' y v :=
  let ⟨mg, mb, a, b, c⟩ := g
  ⟨mg, mb, x.ns a, x.ns b, c⟩
theorem KpB.noLimit {FS : List Addr} {h h' : Heap} (x : KpB FS h h') (g : h.NoLimit) : h'.NoLimit := let ⟨mc, a, b⟩ := g; ⟨mc, x.ns a, b⟩
theorem KpB.xs {B : Heap} {FS : List Addr} {h h' : Heap} (x : KpB FS B h) (y : Xs B FS h h') : KpB FS B h' := fun b o e => by
  obtain ⟨⟨sl, e1⟩, k1⟩ := x b o e
  obtain ⟨⟨sl2, e2⟩, _⟩ := y b _ e1 (.inl ⟨o, e⟩)
  exact ⟨⟨sl2, e2⟩, fun hb => (y b o (k1 hb) (.inl ⟨o, e⟩)).2 hb⟩
theorem KpB.mono {FS GS : List Addr} {h h' : Heap} (x : KpB FS h h') (hs : ∀ b, b ∈ FS → b ∈ GS) : KpB GS h h' := fun b o e => ⟨(x b o e).1, fun hb => (x b o e).2 fun q => hb (hs b q)⟩

def DomIn (B h : Heap) : Prop := ∀ b o, B.get? b = some o → ∃ o', h.get? b = some o'
theorem DomIn.none {B h : Heap} (x : DomIn B h) {b : Addr} (e : h.get? b = none) : B.get? b = none := by
  cases q : B.get? b with
  | none => rfl
  | some o => obtain ⟨o', e'⟩ := x b o q; rw [e] at e'; cases e'
theorem KpB.dom {FS : List Addr} {B h : Heap} (x : KpB FS B h) : DomIn B h := fun b o e => let ⟨⟨_, q⟩, _⟩ := x b o e; ⟨_, q⟩

abbrev FrOk (h : Heap) (l : List Env) : Prop := h.FunFrames {} l
theorem FrOk.xs {B : Heap} {FS : List Addr} {h h' : Heap} {l : List Env} (f : FrOk h l) (x : Xs B FS h h') : FrOk h' l :=
  f.of_keeps fun b o e hn => let ⟨⟨_, e'⟩, _⟩ := x b o e (.inr hn); ⟨_, e', rfl⟩
theorem FrOk.kp {FS : List Addr} {h h' : Heap} {l : List Env} (f : FrOk h l) (x : KpB FS h h') : FrOk h' l :=
  f.of_keeps fun b o e _ => let ⟨⟨_, e'⟩, _⟩ := x b o e; ⟨_, e', rfl⟩

/-- an exception of one's own, behind `B`: its context, and its flight (none: not yet noted) -/
def ExcAt (B h : Heap) (e : Addr) (c : Value) (x : Option Value) : Prop :=
  B.get? e = none ∧ ∃ oe vs, h.get? e = some oe ∧ oe.cls = .type "IndexError" ∧ oe.data = .fields vs ∧ vs[2]? = some c ∧
    (match x with
      | none => vs[1]? = some .none
      | some f => ∃ T oT ts, vs[1]? = some (.ref T) ∧ B.get? T = none ∧ T ≠ e ∧ h.get? T = some oT ∧ oT.data = .fields ts ∧ ts[3]? = some f)
theorem ExcAt.keep {B h h' : Heap} {e : Addr} {c : Value} {x : Option Value} (y : ExcAt B h e c x) (k : ∀ b o vs, h.get? b = some o → o.data = .fields vs → h'.get? b = some o) : ExcAt B h' e c x := by
  obtain ⟨hB, oe, vs, he, hc, hd, h2, hx⟩ := y
  refine ⟨hB, oe, vs, k _ _ _ he hd, hc, hd, h2, ?_⟩
  cases x with
  | none => exact hx
  | some f => obtain ⟨T, oT, ts, a1, a2, a3, a4, a5, a6⟩ := hx; exact ⟨T, oT, ts, a1, a2, a3, k _ _ _ a4 a5, a5, a6⟩
theorem ExcAt.typeIs {B : Heap} {s : Shared} {e : Addr} {c : Value} {x : Option Value} (y : ExcAt B s.heap e c x) : s.TypeIs (.ref e) "IndexError" := by
  obtain ⟨_, oe, _, he, hc, _⟩ := y
  exact ⟨oe, he, hc⟩

theorem entry_unchain : entryFor table "proto.unchain" = some Builtin.«proto.unchain» := entryFor_of_tree (by kernel_rfl)

/-- nothing is being handled, or an exception without a context -/
def HandOk (A : Around) (h : Heap) : Prop := A.handled = none ∨ ∃ e oe vs, A.handled = some (.ref e) ∧ h.get? e = some oe ∧ oe.data = .fields vs ∧ vs[2]? = some .none

section
variable {prog : Program} {w : World} {A : Around} {E : Value → Shared → Prop} {s : Shared}

theorem raiseNewX {α : Type} {B : Heap} {e : Addr} {t : Value} {Q : α → Shared → Prop} (hA : HandOk A s.heap) (hB : B.get? e = none) (he : s.heap.get? e = some { cls := .type "IndexError", data := .fields #[t, .none, .none, .none, .bool false, .none] })
    (hne : ∀ x, A.handled = some x → x ≠ .ref e)
    (h : ∀ h' c, (∀ b o, b ≠ e → s.heap.get? b = some o → h'.get? b = some o) → ExcAt B h' e c none → (A.handled = none → c = .none) → E (.ref e) { s with heap := h' }) :
    wpAny (model prog w) A (raiseNew (.ref e) : Sem α) Q E s := by
  unfold raiseNew
  refine wpAny_bind (wpAny_handled ?_)
  rcases hA with hA | ⟨x, ox, vs, hA, hx, hd, h2⟩
  · rw [hA]
    have fin := h s.heap .none (fun _ _ _ e => e) ⟨hB, _, _, he, rfl, rfl, rfl, rfl⟩ fun _ => rfl
    first
      | exact wpAny_throw fin
      | exact wpAny_bind (wpAny_pure (wpAny_throw fin))
  · rw [hA]
    have hxe : (Value.ref x != Value.ref e) = true := by
      have := hne _ hA
      simpa using this
    dsimp only
    rw [if_pos hxe]
    refine wpAny_bind (wpAny_holding (wpAny_runValue (codeAny_builtin entry_unchain ?_)))
    show wpAny _ _ (field (.ref x) 2 >>= _) _ _ s
    refine wpAny_bind (wpAny_field hx hd h2 ?_)
    refine wpAny_bind (wpAny_pure ?_)
    have fin : E (.ref e) { s with heap := s.heap.update e (Obj.mapFields (·.setIfInBounds 2 (.ref x))) } := by
      refine h _ (.ref x) (fun b o hb q => by rw [Heap.get?_update_other _ _ (Ne.symm hb)]; exact q) ?_ (fun q => by rw [hA] at q; cases q)
      have hd' := Obj.data_mapFields (o := { cls := .type "IndexError", data := .fields #[t, .none, .none, .none, .bool false, .none] }) rfl (·.setIfInBounds 2 (Value.ref x))
      exact ⟨hB, _, _, Heap.get?_update_self _ he (Obj.isFreed_of_fields hd'), Obj.cls_mapFields _ _, hd', rfl, rfl⟩
    refine wpAny_pure ?_
    dsimp only
    refine wpAny_bind ?_
    show wpAny _ _ (setField (.ref e) 2 (.ref x)) _ _ _
    exact wpAny_setField he rfl (by simp) (wpAny_throw fin)

theorem raiseX {α : Type} {B : Heap} {msg : String} {Q : α → Shared → Prop} (hA : HandOk A s.heap) (hB : DomIn B s.heap)
    (h : ∀ h' tk e c, s.heap.StaysIn h' → s.heap.get? e = none → ExcAt B h' e c none → (A.handled = none → c = .none) → E (.ref e) { s with heap := h', toks := tk }) :
    wpAny (model prog w) A (raiseErrorWords "IndexError" msg : Sem α) Q E s := by
  unfold raiseErrorWords
  refine wpAny_bind (wpAny_mkText (wpAny_bind ?_))
  unfold newExc newTuple
  refine wpAny_bind (wpAny_newObj_type ?_)
  refine wpAny_bind (m := firstArgMember _ _) (wpAny_of_eq (a := Value.none) (by simp only [firstArgMember, plainExc_IndexError.first]; rfl) ?_)
  rw [plainExc_IndexError.own]
  refine wpAny_newObj_type ?_
  generalize htk : s.toks + 1 = tk
  have grow : ∀ (v : Obj) (v' : Obj) b o, s.heap.get? b = some o → ((s.heap.push v).push v').get? b = some o := fun v v' b o e => Heap.get?_push_of_some _ (Heap.get?_push_of_some _ e)
  have fresh : ∀ (v : Obj), s.heap.get? (s.heap.push v).objs.size = none := fun v => Heap.get?_none_of_le (by rw [Heap.size_push]; exact Nat.le_succ _)
  refine raiseNewX (t := .ref s.heap.objs.size) ?_ (hB.none (fresh _)) (Heap.get?_push_size _ rfl) ?_ fun h' c hk hx hc => ?_
  · rcases hA with hA | ⟨x, ox, vs, a1, a2, a3, a4⟩
    · exact .inl hA
    · exact .inr ⟨x, ox, vs, a1, grow _ _ _ _ a2, a3, a4⟩
  · intro x hx q
    subst q
    rcases hA with hA | ⟨x, ox, vs, a1, a2, a3, a4⟩
    · rw [hA] at hx; cases hx
    · rw [a1] at hx
      injection hx with hx
      injection hx with hx
      rw [hx, fresh] at a2; cases a2
  · refine h h' _ _ c (fun b o e => hk b o (fun q => ?_) (grow _ _ _ _ e)) (fresh _) hx hc
    rw [q, fresh] at e; cases e

theorem getItem_outX {B : Heap} {l : Addr} {items : Array Value} {k : Int} {t : Tok} {Q : Value → Shared → Prop} (hA : HandOk A s.heap) (hB : DomIn B s.heap) (hl : s.heap.IsList l items)
    (hout : (items.size : Int) ≤ k) (hhi : k < 2 ^ 63)
    (h : ∀ h' tk e c, s.heap.StaysIn h' → s.heap.get? e = none → ExcAt B h' e c none → (A.handled = none → c = .none) → E (.ref e) { s with heap := h', toks := tk }) :
    wpAny (model prog w) A (getItem (.ref l) (.int k t)) Q E s := by
  obtain ⟨o, ho, hc, ne, hd⟩ := id hl
  unfold getItem
  try with_reducible refine wpAny_holding ?_
  first | refine wpAny_bind (wpAny_pure ?_) | skip
  refine wpAny_bind (wpAny_sequenceKey hl.typeIs (by decide) ?_)
  refine wpAny_bind (wpAny_callSpecial?_slot (name := Str.ofString "__getitem__") hl.typeIs slot_list_getitem
    (wpAny_call_entry slot_list_getitem hl.typeIs entry_list_getitem ?_ (args_list_getitem _ _)))
  show wpAny _ _ (Builtin.List.listSubscript? (.int k t) >>= _) _ _ s
  refine wpAny_bind (wpAny_listSubscript_int (fitsIndex_both (by omega) hhi) ?_)
  clear hhi
  have key : ∀ (α : Type) (Q' : α → Shared → Prop) (msg : String), wpAny (model prog w) A.in1 (raiseErrorWords "IndexError" msg : Sem α) Q' E s := fun α Q' msg => raiseX (show HandOk A.in1 s.heap from hA) hB h
  cases k with
  | ofNat j =>
    have hx : items[j]? = none := Array.getElem?_eq_none (by have : (items.size : Int) ≤ (j : Int) := hout; omega)
    show wpAny _ _ ((seqItemAt l j >>= fun r => pure (r.map (j, ·))) >>= _) _ _ s
    refine wpAny_bind (wpAny_bind (wpAny_seqItemAt ho hd (wpAny_pure ?_)))
    rw [hx]
    first
      | exact wpAny_bind (wpAny_rule (by exact key _ _ _))
      | exact wpAny_bind (wpAny_rule (wpAny_bind (by exact key _ _ _)))
      | exact wpAny_bind (wpAny_bind (wpAny_rule (by exact key _ _ _)))
      | exact wpAny_rule (by exact key _ _ _)
  | negSucc j => exact absurd hout (by have := Int.negSucc_lt_zero j; omega)
theorem item_outX {value slice : Expr} {B : Heap} {l : Addr} {items : Array Value} {k : Int} {t : Tok} {Q : Value → Shared → Prop} (hA : HandOk A s.heap) (hB : DomIn B s.heap) (hl : s.heap.IsList l items)
    (hout : (items.size : Int) ≤ k) (hhi : k < 2 ^ 63)
    (h : ∀ h' tk e c, s.heap.StaysIn h' → s.heap.get? e = none → ExcAt B h' e c none → (A.handled = none → c = .none) → E (.ref e) { s with heap := h', toks := tk })
    (hs : subscripted slice false (.ref l) (.int k t) = operate [.ref l, .int k t] (getItem (.ref l) (.int k t)) := by with_unfolding_all rfl) :
    wpAny (model prog w) A (subscriptTail value slice (.ref l) (.int k t)) Q E s :=
  tail_any hl.typeIs slot_list_getitem.lookup (getItem_outX hA hB hl hout hhi h) hs

/-! ## the stations of an exception in its own frame -/
theorem note_first {B : Heap} {env : Env} {outer : List Env} {L e : Addr} {c : Value} {Q : Unit → Shared → Prop} (hfr : A.frames = some (env :: outer)) (hl : FrOk s.heap (env :: outer)) (hf : env.frame = some L)
    (hB : DomIn B s.heap) (x : ExcAt B s.heap e c none)
    (h : ∀ h', Xs B ((env :: outer).filterMap (·.frame)) s.heap h' → ExcAt B h' e c (some (rawInt L)) → Q () { s with heap := h' }) : wpAny (model prog w) A (noteFrame (.ref e) env) Q E s := by
  obtain ⟨hBe, oe, vs, he, hcls, hd, h2, h1⟩ := x
  have h1 : vs[1]? = some .none := h1
  have hsz : 1 < vs.size := (Array.getElem?_eq_some_iff.mp h1).1
  unfold noteFrame
  simp only [hf]
  refine wpAny_bind (wpAny_field he hd h1 ?_)
  rw [if_neg (by decide)]
  have hene : e ∉ (env :: outer).filterMap (·.frame) := fun hm => by
    obtain ⟨_, o, ho, hnf⟩ := hl.mem hm
    rw [he] at ho; injection ho with ho; subst ho; exact hnf vs hd
  refine wpAny_bind (wpAny_frameOf_fun hfr hl hf fun h₁ hs₁ => ?_)
  refine wpAny_bind (wpAny_entryPlaceOf fun pl hpl => ?_)
  unfold EntryCells.newEntry newFields
  refine wpAny_bind (wpAny_newObj_type ?_ (hpl.sizeOk5 _ _ _ _ _))
  have he₁ : h₁.get? e = some oe := (hs₁.2.1 e hene).trans he
  have he₂ := Heap.get?_push_of_some (h := h₁) { cls := .type "traceback", dict := none, data := .fields ([Value.none, .ref L, .none, rawInt L, .none] ++ (if pl.isEmpty then List.replicate 6 Value.none else pl)).toArray } he₁
  have hTe : h₁.objs.size ≠ e := Nat.ne_of_gt (Heap.lt_size he₁)
  have hd₃ := Obj.data_mapFields hd (·.setIfInBounds 1 (Value.ref h₁.objs.size))
  have hTf : s.heap.get? h₁.objs.size = none := Heap.get?_none_of_le (by rw [hs₁.1]; exact Nat.le_refl _)
  refine wpAny_setField he₂ hd hsz (h _ ?_ ⟨hBe, _, _, Heap.get?_update_self _ he₂ (Obj.isFreed_of_fields hd₃), (Obj.cls_mapFields _ _).trans hcls, hd₃, ?_, h₁.objs.size, { cls := .type "traceback", dict := none, data := .fields ([Value.none, .ref L, .none, rawInt L, .none] ++ (if pl.isEmpty then List.replicate 6 Value.none else pl)).toArray }, _, ?_, hB.none hTf, hTe, ?_, rfl, ?_⟩)
  · intro b o hb hc
    have hbe : b ≠ e := by
      rintro rfl
      rw [he] at hb; injection hb with hb; subst hb
      rcases hc with ⟨o', q⟩ | q
      · rw [hBe] at q; cases q
      · exact q vs hd
    have keep : ∀ o', h₁.get? b = some o' → ((h₁.push { cls := .type "traceback", dict := none, data := .fields ([Value.none, .ref L, .none, rawInt L, .none] ++ (if pl.isEmpty then List.replicate 6 Value.none else pl)).toArray }).update e (Obj.mapFields (·.setIfInBounds 1 (Value.ref h₁.objs.size)))).get? b = some o' := fun o' q => by
      rw [Heap.get?_update_other _ _ (Ne.symm hbe)]; exact Heap.get?_push_of_some _ q
    obtain ⟨sl, q⟩ := hs₁.2.2 b o hb
    exact ⟨⟨sl, keep _ q⟩, fun hn => keep _ ((hs₁.2.1 b hn).trans hb)⟩
  · rw [Array.getElem?_setIfInBounds_ne (by decide)]; exact h2
  · simp [hsz]
  · rw [Heap.get?_update_other _ _ (Ne.symm hTe)]; exact Heap.get?_push_size h₁ rfl
  · first | (simp; done) | (rcases hpl with rfl | ⟨_, _, _, _, _, _, _, rfl⟩ <;> simp)

theorem note_again {B : Heap} {env : Env} {L e : Addr} {c : Value} {Q : Unit → Shared → Prop} (hf : env.frame = some L) (x : ExcAt B s.heap e c (some (rawInt L))) (h : Q () s) : wpAny (model prog w) A (noteFrame (.ref e) env) Q E s := by
  obtain ⟨_, oe, vs, he, _, hd, _, T, oT, ts, h1, _, _, hT, hdT, h3⟩ := x
  exact wpAny_noteFrame_inFlight hf he hd h1 hT hdT h3 h

theorem flight {B : Heap} (FS : List Addr) {fr : Option Addr} {e : Addr} {c f : Value} {Q : Unit → Shared → Prop} (x : ExcAt B s.heap e c (some f))
    (h : ∀ h', Xs B FS s.heap h' → ExcAt B h' e c (some (fr.elim .none fun g => rawInt g)) → Q () { s with heap := h' }) : wpAny (model prog w) A (setFlight (.ref e) fr) Q E s := by
  obtain ⟨hBe, oe, vs, he, hcls, hd, h2, T, oT, ts, h1, hBT, hTe, hT, hdT, h3⟩ := x
  have hsz : 3 < ts.size := (Array.getElem?_eq_some_iff.mp h3).1
  unfold setFlight
  refine wpAny_bind (wpAny_field he hd h1 ?_)
  rw [if_pos (show (Value.ref T != Value.none) = true from by simp)]
  have hd₃ := Obj.data_mapFields hdT (·.setIfInBounds 3 (fr.elim Value.none fun f => rawInt f))
  have other : ∀ b, b ≠ T → (s.heap.update T (Obj.mapFields (·.setIfInBounds 3 (fr.elim Value.none fun f => rawInt f)))).get? b = s.heap.get? b := fun b hb => Heap.get?_update_other _ _ (Ne.symm hb)
  refine wpAny_setField hT hdT hsz (h _ ?_ ⟨hBe, oe, vs, (other e (Ne.symm hTe)).trans he, hcls, hd, h2, T, _, _, h1, hBT, hTe, Heap.get?_update_self _ hT (Obj.isFreed_of_fields hd₃), hd₃, by simp [hsz]⟩)
  intro b o hb hc
  have hbT : b ≠ T := by
    rintro rfl
    rw [hT] at hb; injection hb with hb; subst hb
    rcases hc with ⟨o', q⟩ | q
    · rw [hBT] at q; cases q
    · exact q ts hdT
  exact ⟨⟨o.slots, (other b hbT).trans hb⟩, fun _ => (other b hbT).trans hb⟩

theorem came_back {B : Heap} (FS : List Addr) {env : Env} {L e : Addr} {c : Value} (hf : env.frame = some L) (x : ExcAt B s.heap e c (some (rawInt L)))
    (h : ∀ h', Xs B FS s.heap h' → ExcAt B h' e c (some (rawInt L)) → E (.ref e) { s with heap := h' }) : cameBackBy (model prog w) A env E (.ref e) s := by
  obtain ⟨hBe, oe, vs, he, hcls, hd, h2, T, oT, ts, h1, r⟩ := id x
  unfold cameBackBy
  refine wpAny_bind (wpAny_field he hd h1 ?_)
  rw [if_neg (show ¬ (Value.ref T == Value.none) = true from by simp)]
  refine flight FS x fun h' k1 k2 => h h' k1 ?_
  rw [hf] at k2; exact k2
theorem came_first {B : Heap} {env : Env} {outer : List Env} {L e : Addr} {c : Value} (hfr : A.frames = some (env :: outer)) (hl : FrOk s.heap (env :: outer)) (hf : env.frame = some L)
    (hB : DomIn B s.heap) (x : ExcAt B s.heap e c none)
    (h : ∀ h', Xs B ((env :: outer).filterMap (·.frame)) s.heap h' → ExcAt B h' e c (some (rawInt L)) → E (.ref e) { s with heap := h' }) :
    notedBy (model prog w) A env (fun x s' => cameBackBy (model prog w) A env E x s') (.ref e) s := by
  unfold notedBy
  refine note_first hfr hl hf hB x fun h₁ k1 x1 => ?_
  exact came_back _ hf x1 fun h₂ k2 x2 => h h₂ (k1.trans k2) x2
theorem pass_on {B : Heap} (FS : List Addr) {α : Type} {what : String} {env : Env} {L e : Addr} {c f : Value} {Q : α → Shared → Prop} (hf : env.frame = some L) (x : ExcAt B s.heap e c (some f))
    (h : ∀ h', Xs B FS s.heap h' → ExcAt B h' e c (some (rawInt L)) → E (.ref e) { s with heap := h' }) : wpAny (model prog w) A (PySem.passOn what (.ref e) env : Sem α) Q E s := by
  obtain ⟨hBe, oe, vs, he, hcls, hd, h2, T, oT, ts, h1, r⟩ := id x
  unfold PySem.passOn
  refine wpAny_bind (wpAny_field he hd h1 ?_)
  rw [if_neg (show ¬ (Value.ref T == Value.none) = true from by simp)]
  refine wpAny_bind (flight FS x fun h' k1 k2 => wpAny_throw (h h' k1 ?_))
  rw [hf] at k2; exact k2
end
end Mine
/-! part S1 -/
namespace Mine
open PySem PySem.W PySem.Calls PyProof.Rows
open Sem (wp)

theorem ns_congr {h : Heap} {a : Addr} {m m' : Str → Option Value} (hn : h.Ns a m) (e : ∀ x, m x = m' x) : h.Ns a m' :=
  let ⟨o, es, ep, a1, a2, a3, a4⟩ := hn
  ⟨o, es, ep, a1, a2, a3, fun x => (a4 x).trans (e x)⟩
theorem ns_over {h : Heap} {L : Addr} {I : Str} {m : Str → Option Value} {a b : Int} {t : Tok} {u : Option Value} (hn : h.Ns L (fun y => if y = I then some (.int a t) else if y = I then u else m y)) (e : a = b) :
    ∃ t', h.Ns L (fun y => if y = I then some (.int b t') else m y) := ⟨t, ns_congr hn fun x => by by_cases q : x = I <;> simp [q, e]⟩
theorem ns_ne_fields {h : Heap} {a : Addr} {m : Str → Option Value} (hn : h.Ns a m) {b : Addr} {o : Obj} {vs : Array Value} (hb : h.get? b = some o) (hd : o.data = .fields vs) : b ≠ a := by
  rintro rfl
  obtain ⟨o', es, ep, a1, a2, _⟩ := hn
  rw [a1] at hb; injection hb with hb; subst hb
  rw [a2] at hd; cases hd
theorem FrOk.store {h h' : Heap} {L : Addr} {m : Str → Option Value} (hn : h'.Ns L m) (k : ∀ b o, b ≠ L → h.get? b = some o → h'.get? b = some o) : ∀ {l : List Env}, FrOk h l → FrOk h' l
  | [], _ => trivial
  | env :: l, ⟨hk, ⟨F, o, hf, hb, ho, hd⟩, hr⟩ => by
    refine ⟨hk, ?_, FrOk.store hn k hr⟩
    by_cases q : F = L
    · subst q
      obtain ⟨o', es, ep, a1, a2, _⟩ := hn
      exact ⟨F, o', hf, hb, a1, fun vs e => by rw [a2] at e; cases e⟩
    · exact ⟨F, o, hf, hb, k F o q ho, hd⟩
theorem DomIn.store {B h h' : Heap} {L : Addr} {m : Str → Option Value} (x : DomIn B h) (hn : h'.Ns L m) (k : ∀ b o, b ≠ L → h.get? b = some o → h'.get? b = some o) : DomIn B h' := fun b o e => by
  obtain ⟨o', e'⟩ := x b o e
  by_cases q : b = L
  · subst q; obtain ⟨o2, _, _, a1, _⟩ := hn; exact ⟨o2, a1⟩
  · exact ⟨o', k b o' q e'⟩
theorem HandOk.store {A : Around} {h h' : Heap} {L : Addr} {m : Str → Option Value} (x : HandOk A h) (hn : h.Ns L m) (k : ∀ b o, b ≠ L → h.get? b = some o → h'.get? b = some o) : HandOk A h' := by
  rcases x with x | ⟨e, oe, vs, a1, a2, a3, a4⟩
  · exact .inl x
  · exact .inr ⟨e, oe, vs, a1, k _ _ (ns_ne_fields hn a2 a3) a2, a3, a4⟩

def dropEq (v : Bs) (xs : List Bs) : List Bs := xs.dropWhile fun x => decide (x = v)
theorem dropEq_cons_eq {v : Bs} {xs : List Bs} : dropEq v (v :: xs) = dropEq v xs := by simp [dropEq]
theorem dropEq_cons_ne {v x : Bs} {xs : List Bs} (h : x ≠ v) : dropEq v (x :: xs) = x :: xs := by simp [dropEq, h]
theorem dropEq_len (v : Bs) (xs : List Bs) : (dropEq v xs).length ≤ xs.length := by
  induction xs with
  | nil => exact Nat.le_refl _
  | cons x xs ih =>
    by_cases h : x = v
    · subst h; rw [dropEq_cons_eq]; exact Nat.le_succ_of_le ih
    · rw [dropEq_cons_ne h]; exact Nat.le_refl _

section
variable {prog : Program} {w : World} {A : Around} {E : Value → Shared → Prop} {s : Shared}
theorem iadd_int {a b : Int} {t u : Tok} {Q : Value → Shared → Prop} (h : Q (.int (a + b) s.toks) { s with toks := s.toks + 1 }) : wpAny (model prog w) A (inplaceOp .Add (.int a t) (.int b u)) Q E s :=
  AutoIntOps.iadd_0 h

theorem skip_while {env : Env} {outer : List Env} {L l : Addr} {X I V : Str} {pX pI pV pS pC pT pA pO pW : Pos} {kk : Nat} {vs : List Value} {xs : List Bs} {v : Bs} {tv ti : Tok} {i : Nat} {m : Str → Option Value} {B : Heap} {Q : Flow → Shared → Prop}
    (hA : HandOk A s.heap) (hfr : A.frames = some (env :: outer)) (hl : FrOk s.heap (env :: outer)) (hf : env.frame = some L) (hL : env.locals = L) (hk : env.scope.kind = .function)
    (hX : env.kindOf X = some .local) (hI : env.kindOf I = some .local) (hV : env.kindOf V = some .local) (dX : (X == ("__debug__" : Str)) = false) (dI : (I == ("__debug__" : Str)) = false) (dV : (V == ("__debug__" : Str)) = false) (nX : X ≠ I) (nV : V ≠ I)
    (hB : DomIn B s.heap) (hn : s.heap.Ns L m) (mX : m X = some (.ref l)) (mI : m I = some (.int (i : Int) ti)) (mV : m V = some (.bytes v tv))
    (hxs : s.heap.IsList l vs.toArray) (hb : BsAre vs xs) (hz : xs.length ≤ 1000) (hi : i ≤ xs.length)
    (hQ : ∀ h' tk k t, i ≤ k → k < xs.length → xs.drop k = dropEq v (xs.drop i) → h'.Ns L (fun x => if x = I then some (.int (k : Int) t) else m x) → (∀ b o, b ≠ L → s.heap.get? b = some o → h'.get? b = some o) → Q .next { s with heap := h', toks := tk })
    (hE : ∀ h₁ h' tk t e c, dropEq v (xs.drop i) = [] → h₁.Ns L (fun x => if x = I then some (.int (xs.length : Int) t) else m x) → (∀ b o, b ≠ L → s.heap.get? b = some o → h₁.get? b = some o) → Xs B ((env :: outer).filterMap (·.frame)) h₁ h' →
      ExcAt B h' e c (some (rawInt L)) → (A.handled = none → c = .none) → E (.ref e) { s with heap := h', toks := tk }) :
    wpAny (model prog w) A (exec (.While (.Compare (.Subscript (.Name X pX) (.Name I pI) pS) [.Eq] [.Name V pV] pC) [.AugAssign (.Name I pA) .Add (.Constant (.int 1) kk pO) pT] [] pW) env) Q E s := by
  have hp : (env.scope.kind == .class || (env.scope.kind == .module && env.locals != env.globals)) = false := by rw [hk]; rfl
  have lL : l ≠ L := ne_list_ns hxs hn
  refine wpAny_While (codeAny_whileLoop (fun n s' => ∃ h' tk k t, s' = { s with heap := h', toks := tk } ∧ i ≤ k ∧ k ≤ xs.length ∧ n = xs.length - k ∧ dropEq v (xs.drop k) = dropEq v (xs.drop i) ∧
      h'.Ns L (fun x => if x = I then some (.int (k : Int) t) else m x) ∧ ∀ b o, b ≠ L → s.heap.get? b = some o → h'.get? b = some o) ?_ (xs.length - i)
    ⟨s.heap, s.toks, i, ti, rfl, Nat.le_refl _, hi, rfl, rfl, ns_congr hn fun x => by by_cases q : x = I <;> simp [q, mI], fun _ _ _ e => e⟩)
  rintro n s' ⟨h', tk, k, t, rfl, hik, hkx, rfl, hdr, hn', hk'⟩
  have hxs' : h'.IsList l vs.toArray := hxs.at fun o e => hk' _ o lL e
  refine wpAny_isTrue_Compare1 ?_
  refine Subscript_ ?_
  refine ev_loc (m := fun x => if x = I then some (.int (k : Int) t) else m x) (hL ▸ hn') (by rw [if_neg nX]; exact mX) ?_ hk hX dX
  refine ev_loc (m := fun x => if x = I then some (.int (k : Int) t) else m x) (hL ▸ hn') (by rw [if_pos rfl]) ?_ hk hI dI
  by_cases hlt : k < xs.length
  · have hxk : xs[k]? = some xs[k] := List.getElem?_eq_getElem hlt
    have hd : xs.drop k = xs[k] :: xs.drop (k + 1) := List.drop_eq_getElem_cons hlt
    refine item_bs (b := xs[k]) hxs' hb (by omega) (by omega) (by rw [Int.toNat_natCast]; exact hxk) fun tb => ?_
    refine ev_loc (m := fun x => if x = I then some (.int (k : Int) t) else m x) (hL ▸ hn') (by rw [if_neg nV]; exact mV) ?_ hk hV dV
    refine eq_bytes ?_
    rw [beq_bs]
    refine wpAny_truthy_bool ?_
    by_cases hq : xs[k] = v
    · rw [decide_eq_true hq, if_pos rfl]
      refine wpAny_execs_cons ?_
      refine wpAny_AugAssign_Name ?_
      refine wpAny_loadName_local hk hI (hL ▸ hn') (by rw [if_pos rfl]) ?_
      refine wpAny_Constant_int ?_
      refine iadd_int ?_
      refine wpAny_storeName_local hI (hL ▸ hn') (fun h₂ hn₂ hs₂ => ?_) hp
      refine wpAny_execs_nil ?_
      rw [hL] at hn₂ hs₂
      obtain ⟨t', hn₃⟩ := ns_over (b := ((k + 1 : Nat) : Int)) hn₂ (by push_cast; rfl)
      refine ⟨xs.length - (k + 1), by omega, h₂, _, k + 1, t', rfl, by omega, by omega, rfl, ?_, hn₃, fun b o hb e => hs₂.extBut b o hb (hk' b o hb e)⟩
      rw [← hdr, hd, hq, dropEq_cons_eq]
    · rw [decide_eq_false hq, if_neg (by decide)]
      refine wpAny_execs_nil ?_
      exact hQ h' tk k t hik hlt (by rw [← hdr, hd, dropEq_cons_ne hq]) hn' hk'
  · obtain rfl : k = xs.length := by omega
    refine item_outX (B := B) (hA.store hn hk') (hB.store hn' hk') hxs' (by simp [hb.len]) (by omega) fun h₂ tk₂ e c hs₂ he₂ hx₂ hc₂ => ?_
    refine came_first (outer := outer) (L := L) hfr ((FrOk.store hn' hk' hl).xs (B := B) (FS := []) (Xs.of_stays hs₂)) hf ?_ hx₂ fun h₃ k₃ hx₃ => ?_
    · intro b o e
      obtain ⟨o', e'⟩ := (hB.store hn' hk') b o e
      exact ⟨o', hs₂ b o' e'⟩
    · exact hE h' h₃ tk₂ t e c (by rw [← hdr, List.drop_length]; rfl) hn' hk' ((Xs.of_stays hs₂).trans k₃) hx₃ hc₂
end
end Mine
/-! part S2 -/
namespace Mine
open PySem PySem.W PySem.Calls PyProof.Rows
open Sem (wp)

/-! ## sorted_list_difference: what it reckons -/
def sldL : List Bs → List Bs → List Bs → List Bs → List Bs × List Bs
  | [], ys, mis, une => (mis, une ++ ys)
  | e :: xs, [], mis, une => (mis ++ e :: xs, une)
  | e :: xs, a :: ys, mis, une =>
    if bLt e a = true then sldL (dropEq e xs) (a :: ys) (mis ++ [e]) une
    else if bLt a e = true then sldL (e :: xs) (dropEq a ys) mis (une ++ [a])
    else sldL (dropEq e xs) (dropEq a ys) mis une
termination_by xs ys => xs.length + ys.length
decreasing_by
  all_goals simp only [List.length_cons]
  · have := dropEq_len e xs; omega
  · have := dropEq_len a ys; omega
  · have := dropEq_len e xs; have := dropEq_len a ys; omega

structure SldC (B : Heap) (FO : List Addr) (L l1 l2 M U : Addr) (vs ws : List Value) (xs ys : List Bs) : Prop where
  hl1 : B.IsList l1 vs.toArray
  hl2 : B.IsList l2 ws.toArray
  h1 : BsAre vs xs
  h2 : BsAre ws ys
  z1 : xs.length ≤ 1000
  z2 : ys.length ≤ 1000
  bL : B.get? L = none
  bM : B.get? M = none
  bU : B.get? U = none
  nML : M ≠ L
  nUL : U ≠ L
  nMU : M ≠ U
  fo : ∀ b ∈ FO, ∃ o, B.get? b = some o
  gI : GName B "IndexError" (.type "IndexError")

structure SldH (B : Heap) (FO : List Addr) (M U : Addr) (mis une : List Bs) (h : Heap) : Prop where
  base : KpB FO B h
  mis : ∃ vs, h.PlainList M (List.toArray vs) ∧ BsAre vs mis
  une : ∃ us, h.PlainList U (List.toArray us) ∧ BsAre us une

structure SldM (l1 l2 M U : Addr) (i j : Nat) (m : Str → Option Value) : Prop where
  ex : m "expected" = some (.ref l1)
  ac : m "actual" = some (.ref l2)
  mi : m "missing" = some (.ref M)
  un : m "unexpected" = some (.ref U)
  i : ∃ t, m "i" = some (.int (i : Int) t)
  j : ∃ t, m "j" = some (.int (j : Int) t)

variable {B : Heap} {FO : List Addr} {L l1 l2 M U : Addr} {vs ws : List Value} {xs ys mis une : List Bs} {i j : Nat} {m : Str → Option Value}

theorem SldC.ofo (C : SldC B FO L l1 l2 M U vs ws xs ys) {b : Addr} (hb : B.get? b = none) (hL : b ≠ L) : b ∉ L :: FO := fun q => by
  rcases List.mem_cons.mp q with q | q
  · exact hL q
  · obtain ⟨o, e⟩ := C.fo b q; rw [hb] at e; cases e
theorem SldH.store (C : SldC B FO L l1 l2 M U vs ws xs ys) {h h' : Heap} (H : SldH B FO M U mis une h) (k : ∀ b o, b ≠ L → h.get? b = some o → h'.get? b = some o) : SldH B FO M U mis une h' where
  base := fun b o e => by
    have hbL : b ≠ L := by rintro rfl; rw [C.bL] at e; cases e
    obtain ⟨⟨sl, e1⟩, k1⟩ := H.base b o e
    exact ⟨⟨sl, k _ _ hbL e1⟩, fun hb => k _ _ hbL (k1 hb)⟩
  mis := let ⟨v, a, b⟩ := H.mis; ⟨v, a.at fun o e => k _ o C.nML e, b⟩
  une := let ⟨v, a, b⟩ := H.une; ⟨v, a.at fun o e => k _ o C.nUL e, b⟩
theorem SldH.xtr (C : SldC B FO L l1 l2 M U vs ws xs ys) {h h' : Heap} (H : SldH B FO M U mis une h) (x : Xs B (L :: FO) h h') : SldH B FO M U mis une h' where
  base := fun b o e => by
    have hbL : b ≠ L := by rintro rfl; rw [C.bL] at e; cases e
    obtain ⟨⟨sl, e1⟩, k1⟩ := H.base b o e
    obtain ⟨⟨sl2, e2⟩, _⟩ := x b _ e1 (.inl ⟨o, e⟩)
    exact ⟨⟨sl2, e2⟩, fun hb => (x b o (k1 hb) (.inl ⟨o, e⟩)).2 fun q => (List.mem_cons.mp q).elim hbL hb⟩
  mis := let ⟨v, ⟨n, a⟩, b⟩ := H.mis; ⟨v, ⟨n, (x _ _ a (.inr fun _ q => by cases q)).2 (C.ofo C.bM C.nML)⟩, b⟩
  une := let ⟨v, ⟨n, a⟩, b⟩ := H.une; ⟨v, ⟨n, (x _ _ a (.inr fun _ q => by cases q)).2 (C.ofo C.bU C.nUL)⟩, b⟩
theorem SldH.append (C : SldC B FO L l1 l2 M U vs ws xs ys) {h h' : Heap} (H : SldH B FO M U mis une h) {vs' : List Value} {mis' : List Bs} (hs : Heap.SameBut M h h') (hp : h'.PlainList M (List.toArray vs')) (hb : BsAre vs' mis') : SldH B FO M U mis' une h' where
  base := fun b o e => by
    have hbM : b ≠ M := by rintro rfl; rw [C.bM] at e; cases e
    obtain ⟨⟨sl, e1⟩, k1⟩ := H.base b o e
    exact ⟨⟨sl, hs.extBut _ _ hbM e1⟩, fun hq => hs.extBut _ _ hbM (k1 hq)⟩
  mis := ⟨vs', hp, hb⟩
  une := let ⟨v, a, b⟩ := H.une; ⟨v, a.at fun o e => hs.extBut _ o (Ne.symm C.nMU) e, b⟩
theorem SldH.appendU (C : SldC B FO L l1 l2 M U vs ws xs ys) {h h' : Heap} (H : SldH B FO M U mis une h) {vs' : List Value} {une' : List Bs} (hs : Heap.SameBut U h h') (hp : h'.PlainList U (List.toArray vs')) (hb : BsAre vs' une') : SldH B FO M U mis une' h' where
  base := fun b o e => by
    have hbM : b ≠ U := by rintro rfl; rw [C.bU] at e; cases e
    obtain ⟨⟨sl, e1⟩, k1⟩ := H.base b o e
    exact ⟨⟨sl, hs.extBut _ _ hbM e1⟩, fun hq => hs.extBut _ _ hbM (k1 hq)⟩
  mis := let ⟨v, a, b⟩ := H.mis; ⟨v, a.at fun o e => hs.extBut _ o C.nMU e, b⟩
  une := ⟨vs', hp, hb⟩
theorem SldH.push {h h' : Heap} (H : SldH B FO M U mis une h) (k : h.StaysIn h') : SldH B FO M U mis une h' where
  base := fun b o e => let ⟨⟨sl, e1⟩, k1⟩ := H.base b o e; ⟨⟨sl, k _ _ e1⟩, fun hb => k _ _ (k1 hb)⟩
  mis := let ⟨v, a, b⟩ := H.mis; ⟨v, a.at fun o e => k _ o e, b⟩
  une := let ⟨v, a, b⟩ := H.une; ⟨v, a.at fun o e => k _ o e, b⟩
theorem SldM.of {m' : Str → Option Value} {i' j' : Nat} (x : SldM l1 l2 M U i j m) (h : ∀ y, y ≠ "i" → y ≠ "j" → m' y = m y) (hi : ∃ t, m' "i" = some (.int (i' : Int) t)) (hj : ∃ t, m' "j" = some (.int (j' : Int) t)) : SldM l1 l2 M U i' j' m' :=
  ⟨(h _ (by decide) (by decide)).trans x.ex, (h _ (by decide) (by decide)).trans x.ac, (h _ (by decide) (by decide)).trans x.mi, (h _ (by decide) (by decide)).trans x.un, hi, hj⟩

def sldTry : Stmt := match ((defBody 26).getD 3 (.Pass default)) with
  | .While _ b _ _ => b.getD 0 (.Pass default)
  | _ => .Pass default
def tryBody : Stmt → List Stmt
  | .Try b _ _ _ _ => b
  | _ => []
def tryHands : Stmt → List ExceptHandler
  | .Try _ h _ _ _ => h
  | _ => []

section
variable {prog : Program} {w : World} {A : Around} {E : Value → Shared → Prop} {s : Shared}

theorem list_stmt {env : Env} {x nm : Str} {id : String} {px apos pos epos : Pos} {elt : Expr} {L P : Addr} {m : Str → Option Value} {its : Array Value} {Q : Flow → Shared → Prop} (hL : env.locals = L)
    (hn : s.heap.Ns L m) (hx : m x = some (.ref P)) (hP : s.heap.PlainList P its) (slot : Slot "list" nm id) (hty : typeOf (.builtin id) = pure (.type "method_descriptor"))
    (h : wpAny (model prog w) A (callWith pos (.builtin id) [.ref P] [(false, eval elt env)] []) (fun v s' => v = .none ∧ Q .next s') E s)
    (hk : env.scope.kind = .function := by rfl) (hxl : env.kindOf x = some .local := by rfl) (hd : (x == ("__debug__" : Str)) = false := by decide)
    (hbase : attributeBase (.Name x px) nm env (eval (.Name x px) env) = eval (.Name x px) env := by rfl)
    (hfew : ((backTo pos (starEach [elt] env)).all (fun x => !x.1) && (backToKw pos (keywordEach [] env)).all (fun x => x.1.isSome)
      && decide (([elt] : List Expr).length + ([] : List Keyword).length + (if ([] : List Keyword).isEmpty then 0 else 1) < 30)) = true := by rfl)
    (hline : (apos.endLine == pos.line) = true := by rfl)
    (htrees : backTo pos (starEach [elt] env) = [(false, eval elt env)] := by rfl)
    (hi : interactive env = false := by rfl) (hs : swapsWith (.Call (.Attribute (.Name x px) nm apos) [elt] [] pos) none epos.line env = pure false := by rfl) :
    wpAny (model prog w) A (exec (.Expr (.Call (.Attribute (.Name x px) nm apos) [elt] [] pos) epos) env) Q E s := by
  refine wpAny_Expr ?_ hi hs
  refine wpAny_Call_method hbase hfew hline PySem.F.plainAttrs_list slot hty ?_
  refine ev_loc (hL ▸ hn) hx ?_ hk hxl hd
  obtain ⟨n, hP⟩ := hP
  refine ⟨⟨_, hP, rfl⟩, fun a e => ?_, ?_⟩
  · cases e; exact ⟨_, hP, rfl⟩
  · rw [htrees]; exact wpAny_mono h (fun v s' h' => by obtain ⟨rfl, h'⟩ := h'; exact h') fun _ _ x => x

theorem door_open {items items2 : Array Value} (h : items.size + items2.size ≤ 100000) : ¬(!items.isEmpty && Builtin.List.listTooLong (items.size + items2.size)) = true := by
  have : Builtin.List.listTooLong (items.size + items2.size) = false := by
    unfold Builtin.List.listTooLong
    simp only [decide_eq_false_iff_not, sizeLine_eq]
    omega
  rw [this, Bool.and_false]
  decide

/-- behind an exception that is caught -/
theorem sld_handler (C : SldC B FO L l1 l2 M U vs ws xs ys) {fa e : Addr} {cdv c : Value} {Q : Flow → Shared → Prop} (hx : ExcAt B s.heap e c (some .none)) (H : SldH B FO M U mis une s.heap) (hn : s.heap.Ns L m) (hm : SldM l1 l2 M U i j m)
    (hi : i ≤ xs.length) (hj : j ≤ ys.length) (zm : mis.length ≤ 1000) (zu : une.length ≤ 1000)
    (hQ : ∀ h' tk, SldH B FO M U (mis ++ xs.drop i) (une ++ ys.drop j) h' → h'.Ns L m → Q .brk { s with heap := h', toks := tk }) :
    wpAny (model prog w) A (handleBy (.ref e) (envOf "sorted_list_difference" (defScope 26) L fa cdv) (tryHands sldTry)) Q E s := by
  refine wpAny_handleBy_builtin (X := "IndexError") (T := "IndexError") (b := true) PySem.F.isExc_IndexError PySem.F.notTuple_IndexError PySem.F.self_IndexError ?_
  refine ev_glob (H.base.gname C.gI) ?_
  refine ⟨rfl, hx.typeIs, ?_⟩
  rw [if_pos rfl]
  refine flight (L :: FO) hx fun h₁ k₁ hx₁ => ?_
  have H₁ := H.xtr C k₁
  have hn₁ := k₁.ns hn
  clear hx₁ k₁ hx
  obtain ⟨v, hM, hv⟩ := H₁.mis
  obtain ⟨ti, hti⟩ := hm.i
  obtain ⟨tj, htj⟩ := hm.j
  refine wpAny_execs_cons ?_
  refine list_stmt rfl hn₁ hm.mi hM PySem.F.slot_list_extend PySem.F.type_list_extend ?_
  refine P.extend_list ?_
  refine wpAny_Subscript_list_slice ?_
  refine ev_loc hn₁ hm.ex ?_
  rw [evalPart_some, evalPart_none]
  refine ev_loc hn₁ hti ?_
  refine wpAny_pure ?_
  refine ⟨l1, _, _, _, rfl, H₁.base.list C.hl1, by simp [C.h1.len, sizeLine_eq]; have := C.z1; omega, .int _ _, .none, ?_⟩
  dsimp only
  have hsl1 : slicePick vs.toArray (some (i : Int)) none none = (vs.drop i).toArray := by
    have := slicePick_from vs.toArray i (by simp [C.h1.len]; omega)
    simpa using this
  rw [hsl1]
  obtain ⟨nM, hM'⟩ := hM
  refine ⟨_, _, _, nM, 0, ?_, ?_, ?_, rfl, IsL.push (IsL.push hM' _) _, by rw [← Heap.size_push]; exact IsL.new _ _, rfl, ?_⟩
  · simp [hv.len, sizeLine_eq]; omega
  · simp [hv.len, C.h1.len, sizeLine_eq]; have := C.z1; omega
  · exact door_open (by simp [hv.len, C.h1.len]; have := C.z1; omega)
  generalize hH3 : (h₁.push _).push _ = h₃
  have k3 : h₁.StaysIn h₃ := by rw [← hH3]; exact fun b o e => Heap.get?_push_of_some _ (Heap.get?_push_of_some _ e)
  clear hH3
  have H₃ : SldH B FO M U mis une h₃ := H₁.push k3
  have hn₃ : h₃.Ns L m := hn₁.keeps k3
  have hM₃ : IsL h₃ M v.toArray nM := k3 _ _ hM'
  have e4 : v.toArray ++ (vs.drop i).toArray = (v ++ vs.drop i).toArray := by simp
  have hb4 : BsAre (v ++ vs.drop i) (mis ++ xs.drop i) := hv.append ⟨fun y hy => C.h1.1 y (List.mem_of_mem_drop hy), by rw [List.map_drop, C.h1.2]⟩
  have H₄ : SldH B FO M U (mis ++ xs.drop i) une (h₃.update M (Obj.mapSeq fun x => x ++ (vs.drop i).toArray)) := by
    refine H₃.append C (Heap.SameBut.update ..) (vs' := v ++ vs.drop i) ?_ hb4
    have := hM₃.update (fun x => x ++ (vs.drop i).toArray)
    rw [e4] at this
    exact ⟨_, this⟩
  have hn₄ : (h₃.update M (Obj.mapSeq fun x => x ++ (vs.drop i).toArray)).Ns L m := hn₃.sameBut (Heap.SameBut.update ..) (Ne.symm C.nML)
  generalize h₃.update M _ = h₄ at H₄ hn₄ ⊢
  clear hM₃ hM' hn₃ H₃ k3 hn₁ H₁ e4 hsl1 hn H
  obtain ⟨u, hU, hu⟩ := H₄.une
  refine wpAny_execs_cons ?_
  refine list_stmt rfl hn₄ hm.un hU PySem.F.slot_list_extend PySem.F.type_list_extend ?_
  refine P.extend_list ?_
  refine wpAny_Subscript_list_slice ?_
  refine ev_loc hn₄ hm.ac ?_
  rw [evalPart_some, evalPart_none]
  refine ev_loc hn₄ htj ?_
  refine wpAny_pure ?_
  refine ⟨l2, _, _, _, rfl, H₄.base.list C.hl2, by simp [C.h2.len, sizeLine_eq]; have := C.z2; omega, .int _ _, .none, ?_⟩
  dsimp only
  have hsl2 : slicePick ws.toArray (some (j : Int)) none none = (ws.drop j).toArray := by
    have := slicePick_from ws.toArray j (by simp [C.h2.len]; omega)
    simpa using this
  rw [hsl2]
  obtain ⟨nU, hU'⟩ := hU
  refine ⟨_, _, _, nU, 0, ?_, ?_, ?_, rfl, IsL.push (IsL.push hU' _) _, by rw [← Heap.size_push]; exact IsL.new _ _, rfl, ?_⟩
  · simp [hu.len, sizeLine_eq]; omega
  · simp [hu.len, C.h2.len, sizeLine_eq]; have := C.z2; omega
  · exact door_open (by simp [hu.len, C.h2.len]; have := C.z2; omega)
  generalize hH5 : (h₄.push _).push _ = h₅
  have k5 : h₄.StaysIn h₅ := by rw [← hH5]; exact fun b o e => Heap.get?_push_of_some _ (Heap.get?_push_of_some _ e)
  clear hH5
  have H₅ := H₄.push k5
  have hn₅ : h₅.Ns L m := hn₄.keeps k5
  have hU₅ : IsL h₅ U u.toArray nU := k5 _ _ hU'
  have e6 : u.toArray ++ (ws.drop j).toArray = (u ++ ws.drop j).toArray := by simp
  have hb6 : BsAre (u ++ ws.drop j) (une ++ ys.drop j) := hu.append ⟨fun y hy => C.h2.1 y (List.mem_of_mem_drop hy), by rw [List.map_drop, C.h2.2]⟩
  refine wpAny_execs_cons (wpAny_Break ?_)
  refine hQ _ _ ?_ (hn₅.sameBut (Heap.SameBut.update ..) (Ne.symm C.nUL))
  refine H₅.appendU C (Heap.SameBut.update ..) (vs' := u ++ ws.drop j) ?_ hb6
  have := hU₅.update (fun x => x ++ (ws.drop j).toArray)
  rw [e6] at this
  exact ⟨_, this⟩

/-- from the raise to the handler -/
theorem sld_caught (C : SldC B FO L l1 l2 M U vs ws xs ys) {outer : List Env} {fa e : Addr} {cdv c : Value} {x : Option Value} {Q : Flow → Shared → Prop} (hfr : A.frames = some (envOf "sorted_list_difference" (defScope 26) L fa cdv :: outer)) (hFO : FO = outer.filterMap (·.frame)) (hout : FrOk B outer)
    (hc : x = none ∨ x = some (rawInt L)) (hx : ExcAt B s.heap e c x) (H : SldH B FO M U mis une s.heap) (hn : s.heap.Ns L m) (hm : SldM l1 l2 M U i j m)
    (hi : i ≤ xs.length) (hj : j ≤ ys.length) (zm : mis.length ≤ 1000) (zu : une.length ≤ 1000)
    (hQ : ∀ h' tk, SldH B FO M U (mis ++ xs.drop i) (une ++ ys.drop j) h' → h'.Ns L m → Q .brk { s with heap := h', toks := tk }) :
    wpAny (model prog w) A (noteFrame (.ref e) (envOf "sorted_list_difference" (defScope 26) L fa cdv)) (fun _ s₂ => wpAny (model prog w) A (setFlight (.ref e) none) (fun _ s₃ => wpAny (model prog w) A (handleBy (.ref e) (envOf "sorted_list_difference" (defScope 26) L fa cdv) (tryHands sldTry)) Q E s₃) E s₂) E s := by
  have hF : FrOk s.heap (envOf "sorted_list_difference" (defScope 26) L fa cdv :: outer) := by
    obtain ⟨o, es, ep, a1, a2, _⟩ := id hn
    exact ⟨(show (defScope 26).kind ≠ .module by decide), ⟨L, o, rfl, rfl, a1, fun vs q => by rw [a2] at q; cases q⟩, FrOk.kp hout H.base⟩
  have eF : (envOf "sorted_list_difference" (defScope 26) L fa cdv :: outer).filterMap (·.frame) = L :: FO := by rw [hFO]; rfl
  have tail : ∀ h₂, SldH B FO M U mis une h₂ → h₂.Ns L m → ExcAt B h₂ e c (some (rawInt L)) → wpAny (model prog w) A (setFlight (.ref e) none) (fun _ s₃ => wpAny (model prog w) A (handleBy (.ref e) (envOf "sorted_list_difference" (defScope 26) L fa cdv) (tryHands sldTry)) Q E s₃) E { s with heap := h₂ } := by
    intro h₂ H₂ n₂ x₂
    refine flight (L :: FO) x₂ fun h₃ k₃ x₃ => ?_
    exact sld_handler C x₃ (H₂.xtr C k₃) (k₃.ns n₂) hm hi hj zm zu hQ
  rcases hc with rfl | rfl
  · refine note_first hfr hF rfl H.base.dom hx fun h₁ k₁ x₁ => ?_
    rw [eF] at k₁
    exact tail h₁ (H.xtr C k₁) (k₁.ns hn) x₁
  · exact note_again (L := L) rfl hx (tail s.heap H hn hx)
end
end Mine
/-! part S3 -/
namespace Mine
open PySem PySem.W PySem.Calls PyProof.Rows
open Sem (wp)

section
variable {prog : Program} {w : World} {A : Around} {E : Value → Shared → Prop} {s : Shared}
theorem bump {env : Env} {L : Addr} {I : Str} {pA pO pT : Pos} {kk : Nat} {i : Nat} {ti : Tok} {m : Str → Option Value} {Q : Flow → Shared → Prop}
    (hL : env.locals = L) (hk : env.scope.kind = .function) (hI : env.kindOf I = some .local) (hn : s.heap.Ns L m) (mI : m I = some (.int (i : Int) ti))
    (hQ : ∀ h' tk t, h'.Ns L (fun x => if x = I then some (.int ((i + 1 : Nat) : Int) t) else m x) → (∀ b o, b ≠ L → s.heap.get? b = some o → h'.get? b = some o) → Q .next { s with heap := h', toks := tk }) :
    wpAny (model prog w) A (exec (.AugAssign (.Name I pA) .Add (.Constant (.int 1) kk pO) pT) env) Q E s := by
  have hp : (env.scope.kind == .class || (env.scope.kind == .module && env.locals != env.globals)) = false := by rw [hk]; rfl
  refine wpAny_AugAssign_Name ?_
  refine wpAny_loadName_local hk hI (hL ▸ hn) mI ?_
  refine wpAny_Constant_int ?_
  refine iadd_int ?_
  refine wpAny_storeName_local hI (hL ▸ hn) (fun h₂ hn₂ hs₂ => ?_) hp
  rw [hL] at hn₂ hs₂
  exact hQ h₂ _ _ (by push_cast; exact hn₂) fun b o hb e => hs₂.extBut b o hb e

theorem bump_skip {env : Env} {outer : List Env} {L l : Addr} {X I V : Str} {pX pI pV pS pC pT pA pO pW pA' pO' pT' : Pos} {kk kk' : Nat} {vs : List Value} {xs : List Bs} {v : Bs} {tv ti : Tok} {i : Nat} {m : Str → Option Value} {B : Heap} {Q : Flow → Shared → Prop}
    (hA : HandOk A s.heap) (hfr : A.frames = some (env :: outer)) (hl : FrOk s.heap (env :: outer)) (hf : env.frame = some L) (hL : env.locals = L) (hk : env.scope.kind = .function)
    (hX : env.kindOf X = some .local) (hI : env.kindOf I = some .local) (hV : env.kindOf V = some .local) (dX : (X == ("__debug__" : Str)) = false) (dI : (I == ("__debug__" : Str)) = false) (dV : (V == ("__debug__" : Str)) = false) (nX : X ≠ I) (nV : V ≠ I)
    (hB : DomIn B s.heap) (hn : s.heap.Ns L m) (mX : m X = some (.ref l)) (mI : m I = some (.int (i : Int) ti)) (mV : m V = some (.bytes v tv))
    (hxs : s.heap.IsList l vs.toArray) (hb : BsAre vs xs) (hz : xs.length ≤ 1000) (hi : i < xs.length)
    (hQ : ∀ h' tk k t, i < k → k < xs.length → xs.drop k = dropEq v (xs.drop (i + 1)) → h'.Ns L (fun x => if x = I then some (.int (k : Int) t) else m x) → (∀ b o, b ≠ L → s.heap.get? b = some o → h'.get? b = some o) → Q .next { s with heap := h', toks := tk })
    (hE : ∀ h₁ h' tk t e c, dropEq v (xs.drop (i + 1)) = [] → h₁.Ns L (fun x => if x = I then some (.int (xs.length : Int) t) else m x) → (∀ b o, b ≠ L → s.heap.get? b = some o → h₁.get? b = some o) → Xs B ((env :: outer).filterMap (·.frame)) h₁ h' →
      ExcAt B h' e c (some (rawInt L)) → (A.handled = none → c = .none) → E (.ref e) { s with heap := h', toks := tk }) :
    wpAny (model prog w) A (execs [.AugAssign (.Name I pA') .Add (.Constant (.int 1) kk' pO') pT', .While (.Compare (.Subscript (.Name X pX) (.Name I pI) pS) [.Eq] [.Name V pV] pC) [.AugAssign (.Name I pA) .Add (.Constant (.int 1) kk pO) pT] [] pW] env) Q E s := by
  have lL : l ≠ L := ne_list_ns hxs hn
  refine wpAny_execs_cons ?_
  refine bump hL hk hI hn mI fun h₁ tk₁ t₁ hn₁ k₁ => ?_
  refine wpAny_execs_cons ?_
  refine skip_while (B := B) (i := i + 1) (m := fun x => if x = I then some (.int ((i + 1 : Nat) : Int) t₁) else m x) (vs := vs) (xs := xs) (v := v) (tv := tv) (ti := t₁) (l := l) (outer := outer) (L := L) (hA.store hn k₁) hfr (FrOk.store hn₁ k₁ hl) hf hL hk hX hI hV dX dI dV nX nV (hB.store hn₁ k₁) hn₁
    (by rw [if_neg nX]; exact mX) (by rw [if_pos rfl]) (by rw [if_neg nV]; exact mV) (hxs.at fun o e => k₁ _ o lL e) hb hz hi ?_ ?_
  · intro h' tk k t q1 q2 q3 q4 q5
    refine wpAny_execs_nil ?_
    obtain ⟨t', q4⟩ := ns_over q4 rfl
    exact hQ h' tk k t' q1 q2 q3 q4 fun b o hb e => q5 b o hb (k₁ b o hb e)
  · intro h₂ h' tk t e c q1 q2 q3 q4 q5 q6
    obtain ⟨t', q2⟩ := ns_over q2 rfl
    exact hE h₂ h' tk t' e c q1 q2 (fun b o hb e => q3 b o hb (k₁ b o hb e)) q4 q5 q6
end

variable {B : Heap} {FO : List Addr} {L l1 l2 M U : Addr} {vs ws : List Value} {xs ys mis une : List Bs} {i j : Nat} {m : Str → Option Value}
section
variable {prog : Program} {w : World} {A : Around} {E : Value → Shared → Prop} {s : Shared}

theorem sld_frames {outer : List Env} {h : Heap} {fa : Addr} {cdv : Value} (hout : FrOk B outer) (hk : KpB FO B h) (hn : h.Ns L m) : FrOk h (envOf "sorted_list_difference" (defScope 26) L fa cdv :: outer) := by
  obtain ⟨o, es, ep, a1, a2, _⟩ := id hn
  exact ⟨(show (defScope 26).kind ≠ .module by decide), ⟨L, o, rfl, rfl, a1, fun vs q => by rw [a2] at q; cases q⟩, FrOk.kp hout hk⟩

def finalOf : Stmt → List Stmt
  | .Try _ _ _ f _ => f
  | _ => []
def ifElse : Stmt → List Stmt
  | .If _ _ e _ => e
  | _ => []
def sldIf1 : Stmt := (tryBody sldTry).getD 2 (.Pass default)
def sldIf2 : Stmt := (ifElse sldIf1).getD 0 (.Pass default)
def sldIn : Stmt := (ifElse sldIf2).getD 1 (.Pass default)

/-- the third way: both are alike -/
theorem sld_same (C : SldC B FO L l1 l2 M U vs ws xs ys) {outer : List Env} {fa : Addr} {cdv : Value} {x y : Bs} {tx ty : Tok} {Q : Flow → Shared → Prop} (hh : A.handled = none) (hfr : A.frames = some (envOf "sorted_list_difference" (defScope 26) L fa cdv :: outer)) (hFO : FO = outer.filterMap (·.frame)) (hout : FrOk B outer)
    (H : SldH B FO M U mis une s.heap) (hn : s.heap.Ns L m) (hm : SldM l1 l2 M U i j m) (me : m "e" = some (.bytes x tx)) (ma : m "a" = some (.bytes y ty)) (hi : i < xs.length) (hj : j < ys.length)
    (hQ : ∀ h' tk m' i' j', i < i' → i' ≤ xs.length → j < j' → j' ≤ ys.length → xs.drop i' = dropEq x (xs.drop (i + 1)) → ys.drop j' = dropEq y (ys.drop (j + 1)) → SldH B FO M U mis une h' → h'.Ns L m' → SldM l1 l2 M U i' j' m' → Q .next { s with heap := h', toks := tk })
    (hE : ∀ h' tk m' i' j' e c, ExcAt B h' e c (some (rawInt L)) → i < i' → i' ≤ xs.length → j < j' → j' ≤ ys.length → xs.drop i' = dropEq x (xs.drop (i + 1)) → ys.drop j' = dropEq y (ys.drop (j + 1)) → (i' = xs.length ∨ j' = ys.length) →
      SldH B FO M U mis une h' → h'.Ns L m' → SldM l1 l2 M U i' j' m' → E (.ref e) { s with heap := h', toks := tk }) :
    wpAny (model prog w) A (execs (ifElse sldIf2) (envOf "sorted_list_difference" (defScope 26) L fa cdv)) Q E s := by
  have eF : (envOf "sorted_list_difference" (defScope 26) L fa cdv :: outer).filterMap (·.frame) = L :: FO := by rw [hFO]; rfl
  obtain ⟨ti, hti⟩ := hm.i
  obtain ⟨tj, htj⟩ := hm.j
  -- the part that runs at last
  have last : ∀ (A' : Around) (h₁ : Heap) (tk₁ : Nat) (m₁ : Str → Option Value) (i' : Nat) (Q' : Flow → Shared → Prop) (E' : Value → Shared → Prop), HandOk A' h₁ → A'.frames = some (envOf "sorted_list_difference" (defScope 26) L fa cdv :: outer) →
      SldH B FO M U mis une h₁ → h₁.Ns L m₁ → SldM l1 l2 M U i' j m₁ → m₁ "a" = some (.bytes y ty) →
      (∀ h' tk m' j', j < j' → j' < ys.length → ys.drop j' = dropEq y (ys.drop (j + 1)) → SldH B FO M U mis une h' → h'.Ns L m' → SldM l1 l2 M U i' j' m' → (∀ b o, b ≠ L → h₁.get? b = some o → h'.get? b = some o) → Q' .next { s with heap := h', toks := tk }) →
      (∀ h' tk m' e c, ExcAt B h' e c (some (rawInt L)) → dropEq y (ys.drop (j + 1)) = [] → SldH B FO M U mis une h' → h'.Ns L m' → SldM l1 l2 M U i' ys.length m' → E' (.ref e) { s with heap := h', toks := tk }) →
      wpAny (model prog w) A' (execs (finalOf sldIn) (envOf "sorted_list_difference" (defScope 26) L fa cdv)) Q' E' { s with heap := h₁, toks := tk₁ } := by
    intro A' h₁ tk₁ m₁ i' Q' E' hA' hfr' H₁ hn₁ hm₁ ma₁ hQ' hE'
    obtain ⟨tj₁, htj₁⟩ := hm₁.j
    refine bump_skip (B := B) (i := j) (m := m₁) (vs := ws) (xs := ys) (v := y) (tv := ty) (ti := tj₁) (l := l2) (outer := outer) (L := L) (X := "actual") (I := "j") (V := "a") hA' hfr' (sld_frames hout H₁.base hn₁) rfl rfl rfl rfl rfl rfl (by decide) (by decide) (by decide) (by decide) (by decide)
      H₁.base.dom hn₁ hm₁.ac htj₁ ma₁ (H₁.base.list C.hl2) C.h2 C.z2 hj ?_ ?_
    · intro h' tk k t q1 q2 q3 q4 q5
      exact hQ' h' tk _ k q1 q2 q3 (H₁.store C q5) q4 ⟨hm₁.ex, hm₁.ac, hm₁.mi, hm₁.un, hm₁.i, ⟨_, rfl⟩⟩ q5
    · intro h₂ h' tk t e c q1 q2 q3 q4 q5 q6
      rw [eF] at q4
      exact hE' h' tk _ e c q5 q1 ((H₁.store C q3).xtr C q4) (q4.ns q2) ⟨hm₁.ex, hm₁.ac, hm₁.mi, hm₁.un, hm₁.i, ⟨_, rfl⟩⟩
  refine wpAny_execs_cons ?_
  refine bump (L := L) rfl rfl rfl hn hti fun h₁ tk₁ t₁ hn₁ k₁ => ?_
  have H₁ := H.store C k₁
  obtain ⟨m₁, hn₁, hm₁, me₁, ma₁⟩ : ∃ m₁ : Str → Option Value, h₁.Ns L m₁ ∧ SldM l1 l2 M U (i + 1) j m₁ ∧ m₁ "e" = some (.bytes x tx) ∧ m₁ "a" = some (.bytes y ty) :=
    ⟨_, hn₁, ⟨hm.ex, hm.ac, hm.mi, hm.un, ⟨_, rfl⟩, hm.j⟩, me, ma⟩
  clear hn H k₁ me ma hti htj hm
  obtain ⟨ti₁, hti₁⟩ := hm₁.i
  refine wpAny_execs_cons ?_
  refine wpAny_Try_finally ?_
  refine wpAny_execs_cons ?_
  refine skip_while (B := B) (i := i + 1) (m := m₁) (vs := vs) (xs := xs) (v := x) (tv := tx) (ti := ti₁) (l := l1) (outer := outer) (L := L) (X := "expected") (I := "i") (V := "e") (.inl hh) hfr (sld_frames hout H₁.base hn₁) rfl rfl rfl rfl rfl rfl (by decide) (by decide) (by decide) (by decide) (by decide)
    H₁.base.dom hn₁ hm₁.ex hti₁ me₁ (H₁.base.list C.hl1) C.h1 C.z1 hi ?_ ?_
  · intro h' tk k t q1 q2 q3 q4 q5
    have H₂ := H₁.store C q5
    refine wpAny_execs_nil ?_
    refine wpAny_execs_nil ?_
    refine last A h' tk _ k _ _ (.inl hh) hfr H₂ q4 ⟨hm₁.ex, hm₁.ac, hm₁.mi, hm₁.un, ⟨_, rfl⟩, hm₁.j⟩ ma₁ ?_ ?_
    · intro h₃ tk₃ m₃ j' r1 r2 r3 r4 r5 r6 _
      exact wpAny_execs_nil (hQ h₃ tk₃ m₃ k j' q1 (Nat.le_of_lt q2) r1 (Nat.le_of_lt r2) q3 r3 r4 r5 r6)
    · intro h₃ tk₃ m₃ e c r1 r2 r3 r4 r5
      unfold notedBy
      refine note_again rfl r1 ?_
      refine came_back (L :: FO) rfl r1 fun h₄ k₄ x₄ => ?_
      exact hE h₄ tk₃ m₃ k ys.length e c x₄ q1 (Nat.le_of_lt q2) hj (Nat.le_refl _) q3 (by rw [List.drop_length, r2]) (.inr rfl) (r3.xtr C k₄) (k₄.ns r4) r5
  · intro h₂ h' tk t e c q1 q2 q3 q4 q5 q6
    rw [eF] at q4
    have H₂ := (H₁.store C q3).xtr C q4
    have n₂ := q4.ns q2
    have c0 := q6 hh
    subst c0
    refine note_again (L := L) rfl q5 ⟨ref_ne_byPass e, ?_⟩
    refine note_again (L := L) rfl q5 ?_
    refine flight (L :: FO) q5 fun h₃ k₃ x₃ => ?_
    have H₃ := H₂.xtr C k₃
    have n₃ := k₃.ns n₂
    have hA' : HandOk (A.mark (some (.ref e))) h₃ := by
      obtain ⟨_, oe, vs, a1, _, a2, a3, _⟩ := x₃
      exact .inr ⟨e, oe, vs, rfl, a1, a2, a3⟩
    refine last (A.mark (some (.ref e))) h₃ tk _ xs.length _ _ hA' hfr H₃ n₃ ⟨hm₁.ex, hm₁.ac, hm₁.mi, hm₁.un, ⟨_, rfl⟩, hm₁.j⟩ ma₁ ?_ ?_
    · intro h₄ tk₄ m₄ j' r1 r2 r3 r4 r5 r6 r7
      have x₄ : ExcAt B h₄ e .none (some .none) := x₃.keep fun b o vs hb hd => r7 b o (ns_ne_fields n₃ hb hd) hb
      refine pass_on (L :: FO) rfl x₄ fun h₅ k₅ x₅ => ?_
      exact hE h₅ tk₄ m₄ xs.length j' e _ x₅ hi (Nat.le_refl _) r1 (Nat.le_of_lt r2) (by rw [List.drop_length, q1]) r3 (.inl rfl) (r4.xtr C k₅) (k₅.ns r5) r6
    · intro h₄ tk₄ m₄ e₂ c₂ r1 r2 r3 r4 r5
      unfold notedBy
      refine note_again rfl r1 ?_
      refine came_back (L :: FO) rfl r1 fun h₅ k₅ x₅ => ?_
      exact hE h₅ tk₄ m₄ xs.length ys.length e₂ c₂ x₅ hi (Nat.le_refl _) hj (Nat.le_refl _) (by rw [List.drop_length, q1]) (by rw [List.drop_length, r2]) (.inl rfl) (r3.xtr C k₅) (k₅.ns r4) r5
end
end Mine
/-! part S4 -/
namespace Mine
open PySem PySem.W PySem.Calls PyProof.Rows
open Sem (wp)
variable {B : Heap} {FO : List Addr} {L l1 l2 M U : Addr} {vs ws : List Value} {xs ys mis une : List Bs} {i j : Nat} {m : Str → Option Value}
section
variable {prog : Program} {w : World} {A : Around} {E : Value → Shared → Prop} {s : Shared}

theorem sld_body (C : SldC B FO L l1 l2 M U vs ws xs ys) {outer : List Env} {fa : Addr} {cdv : Value} {Q : Flow → Shared → Prop} {R : List Bs × List Bs} (hh : A.handled = none) (hfr : A.frames = some (envOf "sorted_list_difference" (defScope 26) L fa cdv :: outer)) (hFO : FO = outer.filterMap (·.frame)) (hout : FrOk B outer)
    (H : SldH B FO M U mis une s.heap) (hn : s.heap.Ns L m) (hm : SldM l1 l2 M U i j m) (hi : i ≤ xs.length) (hj : j ≤ ys.length) (zm : mis.length ≤ i) (zu : une.length ≤ j) (hR : sldL (xs.drop i) (ys.drop j) mis une = R)
    (hQ : ∀ h' tk m' i' j' mis' une', i + j < i' + j' → i' ≤ xs.length → j' ≤ ys.length → mis'.length ≤ i' → une'.length ≤ j' → sldL (xs.drop i') (ys.drop j') mis' une' = R → SldH B FO M U mis' une' h' → h'.Ns L m' → SldM l1 l2 M U i' j' m' → Q .next { s with heap := h', toks := tk })
    (hE : ∀ h' tk m' i' j' mis' une' e c x, (x = none ∨ x = some (rawInt L)) → ExcAt B h' e c x → i' ≤ xs.length → j' ≤ ys.length → mis'.length ≤ i' → une'.length ≤ j' → (mis' ++ xs.drop i', une' ++ ys.drop j') = R →
      SldH B FO M U mis' une' h' → h'.Ns L m' → SldM l1 l2 M U i' j' m' → E (.ref e) { s with heap := h', toks := tk }) :
    wpAny (model prog w) A (execs (tryBody sldTry) (envOf "sorted_list_difference" (defScope 26) L fa cdv)) Q E s := by
  have eF : (envOf "sorted_list_difference" (defScope 26) L fa cdv :: outer).filterMap (·.frame) = L :: FO := by rw [hFO]; rfl
  obtain ⟨ti, hti⟩ := hm.i
  obtain ⟨tj, htj⟩ := hm.j
  have z1 := C.z1
  have z2 := C.z2
  -- at an end nothing is left to compare
  have atEnd : ∀ (i' j' : Nat) (mis' une' : List Bs), (i' = xs.length ∨ j' = ys.length) → sldL (xs.drop i') (ys.drop j') mis' une' = (mis' ++ xs.drop i', une' ++ ys.drop j') := by
    intro i' j' mis' une' h
    rcases h with rfl | rfl
    · rw [List.drop_length]; simp [sldL]
    · rw [List.drop_length]
      cases xs.drop i' with
      | nil => simp [sldL]
      | cons e r => simp [sldL]
  refine wpAny_execs_cons ?_
  refine wpAny_Assign_Name ?_
  refine Subscript_ ?_
  refine ev_loc hn hm.ex ?_
  refine ev_loc hn hti ?_
  by_cases hix : i < xs.length
  case neg =>
    obtain rfl : i = xs.length := by omega
    refine item_outX (B := B) (.inl hh) H.base.dom (H.base.list C.hl1) (by simp [C.h1.len]) (by omega) fun h₂ tk₂ e c hs₂ _ hx₂ _ => ?_
    exact hE h₂ tk₂ m _ j mis une e c none (.inl rfl) hx₂ (Nat.le_refl _) hj zm zu (by rw [← hR, atEnd _ _ _ _ (.inl rfl)]) (H.push hs₂) (hn.keeps hs₂) hm
  have hxk : xs[i]? = some xs[i] := List.getElem?_eq_getElem hix
  have hxd : xs.drop i = xs[i] :: xs.drop (i + 1) := List.drop_eq_getElem_cons hix
  refine item_bs (b := xs[i]) (H.base.list C.hl1) C.h1 (by omega) (by omega) (by rw [Int.toNat_natCast]; exact hxk) fun tx => ?_
  refine wpAny_storeName_local rfl hn (fun h₁ hn₁ hs₁ => ?_) rfl
  have H₁ : SldH B FO M U mis une h₁ := H.store C fun b o hb e => hs₁.extBut b o hb e
  obtain ⟨m₁, hn₁, hm₁, me₁⟩ : ∃ m₁ : Str → Option Value, h₁.Ns L m₁ ∧ SldM l1 l2 M U i j m₁ ∧ m₁ "e" = some (.bytes xs[i] tx) := ⟨_, hn₁, ⟨hm.ex, hm.ac, hm.mi, hm.un, hm.i, hm.j⟩, rfl⟩
  clear hs₁ H hn hm hti htj
  obtain ⟨ti, hti⟩ := hm₁.i
  obtain ⟨tj, htj⟩ := hm₁.j
  refine wpAny_execs_cons ?_
  refine wpAny_Assign_Name ?_
  refine Subscript_ ?_
  refine ev_loc hn₁ hm₁.ac ?_
  refine ev_loc hn₁ htj ?_
  by_cases hjy : j < ys.length
  case neg =>
    obtain rfl : j = ys.length := by omega
    refine item_outX (B := B) (.inl hh) H₁.base.dom (H₁.base.list C.hl2) (by simp [C.h2.len]) (by omega) fun h₂ tk₂ e c hs₂ _ hx₂ _ => ?_
    exact hE h₂ tk₂ m₁ i _ mis une e c none (.inl rfl) hx₂ hi (Nat.le_refl _) zm zu (by rw [← hR, atEnd _ _ _ _ (.inr rfl)]) (H₁.push hs₂) (hn₁.keeps hs₂) hm₁
  have hyk : ys[j]? = some ys[j] := List.getElem?_eq_getElem hjy
  have hyd : ys.drop j = ys[j] :: ys.drop (j + 1) := List.drop_eq_getElem_cons hjy
  refine item_bs (b := ys[j]) (H₁.base.list C.hl2) C.h2 (by omega) (by omega) (by rw [Int.toNat_natCast]; exact hyk) fun ty => ?_
  refine wpAny_storeName_local rfl hn₁ (fun h₂ hn₂ hs₂ => ?_) rfl
  have H₂ : SldH B FO M U mis une h₂ := H₁.store C fun b o hb e => hs₂.extBut b o hb e
  obtain ⟨m₂, hn₂, hm₂, me₂, ma₂⟩ : ∃ m₂ : Str → Option Value, h₂.Ns L m₂ ∧ SldM l1 l2 M U i j m₂ ∧ m₂ "e" = some (.bytes xs[i] tx) ∧ m₂ "a" = some (.bytes ys[j] ty) := ⟨_, hn₂, ⟨hm₁.ex, hm₁.ac, hm₁.mi, hm₁.un, hm₁.i, hm₁.j⟩, me₁, rfl⟩
  clear hs₂ H₁ hn₁ hm₁ hti htj me₁
  obtain ⟨ti, hti⟩ := hm₂.i
  obtain ⟨tj, htj⟩ := hm₂.j
  rw [hxd, hyd, sldL] at hR
  refine wpAny_execs_cons ?_
  refine wpAny_If ?_
  refine wpAny_isTrue_Compare1 ?_
  refine ev_loc hn₂ me₂ ?_
  refine ev_loc hn₂ ma₂ ?_
  refine lt_bytes ?_
  refine wpAny_truthy_bool ?_
  by_cases hlt : bLt xs[i] ys[j] = true
  · rw [if_pos hlt] at hR ⊢
    obtain ⟨v, hM, hv⟩ := H₂.mis
    obtain ⟨nM, hM'⟩ := id hM
    refine wpAny_execs_cons ?_
    refine list_stmt rfl hn₂ hm₂.mi hM PySem.F.slot_list_append PySem.F.type_list_append ?_
    refine P.append_list ?_
    refine ev_loc hn₂ me₂ ?_
    refine ⟨_, nM, by simp [hv.len, sizeLine_eq]; omega, hM', rfl, ?_⟩
    have hb3 : BsAre (v ++ [.bytes xs[i] tx]) (mis ++ [xs[i]]) := hv.append (BsAre.one _ _)
    have H₃ : SldH B FO M U (mis ++ [xs[i]]) une (h₂.update M (Obj.mapSeq fun x => x.push (.bytes xs[i] tx))) := by
      refine H₂.append C (Heap.SameBut.update ..) (vs' := v ++ [.bytes xs[i] tx]) ?_ hb3
      have := IsL.update hM' (fun x => x.push (.bytes xs[i] tx))
      rw [show v.toArray.push (Value.bytes xs[i] tx) = (v ++ [Value.bytes xs[i] tx]).toArray by simp] at this
      exact ⟨_, this⟩
    have hn₃ : (h₂.update M (Obj.mapSeq fun x => x.push (.bytes xs[i] tx))).Ns L m₂ := hn₂.sameBut (Heap.SameBut.update ..) (Ne.symm C.nML)
    dsimp only at H₃ hn₃ ⊢
    generalize h₂.update M _ = h₃ at H₃ hn₃ ⊢
    refine bump_skip (B := B) (i := i) (m := m₂) (vs := vs) (xs := xs) (v := xs[i]) (tv := tx) (ti := ti) (l := l1) (outer := outer) (L := L) (X := "expected") (I := "i") (V := "e") (.inl hh) hfr (sld_frames hout H₃.base hn₃) rfl rfl rfl rfl rfl rfl (by decide) (by decide) (by decide) (by decide) (by decide)
      H₃.base.dom hn₃ hm₂.ex hti me₂ (H₃.base.list C.hl1) C.h1 C.z1 hix ?_ ?_
    · intro h' tk k t q1 q2 q3 q4 q5
      refine wpAny_execs_nil ?_
      refine hQ h' tk _ k j (mis ++ [xs[i]]) une (by omega) (by omega) hj (by simp; omega) zu ?_ (H₃.store C q5) q4 ⟨hm₂.ex, hm₂.ac, hm₂.mi, hm₂.un, ⟨_, rfl⟩, hm₂.j⟩
      rw [q3, hyd]; exact hR
    · intro h₄ h' tk t e c q1 q2 q3 q4 q5 q6
      rw [eF] at q4
      refine hE h' tk _ xs.length j (mis ++ [xs[i]]) une e c _ (.inr rfl) q5 (Nat.le_refl _) hj (by simp; omega) zu ?_ ((H₃.store C q3).xtr C q4) (q4.ns q2) ⟨hm₂.ex, hm₂.ac, hm₂.mi, hm₂.un, ⟨_, rfl⟩, hm₂.j⟩
      rw [← hR, q1, ← atEnd _ _ _ _ (.inl rfl), List.drop_length, hyd]
  · rw [if_neg hlt] at hR ⊢
    refine wpAny_execs_cons ?_
    refine wpAny_If ?_
    refine wpAny_isTrue_Compare1 ?_
    refine ev_loc hn₂ me₂ ?_
    refine ev_loc hn₂ ma₂ ?_
    refine gt_bytes ?_
    refine wpAny_truthy_bool ?_
    by_cases hgt : bLt ys[j] xs[i] = true
    · rw [if_pos hgt] at hR ⊢
      obtain ⟨v, hM, hv⟩ := H₂.une
      obtain ⟨nM, hM'⟩ := id hM
      refine wpAny_execs_cons ?_
      refine list_stmt rfl hn₂ hm₂.un hM PySem.F.slot_list_append PySem.F.type_list_append ?_
      refine P.append_list ?_
      refine ev_loc hn₂ ma₂ ?_
      refine ⟨_, nM, by simp [hv.len, sizeLine_eq]; omega, hM', rfl, ?_⟩
      have hb3 : BsAre (v ++ [.bytes ys[j] ty]) (une ++ [ys[j]]) := hv.append (BsAre.one _ _)
      have H₃ : SldH B FO M U mis (une ++ [ys[j]]) (h₂.update U (Obj.mapSeq fun x => x.push (.bytes ys[j] ty))) := by
        refine H₂.appendU C (Heap.SameBut.update ..) (vs' := v ++ [.bytes ys[j] ty]) ?_ hb3
        have := IsL.update hM' (fun x => x.push (.bytes ys[j] ty))
        rw [show v.toArray.push (Value.bytes ys[j] ty) = (v ++ [Value.bytes ys[j] ty]).toArray by simp] at this
        exact ⟨_, this⟩
      have hn₃ : (h₂.update U (Obj.mapSeq fun x => x.push (.bytes ys[j] ty))).Ns L m₂ := hn₂.sameBut (Heap.SameBut.update ..) (Ne.symm C.nUL)
      dsimp only at H₃ hn₃ ⊢
      generalize h₂.update U _ = h₃ at H₃ hn₃ ⊢
      refine bump_skip (B := B) (i := j) (m := m₂) (vs := ws) (xs := ys) (v := ys[j]) (tv := ty) (ti := tj) (l := l2) (outer := outer) (L := L) (X := "actual") (I := "j") (V := "a") (.inl hh) hfr (sld_frames hout H₃.base hn₃) rfl rfl rfl rfl rfl rfl (by decide) (by decide) (by decide) (by decide) (by decide)
        H₃.base.dom hn₃ hm₂.ac htj ma₂ (H₃.base.list C.hl2) C.h2 C.z2 hjy ?_ ?_
      · intro h' tk k t q1 q2 q3 q4 q5
        refine wpAny_execs_nil ?_
        refine wpAny_execs_nil ?_
        refine hQ h' tk _ i k mis (une ++ [ys[j]]) (by omega) hi (by omega) zm (by simp; omega) ?_ (H₃.store C q5) q4 ⟨hm₂.ex, hm₂.ac, hm₂.mi, hm₂.un, hm₂.i, ⟨_, rfl⟩⟩
        rw [q3, hxd]; exact hR
      · intro h₄ h' tk t e c q1 q2 q3 q4 q5 q6
        rw [eF] at q4
        refine hE h' tk _ i ys.length mis (une ++ [ys[j]]) e c _ (.inr rfl) q5 hi (Nat.le_refl _) zm (by simp; omega) ?_ ((H₃.store C q3).xtr C q4) (q4.ns q2) ⟨hm₂.ex, hm₂.ac, hm₂.mi, hm₂.un, hm₂.i, ⟨_, rfl⟩⟩
        rw [← hR, q1, ← atEnd _ _ _ _ (.inr rfl), List.drop_length, hxd]
    · rw [if_neg hgt] at hR ⊢
      refine sld_same C hh hfr hFO hout H₂ hn₂ hm₂ me₂ ma₂ hix hjy ?_ ?_
      · intro h' tk m' i' j' q1 q2 q3 q4 q5 q6 q7 q8 q9
        refine wpAny_execs_nil ?_
        refine wpAny_execs_nil ?_
        exact hQ h' tk m' i' j' mis une (by omega) q2 q4 (by omega) (by omega) (by rw [q5, q6]; exact hR) q7 q8 q9
      · intro h' tk m' i' j' e c q0 q1 q2 q3 q4 q5 q6 qe q7 q8 q9
        exact hE h' tk m' i' j' mis une e c _ (.inr rfl) q0 q2 q4 (by omega) (by omega) (by rw [← atEnd _ _ _ _ qe, q5, q6]; exact hR) q7 q8 q9
end
end Mine
/-! part S5 -/
namespace Mine
open PySem PySem.W PySem.Calls PyProof.Rows
open Sem (wp)
section
variable {prog : Program} {w : World} {A : Around} {E : Value → Shared → Prop} {s : Shared}

theorem sld_call {f l1 l2 : Addr} {outer : List Env} {vs ws : List Value} {xs ys : List Bs} {Q : Value → Shared → Prop} (hf : FnAt s.heap f "sorted_list_difference" 26) (hlim : s.heap.NoLimit) (R : Room 1 A) (hfr : A.frames = some outer) (hout : FrOk s.heap outer) (gI : GName s.heap "IndexError" (.type "IndexError"))
    (hl1 : s.heap.IsList l1 vs.toArray) (hl2 : s.heap.IsList l2 ws.toArray) (h1 : BsAre vs xs) (h2 : BsAre ws ys) (z1 : xs.length ≤ 1000) (z2 : ys.length ≤ 1000)
    (h : ∀ h' T M U us vs' tk, KpB (outer.filterMap (·.frame)) s.heap h' → h'.IsTuple T #[.ref M, .ref U] → h'.IsList M (List.toArray us) → BsAre us (sldL xs ys [] []).1 → h'.IsList U (List.toArray vs') → BsAre vs' (sldL xs ys [] []).2 → Q (.ref T) { s with heap := h', toks := tk }) :
    wpAny (model prog w) A (call (.ref f) [.ref l1, .ref l2]) Q E s := by
  refine call_def (binds := [("expected", .ref l1), ("actual", .ref l2)]) hf hlim (by have := R.depth; omega) (fun _ _ _ _ _ => rfl) (fun h₁ cdv hn hk => ?_)
  have hh : A.handled = none := R.handled
  generalize hL : s.heap.objs.size = L at *
  have ltL : ∀ b o, s.heap.get? b = some o → @LT.lt Nat _ b L := fun b o e => hL ▸ ltg e
  have bL : s.heap.get? L = none := by rw [← hL]; exact Heap.get?_none_of_le (Nat.le_refl _)
  have fresh : ∀ b : Nat, L ≤ b → s.heap.get? b = none := fun b hb => Heap.get?_none_of_le (by rw [hL]; exact hb)
  refine wpAny_execs_cons ?_
  refine wpAny_Assign_two ?_
  refine wpAny_Constant_int ?_
  refine wpAny_assign_Name ?_
  refine wpAny_storeName_local rfl hn (fun h₂ hn₂ hs₂ => ?_) rfl
  refine wpAny_assign_Name ?_
  refine wpAny_storeName_local rfl hn₂ (fun h₃ hn₃ hs₃ => ?_) rfl
  have k3 : s.heap.StaysIn h₃ := fun b o e => hs₃.extBut b o (Nat.ne_of_lt (ltL b o e)) (hs₂.extBut b o (Nat.ne_of_lt (ltL b o e)) (hk b o e))
  have L3 : @LT.lt Nat _ L h₃.objs.size := hn₃.lt
  refine wpAny_execs_cons ?_
  refine wpAny_Assign_Name ?_
  refine wpAny_List ?_
  refine wpAny_items_nil ⟨by simp [sizeLine_eq], ?_⟩
  dsimp only
  refine wpAny_storeName_local rfl (hn₃.keeps fun b o e => Heap.get?_push_of_some _ e) (fun h₄ hn₄ hs₄ => ?_) rfl
  have hs₄' : Heap.SameBut L (h₃.push { cls := .type "list", data := .seq (List.toArray []) }) h₄ := hs₄
  have k4 : s.heap.StaysIn h₄ := fun b o e => hs₄'.extBut b o (Nat.ne_of_lt (ltL b o e)) (Heap.get?_push_of_some _ (k3 b o e))
  generalize hM : h₃.objs.size = M at *
  have pM : h₄.PlainList M (List.toArray []) := ⟨_, hs₄'.extBut _ _ (Nat.ne_of_gt L3) (by rw [← hM]; exact Heap.get?_push_size _ rfl)⟩
  have L4 : @LT.lt Nat _ M h₄.objs.size := by obtain ⟨_, e⟩ := pM; exact ltg e
  refine wpAny_execs_cons ?_
  refine wpAny_Assign_Name ?_
  refine wpAny_List ?_
  refine wpAny_items_nil ⟨by simp [sizeLine_eq], ?_⟩
  dsimp only
  refine wpAny_storeName_local rfl (hn₄.keeps fun b o e => Heap.get?_push_of_some _ e) (fun h₅ hn₅ hs₅ => ?_) rfl
  have hs₅' : Heap.SameBut L (h₄.push { cls := .type "list", data := .seq (List.toArray []) }) h₅ := hs₅
  have k5 : s.heap.StaysIn h₅ := fun b o e => hs₅'.extBut b o (Nat.ne_of_lt (ltL b o e)) (Heap.get?_push_of_some _ (k4 b o e))
  generalize hU : h₄.objs.size = U at *
  have pU : h₅.PlainList U (List.toArray []) := ⟨_, hs₅'.extBut _ _ (Nat.ne_of_gt (Nat.lt_trans L3 L4)) (by rw [← hU]; exact Heap.get?_push_size _ rfl)⟩
  have pM5 : h₅.PlainList M (List.toArray []) := pM.at fun o e => hs₅'.extBut _ o (Nat.ne_of_gt L3) (Heap.get?_push_of_some _ e)
  obtain ⟨m₅, hn₅', hm₅⟩ : ∃ m₅ : Str → Option Value, h₅.Ns L m₅ ∧ SldM l1 l2 M U 0 0 m₅ := ⟨_, hn₅, ⟨rfl, rfl, rfl, rfl, ⟨_, rfl⟩, ⟨_, rfl⟩⟩⟩
  have C : SldC s.heap (outer.filterMap (·.frame)) L l1 l2 M U vs ws xs ys :=
    { hl1 := hl1, hl2 := hl2, h1 := h1, h2 := h2, z1 := z1, z2 := z2, bL := bL, bM := fresh M (Nat.le_of_lt L3), bU := fresh U (Nat.le_of_lt (Nat.lt_trans L3 L4)),
      nML := Nat.ne_of_gt L3, nUL := Nat.ne_of_gt (Nat.lt_trans L3 L4), nMU := Nat.ne_of_lt L4, fo := fun b hb => let ⟨_, o, ho, _⟩ := hout.mem hb; ⟨o, ho⟩, gI := gI }
  have H₅ : SldH s.heap (outer.filterMap (·.frame)) M U [] [] h₅ := ⟨KpB.of_stays k5, ⟨[], pM5, BsAre.nil⟩, ⟨[], pU, BsAre.nil⟩⟩
  have hfr' : (A.deeper (envOf "sorted_list_difference" (defScope 26) L f cdv)).frames = some (envOf "sorted_list_difference" (defScope 26) L f cdv :: outer) := Around.frames_deeper hfr
  generalize s.toks + List.length _ + 1 + 1 + 1 = tk₅
  clear hs₅ hs₅' hn₅ hs₄ hs₄' hn₄ hs₃ hn₃ hs₂ hn₂ hn hk k3 k4 k5 pM pU pM5 hL hM hU
  refine wpAny_execs_cons ?_
  refine wpAny_While (codeAny_whileLoop (fun n s' => ∃ h' tk m i j mis une, s' = { s with heap := h', toks := tk } ∧ n = xs.length + ys.length - (i + j) ∧ i ≤ xs.length ∧ j ≤ ys.length ∧ mis.length ≤ i ∧ une.length ≤ j ∧ sldL (xs.drop i) (ys.drop j) mis une = sldL xs ys [] [] ∧
      SldH s.heap (outer.filterMap (·.frame)) M U mis une h' ∧ h'.Ns L m ∧ SldM l1 l2 M U i j m) ?_ (xs.length + ys.length)
    ⟨h₅, _, m₅, 0, 0, [], [], rfl, rfl, Nat.zero_le _, Nat.zero_le _, Nat.le_refl _, Nat.le_refl _, rfl, H₅, hn₅', hm₅⟩)
  rintro n s' ⟨h', tk, m, i, j, mis, une, rfl, rfl, hi, hj, zm, zu, hR, H, hn, hm⟩
  refine isTrue_plain ?_
  refine wpAny_Constant_bool ?_
  refine wpAny_truthy_bool ?_
  rw [if_pos rfl]
  refine wpAny_execs_cons ?_
  refine wpAny_Try_except ?_
  refine sld_body C hh hfr' rfl hout H hn hm hi hj zm zu hR ?_ ?_
  · intro h₆ tk₆ m₆ i' j' mis' une' q1 q2 q3 q4 q5 q6 q7 q8 q9
    refine wpAny_execs_nil ?_
    refine wpAny_execs_nil ?_
    exact ⟨xs.length + ys.length - (i' + j'), by omega, h₆, tk₆, m₆, i', j', mis', une', rfl, rfl, q2, q3, q4, q5, q6, q7, q8, q9⟩
  · intro h₆ tk₆ m₆ i' j' mis' une' e c x q0 q1 q2 q3 q4 q5 q6 q7 q8 q9
    refine sld_caught C hfr' rfl hout q0 q1 q7 q8 q9 q2 q3 (by omega) (by omega) fun h₇ tk₇ H₇ n₇ => ?_
    dsimp only
    refine wpAny_execs_cons ?_
    refine wpAny_Return_some ?_
    refine wpAny_Tuple ?_
    refine wpAny_items_cons ?_
    refine ev_loc n₇ q9.mi ?_
    refine wpAny_items_cons ?_
    refine ev_loc n₇ q9.un ?_
    refine wpAny_items_nil ⟨by simp [sizeLine_eq], ?_⟩
    dsimp only
    obtain ⟨v, pv, hv⟩ := H₇.mis
    obtain ⟨u, pu, hu⟩ := H₇.une
    rw [← q6] at h
    refine h _ _ M U v u _ (H₇.base.trans (KpB.of_stays fun b o e => Heap.get?_push_of_some _ e)) ⟨_, Heap.get?_push_size _ rfl, rfl, _, rfl⟩ (pv.isList.at fun o e => Heap.get?_push_of_some _ e) hv (pu.isList.at fun o e => Heap.get?_push_of_some _ e) hu
end
end Mine
/-! part T0 -/
namespace Mine
open PySem PySem.W PySem.Calls PyProof.Rows PySem.Builtin
open Sem (wp)

/-! ## bytes, sorted -/
def nums (b : Bs) : List Nat := b.toList.map (·.toNat)
theorem nums_inj {b c : Bs} (h : nums b = nums c) : b = c := by
  have : b.toList = c.toList := List.map_inj_right (fun x y e => UInt8.toNat_inj.mp e) |>.mp h
  exact Array.toList_inj.mp this
theorem order_nums : ∀ a b : List UInt8, (Bytes.order a b == .lt) = decide (a.map (·.toNat) < b.map (·.toNat))
  | [], [] => by rfl
  | [], _ :: _ => by rfl
  | _ :: _, [] => by rfl
  | x :: a, y :: b => by
    simp only [Bytes.order, List.map_cons, List.cons_lt_cons_iff]
    by_cases h1 : x < y
    · have : x.toNat < y.toNat := h1
      simp [h1, this]
    · by_cases h2 : x > y
      · have h3 : y.toNat < x.toNat := h2
        have h4 : ¬ x.toNat < y.toNat := by omega
        have h5 : x.toNat ≠ y.toNat := by omega
        simp [h1, h2, h4, h5]
      · have h3 : ¬ y.toNat < x.toNat := h2
        have h4 : ¬ x.toNat < y.toNat := h1
        have h5 : x.toNat = y.toNat := by omega
        simp only [h1, h2, if_false, h5, Nat.lt_irrefl, false_or, true_and]
        exact order_nums a b
theorem bLt_nums (b c : Bs) : bLt b c = decide (nums b < nums c) := order_nums _ _
theorem bLt_irrefl (b : Bs) : bLt b b = false := by rw [bLt_nums]; exact decide_eq_false (List.lt_irrefl (nums b))
theorem bLt_total {b c : Bs} (h1 : bLt b c = false) (h2 : bLt c b = false) : b = c := by
  rw [bLt_nums, decide_eq_false_iff_not] at h1 h2
  exact nums_inj (List.le_antisymm (List.not_lt.mp h2) (List.not_lt.mp h1))
theorem bLt_trans {a b c : Bs} (h1 : bLt a b = true) (h2 : bLt b c = true) : bLt a c = true := by
  rw [bLt_nums, decide_eq_true_eq] at *
  exact List.lt_trans h1 h2
theorem bLt_asymm {a b : Bs} (h : bLt a b = true) : bLt b a = false := by
  cases q : bLt b a with
  | false => rfl
  | true => have := bLt_trans h q; rw [bLt_irrefl] at this; cases this

def bsKind : PyProof.Rows.KeyKind := { toKeyOrd := strKind.toKeyOrd, keyOf := fun v => match v with | .bytes b _ => some (nums b) | _ => none, dflt := ([] : List Nat) }

section
variable {prog : Program} {w : World} {A : Around} {E : Value → Shared → Prop} {s : Shared}
theorem call_bytes_lt {a b : Bs} {t u : Tok} {Q : Value → Shared → Prop} (h : Q (.bool (bLt a b)) s) :
    wpAny (model prog w) A (call (.builtin "bytes.__lt__") [.bytes a t, .bytes b u]) Q E s := by
  refine wpAny_call_entry slot_bytes_lt (typeIs_bytes s a t) entry_bytes_lt ?_ (args_bytes_lt _ _)
  show wpAny _ _ (isInstance (.bytes b u) (.type "bytes") >>= fun r => _) _ _ s
  refine wpAny_bind (wpAny_isInstance (typeIs_bytes s b u) F.sub_bytes_bytes ?_)
  exact wpAny_pure ⟨_, rfl, h⟩
theorem oneLt_bytes {a b : Bs} {t u : Tok} {Q : Bool → Shared → Prop} (h : Q (bLt a b) s) : wpAny (model prog w) A (oneLt' true (.bytes a t) (.bytes b u)) Q E s := by
  rw [oneLt'_eq]
  simp only [if_true]
  refine wpAny_bind (wpAny_cRoomFor_byValue rfl ?_)
  refine wpAny_bind (wpAny_callSpecialIfBound?_slot (typeIs_bytes s a t) slot_bytes_lt (call_bytes_lt ?_))
  exact wpAny_truthy_bool h
end
theorem bsKind_oneLt : bsKind.OneLt := by
  intro prog w A E s x y a b Q ha hb h
  cases x <;> simp only [bsKind, reduceCtorEq, Option.some.injEq] at ha
  cases y <;> simp only [bsKind, reduceCtorEq, Option.some.injEq] at hb
  cases ha; cases hb
  refine oneLt_bytes ?_
  rw [bLt_nums]
  exact h

theorem keyKind_bs {v₁ v₂ : Value} {vs : List Value} (hS : ∀ v ∈ v₁ :: v₂ :: vs, ∃ b t, v = Value.bytes b t) : keyKind' (v₁ :: v₂ :: vs).toArray = pure oneType' := by
  have h1 : ∀ vs : List Value, (∀ v ∈ vs, ∃ b t, v = Value.bytes b t) → vs.mapM firstOfTuple' = pure (vs.map fun _ => none) := by
    intro vs
    induction vs with
    | nil => intro _; simp
    | cons v r ih =>
      intro h
      obtain ⟨b, t, rfl⟩ := h v List.mem_cons_self
      rw [List.mapM_cons, show firstOfTuple' (.bytes b t) = pure none from rfl, ih fun u hu => h u (List.mem_cons_of_mem _ hu)]; simp
  have h2 : ∀ vs : List Value, (∀ v ∈ vs, ∃ b t, v = Value.bytes b t) → vs.mapM typeOf = pure (vs.map fun _ => Value.type "bytes") := by
    intro vs
    induction vs with
    | nil => intro _; simp
    | cons v r ih =>
      intro h
      obtain ⟨b, t, rfl⟩ := h v List.mem_cons_self
      rw [List.mapM_cons, ih fun u hu => h u (List.mem_cons_of_mem _ hu)]
      show (pure (Value.type "bytes") >>= fun b => pure _ >>= fun bs => pure (b :: bs)) = _
      simp
  rw [keyKind'_eq, List.mapM_toArray, h1 _ hS]
  simp only [map_pure, pure_bind]
  rw [if_neg (by simp), if_neg (by simp)]
  rw [oneTypeOnly'_eq, List.mapM_toArray, h2 _ hS]
  simp only [map_pure, pure_bind]
  have hall : ((List.map (fun _ => Value.type "bytes") (v₁ :: v₂ :: vs)).toArray.all fun x => x == Value.type "bytes") = true := by
    simp only [List.all_toArray, List.all_map, List.all_eq_true]
    intro _ _
    rfl
  have h0 : (List.map (fun _ => Value.type "bytes") (v₁ :: v₂ :: vs)).toArray[0]? = some (Value.type "bytes") := by simp
  rw [h0]
  simp only [hall, if_true, pure_bind, Option.isSome_some]

theorem sorted_out_bs {vs : List Value} {bs : List Bs} (hS : BsAre vs bs) {xs : Array Keyed} (hp : xs.Perm (pairsOf vs)) (hs : SortedToK bsKind xs (pairsOf vs).size) :
    ∃ bs', BsAre (xs.map (·.2)).toList bs' ∧ bs'.Perm bs ∧ bs'.Pairwise (fun a b => bLt b a = false) := by
  have hl : xs.toList.Perm (vs.zip vs) := by rw [← pairsOf_toList]; exact Array.perm_iff_toList_perm.mp hp
  have hmem : ∀ p, p ∈ xs.toList → p.1 = p.2 ∧ p.1 ∈ vs := fun p hp' => mem_zip_self (hl.mem_iff.mp hp')
  have e : (xs.map (·.2)).toList = xs.toList.map (·.1) := by
    rw [Array.toList_map]; exact List.map_congr_left fun p hp' => (hmem p hp').1.symm
  refine ⟨xs.toList.map (fun p => bOf p.1), ⟨?_, ?_⟩, ?_, ?_⟩
  · rw [e]
    intro v hv
    obtain ⟨p, hp', rfl⟩ := List.mem_map.mp hv
    exact hS.1 _ (hmem p hp').2
  · rw [e, List.map_map]; rfl
  · have h1 := hl.map (fun p => bOf p.1)
    have e2 : (vs.zip vs).map (fun p => bOf p.1) = bs := by
      have : (vs.zip vs).map (fun p => bOf p.1) = ((vs.zip vs).map Prod.fst).map bOf := by rw [List.map_map]; rfl
      rw [this, List.map_fst_zip (Nat.le_refl _), hS.2]
    rwa [e2] at h1
  · rw [List.pairwise_iff_getElem]
    intro i j hi hj hij
    have hi' : i < xs.size := by simpa using hi
    have hj' : j < xs.size := by simpa using hj
    have h1 := hs i j (Nat.le_of_lt hij) (by rw [← hp.size_eq]; exact hj')
    obtain ⟨x, t, ex⟩ := hS.1 _ (hmem xs[i] (by simp)).2
    obtain ⟨y, u, ey⟩ := hS.1 _ (hmem xs[j] (by simp)).2
    have KKb : ∀ {i : Nat} (hi : i < xs.size) {x : Bs} {t : Tok}, xs[i].1 = .bytes x t → KK bsKind xs i = nums x := by
      intro i hi x t hx
      unfold KK; rw [getElem?_pos xs i hi]
      show ((bsKind.keyOf xs[i].1).getD _ : List Nat) = _
      rw [hx]; rfl
    unfold KeyOrd.kle at h1
    rw [KKb hi' ex, KKb hj' ey] at h1
    simp only [List.getElem_map, Array.getElem_toList]
    rw [show bOf xs[i].1 = x by rw [ex]; rfl, show bOf xs[j].1 = y by rw [ey]; rfl, bLt_nums]
    exact h1

section
variable {prog : Program} {w : World} {A : Around} {E : Value → Shared → Prop} {s : Shared}
theorem sorted_bs {l : Addr} {vs : List Value} {bs : List Bs} {Q : Value → Shared → Prop} (hl : s.heap.IsList l vs.toArray) (hb : BsAre vs bs) (h64 : bs.length < 64)
    (h : ∀ h' D us bs', s.heap.StaysIn h' → s.heap.get? D = none → h'.IsList D (List.toArray us) → BsAre us bs' → bs'.Perm bs → bs'.Pairwise (fun a b => bLt b a = false) → Q (.ref D) { s with heap := h' }) :
    wpAny (model prog w) A (call (.builtin "sorted") [.ref l]) Q E s := by
  have e := hb.len
  refine sortedK bsKind_oneLt hl (fun p hp => ?_) (fun v₁ v₂ rest q => keyKind_bs (by rw [← q]; exact hb.1)) (by rw [e]; exact h64) fun st' hp hs => ?_
  · rw [pairsOf_toList] at hp
    obtain ⟨b, t, q⟩ := hb.1 _ (mem_zip_self hp).2
    exact ⟨nums b, by rw [q]; rfl⟩
  · obtain ⟨bs', a1, a2, a3⟩ := sorted_out_bs hb hp hs
    obtain ⟨n, hn⟩ := sortedAll_at s.heap vs ((arrOf st').map (·.2))
    exact h _ _ _ bs' (fun b o q => sortedAll_old q) (Heap.get?_none_of_le (Nat.le_succ _)) ⟨_, hn, rfl, n, rfl⟩ a1 a2 a3
end
end Mine
/-! part T1 -/
namespace Mine
open PySem PySem.W PySem.Calls PyProof.Rows PySem.MeetsSeq PySem.MeetsSeq3 PySem.SeqAt
open Sem (wp)
open AutoSeq1 (wpAny_loadPart')

/-! ## lists of numbers, in order -/
theorem eqAt_int {A : Around} {s : Shared} {a b : Int} {t u : Tok} : EqAt A s (.int a t) (.int b u) (decide (a = b)) := fun prog w E Q h => by
  unfold eqBool
  refine wpAny_holding ?_
  refine wpAny_ite_split (fun hab => ?_) (fun _ => ?_)
  · have := eq_of_beq hab
    injection this with e _
    subst e
    rw [decide_eq_true rfl] at h
    exact wpAny_bind (wpAny_rule (wpAny_pure h))
  · refine wpAny_bind (show wpAny (model prog w) A (compareOp .Eq (.int a t) (.int b u)) _ E s from eq_int ?_)
    refine wpAny_truthy_bool ?_
    rw [show (a == b) = decide (a = b) from rfl]
    exact h

theorem lt_loopAt (l b : Addr) (items items2 : Array Value) (ns ns2 : List Int) (n n2 : Nat) (dd dd2 : Option Addr) (sl sl2 : Array (Option Value)) (h1 : IntsAre items.toList ns) (h2 : IntsAre items2.toList ns2) (hz : ns.length = ns2.length) (k : Nat) :
    ∀ i : Nat, ns.length - i = k → Meets (Builtin.«list.__eq__.loop» ⟨[.ref l, .ref b, rawInt i, rawInt 0], []⟩)
      (fun A R s => s.heap.get? l = some { cls := .type "list", dict := dd, data := .seq items n, slots := sl } ∧ s.heap.get? b = some { cls := .type "list", dict := dd2, data := .seq items2 n2, slots := sl2 } ∧
        R (.ok (.ret (.bool (decide (cmpL (ns.drop i) (ns2.drop i) < 0))))) s) := by
  have e1 : items.size = ns.length := by rw [← intsAre_len h1, Array.length_toList]
  have e2 : items2.size = ns2.length := by rw [← intsAre_len h2, Array.length_toList]
  induction k with
  | zero =>
    intro i hk prog w A R s h
    obtain ⟨hp, g, d, tk, os⟩ := s; obtain ⟨hl, hb, h⟩ := h
    wp_walk using wpAny_loadPart' hl, wpAny_loadPart' hb
    have hi1 : items[((i : Nat) : Int).toNat]? = none := by simp; omega
    have hi2 : items2[((i : Nat) : Int).toNat]? = none := by simp; omega
    have hd : ns.drop i = [] := List.drop_eq_nil_of_le (by omega)
    rw [hd] at h
    rw [hi1, hi2]
    wp_walk using wpAny_loadPart' hl, wpAny_loadPart' hb
    show R (.ok (.ret (.bool (decide (items.size < items2.size))))) _
    rw [e1, e2, hz, decide_eq_false (Nat.lt_irrefl _)]
    exact h
  | succ k ih =>
    intro i hk prog w A R s h
    obtain ⟨hp, g, d, tk, os⟩ := s; obtain ⟨hl, hb, h⟩ := h
    wp_walk using wpAny_loadPart' hl, wpAny_loadPart' hb
    have q1 : i < ns.length := by omega
    have q2 : i < ns2.length := by omega
    obtain ⟨t1, v1⟩ := intsAre_get h1 i ns[i] (List.getElem?_eq_getElem q1)
    obtain ⟨t2, v2⟩ := intsAre_get h2 i ns2[i] (List.getElem?_eq_getElem q2)
    have hi1 : items[((i : Nat) : Int).toNat]? = some (.int ns[i] t1) := by rw [Int.toNat_natCast, ← Array.getElem?_toList]; exact v1
    have hi2 : items2[((i : Nat) : Int).toNat]? = some (.int ns2[i] t2) := by rw [Int.toNat_natCast, ← Array.getElem?_toList]; exact v2
    have d1 : ns.drop i = ns[i] :: ns.drop (i + 1) := List.drop_eq_getElem_cons q1
    have d2 : ns2.drop i = ns2[i] :: ns2.drop (i + 1) := List.drop_eq_getElem_cons q2
    have hc : ((i : Int) + 1) = ((i + 1 : Nat) : Int) := by push_cast; rfl
    rw [d1, d2] at h
    rw [hi1, hi2]
    refine wpAny_bind (eqAt_int prog w _ _ ?_)
    by_cases hq : ns[i] = ns2[i]
    · have : cmpL (ns[i] :: ns.drop (i + 1)) (ns2[i] :: ns2.drop (i + 1)) = cmpL (ns.drop (i + 1)) (ns2.drop (i + 1)) := by rw [cmpL, if_pos hq]
      rw [this] at h
      rw [decide_eq_true hq]
      wp_walk
      rw [hc]
      exact ⟨plainId_quiet plain_eq_loop _, codeAny_builtin entry_eq_loop (by
        rw [Around.under_plainId plain_eq_loop _]
        exact ih (i + 1) (by omega) prog w A R _ ⟨hl, hb, h⟩)⟩
    · have : decide (cmpL (ns[i] :: ns.drop (i + 1)) (ns2[i] :: ns2.drop (i + 1)) < 0) = decide (ns[i] < ns2[i]) := by
        rw [cmpL, if_neg hq]
        by_cases hlt : ns[i] < ns2[i]
        · rw [if_pos hlt]; simp [hlt]
        · rw [if_neg hlt]; simp [hlt]
      rw [this] at h
      rw [decide_eq_false hq]
      wp_walk using wpAny_loadPart' hl, wpAny_loadPart' hb
      rw [hi1, hi2]
      dsimp only
      refine wpAny_bind (show wpAny (model prog w) _ (compareOp .Lt (.int ns[i] t1) (.int ns2[i] t2)) _ _ _ from lt_int ?_)
      exact wpAny_pure h

theorem list_ltAt (l b : Addr) (items items2 : Array Value) (ns ns2 : List Int) (n n2 : Nat) (dd dd2 : Option Addr) (sl sl2 : Array (Option Value)) (h1 : IntsAre items.toList ns) (h2 : IntsAre items2.toList ns2) (hz : ns.length = ns2.length) :
    Meets (Builtin.«list.__lt__» ⟨[.ref l, .ref b], []⟩)
      (fun A R s => s.heap.get? l = some { cls := .type "list", dict := dd, data := .seq items n, slots := sl } ∧ s.heap.get? b = some { cls := .type "list", dict := dd2, data := .seq items2 n2, slots := sl2 } ∧
        R (.ok (.ret (.bool (decide (cmpL ns ns2 < 0))))) s) := by
  intro prog w A R s h
  obtain ⟨hp, g, d, tk, os⟩ := s; obtain ⟨hl, hb, h⟩ := h
  have f3 := AutoSeq1.sub_list_list
  wp_walk using wpAny_loadPart' hl, wpAny_loadPart' hb
  exact ⟨plainId_quiet plain_eq_loop _, codeAny_builtin entry_eq_loop (by
    rw [Around.under_plainId plain_eq_loop _]
    exact lt_loopAt l b items items2 ns ns2 n n2 dd dd2 sl sl2 h1 h2 hz _ 0 rfl prog w A R _ ⟨hl, hb, by simpa using h⟩)⟩

section
variable {prog : Program} {w : World} {A : Around} {E : Value → Shared → Prop} {s : Shared}
theorem call_meets {T : String} {name : Str} {id : String} {b : Builtin} {self : Value} {rest : List Value} {S : PySem.Spec} {Q : Value → Shared → Prop} (slot : Slot T name id) (hT : s.TypeIs self T) (hb : entryFor table id = some b) (ha : argsOk id ⟨self :: rest, []⟩)
    (g : Meets (b ⟨self :: rest, []⟩) S) (h : S A (wants Q E) s) : wpAny (model prog w) A (call (.builtin id) (self :: rest)) Q E s :=
  wpAny_call (codeAny_call_builtin slot.plain hb (slot.check _ _ _ _ _ _ _ _ hT ha (g prog w A _ s h)))
theorem oneLt_rows {l b : Addr} {vs ws : List Value} {ns ns2 : List Int} {Q : Bool → Shared → Prop} (hl : s.heap.IsList l vs.toArray) (hb : s.heap.IsList b ws.toArray) (h1 : IntsAre vs ns) (h2 : IntsAre ws ns2) (hz : ns.length = ns2.length) (hu : A.units < cLine)
    (h : Q (decide (cmpL ns ns2 < 0)) s) : wpAny (model prog w) A (oneLt' true (.ref l) (.ref b)) Q E s := by
  obtain ⟨⟨cls, dd, data, sl⟩, ho, hc, n, hd⟩ := id hl
  obtain ⟨⟨cls2, dd2, data2, sl2⟩, ho2, hc2, n2, hd2⟩ := id hb
  simp only at hc hd hc2 hd2
  subst hc hd hc2 hd2
  rw [oneLt'_eq]
  simp only [if_true]
  refine wpAny_bind (wpAny_cRoomFor_or (.inr hu) ?_)
  refine wpAny_bind (wpAny_callSpecialIfBound?_slot hl.typeIs PySem.F.slot_list_lt (call_meets PySem.F.slot_list_lt hl.typeIs PySem.F.entry_list_lt (PySem.F.args_list_lt_2 _ _)
    (list_ltAt l b vs.toArray ws.toArray ns ns2 n n2 dd dd2 sl sl2 (by simpa using h1) (by simpa using h2) hz) ⟨ho, ho2, ?_⟩))
  exact wpAny_truthy_bool h
end
end Mine
/-! part T2 -/
namespace Mine
open PySem PySem.W PyProof.Rows

/-! ## the order in which the model asks, in plain Lean -/
def goT {α : Type} (lt : Nat → Nat → Bool) : KasT α → α
  | .ret a => a
  | .ask i j k => goT lt (k (lt i j))
theorem goT_bind {α β : Type} (lt : Nat → Nat → Bool) (f : α → KasT β) : ∀ t : KasT α, goT lt (t.bind f) = goT lt (f (goT lt t))
  | .ret _ => rfl
  | .ask i j k => goT_bind lt f (k (lt i j))

structure TotPre (lt : Nat → Nat → Bool) : Prop where
  trans : ∀ a b c, lt b a = false → lt c b = false → lt c a = false
  asymm : ∀ a b, lt a b = true → lt b a = false
def le (lt : Nat → Nat → Bool) (a b : Nat) : Prop := lt b a = false
abbrev at' (p : Array Nat) (i : Nat) : Nat := p.getD i 0

variable {lt : Nat → Nat → Bool}
theorem TotPre.refl (H : TotPre lt) (a : Nat) : le lt a a := by
  unfold le
  cases h : lt a a with
  | false => rfl
  | true => rw [H.asymm _ _ h] at h; cases h
theorem TotPre.tr (H : TotPre lt) {a b c : Nat} (h1 : le lt a b) (h2 : le lt b c) : le lt a c := H.trans a b c h1 h2
theorem TotPre.of_lt (H : TotPre lt) {a b : Nat} (h : lt a b = true) : le lt a b := H.asymm _ _ h
theorem not_le {a b : Nat} (h : lt b a = true) : ¬ le lt a b := fun q => by unfold le at q; rw [h] at q; cases q

def SS (lt : Nat → Nat → Bool) (p : Array Nat) (k : Nat) : Prop := ∀ i j, i ≤ j → j < k → le lt (at' p i) (at' p j)
def NI (lt : Nat → Nat → Bool) (p : Array Nat) (k : Nat) : Prop := ∀ i j, i ≤ j → j < k → le lt (at' p j) (at' p i)
def EQ (lt : Nat → Nat → Bool) (p : Array Nat) (m q : Nat) : Prop := ∀ k, m - (q + 1) ≤ k → k < m → le lt (at' p k) (at' p (m - 1)) ∧ le lt (at' p (m - 1)) (at' p k)

theorem at_eq {p p' : Array Nat} {i j : Nat} (h : p[i]? = p'[j]?) : at' p i = at' p' j := by
  unfold at'
  rw [Array.getD_eq_getD_getElem?, Array.getD_eq_getD_getElem?, h]
theorem at_rev {p : Array Nat} {i j : Nat} (hj : j ≤ p.size) (k : Nat) : at' (kas_rev p i j) k = if i ≤ k ∧ k < j then at' p (i + j - 1 - k) else at' p k := by
  have e := getElem?_mirror_all (i := i) hj k
  unfold kas_rev
  split
  · rename_i h; rw [if_pos h] at e; exact at_eq e
  · rename_i h; rw [if_neg h] at e; exact at_eq e
theorem rev_size (p : Array Nat) (i j : Nat) : (kas_rev p i j).size = p.size := mirror_size _ _ _ _
theorem rev_perm (p : Array Nat) (i j : Nat) : (kas_rev p i j).Perm p := mirror_perm _ _ _ _
theorem at_bubble {p : Array Nat} {src d : Nat} (hs : src < p.size) (hd : d ≤ src) (k : Nat) :
    at' (bubble p src d) k = if k = src - d then at' p src else if src - d < k ∧ k ≤ src then at' p (k - 1) else at' p k := by
  have e := getElem?_bubble hs d hd k
  by_cases h1 : k = src - d
  · rw [if_pos h1] at e ⊢; exact at_eq e
  · rw [if_neg h1] at e ⊢
    by_cases h2 : src - d < k ∧ k ≤ src
    · rw [if_pos h2] at e ⊢; exact at_eq e
    · rw [if_neg h2] at e ⊢; exact at_eq e

theorem SS.more (H : TotPre lt) {p : Array Nat} {n : Nat} (hn : 1 ≤ n) (h : SS lt p n) (hl : le lt (at' p (n - 1)) (at' p n)) : SS lt p (n + 1) := fun i j hij hj => by
  by_cases h1 : j < n
  · exact h i j hij h1
  · obtain rfl : j = n := by omega
    by_cases h2 : i = j
    · subst h2; exact H.refl _
    · exact H.tr (h i (j - 1) (by omega) (by omega)) hl
theorem NI.more (H : TotPre lt) {p : Array Nat} {n : Nat} (hn : 1 ≤ n) (h : NI lt p n) (hl : le lt (at' p n) (at' p (n - 1))) : NI lt p (n + 1) := fun i j hij hj => by
  by_cases h1 : j < n
  · exact h i j hij h1
  · obtain rfl : j = n := by omega
    by_cases h2 : i = j
    · subst h2; exact H.refl _
    · exact H.tr hl (h i (j - 1) (by omega) (by omega))
theorem SS.one (H : TotPre lt) (p : Array Nat) : SS lt p 1 := fun i j hij hj => by
  obtain rfl : i = j := by omega
  exact H.refl _
/-- the same order, place by place -/
def Same (lt : Nat → Nat → Bool) (p p' : Array Nat) (k : Nat) : Prop := ∀ i, i < k → le lt (at' p i) (at' p' i) ∧ le lt (at' p' i) (at' p i)
theorem NI.same (H : TotPre lt) {p p' : Array Nat} {k : Nat} (h : NI lt p k) (e : Same lt p p' k) : NI lt p' k := fun i j hij hj =>
  H.tr (H.tr (e j hj).2 (h i j hij hj)) (e i (by omega)).1
theorem EQ.rev (H : TotPre lt) {p : Array Nat} {m q : Nat} (h : EQ lt p m q) (hq : q + 1 ≤ m) (hm : m ≤ p.size) (k : Nat) : Same lt p (kas_rev p (m - (q + 1)) m) k := fun i _ => by
  rw [at_rev hm]
  split
  · rename_i c
    have h1 := h i c.1 c.2
    have h2 := h (m - (q + 1) + m - 1 - i) (by omega) (by omega)
    exact ⟨H.tr h1.1 h2.2, H.tr h2.1 h1.2⟩
  · exact ⟨H.refl _, H.refl _⟩

theorem asc_ok (H : TotPre lt) (p : Array Nat) : ∀ (f n : Nat), 1 ≤ n → SS lt p n → n ≤ goT lt (kas_asc p f n) ∧ goT lt (kas_asc p f n) ≤ n + f ∧ SS lt p (goT lt (kas_asc p f n)) ∧
    (goT lt (kas_asc p f n) < n + f → lt (at' p (goT lt (kas_asc p f n))) (at' p (goT lt (kas_asc p f n) - 1)) = true)
  | 0, n, _, h => ⟨Nat.le_refl _, Nat.le_refl _, h, fun q => absurd q (Nat.lt_irrefl _)⟩
  | f + 1, n, hn, h => by
    show n ≤ goT lt (if lt (at' p n) (at' p (n - 1)) = true then KasT.ret n else kas_asc p f (n + 1)) ∧ _
    have e : goT lt (kas_asc p (f + 1) n) = goT lt (if lt (at' p n) (at' p (n - 1)) = true then KasT.ret n else kas_asc p f (n + 1)) := rfl
    rw [e]
    by_cases c : lt (at' p n) (at' p (n - 1)) = true
    · rw [if_pos c]
      exact ⟨Nat.le_refl _, Nat.le_add_right _ _, h, fun _ => c⟩
    · rw [if_neg c]
      have c' : le lt (at' p (n - 1)) (at' p n) := by unfold le; simpa using c
      obtain ⟨a, b, d, g⟩ := asc_ok H p f (n + 1) (by omega) (h.more H hn c')
      exact ⟨by omega, by omega, d, fun q => g (by omega)⟩

theorem desc_ok (H : TotPre lt) : ∀ (f : Nat) (p : Array Nat) (n q : Nat), 1 ≤ n → q + 1 ≤ n → n + f ≤ p.size → NI lt p n → EQ lt p n q →
    ∃ p' m q', goT lt (kas_desc f p n q) = (p', m, q') ∧ p'.size = p.size ∧ p'.Perm p ∧ n ≤ m ∧ m ≤ n + f ∧ q' + 1 ≤ m ∧ NI lt p' m ∧ EQ lt p' m q'
  | 0, p, n, q, _, hq, _, h, he => ⟨p, n, q, rfl, rfl, Array.Perm.refl _, Nat.le_refl _, Nat.le_refl _, hq, h, he⟩
  | f + 1, p, n, q, hn, hq, hz, h, he => by
    have e : goT lt (kas_desc (f + 1) p n q) = goT lt (if lt (at' p n) (at' p (n - 1)) = true then (if q > 0 then kas_desc f (kas_rev p (n - (q + 1)) n) (n + 1) 0 else kas_desc f p (n + 1) 0)
      else .ask (at' p (n - 1)) (at' p n) fun d => if d = true then .ret (p, n, q) else kas_desc f p (n + 1) (q + 1)) := rfl
    rw [e]
    by_cases c : lt (at' p n) (at' p (n - 1)) = true
    · rw [if_pos c]
      have cl := H.of_lt c
      have h2 : NI lt p (n + 1) := h.more H hn cl
      have z : ∀ p' : Array Nat, EQ lt p' (n + 1) 0 := fun p' k k1 k2 => by
        obtain rfl : k = n := by omega
        exact ⟨H.refl _, H.refl _⟩
      by_cases hq0 : q > 0
      · rw [if_pos hq0]
        have sm := he.rev H hq (by omega) (n + 1)
        obtain ⟨p', m, q', a1, a2, a3, a4, a5, a6, a7, a8⟩ := desc_ok H f (kas_rev p (n - (q + 1)) n) (n + 1) 0 (by omega) (by omega) (by rw [rev_size]; omega) (h2.same H sm) (z _)
        exact ⟨p', m, q', a1, by rw [a2, rev_size], a3.trans (rev_perm _ _ _), by omega, by omega, a6, a7, a8⟩
      · rw [if_neg hq0]
        obtain ⟨p', m, q', a1, a2, a3, a4, a5, a6, a7, a8⟩ := desc_ok H f p (n + 1) 0 (by omega) (by omega) (by omega) h2 (z _)
        exact ⟨p', m, q', a1, a2, a3, by omega, by omega, a6, a7, a8⟩
    · rw [if_neg c]
      have c1 : le lt (at' p (n - 1)) (at' p n) := by unfold le; simpa using c
      have e2 : goT lt (KasT.ask (at' p (n - 1)) (at' p n) fun d => if d = true then KasT.ret (p, n, q) else kas_desc f p (n + 1) (q + 1)) = goT lt (if lt (at' p (n - 1)) (at' p n) = true then KasT.ret (p, n, q) else kas_desc f p (n + 1) (q + 1)) := rfl
      rw [e2]
      by_cases d : lt (at' p (n - 1)) (at' p n) = true
      · rw [if_pos d]
        exact ⟨p, n, q, rfl, rfl, Array.Perm.refl _, Nat.le_refl _, by omega, hq, h, he⟩
      · rw [if_neg d]
        have d1 : le lt (at' p n) (at' p (n - 1)) := by unfold le; simpa using d
        have z : EQ lt p (n + 1) (q + 1) := fun k k1 k2 => by
          rw [show n + 1 - 1 = n from rfl]
          by_cases q1 : k = n
          · subst q1; exact ⟨H.refl _, H.refl _⟩
          · have := he k (by omega) (by omega)
            exact ⟨H.tr this.1 c1, H.tr d1 this.2⟩
        obtain ⟨p', m, q', a1, a2, a3, a4, a5, a6, a7, a8⟩ := desc_ok H f p (n + 1) (q + 1) (by omega) (by omega) (by omega) (h.more H hn d1) z
        exact ⟨p', m, q', a1, a2, a3, by omega, by omega, a6, a7, a8⟩

def CountOk (lt : Nat → Nat → Bool) (p : Array Nat) (nrem : Nat) (r : Nat × Array Nat) : Prop := 1 ≤ r.1 ∧ r.1 ≤ nrem ∧ r.2.size = p.size ∧ r.2.Perm p ∧ SS lt r.2 r.1

theorem tail3_ok (H : TotPre lt) {p : Array Nat} {n nrem : Nat} (hn : 1 ≤ n) (h1 : n ≤ nrem) (hz : nrem ≤ p.size) (h : NI lt p n) : CountOk lt p nrem (goT lt (kas_tail3 n nrem p)) := by
  unfold kas_tail3
  rw [goT_bind]
  have hS : SS lt (kas_rev p 0 n) n := fun i j hij hj => by
    rw [at_rev (by omega), at_rev (by omega), if_pos ⟨by omega, by omega⟩, if_pos ⟨by omega, by omega⟩]
    exact h _ _ (by omega) (by omega)
  obtain ⟨a, b, c, _⟩ := asc_ok H (kas_rev p 0 n) (nrem - n) n hn hS
  exact ⟨Nat.le_trans hn a, Nat.le_trans b (by omega), rev_size _ _ _, rev_perm _ _ _, c⟩

theorem descPart_ok (H : TotPre lt) {p : Array Nat} {n nrem : Nat} (hn : 1 ≤ n) (h1 : n + 1 ≤ nrem) (hz : nrem ≤ p.size) (h : NI lt p (n + 1)) : CountOk lt p nrem (goT lt (kas_descPart n nrem p)) := by
  unfold kas_descPart
  rw [goT_bind]
  have z : EQ lt p (n + 1) 0 := fun k k1 k2 => by
    obtain rfl : k = n := by omega
    exact ⟨H.refl _, H.refl _⟩
  obtain ⟨p', m, q', a1, a2, a3, a4, a5, a6, a7, a8⟩ := desc_ok H (nrem - (n + 1)) p (n + 1) 0 (by omega) (by omega) (by omega) h z
  rw [a1]
  dsimp only
  split
  · obtain ⟨b1, b2, b3, b4, b5⟩ := tail3_ok H (p := kas_rev p' (m - (q' + 1)) m) (n := m) (nrem := nrem) (by omega) (by omega) (by rw [rev_size, a2]; exact hz) (a7.same H (a8.rev H a6 (by omega) m))
    exact ⟨b1, b2, by rw [b3, rev_size, a2], (b4.trans (rev_perm _ _ _)).trans a3, b5⟩
  · obtain ⟨b1, b2, b3, b4, b5⟩ := tail3_ok H (p := p') (n := m) (nrem := nrem) (by omega) (by omega) (by rw [a2]; exact hz) a7
    exact ⟨b1, b2, by rw [b3, a2], b4.trans a3, b5⟩

theorem count_ok (H : TotPre lt) {p : Array Nat} {nrem : Nat} (hn : 1 ≤ nrem) (hz : nrem ≤ p.size) : CountOk lt p nrem (goT lt (kas_count nrem p)) := by
  unfold kas_count
  rw [goT_bind]
  obtain ⟨a, b, c, d⟩ := asc_ok H p (nrem - 1) 1 (Nat.le_refl _) (SS.one H p)
  generalize goT lt (kas_asc p (nrem - 1) 1) = n at a b c d
  by_cases q : (n == nrem) = true
  · rw [if_pos q]
    exact ⟨a, (show n ≤ nrem by omega), rfl, Array.Perm.refl _, c⟩
  · rw [if_neg q]
    have hne : n ≠ nrem := fun e => q (by simp [e])
    have dl := d (by omega)
    by_cases q1 : n > 1
    · rw [if_pos q1]
      have e : goT lt (KasT.ask (at' p 0) (at' p (n - 1)) fun c => if c = true then KasT.ret (n, p) else kas_descPart n nrem (kas_rev p 0 n)) = goT lt (if lt (at' p 0) (at' p (n - 1)) = true then KasT.ret (n, p) else kas_descPart n nrem (kas_rev p 0 n)) := rfl
      rw [e]
      by_cases q2 : lt (at' p 0) (at' p (n - 1)) = true
      · rw [if_pos q2]
        exact ⟨a, (show n ≤ nrem by omega), rfl, Array.Perm.refl _, c⟩
      · rw [if_neg q2]
        have l0 : le lt (at' p (n - 1)) (at' p 0) := by unfold le; simpa using q2
        have all : ∀ i j, i < n → j < n → le lt (at' p i) (at' p j) := fun i j hi hj => H.tr (c i (n - 1) (by omega) (by omega)) (H.tr l0 (c 0 j (by omega) (by omega)))
        have hN : NI lt (kas_rev p 0 n) (n + 1) := fun i j hij hj => by
          rw [at_rev (by omega), at_rev (by omega)]
          by_cases h1 : j < n
          · rw [if_pos ⟨by omega, h1⟩, if_pos ⟨by omega, by omega⟩]
            exact all _ _ (by omega) (by omega)
          · obtain rfl : j = n := by omega
            rw [if_neg (by omega)]
            by_cases h2 : i < j
            · rw [if_pos ⟨by omega, h2⟩]
              exact H.tr (H.of_lt dl) (all _ _ (by omega) (by omega))
            · obtain rfl : i = j := by omega
              rw [if_neg (by omega)]
              exact H.refl _
        obtain ⟨b1, b2, b3, b4, b5⟩ := descPart_ok H (p := kas_rev p 0 n) (n := n) (nrem := nrem) a (by omega) (by rw [rev_size]; exact hz) hN
        exact ⟨b1, b2, by rw [b3, rev_size], b4.trans (rev_perm _ _ _), b5⟩
    · rw [if_neg q1]
      obtain rfl : n = 1 := by omega
      refine descPart_ok H (Nat.le_refl _) (by omega) hz fun i j hij hj => ?_
      by_cases h2 : i = j
      · subst h2; exact H.refl _
      · obtain rfl : i = 0 := by omega
        obtain rfl : j = 1 := by omega
        exact H.of_lt dl

theorem place_ok (H : TotPre lt) {p : Array Nat} {k : Nat} (hS : SS lt p k) : ∀ (f l r : Nat), l ≤ r → r ≤ k → r - l ≤ f → (∀ i, i < l → le lt (at' p i) (at' p k)) → (∀ i, r ≤ i → i < k → lt (at' p k) (at' p i) = true) →
    goT lt (kas_place p k f l r) ≤ k ∧ (∀ i, i < goT lt (kas_place p k f l r) → le lt (at' p i) (at' p k)) ∧ (∀ i, goT lt (kas_place p k f l r) ≤ i → i < k → lt (at' p k) (at' p i) = true)
  | 0, l, r, h1, h2, h3, h4, h5 => by
    obtain rfl : l = r := by omega
    exact ⟨h2, h4, h5⟩
  | f + 1, l, r, h1, h2, h3, h4, h5 => by
    have e : kas_place p k (f + 1) l r = if l ≥ r then .ret l else .ask (at' p k) (at' p ((l + r) / 2)) fun c => if c = true then kas_place p k f l ((l + r) / 2) else kas_place p k f ((l + r) / 2 + 1) r := rfl
    rw [e]
    by_cases q : l ≥ r
    · rw [if_pos q]
      obtain rfl : l = r := by omega
      exact ⟨h2, h4, h5⟩
    · rw [if_neg q]
      have e2 : goT lt (KasT.ask (at' p k) (at' p ((l + r) / 2)) fun c => if c = true then kas_place p k f l ((l + r) / 2) else kas_place p k f ((l + r) / 2 + 1) r) = goT lt (if lt (at' p k) (at' p ((l + r) / 2)) = true then kas_place p k f l ((l + r) / 2) else kas_place p k f ((l + r) / 2 + 1) r) := rfl
      rw [e2]
      have hm : (l + r) / 2 < r := by omega
      by_cases c : lt (at' p k) (at' p ((l + r) / 2)) = true
      · rw [if_pos c]
        refine place_ok H hS f l ((l + r) / 2) (by omega) (by omega) (by omega) h4 fun i i1 i2 => ?_
        cases z : lt (at' p k) (at' p i) with
        | true => rfl
        | false => exact absurd (H.tr (hS _ i i1 i2) z) (not_le c)
      · rw [if_neg c]
        have c' : le lt (at' p ((l + r) / 2)) (at' p k) := by unfold le; simpa using c
        refine place_ok H hS f ((l + r) / 2 + 1) r (by omega) h2 (by omega) (fun i i1 => ?_) h5
        exact H.tr (hS i _ (by omega) (by omega)) c'

theorem bin_ok (H : TotPre lt) : ∀ (f : Nat) (p : Array Nat) (k : Nat), k + f ≤ p.size → SS lt p k → (goT lt (kas_bin f p k)).size = p.size ∧ (goT lt (kas_bin f p k)).Perm p ∧ SS lt (goT lt (kas_bin f p k)) (k + f)
  | 0, p, k, _, h => ⟨rfl, Array.Perm.refl _, h⟩
  | f + 1, p, k, hz, h => by
    have e : kas_bin (f + 1) p k = (kas_place p k k 0 k).bind fun l => kas_bin f (bubble p k (k - l)) (k + 1) := rfl
    rw [e, goT_bind]
    obtain ⟨a, b, c⟩ := place_ok H h k 0 k (Nat.zero_le _) (Nat.le_refl _) (by omega) (fun i hi => absurd hi (Nat.not_lt_zero _)) (fun i i1 i2 => absurd i2 (by omega))
    generalize goT lt (kas_place p k k 0 k) = l at a b c
    have hb : ∀ i, at' (bubble p k (k - l)) i = if i = l then at' p k else if l < i ∧ i ≤ k then at' p (i - 1) else at' p i := fun i => by
      rw [at_bubble (by omega) (by omega), show k - (k - l) = l by omega]
    have hS : SS lt (bubble p k (k - l)) (k + 1) := fun i j hij hj => by
      rw [hb, hb]
      by_cases i1 : i = l
      · rw [if_pos i1]
        by_cases j1 : j = l
        · rw [if_pos j1]; exact H.refl _
        · rw [if_neg j1, if_pos ⟨by omega, by omega⟩]
          exact H.of_lt (c _ (by omega) (by omega))
      · rw [if_neg i1]
        by_cases i2 : l < i ∧ i ≤ k
        · rw [if_pos i2, if_neg (by omega), if_pos ⟨by omega, by omega⟩]
          exact h _ _ (by omega) (by omega)
        · rw [if_neg i2]
          by_cases j1 : j = l
          · rw [if_pos j1]; exact b _ (by omega)
          · rw [if_neg j1]
            by_cases j2 : l < j ∧ j ≤ k
            · rw [if_pos j2]; exact h _ _ (by omega) (by omega)
            · rw [if_neg j2]; exact h _ _ (by omega) (by omega)
    obtain ⟨d1, d2, d3⟩ := bin_ok H f (bubble p k (k - l)) (k + 1) (by rw [bubble_size]; omega) hS
    refine ⟨by rw [d1, bubble_size], d2.trans (bubble_perm _ _ _), ?_⟩
    rw [show k + (f + 1) = k + 1 + f by omega]
    exact d3

theorem sort_ok (H : TotPre lt) {n : Nat} (hn : 1 ≤ n) : (goT lt (kas_sort n)).Perm (List.toArray (List.range n)) ∧ SS lt (goT lt (kas_sort n)) n := by
  unfold kas_sort
  rw [goT_bind]
  obtain ⟨a, b, c, d, e⟩ := count_ok H (p := List.toArray (List.range n)) (nrem := n) hn (by simp)
  generalize goT lt (kas_count n (List.toArray (List.range n))) = r at a b c d e
  by_cases q : r.1 < n
  · rw [if_pos q]
    have hm : max r.1 1 = r.1 := by omega
    rw [hm]
    obtain ⟨f1, f2, f3⟩ := bin_ok H (n - r.1) r.2 r.1 (by rw [c]; simp; omega) e
    rw [show r.1 + (n - r.1) = n by omega] at f3
    exact ⟨f2.trans d, f3⟩
  · rw [if_neg q]
    obtain rfl : r.1 = n := by omega
    exact ⟨d, e⟩
end Mine
/-! part T3 -/
namespace Mine
open PySem PySem.W PySem.Calls PyProof.Rows
open Sem (wp)

/-! ## every question is about places that there are -/
def ValP {α : Type} (n : Nat) (P : α → Prop) : KasT α → Prop
  | .ret a => P a
  | .ask i j k => i < n ∧ j < n ∧ ∀ b, ValP n P (k b)
theorem ValP.bind {α β : Type} {n : Nat} {P : α → Prop} {P' : β → Prop} {f : α → KasT β} (hf : ∀ a, P a → ValP n P' (f a)) : ∀ {t : KasT α}, ValP n P t → ValP n P' (t.bind f)
  | .ret a, h => hf a h
  | .ask _ _ k, ⟨h1, h2, h3⟩ => ⟨h1, h2, fun b => ValP.bind hf (h3 b)⟩
def AllB (n : Nat) (p : Array Nat) : Prop := ∀ x ∈ p, x < n
theorem AllB.at {n : Nat} {p : Array Nat} (hn : 0 < n) (h : AllB n p) (i : Nat) : p.getD i 0 < n := by
  rw [Array.getD_eq_getD_getElem?]
  cases e : p[i]? with
  | none => exact hn
  | some x => exact h x (Array.mem_of_getElem? e)
theorem AllB.perm {n : Nat} {p p' : Array Nat} (h : AllB n p) (e : p'.Perm p) : AllB n p' := fun x hx => h x (e.mem_iff.mp hx)

section
variable {n : Nat} (hn : 0 < n)
include hn
theorem val_asc {p : Array Nat} (hp : AllB n p) : ∀ (f k : Nat), ValP n (fun _ => True) (kas_asc p f k)
  | 0, _ => trivial
  | f + 1, k => ⟨hp.at hn _, hp.at hn _, fun b => by
      show ValP n _ (if b = true then KasT.ret k else kas_asc p f (k + 1))
      split
      · trivial
      · exact val_asc hp f (k + 1)⟩
theorem val_desc : ∀ (f : Nat) (p : Array Nat) (k q : Nat), AllB n p → ValP n (fun r => AllB n r.1) (kas_desc f p k q)
  | 0, _, _, _, hp => hp
  | f + 1, p, k, q, hp => ⟨hp.at hn _, hp.at hn _, fun b => by
      show ValP n _ (if b = true then (if q > 0 then kas_desc f (kas_rev p (k - (q + 1)) k) (k + 1) 0 else kas_desc f p (k + 1) 0)
        else .ask (p.getD (k - 1) 0) (p.getD k 0) fun d => if d = true then .ret (p, k, q) else kas_desc f p (k + 1) (q + 1))
      split
      · split
        · exact val_desc f _ _ _ (hp.perm (mirror_perm _ _ _ _))
        · exact val_desc f _ _ _ hp
      · refine ⟨hp.at hn _, hp.at hn _, fun d => ?_⟩
        dsimp only
        split
        · exact hp
        · exact val_desc f _ _ _ hp⟩
theorem val_tail3 {m nrem : Nat} {p : Array Nat} (hp : AllB n p) : ValP n (fun r => AllB n r.2) (kas_tail3 m nrem p) := by
  unfold kas_tail3
  refine ValP.bind (P := fun _ => True) (fun a _ => ?_) (val_asc hn (hp.perm (mirror_perm _ _ _ _)) _ _)
  exact hp.perm (mirror_perm _ _ _ _)
theorem val_descPart {m nrem : Nat} {p : Array Nat} (hp : AllB n p) : ValP n (fun r => AllB n r.2) (kas_descPart m nrem p) := by
  unfold kas_descPart
  refine ValP.bind (fun r hr => ?_) (val_desc hn _ _ _ _ hp)
  split
  · exact val_tail3 hn (hr.perm (mirror_perm _ _ _ _))
  · exact val_tail3 hn hr
theorem val_count {nrem : Nat} {p : Array Nat} (hp : AllB n p) : ValP n (fun r => AllB n r.2) (kas_count nrem p) := by
  unfold kas_count
  refine ValP.bind (fun r _ => ?_) (val_asc hn hp _ _)
  split
  · exact hp
  · split
    · refine ⟨hp.at hn _, hp.at hn _, fun b => ?_⟩
      dsimp only
      split
      · exact hp
      · exact val_descPart hn (hp.perm (mirror_perm _ _ _ _))
    · exact val_descPart hn hp
theorem val_place {p : Array Nat} (hp : AllB n p) (k : Nat) : ∀ (f l r : Nat), ValP n (fun _ => True) (kas_place p k f l r)
  | 0, _, _ => trivial
  | f + 1, l, r => by
    show ValP n _ (if l ≥ r then .ret l else .ask (p.getD k 0) (p.getD ((l + r) / 2) 0) fun c => if c = true then kas_place p k f l ((l + r) / 2) else kas_place p k f ((l + r) / 2 + 1) r)
    split
    · trivial
    · refine ⟨hp.at hn _, hp.at hn _, fun b => ?_⟩
      dsimp only
      split
      · exact val_place hp k f _ _
      · exact val_place hp k f _ _
theorem val_bin : ∀ (f : Nat) (p : Array Nat) (k : Nat), AllB n p → ValP n (fun _ => True) (kas_bin f p k)
  | 0, _, _, _ => trivial
  | f + 1, p, k, hp => ValP.bind (fun l _ => val_bin f _ _ (hp.perm (bubble_perm _ _ _))) (val_place hn hp k _ _ _)
theorem val_sort : ValP n (fun _ => True) (kas_sort n) := by
  unfold kas_sort
  refine ValP.bind (fun r hr => ?_) (val_count hn (p := List.toArray (List.range n)) fun x hx => by simpa using hx)
  split
  · exact val_bin hn _ _ _ hr
  · trivial
end

theorem kasWp_go {α : Type} {n : Nat} {lt : Nat → Nat → Bool} {cmp : Nat → Nat → (Bool → Shared → Prop) → Shared → Prop} {Q : α → Shared → Prop} {s : Shared} (hc : ∀ i j C, i < n → j < n → C (lt i j) s → cmp i j C s) :
    ∀ {t : KasT α}, ValP n (fun _ => True) t → Q (goT lt t) s → t.kasWp cmp Q s
  | .ret _, _, h => h
  | .ask i j k, ⟨h1, h2, h3⟩, h => hc i j _ h1 h2 (kasWp_go hc (h3 (lt i j)) h)

/-! ## rows in order -/
theorem cmpL_self : ∀ a : List Int, cmpL a a = 0
  | [] => rfl
  | x :: a => by rw [cmpL, if_pos rfl, cmpL_self a]
theorem cmpL_neg : ∀ {a b : List Int}, a.length = b.length → (cmpL a b < 0 ↔ cmpL b a > 0)
  | [], [], _ => by simp [cmpL]
  | [], _ :: _, h => by simp at h
  | _ :: _, [], h => by simp at h
  | x :: a, y :: b, h => by
    rw [cmpL, cmpL]
    by_cases q : x = y
    · rw [if_pos q, if_pos q.symm]; exact cmpL_neg (by simpa using h)
    · rw [if_neg q, if_neg (Ne.symm q)]
      by_cases l : x < y
      · rw [if_pos l, if_neg (by omega)]; decide
      · rw [if_neg l, if_pos (by omega)]; decide
theorem cmpL_zero : ∀ {a b : List Int}, a.length = b.length → cmpL a b = 0 → a = b
  | [], [], _, _ => rfl
  | [], _ :: _, h, _ => by simp at h
  | _ :: _, [], h, _ => by simp at h
  | x :: a, y :: b, h, e => by
    rw [cmpL] at e
    by_cases q : x = y
    · rw [if_pos q] at e; rw [q, cmpL_zero (by simpa using h) e]
    · rw [if_neg q] at e; split at e <;> simp at e
/-- not greater: transitive -/
theorem cmpL_le_trans : ∀ {a b c : List Int}, a.length = b.length → b.length = c.length → ¬ cmpL b a < 0 → ¬ cmpL c b < 0 → ¬ cmpL c a < 0
  | [], [], [], _, _, _, _ => by simp [cmpL]
  | [], _ :: _, _, h, _, _, _ => by simp at h
  | _ :: _, [], _, h, _, _, _ => by simp at h
  | [], [], _ :: _, _, h, _, _ => by simp at h
  | _ :: _, _ :: _, [], _, h, _, _ => by simp at h
  | x :: a, y :: b, z :: c, h1, h2, g1, g2 => by
    rw [cmpL] at g1 g2 ⊢
    by_cases q1 : y = x
    · rw [if_pos q1] at g1
      subst q1
      by_cases q2 : z = y
      · rw [if_pos q2] at g2 ⊢
        exact cmpL_le_trans (by simpa using h1) (by simpa using h2) g1 g2
      · rw [if_neg q2] at g2 ⊢
        exact g2
    · rw [if_neg q1] at g1
      by_cases q2 : z = y
      · subst q2
        rw [if_neg q1]; exact g1
      · rw [if_neg q2] at g2
        have a1 : ¬ y < x := fun l => by rw [if_pos l] at g1; exact g1 (by decide)
        have a2 : ¬ z < y := fun l => by rw [if_pos l] at g2; exact g2 (by decide)
        rw [if_neg (by omega), if_neg (by omega)]
        decide

/-- rows by their places (a place that is not there: the first) -/
def rowLt (n : Nat) (kv : Nat → List Int) (i j : Nat) : Bool := decide (cmpL (if i < n then kv i else kv 0) (if j < n then kv j else kv 0) < 0)
theorem rowLt_pre {n : Nat} {kv : Nat → List Int} (hn : 0 < n) (hl : ∀ i, i < n → (kv i).length = 3) : TotPre (rowLt n kv) := by
  have len : ∀ i, (if i < n then kv i else kv 0).length = 3 := fun i => by split; exact hl _ (by assumption); exact hl 0 hn
  refine ⟨fun a b c h1 h2 => ?_, fun a b h => ?_⟩
  · unfold rowLt at *
    rw [decide_eq_false_iff_not] at *
    exact cmpL_le_trans (by rw [len, len]) (by rw [len, len]) h1 h2
  · unfold rowLt at *
    rw [decide_eq_true_eq] at h
    rw [decide_eq_false_iff_not]
    have := (cmpL_neg (by rw [len, len])).mp h
    omega
end Mine
/-! part T4 -/
namespace Mine
open PySem PySem.W PySem.Calls PyProof.Rows
open Sem (wp)

/-- every object but one -/
def allNews (h : Heap) (L : Addr) : List (Addr × Obj) := (List.range h.objs.size).filterMap fun a => if a = L then none else (h.get? a).map fun o => (a, o)
theorem mem_allNews {h : Heap} {L b : Addr} {o : Obj} (hb : b ≠ L) (e : h.get? b = some o) : (b, o) ∈ allNews h L := by
  unfold allNews
  rw [List.mem_filterMap]
  exact ⟨b, List.mem_range.mpr (ltg e), by rw [if_neg hb, e]; rfl⟩
theorem of_allNews {h : Heap} {L : Addr} {p : Addr × Obj} (hp : p ∈ allNews h L) : p.1 ≠ L ∧ h.get? p.1 = some p.2 := by
  unfold allNews at hp
  rw [List.mem_filterMap] at hp
  obtain ⟨a, _, e⟩ := hp
  split at e
  · cases e
  · rename_i ha
    cases q : h.get? a with
    | none => rw [q] at e; cases e
    | some o => rw [q] at e; cases e; exact ⟨ha, q⟩
theorem empty_get (b : Addr) : ({} : Heap).get? b = none := Heap.get?_none_of_le (Nat.zero_le _)
theorem empty_fr {h : Heap} {L : Addr} {m : Str → Option Value} (hn : h.Ns L m) : Fr {} L h m := ⟨hn, fun b o e => (by rw [empty_get] at e; cases e), Nat.zero_le _⟩
theorem news_all {h : Heap} {L : Addr} : News {} L h (allNews h L) := fun p hp => ⟨(of_allNews hp).2, (of_allNews hp).1, empty_get _⟩
theorem kept_news {B h : Heap} {L : Addr} {news : List (Addr × Obj)} (N : News {} L h news) (hs : ∀ p ∈ allNews B L, p ∈ news) : ∀ b o, b ≠ L → B.get? b = some o → h.get? b = some o := fun b o hb e => (N _ (hs _ (mem_allNews hb e))).1

section
variable {prog : Program} {w : World} {A : Around} {E : Value → Shared → Prop} {s : Shared}

theorem collect_range {r : Addr} {n : Nat} {tt uu vv : Tok} {R : List Value → Shared → Prop} (hh : A.handled = none) (hr : IsRange s.heap r 0 (n : Int) 1 tt uu vv) (hn : n ≤ 1000)
    (h : ∀ (h' : Heap) (tk : Nat) (acc : Array Value), (∀ b o, s.heap.get? b = some o → h'.get? b = some o) → ItemsOf (fun i v => ∃ t, v = Value.int (0 + (i : Int) * 1) t) acc n → R acc.toList { s with heap := h', toks := tk }) :
    wpAny (model prog w) A (collect (.ref r)) R E s := by
  unfold collect
  refine wpAny_bind (wpAny_runValue (codeAny_builtin entry_proto_collect' ?_))
  rw [Around.under_plainId PySem.F.plain_proto_collect _]
  show wpAny _ A.in1 (newList [] >>= fun l => again (.builtin "list.__iadd__" ⟨[l, .ref r], []⟩)) _ _ s
  refine wpAny_bind (wpAny_newObj_type ?_)
  refine wpAny_pure ⟨plainId_quiet PySem.F.plain_list_iadd _, codeAny_builtin entry_list_iadd' ?_⟩
  rw [Around.under_plainId PySem.F.plain_list_iadd _]
  have hS₁ : (s.heap.push { cls := .type "list", data := .seq ([] : List Value).toArray }).get? s.heap.objs.size = some { cls := .type "list", data := .seq #[] } := Heap.get?_push_size _ rfl
  show wpAny _ A.in1 (Builtin.List.listExtendWith (.ref s.heap.objs.size) (.ref r) (.ref s.heap.objs.size)) _ _ _
  have key := wpAny_extend_range (prog := prog) (w := w) (A := A) (s := { s with heap := s.heap.push { cls := .type "list", data := .seq ([] : List Value).toArray } }) (n := n)
    (R := fun (q : Result) (s' : Shared) => ∃ (h' : Heap) (tk : Nat) (acc' : Array Value) (c' : Nat), q = .ok (.ret (.ref s.heap.objs.size)) ∧ s' = { s with heap := h', toks := tk } ∧
      (∀ b o, s.heap.get? b = some o → h'.get? b = some o) ∧ h'.get? s.heap.objs.size = some { cls := .type "list", dict := none, data := .seq acc' c', slots := #[] } ∧ ItemsOf (fun i v => ∃ t, v = Value.int (0 + (i : Int) * 1) t) acc' n)
    hh (Heap.get?_push_of_some _ hr) (small_one (by omega) (by omega) (by omega) (by omega)) (by rw [rangeSize_one]; split <;> omega) (by omega) s.heap.objs.size (.ref s.heap.objs.size) 0 hS₁
    (fun h' tk acc' c' hk hS' hacc => ⟨h', tk, acc', c', rfl, rfl, fun b o e => hk b o (Nat.ne_of_lt (Heap.lt_size e)) (Heap.get?_push_of_some _ e), hS', hacc⟩)
  refine wpAny_mono key (fun fin s' x => ?_) fun e s' x => ?_
  · cases fin with
    | done f =>
      obtain ⟨h', tk, acc', c', e, rfl, hk, hS', hacc⟩ := x
      cases e
      show wpAny _ A (load s.heap.objs.size >>= _) _ _ _
      refine wpAny_bind (wpAny_load hS' ?_)
      exact wpAny_pure (h h' tk acc' hk hacc)
    | again c₁ =>
      refine ⟨x.1, codeAny_mono x.2 fun q s₂ y => ?_⟩
      obtain ⟨h', tk, acc', c', rfl, rfl, hk, hS', hacc⟩ := y
      show wpAny _ A (load s.heap.objs.size >>= _) _ _ _
      refine wpAny_bind (wpAny_load hS' ?_)
      exact wpAny_pure (h h' tk acc' hk hacc)
  · obtain ⟨_, _, _, _, e', _⟩ := x
    cases e'

theorem sorted_key {r F L : Addr} {n : Nat} {tt uu vv : Tok} {m : Str → Option Value} {rows : Nat → Addr} {kv : Nat → List Int} {Q : Value → Shared → Prop} (hh : A.handled = none) (hu : A.units + 10 < cLine) (hr : IsRange s.heap r 0 (n : Int) 1 tt uu vv) (hrL : r ≠ L) (h2 : 2 ≤ n) (h64 : n < 64) (hn : s.heap.Ns L m)
    (hrow : ∀ i, i < n → rows i ≠ L ∧ ∃ vs, s.heap.IsList (rows i) (List.toArray vs) ∧ IntsAre vs (kv i)) (hlen : ∀ i, i < n → (kv i).length = 3)
    (hcall : ∀ (i : Nat) (t : Tok) (h : Heap) (tk : Nat) (Q' : Value → Shared → Prop), i < n → (∀ b o, b ≠ L → s.heap.get? b = some o → h.get? b = some o) → (∀ h' tk', h.StaysIn h' → Q' (.ref (rows i)) { s with heap := h', toks := tk' }) →
      wpAny (model prog w) A.in1.in1 (call (.ref F) [.int (i : Int) t]) Q' (fun _ _ => False) { s with heap := h, toks := tk })
    (h : ∀ (h' : Heap) (D : Addr) (us : List Value) (js : List Nat) (tk : Nat), (∀ b o, b ≠ L → s.heap.get? b = some o → h'.get? b = some o) → h'.Ns L m → h'.IsList D (List.toArray us) → IntsAre us (js.map fun j : Nat => (j : Int)) → js.Perm (List.range n) → js.Pairwise (fun i j => ¬ cmpL (kv j) (kv i) < 0) → Q (.ref D) { s with heap := h', toks := tk }) :
    wpAny (model prog w) A (call (.builtin "sorted") [.ref r] [(Str.ofString "key", .ref F)]) Q E s := by
  refine call_function_entry_kw kind_sorted plain_sorted entry_sorted (ksk_s1 _ _) ?_
  unfold Builtin.«sorted»
  refine wpAny_bind (m := checkCount "sorted" 1 1 _) (wpAny_pure ?_)
  refine wpAny_bind (collect_range (A := A.in1) hh hr (by omega) fun h₁ tk₁ acc k₁ hacc => ?_)
  have hlacc : acc.toList.length = n := by rw [Array.length_toList]; exact hacc.1
  refine wpAny_bind (wpAny_newList ?_ (by rw [hlacc, sizeLine_eq]; omega))
  obtain ⟨vs, hvs⟩ : ∃ vs, vs = acc.toList := ⟨_, rfl⟩
  rw [← hvs] at hlacc ⊢
  have hv : ∀ i, i < n → ∃ t, vs[i]? = some (.int (i : Int) t) := fun i hi => by
    have hi' : i < acc.size := by rw [hacc.1]; exact hi
    obtain ⟨t, e⟩ := hacc.2 i acc[i] (Array.getElem?_eq_getElem hi')
    refine ⟨t, ?_⟩
    rw [hvs, Array.getElem?_toList, Array.getElem?_eq_getElem hi', e]
    congr 2; omega
  clear hacc hvs
  have keepB : ∀ b o, b ≠ L → s.heap.get? b = some o → (h₁.push { cls := .type "list", data := .seq vs.toArray }).get? b = some o := fun b o _ e => Heap.get?_push_of_some _ (k₁ b o e)
  have hn₁ : h₁.Ns L m := hn.keeps k₁
  have F₁ : Fr {} L (h₁.push { cls := .type "list", data := .seq vs.toArray }) m := empty_fr (hn₁.keeps fun b o e => Heap.get?_push_of_some _ e)
  have N₁ : News {} L (h₁.push { cls := .type "list", data := .seq vs.toArray }) (allNews s.heap L) := fun p hp => ⟨keepB _ _ (of_allNews hp).1 (of_allNews hp).2, (of_allNews hp).1, empty_get _⟩
  have below : ∀ q ∈ allNews s.heap L, q.1 < h₁.objs.size := fun q hq => ltg (k₁ _ _ (of_allNews hq).2)
  have hLlt : @LT.lt Nat _ L h₁.objs.size := hn₁.lt
  refine wpAny_bind (wpAny_holding (wpAny_call_entry_kw slot_list_sort ⟨_, Heap.get?_push_size _ rfl, rfl⟩ entry_list_sort ?body (ksk_l1 _ _)))
  case body =>
    show wpAny (model prog w) A.in1.in1 (Builtin.«list.sort» ⟨[.ref h₁.objs.size], [(Str.ofString "key", .ref F)]⟩) _ _ _
    rw [ksk_t1]
    refine kat_keyed (n := 0) F₁ N₁ (Heap.get?_push_size _ rfl) (Nat.ne_of_gt hLlt) (empty_get _) (fun p hp => Nat.ne_of_lt (below p hp)) (by omega) (by omega) fun kS e1 h₂ F₂ N₂ l0 l1 => ?_
    -- the keys, one after the other
    have keys : ∀ (rest ks : List Value) (e : Nat) (hp : Heap) (tk : Nat), rest = vs.drop ks.length → ks = (List.range ks.length).map (fun i => Value.ref (rows i)) → ks.length ≤ n → Fr {} L hp m →
        News {} L hp ((kS, seqObj "list" (List.toArray ks) e) :: (h₁.objs.size, seqObj "list" #[] e1) :: allNews s.heap L) →
        KatKeys prog w A.in1.in1 {} L m kS (.ref F) (fun ks e s' => ∃ hp tk, s' = { s with heap := hp, toks := tk } ∧ ks = (List.range n).map (fun i => Value.ref (rows i)) ∧ Fr {} L hp m ∧ News {} L hp ((kS, seqObj "list" (List.toArray ks) e) :: (h₁.objs.size, seqObj "list" #[] e1) :: allNews s.heap L)) rest ks e { s with heap := hp, toks := tk } := by
      intro rest
      induction rest with
      | nil =>
        intro ks e hp tk hr0 hks hkn Fp Np
        have : ks.length = n := by
          have := congrArg List.length hr0
          simp at this
          omega
        refine KatKeys.nil ⟨hp, tk, rfl, ?_, Fp, Np⟩
        rw [this] at hks
        exact hks
      | cons v rest ih =>
        intro ks e hp tk hr0 hks hkn Fp Np
        have hlt : ks.length < n := by
          have := congrArg List.length hr0
          simp at this
          omega
        obtain ⟨t, ht⟩ := hv ks.length hlt
        have hd : vs.drop ks.length = .int (ks.length : Int) t :: vs.drop (ks.length + 1) := by
          have hlt' : ks.length < vs.length := by omega
          rw [List.drop_eq_getElem_cons hlt']
          rw [List.getElem?_eq_getElem hlt'] at ht
          rw [Option.some.inj ht]
        rw [hd] at hr0
        obtain ⟨rfl, rfl⟩ := List.cons.inj hr0
        refine KatKeys.cons (hcall ks.length t hp tk _ hlt (kept_news Np fun p hq => List.mem_cons_of_mem _ (List.mem_cons_of_mem _ hq)) fun hp' tk' kp => ?_)
        have Fp' : Fr {} L hp' m := empty_fr (Fp.ns.keeps kp)
        have Np' : News {} L hp' ((kS, seqObj "list" (List.toArray ks) e) :: (h₁.objs.size, seqObj "list" #[] e1) :: allNews s.heap L) := fun p hq => ⟨kp _ _ (Np p hq).1, (Np p hq).2⟩
        refine KatBack.intro (s := { s with heap := hp', toks := tk' }) Fp' Np' (UpdF.head fun p hq => ?_) fun h₃ c₃ F₃ N₃ => ?_
        · rcases List.mem_cons.mp hq with rfl | hq
          · exact Nat.ne_of_lt l0
          · exact Nat.ne_of_lt (l1 p hq)
        · refine ih (ks ++ [.ref (rows ks.length)]) c₃ h₃ tk' (by rw [List.length_append]; rfl) ?_ (by rw [List.length_append]; exact hlt) F₃ N₃
          rw [List.length_append, List.length_singleton, List.range_succ, List.map_append, ← hks]; rfl
    refine kat_keys_mono (keys vs [] 0 h₂ _ rfl rfl (Nat.zero_le _) F₂ N₂) fun ks e s' _ hfin => ?_
    obtain ⟨hp, tk, rfl, rfl, Fp, Np⟩ := hfin
    have kp := kept_news Np fun p hq => List.mem_cons_of_mem _ (List.mem_cons_of_mem _ hq)
    have rowAt : ∀ i, i < n → ∃ us, hp.IsList (rows i) (List.toArray us) ∧ IntsAre us (kv i) := fun i hi => by
      obtain ⟨q, us, a, b⟩ := hrow i hi
      exact ⟨us, a.at fun o e => kp _ o q e, b⟩
    have hkl : ((List.range n).map fun i => Value.ref (rows i)).length = n := by simp
    refine kas_kind (by rw [hkl]; omega) (T := .type "list") (fun v hvm => ?_) (by decide) (by decide) ?_
    · obtain ⟨i, hi, rfl⟩ := List.mem_map.mp hvm
      obtain ⟨us, ⟨o, ho, hc, _⟩, _⟩ := rowAt i (List.mem_range.mp hi)
      have : Looks (model prog w) hp (typeOf (.ref (rows i))) o.cls := (Looks.ld ho).andThen .now
      rw [hc] at this
      exact this
    · rw [show katRev false ((List.range n).map fun i => Value.ref (rows i)) = (List.range n).map fun i => Value.ref (rows i) from rfl, show katRev false vs = vs from rfl, hlacc]
      have hpos : 0 < n := by omega
      obtain ⟨s1, s2⟩ := sort_ok (rowLt_pre hpos hlen) hpos
      refine kasWp_go (lt := rowLt n kv) (fun i j C hi hj hC => ?_) (val_sort hpos) ?_
      · unfold kas_ask
        have gi : ∀ i, i < n → ((List.range n).map fun i => Value.ref (rows i)).getD i Value.none = .ref (rows i) := fun i hi => by simp [hi]
        rw [gi i hi, gi j hj, keyLt'_oneType]
        obtain ⟨us, a1, a2⟩ := rowAt i hi
        obtain ⟨ws, b1, b2⟩ := rowAt j hj
        refine oneLt_rows a1 b1 a2 b2 (by rw [hlen i hi, hlen j hj]) (by show A.units + 1 + 1 < cLine; omega) ?_
        unfold rowLt at hC
        rw [if_pos hi, if_pos hj] at hC
        exact hC
      · generalize goT (rowLt n kv) (kas_sort n) = p at s1 s2
        have hps : p.size = n := by rw [s1.size_eq]; simp
        have hpl : p.toList.Perm (List.range n) := Array.perm_iff_toList_perm.mp s1
        have hout : IntsAre (p.toList.map fun i => vs.getD i Value.none) (p.toList.map fun j : Nat => (j : Int)) := by
          refine intsAre_make _ _ (by simp) fun i v k hv' hk' => ?_
          rw [List.getElem?_map] at hv' hk'
          cases e : p.toList[i]? with
          | none => rw [e] at hv'; cases hv'
          | some x =>
            rw [e] at hv' hk'
            cases hv'; cases hk'
            have hx : x < n := List.mem_range.mp (hpl.mem_iff.mp (List.mem_of_getElem? e))
            obtain ⟨t, ht⟩ := hv x hx
            exact ⟨t, by show vs.getD x Value.none = Value.int (x : Int) t; rw [List.getD_eq_getElem?_getD, ht]; rfl⟩
        have hpair : p.toList.Pairwise (fun i j => ¬ cmpL (kv j) (kv i) < 0) := by
          rw [List.pairwise_iff_getElem]
          intro i j hi hj hij
          have hi' : i < p.size := by simpa using hi
          have hj' : j < p.size := by simpa using hj
          have := s2 i j (Nat.le_of_lt hij) (by omega)
          have g : ∀ i (hi : i < p.size), at' p i = p[i] := fun i hi => by simp [at', Array.getD, hi]
          rw [g i hi', g j hj'] at this
          have xi : p[i] < n := List.mem_range.mp (hpl.mem_iff.mp (by simp))
          have xj : p[j] < n := List.mem_range.mp (hpl.mem_iff.mp (by simp))
          unfold le rowLt at this
          rw [if_pos xi, if_pos xj, decide_eq_false_iff_not] at this
          simpa using this
        refine KatFin.intro (s := { s with heap := hp, toks := tk }) Fp Np (UpdF.head fun q hq => ?_) fun h₃ c₃ F₃ N₃ => ?_
        · rcases List.mem_cons.mp hq with rfl | hq
          · exact Nat.ne_of_lt l0
          · exact Nat.ne_of_lt (l1 q hq)
        · refine KasFin.intro (s := { s with heap := h₃, toks := tk }) F₃ N₃ (UpdF.tail (Nat.ne_of_gt l0) (UpdF.head fun q hq => Nat.ne_of_lt (below q hq))) fun h₄ c₄ F₄ N₄ => ?_
          have k4 := kept_news N₄ fun p hq => List.mem_cons_of_mem _ (List.mem_cons_of_mem _ hq)
          have hD := (N₄ _ (List.mem_cons_of_mem _ (List.mem_cons_self ..))).1
          refine ⟨_, rfl, wpAny_pure ⟨_, rfl, ?_⟩⟩
          exact h h₄ h₁.objs.size _ p.toList tk k4 F₄.ns ⟨_, hD, rfl, c₄, rfl⟩ hout hpl hpair
end
end Mine
/-! part T5 -/
namespace Mine
open PySem PySem.W PySem.Calls PyProof.Rows
open Sem (wp)

/-! ## the lambda of the law -/
def lawStmt (i : Nat) : Stmt := (defBody 34).getD i (.Pass default)
def lamArgs : Arguments := match lawStmt 8 with
  | .Assign _ (.Call _ _ [⟨_, .Lambda a _ _ _, _⟩] _) _ => a
  | _ => ⟨[], [], none, [], [], none, []⟩
def lamBody : Expr := match lawStmt 8 with
  | .Assign _ (.Call _ _ [⟨_, .Lambda _ b _ _, _⟩] _) _ => b
  | _ => .Name "" default
def lamScope : Scope := match lawStmt 8 with
  | .Assign _ (.Call _ _ [⟨_, .Lambda _ _ s _, _⟩] _) _ => s
  | _ => default
def LamAt (h : Heap) (F cf : Addr) : Prop := ∃ pm c' ctv, h.get? F = some (kla_obj "<lambda>" "law.<locals>.<lambda>" lamArgs lamBody lamScope [(("fields" : Str), cf)] pm c' ctv) ∧ h.CodeRec (.ref c') "law.<locals>.<lambda>"

section
variable {prog : Program} {w : World} {A : Around} {E : Value → Shared → Prop} {s : Shared}

theorem lam_make {L f c P : Addr} {mg : Str → Option Value} {pos : Pos} {Q : Value → Shared → Prop} (hg : s.heap.Ns mainGlobals mg) (C : CodeHd s.heap c P) (hP : s.heap.get? P = some (tabObj #[])) (hb : s.heap.BuiltinsAt mg P)
    (h : ∀ h' F ps tk, Heap.ExtBut P s.heap h' → h'.get? P = some (tabObj ps) → LamAt h' F (L + 1 + 1 + 1 + 1 + 1 + 1) → s.heap.get? F = none → Q (.ref F) { s with heap := h', toks := tk }) :
    wpAny (model prog w) A (eval (.Lambda lamArgs lamBody lamScope pos) (envOfC "law" (defScope 34) L f (.ref c))) Q E s := by
  refine kla_eval (by rfl) ?_
  have hgP : mainGlobals ≠ P := by
    rintro rfl
    obtain ⟨o, es, ep, e, hd, _⟩ := hg
    rw [hP] at e; cases e; cases hd
  refine kla_makeFunction (clos := [(("fields" : Str), L + 1 + 1 + 1 + 1 + 1 + 1)]) (by rfl) rfl hg rfl C hP trivial (by rfl) hgP hb fun c' ctv h' tk hx hge hlt hrec htb => ?_
  have hPlt : @LT.lt Nat _ P s.heap.objs.size := ltg hP
  have hF : s.heap.get? h'.objs.size = none := Heap.get?_none_of_le (Nat.le_of_lt (Nat.lt_of_le_of_lt hge hlt))
  refine h _ _ _ tk (fun b o hb e => Heap.get?_push_of_some _ (hx b o hb e)) (Heap.get?_push_of_some _ htb) ⟨_, c', ctv, Heap.get?_push_size _ rfl, hrec.keeps fun b o e => Heap.get?_push_of_some _ e⟩ hF

theorem lam_call {F cf fl T : Addr} {as : List Value} {i : Nat} {t : Tok} {Q : Value → Shared → Prop} (hl : LamAt s.heap F cf) (hlim : s.heap.NoLimit) (hroom : A.depth < recursionLimit) (hc : s.heap.IsCell cf (some (.ref fl))) (hL : s.heap.IsList fl as.toArray) (hi : as[i]? = some (.ref T)) (hz : i < 1000)
    (hQ : ∀ h' tk', s.heap.StaysIn h' → Q (.ref T) { s with heap := h', toks := tk' }) :
    wpAny (model prog w) A (call (.ref F) [.int (i : Int) t]) Q E s := by
  obtain ⟨pm, c', ctv, ho, hcd⟩ := hl
  refine wpAny_call (kla_callFunE hroom ho rfl rfl rfl rfl hcd ?_)
  refine wpAny_of_eq (a := [(("k" : Str), Value.int (i : Int) t)]) (by rfl) ?_
  refine wpAny_newFunctionEnv (show ∀ x ∈ lamScope.names, x.2 ≠ .cell by decide) (locs (by rfl)) (fun h₁ hns hsb => ?_) rfl
  have hk₁ : ∀ b o, s.heap.get? b = some o → h₁.get? b = some o := fun b o e => hsb.extBut b o (Nat.ne_of_lt (Heap.lt_size e)) (Heap.get?_push_of_some _ e)
  refine ⟨hlim.fresh _ hsb, kla_codeExpr ?_⟩
  refine Subscript_ ?_
  refine ev_free (hc.keeps hk₁) ?_ (by rfl) rfl (by rfl)
  refine ev_loc hns (by rfl) ?_ rfl (by rfl)
  refine item_litK (hL.at fun o e => hk₁ _ o e) (by omega) (by omega) (by rw [Int.toNat_natCast]; exact hi) ?_
  exact hQ h₁ _ hk₁
end
end Mine
/-! part V0 -/
namespace Mine
open PySem PySem.W PySem.Calls PyProof.Rows
open Sem (wp)

theorem slicePick_take (items : Array Value) (b : Nat) : slicePick items none (some (b : Int)) none = (items.toList.take b).toArray := by
  by_cases hb : b ≤ items.size
  · exact slicePick_upto items b hb
  · have e : sliceBounds none (some (b : Int)) none items.size = (((0 : Nat) : Int), (items.size : Int), 1) := by
      simp only [sliceBounds, Option.getD_none]
      have h2 : ¬ ((b : Int) < 0) := by omega
      simp only [h2, if_false, show (1 : Int) > 0 by decide, if_true]
      congr 1
      congr 1; omega
    unfold slicePick
    rw [e]
    simp only [sliceRange_one, pick_run]
    rw [List.drop_zero, List.take_of_length_le (by simp), List.take_of_length_le (by simp; omega)]

section
variable {M : Model} {A : Around} {E : Value → Shared → Prop} {s : Shared} {env : Env}
theorem ok_If {test body orelse pos} {Q : Flow → Shared → Prop}
    (h : wpOk M A (isTrue test env (eval test env)) (fun b s₂ => if b then wpOk M A (execs body env) Q E s₂ else wpOk M A (execs orelse env) Q E s₂) E s) :
    wpOk M A (exec (.If test body orelse pos) env) Q E s := fun Γ p hΓ ok => by
  simp only [exec_If, Sem.wp_bind', Sem.wp_cmd_standAt]
  refine Sem.wp_mono M Γ _ (fun b p₂ s₂ h₂ => ?_) (fun _ _ _ h' => h') _ _ (h Γ _ hΓ ok)
  cases b <;> exact h₂ Γ p₂ hΓ ok
theorem ok_isTrue_or {x rest pos whole} {Q : Bool → Shared → Prop}
    (h : wpOk M A (isTrue x env (eval x env)) (fun c s' => if c then Q true s' else wpOk M A (isTrue (.BoolOp .Or rest pos) env whole) Q E s') E s) :
    wpOk M A (isTrue (.BoolOp .Or (x :: rest) pos) env whole) Q E s := by
  show wpOk M A (do
    match BoolOp.Or, ← isTrue x env (eval x env) with
    | .And, false => pure false
    | .Or, true => pure true
    | _, _ => allTrue .Or rest env) Q E s
  refine wpOk_bind (wpOk_mono h (fun c s' h' => ?_) fun _ _ x => x)
  cases c with
  | true => exact wpOk_pure h'
  | false => exact h'
theorem ok_isTrue_Compare1 {l op r pos whole} {Q : Bool → Shared → Prop}
    (h : wpOk M A (eval l env) (fun a s₁ => wpOk M A (eval r env) (fun b s₂ => wpOk M A (compareOp op a b)
      (fun c s₃ => wpOk M A (truthy c) Q E s₃) E s₂) E s₁) E s)
    (hm : behindInMarks op r = false := by with_unfolding_all rfl) : wpOk M A (isTrue (.Compare l [op] [r] pos) env whole) Q E s := fun Γ p hΓ ok => by
  simp only [isTrue_Compare1, markedBehindIn_of_false hm, Sem.wp_bind', Sem.wp_holding, Sem.wp_cmd_standAt, Sem.wp_operate]
  exact Sem.wp_mono M Γ _ (fun a p₁ s₁ h₁ => Sem.wp_mono M Γ _ (fun b _ s₂ h₂ => Sem.wp_mono M Γ _ (fun c p₃ s₃ h₃ => h₃ Γ p₃ hΓ ok)
    (fun _ _ _ h' => h') _ _ (h₂ Γ _ hΓ ok)) (fun _ _ _ h' => h') _ _ (h₁ Γ p₁ hΓ ok)) (fun _ _ _ h' => h') _ _ (h Γ p hΓ ok)
end

section
variable {prog : Program} {w : World} {A : Around} {E : Value → Shared → Prop} {s : Shared} {env : Env}
/-- a list of two is unpacked -/
theorem unpack_list2 {l : Addr} {x y : Value} {Q : List Value → Shared → Prop} (hh : A.handled = none) (hl : s.heap.IsList l #[x, y])
    (h : ∀ h' tk, (∀ b o, s.heap.get? b = some o → h'.get? b = some o) → Q [x, y] { s with heap := h', toks := tk }) : wpAny (model prog w) A (unpackItems (.ref l) 2 none) Q E s := by
  unfold unpackItems
  refine wpAny_bind ?_
  unfold notIterableAtAll
  refine wpAny_bind (wpAny_specialOf hl.typeIs PySem.F.slot_list_iter.lookup ?_)
  refine wpAny_pure ?_
  simp only [Bool.false_eq_true, if_false]
  refine wpAny_bind (wpAny_holding (list_iter hl fun h₁ I hI hl₁ k₁ hI0 hIle hIlt hne => ?_))
  have W := Walks.list (prog := prog) (w := w) (A := A) hh I l hne #[x, y]
  have kI : ∀ b o, s.heap.get? b = some o → b ∉ [I] := fun b o e hm => by
    rw [List.mem_singleton] at hm
    subst hm
    rw [hI0] at e; cases e
  refine wpAny_bind (wpAny_holding ?_)
  show wpAny _ _ (pyNext (.ref I) >>= _) _ _ _
  refine wpAny_bind (W.item 0 _ _ _ (by simp) ⟨hI, hl₁⟩ fun v h₂ tk₂ hv st₂ k₂ => ?_)
  obtain rfl : v = x := by
    have : (#[x, y] : Array Value)[0]? = some v := hv
    exact (Option.some.inj this).symm
  refine wpAny_bind (wpAny_holding ?_)
  show wpAny _ _ (pyNext (.ref I) >>= _) _ _ _
  refine wpAny_bind (W.item 1 _ _ _ (by simp) st₂ fun v' h₃ tk₃ hv' st₃ k₃ => ?_)
  obtain rfl : v' = y := by
    have : (#[v, y] : Array Value)[1]? = some v' := hv'
    exact (Option.some.inj this).symm
  refine wpAny_bind (wpAny_holding (wpAny_pure (wpAny_pure (wpAny_pure ?_))))
  rw [if_neg (by simp)]
  refine wpAny_bind (wpAny_holding (W.done _ _ _ st₃ fun h₄ tk₄ k₄ => ?_))
  simp only [Option.isSome_none, Bool.false_eq_true, if_false]
  exact wpAny_pure (h h₄ tk₄ fun b o e => k₄ b o (kI b o e) (k₃ b o (kI b o e) (k₂ b o (kI b o e) (k₁ b o e))))

theorem type_bytes {b : Bs} {t : Tok} {Q : Value → Shared → Prop} (h : Q (.type "bytes") s) : wpAny (model prog w) A (call (.type "type") [.bytes b t]) Q E s :=
  call_type_of (typeIs_bytes s b t) (by decide) h

/-- a cut of bytes -/
theorem slice_bytes {value a b : Expr} {p pos : Pos} {Q : Value → Shared → Prop}
    (h : wpAny (model prog w) A (eval value env) (fun o s₁ => wpAny (model prog w) A (eval a env) (fun vl s₂ => wpAny (model prog w) A (eval b env) (fun vu s₃ =>
      ∃ (d : Bs) (td : Tok) (lo hi : Nat) (tl tu : Tok), o = .bytes d td ∧ vl = .int (lo : Int) tl ∧ vu = .int (hi : Int) tu ∧ d.size ≤ 100000 ∧ lo ≤ hi ∧ hi ≤ d.size ∧
        ∀ h' t' k, s₃.heap.StaysIn h' → Q (.bytes ((d.toList.drop lo).take (hi - lo)).toArray t') { s₃ with heap := h', toks := k }) E s₂) E s₁) E s)
    (ht : ∀ o r, letTemporaryGo value o r = pure () := by intro _ _; rfl) :
    wpAny (model prog w) A (eval (.Subscript value (.Slice (some a) (some b) none p) pos) env) Q E s := by
  refine wpAny_Subscript_Slice (T := "bytes") FB.slot_bytes_getitem.lookup (wpAny_mono h (fun o s₁ h₁ => wpAny_Slice (wpAny_mono h₁ (fun vl s₂ h₂ => wpAny_mono h₂ (fun vu s₃ h₃ => ?_) fun _ _ e => e) fun _ _ e => e)) fun _ _ e => e) ht
  obtain ⟨d, td, lo, hi, tl, tu, rfl, rfl, rfl, hz, h1, h2, hQ⟩ := h₃
  rw [evalPart_none]
  refine wpAny_pure ⟨typeIs_bytes _ _ _, ?_⟩
  have e : KBy.picked d (some (lo : Int)) (some (hi : Int)) = ((d.toList.drop lo).take (hi - lo)).toArray := by
    rw [KBc.picked_eq]
    simp only [Option.elim_some]
    rw [clipAt_nat, clipAt_nat, Nat.min_eq_left h2, Nat.min_eq_left (Nat.le_trans h1 h2)]
  refine getItem_meets (typeIs_bytes _ _ _) (by decide) FB.slot_bytes_getitem FB.entry_bytes_getitem (FB.args_bytes_getitem_2 _ _) (KBc.meets_slice2 d td _ (.int _ _) (.int _ _))
    ⟨Heap.IsSliceOf.new _ _ _ _, Nat.le_trans (KBc.size_picked_le d _ _) (by rw [sizeLine_eq]; omega), fun t' k => ?_⟩
  rw [e]
  exact hQ _ t' k fun b o q => Heap.get?_push_of_some _ q

/-- `sorted(x, key=f)` -/
theorem ev_sorted_key {p pos : Pos} {e : Expr} {k : Keyword} {v : Expr} {Q : Value → Shared → Prop} (g : GName s.heap "sorted" (.builtin "sorted"))
    (h : wpAny (model prog w) A (spliced (backTo pos (starEach [e] env))) (fun vs s₁ => wpAny (model prog w) A (evalAll ((backToKw pos (keywordEach [k] env)).map (·.2)))
      (fun kvs s₂ => wpAny (model prog w) A (call (.builtin "sorted") vs (((backToKw pos (keywordEach [k] env)).filterMap (·.1)).zip kvs)) Q E s₂) E s₁) E s)
    (he : backTo pos (starEach [e] env) = [(false, eval e env)] := by rfl) (hall : (backToKw pos (keywordEach [k] env)).all (·.1.isSome) = true := by rfl) (hkw : (backToKw pos (keywordEach [k] env)).any (·.1.isNone) = false := by rfl)
    (hk : env.scope.kind = .function := by rfl) (hx : env.kindOf "sorted" = some .globalImplicit := by rfl) (hg : env.globals = mainGlobals := by rfl) (hb : env.builtins = builtinsNs := by rfl) :
    wpAny (model prog w) A (eval (.Call (.Name "sorted" p) [e] [k] pos) env) Q E s := by
  refine wpAny_Call_Name_kw (ev_glob g ?_ hk hx hg hb (by decide))
  exact callWith_kw h he (by rw [he]; rfl) hall hkw
end
end Mine
/-! part V1 -/
namespace Mine
open PySem PySem.W PySem.Calls PyProof.Rows
open Sem (wp)

/-! ## the top, as the law asks it; the frame of the law -/
structure LawG (h : Heap) : Prop where
  limit : h.NoLimit
  range : GName h "range" (.type "range")
  len : GName h "len" (.builtin "len")
  sorted : GName h "sorted" (.builtin "sorted")
  bytes : GName h "bytes" (.type "bytes")
  bytearray : GName h "bytearray" (.type "bytearray")
  type : GName h "type" (.type "type")
  zip : GName h "zip" (.type "zip")
  enum : GName h "enumerate" (.type "enumerate")
  index : GName h "IndexError" (.type "IndexError")
  kinds : GKinds h
  swap : ∃ f, GName h "_byteswap" (.ref f) ∧ FnAt h f "_byteswap" 1
  mode : ∃ f fi tb rs, GName h "filemode" (.ref f) ∧ FnAt h f "filemode" 24 ∧ GName h "_filemode_table" (.ref tb) ∧ GName h "S_IFMT" (.ref fi) ∧ FnAt h fi "S_IFMT" 3 ∧ TableAt h tb rs
  diff : ∃ f, GName h "sorted_list_difference" (.ref f) ∧ FnAt h f "sorted_list_difference" 26
  cmp : ∃ f, GName h "three_way_cmp" (.ref f) ∧ FnAt h f "three_way_cmp" 27
  fields : ∃ f, GName h "_law_fields" (.ref f) ∧ FnAt h f "_law_fields" 29
  column : ∃ f, GName h "_law_column" (.ref f) ∧ FnAt h f "_law_column" 30
  signs : ∃ f, GName h "_law_signs" (.ref f) ∧ FnAt h f "_law_signs" 31
  order : ∃ f, GName h "_law_order" (.ref f) ∧ FnAt h f "_law_order" 32
  alone : ∃ f, GName h "_law_alone" (.ref f) ∧ FnAt h f "_law_alone" 33

section
variable {B h : Heap}
theorem ns_kt (k : ∀ b o, o ≠ tabObj #[] → B.get? b = some o → h.get? b = some o) {a : Addr} {m : Str → Option Value} (hn : B.Ns a m) : h.Ns a m :=
  let ⟨o, es, ep, e, hd, r⟩ := hn; ⟨o, es, ep, k a o (fun q => by rw [q] at hd; cases hd) e, hd, r⟩
theorem GName.kt (k : ∀ b o, o ≠ tabObj #[] → B.get? b = some o → h.get? b = some o) {x : Str} {v : Value} (g : GName B x v) : GName h x v :=
  let ⟨mg, mb, a, b, c⟩ := g; ⟨mg, mb, ns_kt k a, ns_kt k b, c⟩
theorem FnAt.kt (k : ∀ b o, o ≠ tabObj #[] → B.get? b = some o → h.get? b = some o) {f : Addr} {name : Str} {n : Nat} (g : FnAt B f name n) : FnAt h f name n := by
  obtain ⟨o, doc, pm, an, cdv, ct, a, b, c, oc, vs, t, e1, e2, e3, e4⟩ := g
  exact ⟨o, doc, pm, an, cdv, ct, k _ _ (fun q => by rw [q] at b; cases b) a, b, c, oc, vs, t, e1, k _ _ (fun q => by rw [q] at e3; cases e3; cases e4) e2, e3, e4⟩
theorem tup_kt (k : ∀ b o, o ≠ tabObj #[] → B.get? b = some o → h.get? b = some o) {a : Addr} {its : Array Value} (x : B.IsTuple a its) : h.IsTuple a its :=
  let ⟨o, e, hc, n, hd⟩ := x; ⟨o, k a o (fun q => by rw [q] at hd; cases hd) e, hc, n, hd⟩
theorem TableAt.kt (k : ∀ b o, o ≠ tabObj #[] → B.get? b = some o → h.get? b = some o) {tb : Addr} {rs : List Value} (x : TableAt B tb rs) : TableAt h tb rs where
  tup := tup_kt k x.tup
  len := x.len
  row := fun i row e => let ⟨R, ps, a, b, c, d⟩ := x.row i row e
    ⟨R, ps, a, tup_kt k b, c, fun j b c e => let ⟨T, tb, tc, p, q⟩ := d j b c e; ⟨T, tb, tc, p, tup_kt k q⟩⟩
theorem fn_kt (k : ∀ b o, o ≠ tabObj #[] → B.get? b = some o → h.get? b = some o) {x name : Str} {n : Nat} (g : ∃ f, GName B x (.ref f) ∧ FnAt B f name n) : ∃ f, GName h x (.ref f) ∧ FnAt h f name n :=
  let ⟨f, a, b⟩ := g; ⟨f, a.kt k, b.kt k⟩
theorem LawG.kt (g : LawG B) (k : ∀ b o, o ≠ tabObj #[] → B.get? b = some o → h.get? b = some o) : LawG h where
  limit := let ⟨mc, a, b⟩ := g.limit; ⟨mc, ns_kt k a, b⟩
  range := g.range.kt k
  len := g.len.kt k
  sorted := g.sorted.kt k
  bytes := g.bytes.kt k
  bytearray := g.bytearray.kt k
  type := g.type.kt k
  zip := g.zip.kt k
  enum := g.enum.kt k
  index := g.index.kt k
  kinds := ⟨g.kinds.reg.imp fun _ x => x.kt k, g.kinds.dir.imp fun _ x => x.kt k, g.kinds.lnk.imp fun _ x => x.kt k, g.kinds.sock.imp fun _ x => x.kt k⟩
  swap := fn_kt k g.swap
  mode := let ⟨f, fi, tb, rs, a, b, c, d, e, t⟩ := g.mode; ⟨f, fi, tb, rs, a.kt k, b.kt k, c.kt k, d.kt k, e.kt k, t.kt k⟩
  diff := fn_kt k g.diff
  cmp := fn_kt k g.cmp
  fields := fn_kt k g.fields
  column := fn_kt k g.column
  signs := fn_kt k g.signs
  order := fn_kt k g.order
  alone := fn_kt k g.alone
end
theorem LawG.keeps {h h' : Heap} (g : LawG h) (k : h.StaysIn h') : LawG h' := g.kt fun b o _ e => k b o e

/-- apart from the frame of the law, and from the table of its code -/
def Off (P L b : Addr) : Prop := b ≠ P ∧ ∀ i : Nat, i < 7 → b ≠ L + i
def Kx (P L : Addr) (h h' : Heap) : Prop := ∀ b o, Off P L b → h.get? b = some o → h'.get? b = some o
theorem Kx.of_stays {P L : Addr} {h h' : Heap} (k : h.StaysIn h') : Kx P L h h' := fun b o _ e => k b o e
theorem Kx.trans {P L : Addr} {h₁ h₂ h₃ : Heap} (x : Kx P L h₁ h₂) (y : Kx P L h₂ h₃) : Kx P L h₁ h₃ := fun b o c e => y b o c (x b o c e)

structure LawC (B : Heap) (P L : Addr) : Prop where
  tab : B.get? P = some (tabObj #[])
  below : ∀ b o, B.get? b = some o → @LT.lt Nat _ b L
  G : LawG B

structure LawSt (B : Heap) (ps : Array Value) (P L : Addr) (m : Str → Option Value) (cv : Nat → Option Value) (h : Heap) : Prop where
  kb : ∀ b o, b ≠ P → B.get? b = some o → h.get? b = some o
  tab : h.get? P = some (tabObj ps)
  ns : h.Ns L m
  cell : ∀ i, i < 6 → h.IsCell (L + 1 + i) (cv i)

section
variable {B h h' : Heap} {ps : Array Value} {P L : Addr} {m : Str → Option Value} {cv : Nat → Option Value}
theorem LawSt.g (C : LawC B P L) (S : LawSt B ps P L m cv h) : LawG h := C.G.kt fun b o ho e => S.kb b o (fun q => by subst q; rw [C.tab] at e; cases e; exact ho rfl) e
theorem add1 (L i : Nat) : L + (i + 1) = L + 1 + i := by omega
theorem ne_add1 (b L i : Nat) (h : b ≤ L) : b ≠ L + 1 + i := by omega
theorem add1_inj (L i j : Nat) (h : L + 1 + i = L + 1 + j) : i = j := by omega
theorem LawSt.off (S : LawSt B ps P L m cv h) {b : Addr} (e : h.get? b = none) : Off P L b := by
  refine ⟨?_, fun i hi => ?_⟩
  · rintro rfl
    have q := S.tab
    rw [e] at q; cases q
  · rintro rfl
    match i, hi with
    | 0, _ => obtain ⟨o, _, _, q, _⟩ := S.ns; rw [show h.get? L = none from e] at q; cases q
    | i + 1, hi =>
      obtain ⟨o, q, _⟩ := S.cell i (Nat.lt_of_succ_lt_succ hi)
      rw [← add1 L i] at q
      rw [show h.get? (L + (i + 1)) = none from e] at q; cases q
theorem LawSt.stays (S : LawSt B ps P L m cv h) (k : h.StaysIn h') : LawSt B ps P L m cv h' :=
  ⟨fun b o hb e => k b o (S.kb b o hb e), k _ _ S.tab, S.ns.keeps k, fun i hi => (S.cell i hi).keeps k⟩
theorem LawC.ne (C : LawC B P L) : @LT.lt Nat _ P L := C.below _ _ C.tab
theorem LawSt.store {m' : Str → Option Value} (C : LawC B P L) (S : LawSt B ps P L m cv h) (hn : h'.Ns L m') (hs : Heap.SameBut L h h') : LawSt B ps P L m' cv h' :=
  ⟨fun b o hb e => hs.extBut b o (Nat.ne_of_lt (C.below b o e)) (S.kb b o hb e), hs.extBut _ _ (Nat.ne_of_lt C.ne) S.tab, hn,
    fun i hi => (S.cell i hi).sameBut hs (ne_add1 L L i (Nat.le_refl _)).symm⟩
theorem LawSt.storeC {i : Nat} {v : Option Value} (C : LawC B P L) (S : LawSt B ps P L m cv h) (hc : h'.IsCell (L + 1 + i) v) (hs : Heap.SameBut (L + 1 + i) h h') : LawSt B ps P L m (fun j => if j = i then v else cv j) h' := by
  refine ⟨fun b o hb e => hs.extBut b o (ne_add1 b L i (Nat.le_of_lt (C.below b o e))) (S.kb b o hb e), hs.extBut _ _ (ne_add1 P L i (Nat.le_of_lt C.ne)) S.tab,
    S.ns.sameBut hs (ne_add1 L L i (Nat.le_refl _)), fun j hj => ?_⟩
  by_cases q : j = i
  · subst q; rw [if_pos rfl]; exact hc
  · rw [if_neg q]
    exact (S.cell j hj).sameBut hs (fun e => q (add1_inj L j i e))
theorem kx_store (hs : Heap.SameBut L h h') : Kx P L h h' := fun b o c e => hs.extBut b o (c.2 0 (by decide)) e
theorem kx_storeC {i : Nat} (hi : i < 6) (hs : Heap.SameBut (L + 1 + i) h h') : Kx P L h h' := fun b o c e => hs.extBut b o (add1 L i ▸ c.2 (i + 1) (by omega)) e
end

/-! ## what the law makes -/
def BsAt (P L : Addr) (h : Heap) (a : Addr) (bs : List Bs) : Prop := Off P L a ∧ ∃ us, h.IsList a (List.toArray us) ∧ BsAre us bs
theorem BsAt.kx {P L : Addr} {h h' : Heap} {a : Addr} {bs : List Bs} (x : BsAt P L h a bs) (k : Kx P L h h') : BsAt P L h' a bs :=
  ⟨x.1, let ⟨us, a, b⟩ := x.2; ⟨us, a.at fun o e => k _ o x.1 e, b⟩⟩
structure RowsN (P L : Addr) (h : Heap) (l : Addr) (xs : List Int) (rows : Nat → Addr) : Prop where
  off : Off P L l
  list : h.IsList l ((List.range xs.length).map fun i => Value.ref (rows i)).toArray
  row : ∀ i, i < xs.length → Off P L (rows i) ∧ ∃ vs, h.IsList (rows i) (List.toArray vs) ∧ IntsAre vs (fieldsOf' (xs.getD i 0))
theorem RowsN.kx {P L : Addr} {h h' : Heap} {l : Addr} {xs : List Int} {rows : Nat → Addr} (x : RowsN P L h l xs rows) (k : Kx P L h h') : RowsN P L h' l xs rows :=
  ⟨x.off, x.list.at fun o e => k _ o x.off e, fun i hi => let ⟨a, vs, b, c⟩ := x.row i hi; ⟨a, vs, b.at fun o e => k _ o a e, c⟩⟩
theorem RowsN.rowsAt {P L : Addr} {h : Heap} {l : Addr} {xs : List Int} {rows : Nat → Addr} (x : RowsN P L h l xs rows) : RowsAt h l (xs.map fieldsOf') := by
  refine ⟨_, x.list, by simp, fun i r hr => ?_⟩
  rw [List.getElem?_map] at hr
  cases e : xs[i]? with
  | none => rw [e] at hr; cases hr
  | some v =>
    rw [e] at hr
    cases hr
    have hi : i < xs.length := by
      rcases Nat.lt_or_ge i xs.length with q | q
      · exact q
      · rw [List.getElem?_eq_none q] at e; cases e
    obtain ⟨_, vs, b, c⟩ := x.row i hi
    refine ⟨rows i, vs, by simp [hi], b, ?_⟩
    have : xs.getD i 0 = v := by rw [List.getD_eq_getElem?_getD, e]; rfl
    rw [this] at c
    exact c

def numsOf (ns : List Int) : List Int := [2 ^ 20 + 1973, 2 ^ 33 + 1973, 2 ^ 20 + 1973, 7, 2 ^ 45 + 1668, 2 ^ 22 + 2002, 7] ++ ns.take 4
theorem numsOf_len (ns : List Int) : 7 ≤ (numsOf ns).length ∧ (numsOf ns).length ≤ 11 := by
  unfold numsOf; simp; omega
abbrev lawEnv (L f : Addr) (cd : Value) : Env := envOfC "law" (defScope 34) L f cd

section
variable {prog : Program} {w : World} {A : Around} {E : Value → Shared → Prop} {s : Shared} {B : Heap} {ps : Array Value} {P L f : Addr} {cd : Value} {m : Str → Option Value} {cv : Nat → Option Value}

theorem seg0 (C : LawC B P L) {sc : Addr} {as : List Value} {ns : List Int} {Q : Flow → Shared → Prop} (S : LawSt B ps P L m cv s.heap) (hm : m "script" = some (.ref sc)) (hsc : B.IsList sc as.toArray) (hns : IntsAre as ns) (hz : ns.length ≤ 1048576)
    (h : ∀ h' tk m' a vs, LawSt B ps P L m' cv h' → m' "numbers" = some (.ref a) → Off P L a → h'.IsList a (List.toArray vs) → IntsAre vs (numsOf ns) → Q .next { s with heap := h', toks := tk }) :
    wpAny (model prog w) A (exec (lawStmt 0) (lawEnv L f cd)) Q E s := by
  have hsc' : s.heap.IsList sc as.toArray := hsc.at fun o e => S.kb _ o (fun q => by
    subst q
    obtain ⟨o', a, b, _⟩ := hsc
    rw [C.tab] at a; cases a; cases b) e
  refine wpAny_Assign_Name ?_
  refine wpAny_BinOp ?_
  refine wpAny_List ?_
  refine wpAny_items_cons ?_
  refine wpAny_BinOp ?_
  refine wpAny_BinOp ?_
  refine wpAny_Constant_int ?_
  refine wpAny_Constant_int ?_
  refine pow_int_small (by decide) (by decide) (by decide) ?_
  refine wpAny_Constant_int ?_
  refine add_int ?_
  refine wpAny_items_cons ?_
  refine wpAny_BinOp ?_
  refine wpAny_BinOp ?_
  refine wpAny_Constant_int ?_
  refine wpAny_Constant_int ?_
  refine pow_int_small (by decide) (by decide) (by decide) ?_
  refine wpAny_Constant_int ?_
  refine add_int ?_
  refine wpAny_items_cons ?_
  refine wpAny_BinOp ?_
  refine wpAny_BinOp ?_
  refine wpAny_Constant_int ?_
  refine wpAny_Constant_int ?_
  refine pow_int_small (by decide) (by decide) (by decide) ?_
  refine wpAny_Constant_int ?_
  refine add_int ?_
  refine wpAny_items_cons ?_
  refine wpAny_Constant_int ?_
  refine wpAny_items_cons ?_
  refine wpAny_BinOp ?_
  refine wpAny_BinOp ?_
  refine wpAny_Constant_int ?_
  refine wpAny_Constant_int ?_
  refine pow_int_small (by decide) (by decide) (by decide) ?_
  refine wpAny_Constant_int ?_
  refine add_int ?_
  refine wpAny_items_cons ?_
  refine wpAny_BinOp ?_
  refine wpAny_BinOp ?_
  refine wpAny_Constant_int ?_
  refine wpAny_Constant_int ?_
  refine pow_int_small (by decide) (by decide) (by decide) ?_
  refine wpAny_Constant_int ?_
  refine add_int ?_
  refine wpAny_items_cons ?_
  refine wpAny_Constant_int ?_
  refine wpAny_items_nil ⟨by simp [sizeLine_eq], ?_⟩
  dsimp only
  generalize hH1 : s.heap.push _ = h₁
  have k₁ : s.heap.StaysIn h₁ := by rw [← hH1]; exact fun b o e => Heap.get?_push_of_some _ e
  have hl₁ := show h₁.IsList s.heap.objs.size _ from ⟨_, by rw [← hH1]; exact Heap.get?_push_size _ rfl, rfl, _, rfl⟩
  clear hH1
  have S₁ := S.stays k₁
  refine wpAny_Subscript_list_slice ?_
  refine ev_loc S₁.ns hm ?_
  rw [evalPart_some, evalPart_none]
  refine wpAny_pure ?_
  refine wpAny_Constant_int ?_
  refine ⟨sc, _, _, _, rfl, hsc'.at fun o e => k₁ _ o e, by simp [intsAre_len hns, sizeLine_eq]; omega, .none, .int _ _, ?_⟩
  dsimp only
  have e4 : slicePick as.toArray none (some (4 : Int)) none = (as.take 4).toArray := by simpa using slicePick_take as.toArray 4
  rw [e4]
  generalize hH3 : (h₁.push _).push _ = h₃
  have k₃ : h₁.StaysIn h₃ := by rw [← hH3]; exact fun b o e => Heap.get?_push_of_some _ (Heap.get?_push_of_some _ e)
  have hl₃ := show h₃.IsList (h₁.objs.size + 1) (List.toArray (as.take 4)) from ⟨_, by rw [← hH3, ← Heap.size_push h₁]; exact Heap.get?_push_size _ rfl, rfl, _, rfl⟩
  clear hH3
  have S₃ := S₁.stays k₃
  refine add_ll (hl₁.at fun o e => k₃ _ o e) hl₃ ?_ (by simp [sizeLine_eq]; omega)
  dsimp only
  generalize hH4 : h₃.push _ = h₄
  have k₄ : h₃.StaysIn h₄ := by rw [← hH4]; exact fun b o e => Heap.get?_push_of_some _ e
  have hl₄ := show h₄.IsList h₃.objs.size _ from ⟨_, by rw [← hH4]; exact Heap.get?_push_size _ rfl, rfl, _, rfl⟩
  clear hH4
  have off : Off P L h₃.objs.size := S₃.off (Heap.get?_none_of_le (Nat.le_refl _))
  refine wpAny_storeName_local rfl (S₃.stays k₄).ns (fun h₅ hn₅ hs₅ => ?_) rfl
  refine h h₅ _ _ h₃.objs.size _ ((S₃.stays k₄).store C hn₅ hs₅) rfl off (hl₄.at fun o e => kx_store hs₅ _ o off e) ?_
  unfold numsOf
  refine .cons _ _ (.cons _ _ (.cons _ _ (.cons _ _ (.cons _ _ (.cons _ _ (.cons _ _ ?_))))))
  exact hns.take 4
end
end Mine
/-! part V2 -/
namespace Mine
open PySem PySem.W PySem.Calls PyProof.Rows
open Sem (wp)

/-! ## short forms of the comprehensions -/
def Iterates (prog : Program) (w : World) (A : Around) (env : Env) (iter : Expr) (s : Shared) (n : Nat) (PV : Nat → Value → Prop) : Prop :=
  ∀ (E : Value → Shared → Prop) (Q : Value → Shared → Prop),
    (∀ h₂ tk I fp wr P St, Walks prog w A I fp wr n P St → St 0 h₂ → (∀ b ∈ fp, b < h₂.objs.size) → s.heap.StaysIn h₂ → (∀ b ∈ wr, s.heap.get? b = none) → (∀ i h, St i h → ∀ b ∈ wr, ∃ o, h.get? b = some o) →
      (∀ i v, i < n → P i v → PV i v) → Q (.ref I) { s with heap := h₂, toks := tk }) →
    wpAny (model prog w) A (eval iter env) (fun xv s₁ => wpAny (model prog w) A (pyIter xv) Q E s₁) E s

section
variable {prog : Program} {w : World} {A : Around} {E : Value → Shared → Prop} {s : Shared} {env : Env}

theorem range_at (i : Nat) : (0 : Int) + (i : Int) * 1 = (i : Int) := by omega
theorem Iterates.range {n : Int} {m : Nat} {iter : Expr} (hh : A.handled = none) (hn : n = (m : Int)) (hm : m ≤ 100000)
    (he : ∀ (E : Value → Shared → Prop) (Q : Value → Shared → Prop), (∀ t tk, wpAny (model prog w) A (call (.type "range") [.int n t]) Q E { s with toks := tk }) → wpAny (model prog w) A (eval iter env) Q E s) : Iterates prog w A env iter s m (fun i v => ∃ t, v = .int (i : Int) t) := fun E Q h => by
  refine he _ _ fun t tk₀ => ?_
  refine range_iter hn hm fun h' I tk hI ks h0 hle hlt => ?_
  refine h h' tk I [I] [I] _ _ (Walks.range hh I 0 1 m) (by simpa using hI) (fun b hb => ?_) ks (fun b hb => ?_) (fun i h x b hb => ?_) fun i v _ ⟨t, e⟩ => ⟨t, by rw [e, range_at]⟩
  · rw [List.mem_singleton] at hb; subst hb; exact hlt
  · rw [List.mem_singleton] at hb; subst hb; exact h0
  · rw [List.mem_singleton] at hb; subst hb; exact ⟨_, x⟩
theorem Iterates.robj {n : Int} {m : Nat} {r : Addr} {t u v : Tok} {iter : Expr} (hh : A.handled = none) (hr : IsRange s.heap r 0 n 1 t u v) (hn : n = (m : Int)) (hm : m ≤ 100000)
    (he : ∀ (E : Value → Shared → Prop) (Q : Value → Shared → Prop), Q (.ref r) s → wpAny (model prog w) A (eval iter env) Q E s) : Iterates prog w A env iter s m (fun i v => ∃ t, v = .int (i : Int) t) := fun E Q h => by
  refine he _ _ ?_
  refine range_obj_iter hr hn hm fun h' I hI ks h0 hle hlt => ?_
  refine h h' _ I [I] [I] _ _ (Walks.range hh I 0 1 m) (by simpa using hI) (fun b hb => ?_) ks (fun b hb => ?_) (fun i h x b hb => ?_) fun i v _ ⟨t, e⟩ => ⟨t, by rw [e, range_at]⟩
  · rw [List.mem_singleton] at hb; subst hb; exact hlt
  · rw [List.mem_singleton] at hb; subst hb; exact h0
  · rw [List.mem_singleton] at hb; subst hb; exact ⟨_, x⟩
theorem Iterates.list {l : Addr} {items : Array Value} {iter : Expr} (hh : A.handled = none) 
    (he : ∀ (E : Value → Shared → Prop) (Q : Value → Shared → Prop), (∀ h' tk, s.heap.StaysIn h' → h'.IsList l items → Q (.ref l) { s with heap := h', toks := tk }) → wpAny (model prog w) A (eval iter env) Q E s) : Iterates prog w A env iter s items.size (fun i v => items[i]? = some v) := fun E Q h => by
  refine he _ _ fun h₁ tk₁ k₁ hl => ?_
  refine list_iter hl fun h' I hI hl' ks h0 hle hlt hne => ?_
  have h0' : s.heap.get? I = none := by
    cases e : s.heap.get? I with
    | none => rfl
    | some o => have := k₁ _ _ e; dsimp only at h0; rw [h0] at this; cases this
  refine h h' _ I [I, l] [I] _ _ (Walks.list hh I l hne items) ⟨hI, hl'⟩ (fun b hb => ?_) (fun b o e => ks b o (k₁ b o e)) (fun b hb => ?_) (fun i h x b hb => ?_) fun i v _ e => e
  · rw [List.mem_cons, List.mem_singleton] at hb
    rcases hb with rfl | rfl
    · exact hlt
    · obtain ⟨o, a, _⟩ := hl'; exact ltg a
  · rw [List.mem_singleton] at hb; subst hb; exact h0'
  · rw [List.mem_singleton] at hb; subst hb; obtain ⟨⟨o, a, _⟩, _⟩ := x; exact ⟨_, a⟩

theorem not_mem_fresh {h : Heap} {wr : List Addr} (hw : ∀ b ∈ wr, h.get? b = none) {b : Addr} {o : Obj} (e : h.get? b = some o) : b ∉ wr := fun hm => by rw [hw b hm] at e; cases e
theorem fresh_of_stays {h h' : Heap} (k : h.StaysIn h') {b : Addr} (e : h'.get? b = none) : h.get? b = none := by
  cases q : h.get? b with
  | none => rfl
  | some o => rw [k _ _ q] at e; cases e

/-- results that need no heap -/
theorem compP {elt iter : Expr} {x : Str} {px : Pos} {scope : Scope} {cl : List (Str × Addr)} {pos : Pos} {n : Nat} {PV : Nat → Value → Prop} {Q : Value → Shared → Prop} (F : Nat → Value → Prop) (it : Iterates prog w A env iter s n PV) (hsz : n ≤ 1000)
    (helt : ∀ C i v s₃ m₃ (E' : Value → Shared → Prop), i < n → PV i v → s₃.heap.Ns C m₃ → m₃ x = some v → s.heap.StaysIn s₃.heap → wpAny (model prog w) A (eval elt (cenvG scope cl C env)) (fun y s₄ => F i y ∧ Keeps s₃ s₄) E' s₃)
    (hQ : ∀ D h' tk (ys : List Value), s.heap.get? D = none → h'.IsList D ys.toArray → Paired F (List.range n) ys → s.heap.StaysIn h' → Q (.ref D) { s with heap := h', toks := tk })
    (hclos : closureFor scope env = pure cl := by rfl) (hcell : ∀ y ∈ scope.names, y.2 ≠ .cell := by decide) (hkind : scope.kind = .function := by rfl)
    (hnames : ∀ y ∈ scope.names, y.2 = .local → scope.names.lookup y.1 = some .local := by decide) (hx : scope.names.lookup x = some .local := by rfl)
    (hs : ∀ x, foldedSetIterable iter env x = pure x := by intro _; rfl) :
    wpAny (model prog w) A (eval (.ListComp elt [⟨.Name x px, iter, [], 0⟩] scope pos) env) Q E s := by
  refine compL hclos hcell hkind hnames hx (it _ _ fun h₂ tk I fp wr P St W st fp' ks wf _ hp => ?_) hs
  refine ⟨I, fp, wr, n, P, St, fun i y _ => F i y, rfl, W, by rw [sizeLine_eq]; omega, st, fp', fun _ _ _ _ x _ => x, fun i v s₃ m₃ ys E' hi hP hst hn hm hl hk => ?_, fun h' tk' ys hl hp' hk => ?_⟩
  · exact helt _ i v s₃ m₃ E' hi (hp i v hi hP) hn hm fun b o e => hk b o (not_mem_fresh wf e) (ks b o e)
  · exact hQ _ _ _ ys (fresh_of_stays ks (Heap.get?_none_of_le (Nat.le_refl _))) hl hp' fun b o e => hk b o (not_mem_fresh wf e) (ks b o e)

/-- with a test -/
theorem compPT {elt iter test : Expr} {x : Str} {px : Pos} {scope : Scope} {cl : List (Str × Addr)} {pos : Pos} {n : Nat} {PV : Nat → Value → Prop} {Q : Value → Shared → Prop} (sel : Nat → Bool) (F : Nat → Value → Prop) (it : Iterates prog w A env iter s n PV) (hsz : n ≤ 1000)
    (helt : ∀ C i v s₃ m₃ (E' : Value → Shared → Prop), i < n → PV i v → s₃.heap.Ns C m₃ → m₃ x = some v → s.heap.StaysIn s₃.heap →
      wpAny (model prog w) A (isTrue test (cenvG scope cl C env) (eval test (cenvG scope cl C env))) (fun ok s₄ => ok = sel i ∧ Keeps s₃ s₄ ∧ (ok = true → wpAny (model prog w) A (eval elt (cenvG scope cl C env)) (fun y s₅ => F i y ∧ Keeps s₄ s₅) E' s₄)) E' s₃)
    (hQ : ∀ D h' tk (ys : List Value), s.heap.get? D = none → h'.IsList D ys.toArray → Paired F ((List.range n).filter sel) ys → s.heap.StaysIn h' → Q (.ref D) { s with heap := h', toks := tk })
    (hclos : closureFor scope env = pure cl := by rfl) (hcell : ∀ y ∈ scope.names, y.2 ≠ .cell := by decide) (hkind : scope.kind = .function := by rfl)
    (hnames : ∀ y ∈ scope.names, y.2 = .local → scope.names.lookup y.1 = some .local := by decide) (hx : scope.names.lookup x = some .local := by rfl)
    (hs : ∀ x, foldedSetIterable iter env x = pure x := by intro _; rfl) :
    wpAny (model prog w) A (eval (.ListComp elt [⟨.Name x px, iter, [test], 0⟩] scope pos) env) Q E s := by
  refine compLT hclos hcell hkind hnames hx (it _ _ fun h₂ tk I fp wr P St W st fp' ks wf _ hp => ?_) hs
  refine ⟨I, fp, wr, n, P, St, sel, fun i y _ => F i y, rfl, W, by rw [sizeLine_eq]; omega, st, fp', fun _ _ _ _ x _ => x, fun i v s₃ m₃ ys E' hi hP hst hn hm hl hk => ?_, fun h' tk' ys hl hp' hk => ?_⟩
  · exact helt _ i v s₃ m₃ E' hi (hp i v hi hP) hn hm fun b o e => hk b o (not_mem_fresh wf e) (ks b o e)
  · exact hQ _ _ _ ys (fresh_of_stays ks (Heap.get?_none_of_le (Nat.le_refl _))) hl hp' fun b o e => hk b o (not_mem_fresh wf e) (ks b o e)

/-- results that are fresh objects -/
theorem compH {elt iter : Expr} {x : Str} {px : Pos} {scope : Scope} {cl : List (Str × Addr)} {pos : Pos} {n : Nat} {PV : Nat → Value → Prop} {Q : Value → Shared → Prop} (F : Nat → Addr → Heap → Prop) (hF : ∀ i a h h', F i a h → (∀ o, h.get? a = some o → h'.get? a = some o) → F i a h') (it : Iterates prog w A env iter s n PV) (hsz : n ≤ 1000)
    (helt : ∀ C i v s₃ m₃ (E' : Value → Shared → Prop), i < n → PV i v → s₃.heap.Ns C m₃ → m₃ x = some v → s.heap.StaysIn s₃.heap →
      wpAny (model prog w) A (eval elt (cenvG scope cl C env)) (fun y s₄ => (∃ a, y = .ref a ∧ s₃.heap.get? a = none ∧ F i a s₄.heap) ∧ Keeps s₃ s₄) E' s₃)
    (hQ : ∀ D h' tk (ys : List Value), s.heap.get? D = none → h'.IsList D ys.toArray → Paired (fun i y => ∃ a, y = .ref a ∧ s.heap.get? a = none ∧ F i a h') (List.range n) ys → s.heap.StaysIn h' → Q (.ref D) { s with heap := h', toks := tk })
    (hclos : closureFor scope env = pure cl := by rfl) (hcell : ∀ y ∈ scope.names, y.2 ≠ .cell := by decide) (hkind : scope.kind = .function := by rfl)
    (hnames : ∀ y ∈ scope.names, y.2 = .local → scope.names.lookup y.1 = some .local := by decide) (hx : scope.names.lookup x = some .local := by rfl)
    (hs : ∀ x, foldedSetIterable iter env x = pure x := by intro _; rfl) :
    wpAny (model prog w) A (eval (.ListComp elt [⟨.Name x px, iter, [], 0⟩] scope pos) env) Q E s := by
  refine compL hclos hcell hkind hnames hx (it _ _ fun h₂ tk I fp wr P St W st fp' ks wf wx hp => ?_) hs
  dsimp only
  refine ⟨I, fp, wr, n, P, St, fun i y h => ∃ a, y = .ref a ∧ s.heap.get? a = none ∧ a ≠ h₂.objs.size ∧ a ≠ h₂.objs.size + 1 ∧ a ∉ wr ∧ F i a h, rfl, W, by rw [sizeLine_eq]; omega, st, fp', ?_, fun i v s₃ m₃ ys E' hi hP hst hn hm hl hk => ?_, fun h' tk' ys hl hp' hk => ?_⟩
  · rintro i y h h' ⟨a, rfl, a0, a1, a2, a3, hf⟩ hk
    exact ⟨a, rfl, a0, a1, a2, a3, hF i a h h' hf fun o e => hk a o a1 a2 a3 e⟩
  · have up : s.heap.StaysIn s₃.heap := fun b o e => hk b o (not_mem_fresh wf e) (ks b o e)
    refine wpAny_mono (helt _ i v s₃ m₃ E' hi (hp i v hi hP) hn hm up) (fun y s₄ h₄ => ?_) fun _ _ e => e
    obtain ⟨⟨a, rfl, a0, hf⟩, kk⟩ := h₄
    refine ⟨⟨a, rfl, fresh_of_stays up a0, ?_, ?_, ?_, hf⟩, kk⟩
    · rintro rfl; obtain ⟨o, e, _⟩ := hl; rw [show s₃.heap.get? h₂.objs.size = none from a0] at e; cases e
    · rintro rfl; obtain ⟨o, _, _, e, _⟩ := hn; rw [show s₃.heap.get? (h₂.objs.size + 1) = none from a0] at e; cases e
    · intro hm; obtain ⟨o, e⟩ := wx _ _ hst a hm; rw [a0] at e; cases e
  · refine hQ _ _ _ ys (fresh_of_stays ks (Heap.get?_none_of_le (Nat.le_refl _))) hl (paired_map (fun i y ⟨a, e, a0, _, _, _, hf⟩ => ⟨a, e, a0, hf⟩) hp') fun b o e => hk b o (not_mem_fresh wf e) (ks b o e)

/-- the name in a cell, results that are fresh objects -/
theorem compCH {elt iter : Expr} {x : Str} {px : Pos} {scope : Scope} {cl : List (Str × Addr)} {pos : Pos} {n : Nat} {PV : Nat → Value → Prop} {Q : Value → Shared → Prop} (F : Nat → Addr → Heap → Prop) (hF : ∀ i a h h', F i a h → (∀ o, h.get? a = some o → h'.get? a = some o) → F i a h') (it : Iterates prog w A env iter s n PV) (hsz : n ≤ 1000)
    (helt : ∀ C i v s₃ m₃ (E' : Value → Shared → Prop), i < n → PV i v → s₃.heap.Ns C m₃ → s₃.heap.IsCell (C + 1) (some v) → s.heap.StaysIn s₃.heap →
      wpAny (model prog w) A (eval elt (cenvG scope cl C env)) (fun y s₄ => (∃ a, y = .ref a ∧ s₃.heap.get? a = none ∧ F i a s₄.heap) ∧ Keeps s₃ s₄) E' s₃)
    (hQ : ∀ D h' tk (ys : List Value), s.heap.get? D = none → h'.IsList D ys.toArray → Paired (fun i y => ∃ a, y = .ref a ∧ s.heap.get? a = none ∧ F i a h') (List.range n) ys → s.heap.StaysIn h' → Q (.ref D) { s with heap := h', toks := tk })
    (hclos : closureFor scope env = pure cl := by rfl) (hown : ∀ C, ownCells scope C = [C + 1] := by intro _; rfl) (hkind : scope.kind = .function := by rfl)
    (hnames : ∀ y ∈ scope.names, y.2 = .local → scope.names.lookup y.1 = some .local := by decide) (hx : ∀ C, (cenvG scope cl C env).kindOf x = some .cell := by intro _; rfl) (hxc : ∀ C, (cenvG scope cl C env).cells.lookup x = some (C + 1) := by intro _; rfl)
    (hs : ∀ x, foldedSetIterable iter env x = pure x := by intro _; rfl) :
    wpAny (model prog w) A (eval (.ListComp elt [⟨.Name x px, iter, [], 0⟩] scope pos) env) Q E s := by
  refine compC hclos hown hkind hnames hx hxc (it _ _ fun h₂ tk I fp wr P St W st fp' ks wf wx hp => ?_) hs
  dsimp only
  refine ⟨I, fp, wr, n, P, St, fun i y h => ∃ a, y = .ref a ∧ s.heap.get? a = none ∧ a ≠ h₂.objs.size ∧ a ≠ h₂.objs.size + 1 ∧ a ≠ h₂.objs.size + 1 + 1 ∧ a ∉ wr ∧ F i a h, rfl, W, by rw [sizeLine_eq]; omega, st, fp', ?_, fun i v s₃ m₃ ys E' hi hP hst hn hc hl hk => ?_, fun h' tk' ys hl hp' hk => ?_⟩
  · rintro i y h h' ⟨a, rfl, a0, a1, a2, a3, a4, hf⟩ hk
    exact ⟨a, rfl, a0, a1, a2, a3, a4, hF i a h h' hf fun o e => hk a o a1 a2 a3 a4 e⟩
  · have up : s.heap.StaysIn s₃.heap := fun b o e => hk b o (not_mem_fresh wf e) (ks b o e)
    refine wpAny_mono (helt _ i v s₃ m₃ E' hi (hp i v hi hP) hn hc up) (fun y s₄ h₄ => ?_) fun _ _ e => e
    obtain ⟨⟨a, rfl, a0, hf⟩, kk⟩ := h₄
    refine ⟨⟨a, rfl, fresh_of_stays up a0, ?_, ?_, ?_, ?_, hf⟩, kk⟩
    · rintro rfl; obtain ⟨o, e, _⟩ := hl; rw [show s₃.heap.get? h₂.objs.size = none from a0] at e; cases e
    · rintro rfl; obtain ⟨o, _, _, e, _⟩ := hn; rw [show s₃.heap.get? (h₂.objs.size + 1) = none from a0] at e; cases e
    · rintro rfl; obtain ⟨o, e, _⟩ := hc; rw [show s₃.heap.get? (h₂.objs.size + 1 + 1) = none from a0] at e; cases e
    · intro hm; obtain ⟨o, e⟩ := wx _ _ hst a hm; rw [a0] at e; cases e
  · refine hQ _ _ _ ys (fresh_of_stays ks (Heap.get?_none_of_le (Nat.le_refl _))) hl (paired_map (fun i y ⟨a, e, a0, _, _, _, _, hf⟩ => ⟨a, e, a0, hf⟩) hp') fun b o e => hk b o (not_mem_fresh wf e) (ks b o e)

/-- under `wpOk` -/
theorem ok_compP {elt iter : Expr} {x : Str} {px : Pos} {scope : Scope} {cl : List (Str × Addr)} {pos : Pos} {n : Nat} {PV : Nat → Value → Prop} {Q : Value → Shared → Prop} (F : Nat → Value → Prop) (it : Iterates prog w A env iter s n PV) (hsz : n ≤ 1000) 
    (helt : ∀ C i v s₃ m₃, i < n → PV i v → s₃.heap.Ns C m₃ → m₃ x = some v → s.heap.StaysIn s₃.heap → wpOk (model prog w) A (eval elt (compEnvC scope cl C env)) (fun y s₄ => F i y ∧ Keeps s₃ s₄) (fun _ _ => False) s₃)
    (hQ : ∀ D h' tk (ys : List Value), s.heap.get? D = none → h'.IsList D ys.toArray → ys.length = n → (∀ j y, ys[j]? = some y → F j y) → s.heap.StaysIn h' → Q (.ref D) { s with heap := h', toks := tk })
    (hclos : closureFor scope env = pure cl := by rfl) (hcell : ∀ y ∈ scope.names, y.2 ≠ .cell := by decide) (hkind : scope.kind = .function := by rfl)
    (hnames : ∀ y ∈ scope.names, y.2 = .local → scope.names.lookup y.1 = some .local := by decide) (hx : scope.names.lookup x = some .local := by rfl)
    (hs : ∀ x, foldedSetIterable iter env x = pure x := by intro _; rfl) :
    wpOk (model prog w) A (eval (.ListComp elt [⟨.Name x px, iter, [], 0⟩] scope pos) env) Q E s := by
  refine ok_ListComp F hclos hcell hkind hnames hx (it _ _ fun h₂ tk I fp wr P St W st fp' ks wf _ hp => ?_) hs
  refine ⟨I, fp, wr, n, _, St, rfl, W.bound, by rw [sizeLine_eq]; omega, st, fp', fun C i v s₃ m₃ _ hP hn hm hk => ?_, fun D h' tk' ys hD hl hlen hp' hk => ?_⟩
  · exact helt C i v s₃ m₃ hP.1 (hp i v hP.1 hP.2) hn hm fun b o e => hk b o (not_mem_fresh wf e) (ks b o e)
  · exact hQ D _ _ ys (fresh_of_stays ks hD) hl hlen hp' fun b o e => hk b o (not_mem_fresh wf e) (ks b o e)

/-- two clauses over a range object -/
theorem comp2P {elt iter1 iter2 : Expr} {x1 x2 : Str} {px1 px2 : Pos} {scope : Scope} {cl : List (Str × Addr)} {pos : Pos} {m : Nat} {n : Int} {r : Addr} {tr ur vr : Tok} {Q : Value → Shared → Prop} (F : Nat → Nat → Value → Prop) (hh : A.handled = none)
    (hr : IsRange s.heap r 0 n 1 tr ur vr) (hn : n = (m : Int)) (hsz : m ≤ 30)
    (he1 : ∀ (E : Value → Shared → Prop) (Q : Value → Shared → Prop), Q (.ref r) s → wpAny (model prog w) A (eval iter1 env) Q E s)
    (he2 : ∀ C s₃ m₃ (E : Value → Shared → Prop) (Q : Value → Shared → Prop), s₃.heap.Ns C m₃ → s.heap.StaysIn s₃.heap → Q (.ref r) s₃ → wpAny (model prog w) A (eval iter2 (compEnvC scope cl C env)) Q E s₃)
    (helt : ∀ C i k t u s₃ m₃ (E' : Value → Shared → Prop), i < m → k < m → s₃.heap.Ns C m₃ → m₃ x1 = some (.int (i : Nat) t) → m₃ x2 = some (.int (k : Nat) u) → s.heap.StaysIn s₃.heap →
      wpAny (model prog w) A (eval elt (compEnvC scope cl C env)) (fun y s₄ => F i k y ∧ Keeps s₃ s₄) E' s₃)
    (hQ : ∀ D h' tk (ys : List Value), s.heap.get? D = none → h'.IsList D ys.toArray → ys.length = m * m → (∀ i k y, i < m → k < m → ys[i * m + k]? = some y → F i k y) → s.heap.StaysIn h' → Q (.ref D) { s with heap := h', toks := tk })
    (hclos : closureFor scope env = pure cl := by rfl) (hcell : ∀ y ∈ scope.names, y.2 ≠ .cell := by decide) (hkind : scope.kind = .function := by rfl)
    (hnames : ∀ y ∈ scope.names, y.2 = .local → scope.names.lookup y.1 = some .local := by decide) (hx1 : scope.names.lookup x1 = some .local := by rfl) (hx2 : scope.names.lookup x2 = some .local := by rfl) (h12 : x1 ≠ x2 := by decide)
    (hs : ∀ x, foldedSetIterable iter1 env x = pure x := by intro _; rfl) (hs2 : ∀ C x, foldedSetIterable iter2 (compEnvC scope cl C env) x = pure x := by intro _ _; rfl) :
    wpAny (model prog w) A (eval (.ListComp elt [⟨.Name x1 px1, iter1, [], 0⟩, ⟨.Name x2 px2, iter2, [], 0⟩] scope pos) env) Q E s := by
  refine comp2 F m hh hclos hcell hkind hnames hx1 hx2 h12 (Iterates.robj hh hr hn (by omega) he1 _ _ fun h₂ tk I fp wr P St W st fp' ks wf _ hp => ?_) hs hs2
  refine ⟨I, fp, wr, m, P, St, rfl, W, by have : m * m ≤ 30 * 30 := Nat.mul_le_mul hsz hsz
                                          rw [sizeLine_eq]; omega, st, fp', fun C i v s₃ m₃ E' hC hi hP hn3 hm hk => ?_, fun C i v k t s₃ m₃ E' hC hi hP hk3 hn3 hm hm2 hk => ?_, fun D h' tk' ys hD hl hlen hp' hk => ?_⟩
  · have up : s.heap.StaysIn s₃.heap := fun b o e => hk b o (not_mem_fresh wf e) (ks b o e)
    refine he2 C s₃ m₃ _ _ hn3 up ?_
    refine range_obj_iter (up _ _ hr) hn (by omega) fun h' I2 hI ks2 h0 _ _ => ⟨I2, rfl, ⟨_, _, rfl, ks2⟩, h0, hI⟩
  · obtain ⟨u, rfl⟩ := hp i v hi hP
    exact helt C i k u t s₃ m₃ E' hi hk3 hn3 hm hm2 fun b o e => hk b o (not_mem_fresh wf e) (ks b o e)
  · exact hQ D _ _ ys (fresh_of_stays ks hD) hl hlen hp' fun b o e => hk b o (not_mem_fresh wf e) (ks b o e)
end
end Mine
/-! part V3 -/
namespace Mine
open PySem PySem.W PySem.Calls PyProof.Rows
open Sem (wp)

theorem paired_get {α β : Type} {F : α → β → Prop} : ∀ {l : List α} {ys : List β}, Paired F l ys → ∀ {i : Nat} {a : α}, l[i]? = some a → ∃ y, ys[i]? = some y ∧ F a y
  | _, _, .nil, i, a, e => by simp at e
  | _, _, .cons x t, 0, a, e => by simp at e; subst e; exact ⟨_, rfl, x⟩
  | _, _, .cons x t, i + 1, a, e => by simpa using paired_get t (by simpa using e)
def refOf : Value → Addr
  | .ref a => a
  | _ => 0
theorem paired_refs {n : Nat} {G : Nat → Addr → Prop} {ys : List Value} (h : Paired (fun i y => ∃ a, y = .ref a ∧ G i a) (List.range n) ys) :
    ∃ rows : Nat → Addr, ys = (List.range n).map (fun i => Value.ref (rows i)) ∧ ∀ i, i < n → G i (rows i) := by
  have at_ : ∀ i, i < n → ∃ a, ys[i]? = some (.ref a) ∧ G i a := fun i hi => by
    obtain ⟨y, e, a, rfl, g⟩ := paired_get h (show (List.range n)[i]? = some i by simp [hi])
    exact ⟨a, e, g⟩
  refine ⟨fun i => refOf (ys.getD i .none), ?_, fun i hi => ?_⟩
  · apply List.ext_getElem?
    intro i
    by_cases hi : i < n
    · obtain ⟨a, e, _⟩ := at_ i hi
      rw [e]
      simp [hi, List.getD_eq_getElem?_getD, e, refOf]
    · rw [List.getElem?_eq_none (by rw [← h.length]; simp; omega), List.getElem?_eq_none (by simp; omega)]
  · obtain ⟨a, e, g⟩ := at_ i hi
    simp only [List.getD_eq_getElem?_getD, e, Option.getD_some, refOf]
    exact g

section
variable {prog : Program} {w : World} {A : Around} {E : Value → Shared → Prop} {s : Shared} {B : Heap} {ps : Array Value} {P L f : Addr} {cd : Value} {m : Str → Option Value} {cv : Nat → Option Value}

theorem seg1 (C : LawC B P L) (R : Room 1 A) {a : Addr} {as : List Value} {xs : List Int} {Q : Flow → Shared → Prop} (S : LawSt B ps P L m cv s.heap) (hm : m "numbers" = some (.ref a)) (ha : s.heap.IsList a as.toArray) (hxs : IntsAre as xs) (hz : xs.length ≤ 30)
    (h : ∀ h' tk l rows, LawSt B ps P L m (fun j => if j = 5 then some (.ref l) else cv j) h' → RowsN P L h' l xs rows → Kx P L s.heap h' → Q .next { s with heap := h', toks := tk }) :
    wpAny (model prog w) A (exec (lawStmt 1) (lawEnv L f cd)) Q E s := by
  have hlen := intsAre_len hxs
  refine wpAny_Assign_Name ?_
  refine compH (fun i a h => ∃ vs, h.IsList a (List.toArray vs) ∧ IntsAre vs (fieldsOf' (xs.getD i 0))) (fun i a h h' ⟨vs, hl, hi⟩ hk => ⟨vs, hl.at hk, hi⟩) (Iterates.list (l := a) (items := as.toArray) R.handled fun E Q hq => ?_) (by simp; omega) (fun C₃ i v s₃ m₃ E' hi hv hn hm₃ hk => ?_) fun D h' tk ys hD hl hp hk => ?_
  · exact ev_loc S.ns hm (hq _ _ (fun _ _ e => e) ha)
  · have hi' : i < xs.length := by simpa [hlen] using hi
    obtain ⟨t, e⟩ := intsAre_get hxs i xs[i] (by simp [hi'])
    have : as.toArray[i]? = some v := hv
    rw [List.getElem?_toArray, e] at this
    cases this
    have G := (S.g C).keeps hk
    obtain ⟨ff, g1, g2⟩ := G.fields
    refine ev_callF g1 g2 ?_
    refine spliced_more ?_
    refine ev_loc hn hm₃ ?_
    refine spliced_none ⟨fun _ _ e => e, ?_⟩
    refine fields_call g2 G.limit R G.kinds fun h₄ T vs tk k4 hT hl hi => ?_
    exact ⟨⟨T, rfl, hT, vs, hl, by rw [List.getD_eq_getElem?_getD, List.getElem?_eq_getElem hi']; exact hi⟩, _, _, rfl, k4⟩
  · obtain ⟨rows, rfl, hr⟩ := paired_refs hp
    have S' := S.stays hk
    refine wpAny_storeName_cell (c := L + 1 + 5) rfl rfl rfl (S'.cell 5 (by decide)) fun h₅ hc₅ hs₅ => ?_
    have kx := kx_storeC (P := P) (L := L) (i := 5) (by decide) hs₅
    refine h h₅ _ D rows (S'.storeC C hc₅ hs₅) ⟨S.off hD, ?_, fun i hi => ?_⟩ ((Kx.of_stays hk).trans kx)
    · rw [List.size_toArray, hlen] at hl
      exact hl.at fun o e => kx _ o (S.off hD) e
    · obtain ⟨r0, vs, hl2, hi2⟩ := hr i (by simpa [hlen] using hi)
      exact ⟨S.off r0, vs, hl2.at fun o e => kx _ o (S.off r0) e, hi2⟩
end
end Mine
/-! part V4 -/
namespace Mine
open PySem PySem.W PySem.Calls PyProof.Rows
open Sem (wp)

def cols (xs : List Int) (b : Bool) : List Bs := (List.range 3).map fun j => byteArr (colNs xs j b)

theorem paired_bs {n : Nat} {g : Nat → Bs} {ys : List Value} (h : Paired (fun i y => ∃ t, y = .bytes (g i) t) (List.range n) ys) : BsAre ys ((List.range n).map g) := by
  refine BsAre.make (by rw [← h.length]; simp) fun i v b hv hb => ?_
  have hi : i < n := by
    rcases Nat.lt_or_ge i n with q | q
    · exact q
    · rw [List.getElem?_eq_none (by simp; omega)] at hb; cases hb
  obtain ⟨y, e, t, rfl⟩ := paired_get h (show (List.range n)[i]? = some i by simp [hi])
  rw [e] at hv; cases hv
  have : b = g i := by simp [hi] at hb; exact hb.symm
  exact ⟨t, by rw [this]⟩

section
variable {prog : Program} {w : World} {A : Around} {E : Value → Shared → Prop} {s : Shared} {B : Heap} {ps : Array Value} {P L f : Addr} {cd : Value} {m : Str → Option Value} {cv : Nat → Option Value}

theorem seg2 (C : LawC B P L) (R : Room 1 A) {l : Addr} {xs : List Int} {rows : Nat → Addr} {Q : Flow → Shared → Prop} (S : LawSt B ps P L m cv s.heap) (hm : cv 5 = some (.ref l)) (hR : RowsN P L s.heap l xs rows) (hz : xs.length ≤ 30)
    (h : ∀ h' tk m' lo hi, LawSt B ps P L m' (fun j => if j = 0 then some (.ref lo) else cv j) h' → m' = (fun z : Str => if z = "high" then some (.ref hi) else m z) → BsAt P L h' lo (cols xs false) → BsAt P L h' hi (cols xs true) → Kx P L s.heap h' → Q .next { s with heap := h', toks := tk }) :
    wpAny (model prog w) A (exec (lawStmt 2) (lawEnv L f cd)) Q E s := by
  refine Assign_Tuple ?_
  refine compCH (fun i a h => ∃ us, h.IsList a (List.toArray us) ∧ BsAre us (cols xs (i == 1))) (fun i a h h' ⟨vs, hl, hi⟩ hk => ⟨vs, hl.at hk, hi⟩) (Iterates.list (l := s.heap.objs.size) (items := #[.bool false, .bool true]) R.handled fun E Q hq => ?_) (by decide) (fun C₃ i v s₃ m₃ E' hi hv hn hc₃ hk => ?_) fun D h' tk ys hD hl hp hk => ?_
  · refine wpAny_List ?_
    refine wpAny_items_cons ?_
    refine wpAny_Constant_bool ?_
    refine wpAny_items_cons ?_
    refine wpAny_Constant_bool ?_
    refine wpAny_items_nil ⟨by simp [sizeLine_eq], ?_⟩
    exact hq _ _ (fun b o e => Heap.get?_push_of_some _ e) ⟨_, Heap.get?_push_size _ rfl, rfl, _, rfl⟩
  · have hb : v = .bool (i == 1) := by
      have hi2 : i < 2 := hi
      match i, hi2 with
      | 0, _ => exact (Option.some.inj hv).symm
      | 1, _ => exact (Option.some.inj hv).symm
    subst hb
    have G := (S.g C).keeps hk
    have cf := ((S.cell 5 (by decide)).keeps hk)
    rw [hm] at cf
    have hR₃ := hR.kx (Kx.of_stays hk)
    refine compP (fun j y => ∃ t, y = .bytes (byteArr (colNs xs j (i == 1))) t) (Iterates.range (n := 3) (m := 3) R.handled rfl (by decide) fun E Q hq => ?_) (by decide) (fun C₄ j v s₄ m₄ E'' hj hv hn₄ hm₄ hk₄ => ?_) fun D h' tk ys hD hl hp hk => ?_
    · refine ev_callT G.range ?_
      refine spliced_more ?_
      refine wpAny_Constant_int ?_
      exact spliced_none (hq _ _)
    · obtain ⟨t, rfl⟩ := hv
      have G₄ := G.keeps hk₄
      obtain ⟨ff, g1, g2⟩ := G₄.column
      refine ev_callF g1 g2 ?_
      refine spliced_more ?_
      refine ev_cell (cf.keeps hk₄) ?_
      refine spliced_more ?_
      refine ev_loc hn₄ hm₄ ?_
      refine spliced_more ?_
      refine ev_cell (hc₃.keeps hk₄) ?_
      refine spliced_none ⟨fun _ _ e => e, ?_⟩
      refine column_call g2 G₄.limit R G₄.range G₄.bytes (hR₃.kx (Kx.of_stays hk₄)).rowsAt hj rfl (by omega) fun h₅ t₅ tk₅ k₅ => ?_
      exact ⟨⟨_, rfl⟩, _, _, rfl, k₅⟩
    · exact ⟨⟨D, rfl, hD, ys, hl, paired_bs hp⟩, _, _, rfl, hk⟩
  · obtain ⟨rs, rfl, hr⟩ := paired_refs hp
    obtain ⟨f0, us0, hl0, hb0⟩ := hr 0 (by decide)
    obtain ⟨f1, us1, hl1, hb1⟩ := hr 1 (by decide)
    have S' := S.stays hk
    rw [arm_assign_Tuple]
    refine wpAny_bind (wpAny_standAt ?_)
    unfold unpack
    refine wpAny_bind (wpAny_holding ?_)
    refine unpack_list2 R.handled hl fun h₁ tk₁ k₁ => ?_
    have S₁ := S'.stays k₁
    refine assignInOrder_cons ?_
    refine assign_Name ?_
    refine wpAny_storeName_cell (c := L + 1 + 0) rfl rfl rfl (S₁.cell 0 (by decide)) fun h₅ hc₅ hs₅ => ?_
    have kx₅ := kx_storeC (P := P) (L := L) (i := 0) (by decide) hs₅
    have S₅ := S₁.storeC C hc₅ hs₅
    refine assignInOrder_cons ?_
    refine assign_Name ?_
    refine wpAny_storeName_local rfl S₅.ns (fun h₆ hn₆ hs₆ => ?_) rfl
    have kx₆ := kx_store (P := P) hs₆
    refine assignInOrder_nil ?_
    have kx := (Kx.of_stays k₁).trans (kx₅.trans kx₆)
    exact h h₆ _ _ (rs 0) (rs 1) (S₅.store C hn₆ hs₆) rfl ⟨S.off f0, us0, hl0.at fun o e => kx _ o (S.off f0) e, hb0⟩ ⟨S.off f1, us1, hl1.at fun o e => kx _ o (S.off f1) e, hb1⟩ ((Kx.of_stays hk).trans kx)
end
end Mine
/-! part P1 -/
namespace Mine
open PySem PySem.W PySem.Calls PyProof.Rows PySem.SeqAt
open Sem (wp)

theorem wdN_pos {j : Nat} (hj : j < 3) : 0 < wdN j ∧ wdN j ≤ 5 := by
  match j, hj with
  | 0, _ => decide
  | 1, _ => decide
  | 2, _ => decide
theorem col_size (xs : List Int) (j : Nat) (b : Bool) : (byteArr (colNs xs j b)).size = xs.length * wdN j := by
  rw [byteArr_size]; simp [colNs]
theorem col_small {xs : List Int} {j : Nat} (hj : j < 3) (hz : xs.length ≤ 30) (b : Bool) : (byteArr (colNs xs j b)).size ≤ 1000 := by
  have : xs.length * wdN j ≤ 30 * 5 := Nat.mul_le_mul hz (wdN_pos hj).2
  rw [col_size]; omega
theorem col_get (xs : List Int) (j : Nat) (b : Bool) {p : Nat} (hp : p < xs.length * wdN j) : (byteArr (colNs xs j b))[p]? = some (colInt xs j b p).toNat.toUInt8 := by
  unfold byteArr colNs
  simp [hp]
theorem swap_col (xs : List Int) {j : Nat} (hj : j < 3) (b : Bool) : swapB (byteArr (colNs xs j b)) (wdN j) = byteArr (colNs xs j (!b)) := by
  obtain ⟨w0, _⟩ := wdN_pos hj
  apply Array.ext_getElem?
  intro p
  by_cases hp : p < xs.length * wdN j
  · have hm := Nat.mod_lt p w0
    have hd : p / wdN j < xs.length := Nat.div_lt_of_lt_mul (by rw [Nat.mul_comm]; exact hp)
    have hq : p / wdN j * wdN j + (wdN j - 1 - p % wdN j) < xs.length * wdN j := by
      have : (p / wdN j + 1) * wdN j ≤ xs.length * wdN j := Nat.mul_le_mul_right _ hd
      rw [Nat.add_mul] at this; omega
    have q1 : (p / wdN j * wdN j + (wdN j - 1 - p % wdN j)) / wdN j = p / wdN j := by
      rw [Nat.mul_comm, Nat.mul_add_div w0, Nat.div_eq_of_lt (show wdN j - 1 - p % wdN j < wdN j by omega), Nat.add_zero]
    have q2 : (p / wdN j * wdN j + (wdN j - 1 - p % wdN j)) % wdN j = wdN j - 1 - p % wdN j := by
      rw [Nat.mul_comm, Nat.mul_add_mod, Nat.mod_eq_of_lt (by omega)]
    rw [col_get xs j (!b) hp]
    unfold swapB
    rw [Array.getElem?_ofFn]
    rw [dif_pos (by rw [col_size]; exact hp)]
    congr 1
    have := col_get xs j b hq
    rw [Array.getD_eq_getD_getElem?, this, Option.getD_some]
    congr 2
    unfold colInt
    rw [q1, q2]
    cases b
    · simp
    · simp only [Bool.not_true, if_true, Bool.false_eq_true, if_false]
      rw [show wdN j - 1 - (wdN j - 1 - p % wdN j) = p % wdN j by omega]
  · rw [Array.getElem?_eq_none (by simp [swapB, col_size]; omega), Array.getElem?_eq_none (by rw [col_size]; omega)]
theorem cols_get (xs : List Int) (b : Bool) {j : Nat} (hj : j < 3) : (cols xs b)[j]? = some (byteArr (colNs xs j b)) := by simp [cols, hj]
theorem cols_len (xs : List Int) (b : Bool) : (cols xs b).length = 3 := by simp [cols]

theorem bs_of_get {n : Nat} {g : Nat → Bs} {ys : List Value} (hl : ys.length = n) (h : ∀ j y, ys[j]? = some y → ∃ t, y = Value.bytes (g j) t) : BsAre ys ((List.range n).map g) := by
  refine BsAre.make (by simp [hl]) fun i v b hv hb => ?_
  obtain ⟨t, rfl⟩ := h i v hv
  have hi : i < n := by
    rcases Nat.lt_or_ge i n with q | q
    · exact q
    · rw [List.getElem?_eq_none (by simp; omega)] at hb; cases hb
  have : b = g i := by simp [hi] at hb; exact hb.symm
  exact ⟨t, by rw [this]⟩

section
variable {prog : Program} {w : World} {A : Around} {E : Value → Shared → Prop} {s : Shared}
theorem ne_lists_same {l b : Addr} {us vs : List Value} {Q : Value → Shared → Prop} (hl : s.heap.IsList l us.toArray) (hb : s.heap.IsList b vs.toArray) (hlen : us.length = vs.length) (hu : A.units < cLine)
    (he : ∀ (j : Nat) x y, us[j]? = some x → vs[j]? = some y → EqAt A.in1 s x y true) (h : Q (.bool false) s) : wpAny (model prog w) A (compareOp .NotEq (.ref l) (.ref b)) Q E s := by
  show wpAny _ _ (richCompare .NotEq (.ref l) (.ref b)) _ _ _
  refine RcNeAt.lists (e := fun _ => true) hl hb (by simpa using hlen) hu (fun j h1 h2 => he j _ _ (by simp) (by simp)) _ _ _ _ ?_
  rw [show (List.range us.toArray.size).all (fun _ => true) = true by simp]
  exact h
theorem ne_bs_same {l b : Addr} {us vs : List Value} {bs : List Bs} {Q : Value → Shared → Prop} (hl : s.heap.IsList l us.toArray) (hb : s.heap.IsList b vs.toArray) (h1 : BsAre us bs) (h2 : BsAre vs bs) (hu : A.units < cLine)
    (h : Q (.bool false) s) : wpAny (model prog w) A (compareOp .NotEq (.ref l) (.ref b)) Q E s := by
  refine ne_lists_same hl hb (by rw [h1.len, h2.len]) hu (fun j x y hx hy => ?_) h
  obtain ⟨c, t, rfl, e1⟩ := h1.getV hx
  obtain ⟨d, u, rfl, e2⟩ := h2.getV hy
  rw [e1] at e2; cases e2
  have := eqAt_bytes (A := A.in1) (s := s) (b := c) (c := c) (t := t) (u := u)
  rw [decide_eq_true rfl] at this
  exact this
end
end Mine
/-! part V5 -/
namespace Mine
open PySem PySem.W PySem.Calls PyProof.Rows PySem.SeqAt
open Sem (wp)

section
variable {prog : Program} {w : World} {A : Around} {E : Value → Shared → Prop} {s : Shared} {B : Heap} {ps : Array Value} {P L f : Addr} {cd : Value} {m : Str → Option Value} {cv : Nat → Option Value}

theorem seg3 (C : LawC B P L) (R : Room 1 A) {lo : Addr} {xs : List Int} {Q : Flow → Shared → Prop} (S : LawSt B ps P L m cv s.heap) (hm : cv 0 = some (.ref lo)) (hlo : BsAt P L s.heap lo (cols xs false)) (hz : xs.length ≤ 30)
    (h : ∀ h' tk tu, LawSt B ps P L m (fun j => if j = 1 then some (.ref tu) else cv j) h' → BsAt P L h' tu (cols xs true) → Kx P L s.heap h' → Q .next { s with heap := h', toks := tk }) :
    wpOk (model prog w) A (exec (lawStmt 3) (lawEnv L f cd)) Q E s := by
  refine ok_Assign_Name ?_
  obtain ⟨off, us, hl, hb⟩ := hlo
  refine ok_compP (fun j y => ∃ t, y = .bytes (byteArr (colNs xs j true)) t) (Iterates.range (n := 3) (m := 3) R.handled rfl (by decide) fun E Q hq => ?_) (by decide) (fun C₃ j v s₃ m₃ hj hv hn hm₃ hk => ?_) fun D h' tk ys hD hl hlen hp hk => ?_
  · refine ev_callT (S.g C).range ?_
    refine spliced_more ?_
    refine wpAny_Constant_int ?_
    exact spliced_none (hq _ _)
  · obtain ⟨t, rfl⟩ := hv
    obtain ⟨ji, hji⟩ : ∃ ji : Int, ji = (j : Int) := ⟨_, rfl⟩
    rw [← hji] at hm₃
    have G := (S.g C).keeps hk
    obtain ⟨ff, g1, g2⟩ := G.swap
    have c0 := (S.cell 0 (by decide)).keeps hk
    rw [hm] at c0
    obtain ⟨w0, w5⟩ := wdN_pos hj
    obtain ⟨wi, hwi⟩ : ∃ wi : Int, wi = (wdN j : Int) := ⟨_, rfl⟩
    refine ok_callF g1 g2 ?_
    refine spliced_more ?_
    refine Subscript_ ?_
    refine ev_cell c0 ?_
    refine ev_loc hn hm₃ ?_
    refine item_bs (hl.at fun o e => hk _ o e) hb (by omega) (by omega) (b := byteArr (colNs xs j false)) (by rw [hji, Int.toNat_natCast]; exact cols_get xs false hj) fun tb => ?_
    refine spliced_more ?_
    refine Subscript_ ?_
    refine wpAny_List ?_
    refine wpAny_items_cons ?_
    refine wpAny_Constant_int ?_
    refine wpAny_items_cons ?_
    refine wpAny_Constant_int ?_
    refine wpAny_items_cons ?_
    refine wpAny_Constant_int ?_
    refine wpAny_items_nil ⟨by simp [sizeLine_eq], ?_⟩
    dsimp only
    have kp : ∀ o, s₃.heap.StaysIn (s₃.heap.push o) := fun o b o' e => Heap.get?_push_of_some _ e
    refine ev_loc (hn.keeps (kp _)) hm₃ ?_
    refine item_int (n := wi) ⟨_, Heap.get?_push_size _ rfl, rfl, _, rfl⟩ (by omega) (by omega) (by subst hji hwi; match j, hj with | 0, _ => exact ⟨_, rfl⟩ | 1, _ => exact ⟨_, rfl⟩ | 2, _ => exact ⟨_, rfl⟩) fun tw => ?_
    refine spliced_none ⟨kp _, ?_⟩
    have G₄ := G.keeps (kp { cls := .type "list", data := .seq (List.toArray [.int 2 s₃.toks, .int 3 (s₃.toks + 1), .int 5 (s₃.toks + 1 + 1)]) })
    refine swap_call (n := xs.length) (g2.keeps (kp _)) G₄.limit R G₄.bytearray G₄.len G₄.range G₄.bytes w0 hwi (col_size xs j false) (col_small hj hz _) (by omega) fun h₅ k₅ tk₅ s₅ => ?_
    rw [swap_col xs hj]
    exact ⟨⟨_, rfl⟩, _, _, rfl, fun b o e => s₅ b o (kp _ b o e)⟩
  · have S' := S.stays hk
    refine wpAny_storeName_cell (c := L + 1 + 1) rfl rfl rfl (S'.cell 1 (by decide)) fun h₅ hc₅ hs₅ => ?_
    have kx := kx_storeC (P := P) (L := L) (i := 1) (by decide) hs₅
    exact h h₅ _ D (S'.storeC C hc₅ hs₅) ⟨S.off hD, ys, hl.at fun o e => kx _ o (S.off hD) e, bs_of_get hlen hp⟩ ((Kx.of_stays hk).trans kx)

theorem seg4 (C : LawC B P L) (R : Room 1 A) {lo tu hi : Addr} {xs : List Int} {Q : Flow → Shared → Prop} (S : LawSt B ps P L m cv s.heap) (hm0 : cv 0 = some (.ref lo)) (hm1 : cv 1 = some (.ref tu)) (hm : m "high" = some (.ref hi))
    (hlo : BsAt P L s.heap lo (cols xs false)) (htu : BsAt P L s.heap tu (cols xs true)) (hhi : BsAt P L s.heap hi (cols xs true)) (hz : xs.length ≤ 30)
    (h : ∀ h' tk, LawSt B ps P L m cv h' → Kx P L s.heap h' → Q .next { s with heap := h', toks := tk }) :
    wpOk (model prog w) A (exec (lawStmt 4) (lawEnv L f cd)) Q E s := by
  obtain ⟨_, us0, hl0, hb0⟩ := hlo
  obtain ⟨_, us1, hl1, hb1⟩ := htu
  obtain ⟨_, us2, hl2, hb2⟩ := hhi
  have c0 := S.cell 0 (by decide)
  rw [hm0] at c0
  have c1 := S.cell 1 (by decide)
  rw [hm1] at c1
  have hu : A.units < cLine := by have := R.units; omega
  refine ok_If ?_
  refine ok_isTrue_or ?_
  refine ok_isTrue_Compare1 ?_
  refine wpOk_of (ev_cell c1 ?_)
  refine wpOk_of (ev_loc S.ns hm ?_)
  refine wpOk_of (ne_bs_same hl1 hl2 hb1 hb2 hu ?_)
  refine wpOk_of (wpAny_truthy_bool ?_)
  rw [if_neg (by decide)]
  refine ok_isTrue_or ?_
  refine ok_isTrue_Compare1 ?_
  refine ok_compP (fun j y => ∃ t, y = .bytes (byteArr (colNs xs j false)) t) (Iterates.range (n := 3) (m := 3) R.handled rfl (by decide) fun E Q hq => ?_) (by decide) (fun C₃ j v s₃ m₃ hj hv hn hm₃ hk => ?_) fun D h' tk ys hD hl hlen hp hk => ?_
  · refine ev_callT (S.g C).range ?_
    refine spliced_more ?_
    refine wpAny_Constant_int ?_
    exact spliced_none (hq _ _)
  · obtain ⟨t, rfl⟩ := hv
    obtain ⟨ji, hji⟩ : ∃ ji : Int, ji = (j : Int) := ⟨_, rfl⟩
    rw [← hji] at hm₃
    have G := (S.g C).keeps hk
    obtain ⟨ff, g1, g2⟩ := G.swap
    obtain ⟨w0, w5⟩ := wdN_pos hj
    obtain ⟨wi, hwi⟩ : ∃ wi : Int, wi = (wdN j : Int) := ⟨_, rfl⟩
    refine ok_callF g1 g2 ?_
    refine spliced_more ?_
    refine Subscript_ ?_
    refine ev_cell (c1.keeps hk) ?_
    refine ev_loc hn hm₃ ?_
    refine item_bs (hl1.at fun o e => hk _ o e) hb1 (by omega) (by omega) (b := byteArr (colNs xs j true)) (by rw [hji, Int.toNat_natCast]; exact cols_get xs true hj) fun tb => ?_
    refine spliced_more ?_
    refine Subscript_ ?_
    refine wpAny_List ?_
    refine wpAny_items_cons ?_
    refine wpAny_Constant_int ?_
    refine wpAny_items_cons ?_
    refine wpAny_Constant_int ?_
    refine wpAny_items_cons ?_
    refine wpAny_Constant_int ?_
    refine wpAny_items_nil ⟨by simp [sizeLine_eq], ?_⟩
    dsimp only
    have kp : ∀ o, s₃.heap.StaysIn (s₃.heap.push o) := fun o b o' e => Heap.get?_push_of_some _ e
    refine ev_loc (hn.keeps (kp _)) hm₃ ?_
    refine item_int (n := wi) ⟨_, Heap.get?_push_size _ rfl, rfl, _, rfl⟩ (by omega) (by omega) (by subst hji hwi; match j, hj with | 0, _ => exact ⟨_, rfl⟩ | 1, _ => exact ⟨_, rfl⟩ | 2, _ => exact ⟨_, rfl⟩) fun tw => ?_
    refine spliced_none ⟨kp _, ?_⟩
    have G₄ := G.keeps (kp { cls := .type "list", data := .seq (List.toArray [.int 2 s₃.toks, .int 3 (s₃.toks + 1), .int 5 (s₃.toks + 1 + 1)]) })
    refine swap_call (n := xs.length) (g2.keeps (kp _)) G₄.limit R G₄.bytearray G₄.len G₄.range G₄.bytes w0 hwi (col_size xs j true) (col_small hj hz _) (by omega) fun h₅ k₅ tk₅ s₅ => ?_
    rw [swap_col xs hj]
    exact ⟨⟨_, rfl⟩, _, _, rfl, fun b o e => s₅ b o (kp _ b o e)⟩
  · have S' := S.stays hk
    have c0' := c0.keeps hk
    refine wpOk_of (ev_cell c0' ?_)
    refine wpOk_of (ne_bs_same hl (hl0.at fun o e => hk _ o e) (bs_of_get hlen hp) hb0 hu ?_)
    refine wpOk_of (wpAny_truthy_bool ?_)
    rw [if_neg (by decide)]
    refine ok_isTrue_or ?_
    refine ok_isTrue_Compare1 ?_
    refine wpOk_of (compPT (fun _ => false) (fun _ _ => True) (Iterates.list (l := tu) (items := us1.toArray) R.handled fun E Q hq => ev_cell (c1.keeps hk) (hq _ _ (fun _ _ e => e) (hl1.at fun o e => hk _ o e))) (by have := hb1.len; rw [cols_len] at this; simp [this]) (fun C₃ i v s₃ m₃ E' hi hv hn hm₃ hk₃ => ?_) fun D₂ h₂ tk₂ ys₂ hD₂ hl₂ hp₂ hk₂ => ?_)
    · have hv' : us1[i]? = some v := by rw [← List.getElem?_toArray]; exact hv
      obtain ⟨b, t, rfl, _⟩ := hb1.getV hv'
      have G := ((S.g C).keeps hk).keeps hk₃
      refine wpAny_isTrue_Compare1 ?_
      refine ev_callT G.type ?_
      refine spliced_more ?_
      refine ev_loc hn hm₃ ?_
      refine spliced_none ?_
      refine type_bytes ?_
      refine ev_glob G.bytes ?_
      refine isnot_type_same ?_
      refine wpAny_truthy_bool ?_
      exact ⟨rfl, ⟨_, _, rfl, fun _ _ e => e⟩, fun e => nomatch e⟩
    · have : ys₂ = [] := by
        have := hp₂.length
        rw [List.filter_eq_nil_iff.mpr (fun _ _ => by simp)] at this
        exact List.length_eq_zero_iff.mp this.symm
      subst this
      have S'' := S'.stays hk₂
      refine wpOk_of (wpAny_List ?_)
      refine wpAny_items_nil ⟨by simp [sizeLine_eq], ?_⟩
      have kp : ∀ o, h₂.StaysIn (h₂.push o) := fun o b o' e => Heap.get?_push_of_some _ e
      refine wpOk_of (ne_bs_same (us := []) (vs := []) (hl₂.at fun o e => kp _ _ o e) ⟨_, Heap.get?_push_size _ rfl, rfl, _, rfl⟩ BsAre.nil BsAre.nil hu ?_)
      refine wpOk_of (wpAny_truthy_bool ?_)
      rw [if_neg (by decide)]
      refine wpOk_of (isTrue_or_nil ?_)
      rw [if_neg (by decide)]
      refine wpOk_of (wpAny_execs_nil ?_)
      exact h _ _ (S''.stays (kp _)) ((Kx.of_stays hk).trans ((Kx.of_stays hk₂).trans (Kx.of_stays (kp _))))
end
end Mine
/-! part V6 -/
namespace Mine
open PySem PySem.W PySem.Calls PyProof.Rows PySem.SeqAt
open Sem (wp)

section
variable {prog : Program} {w : World} {A : Around} {E : Value → Shared → Prop} {s : Shared} {env : Env}
/-- a cut of bytes that no name holds -/
theorem sub_slice_bytes {value a b : Expr} {p pos : Pos} {Q : Value → Shared → Prop}
    (h : wpAny (model prog w) A (eval value env) (fun o s₁ => wpAny (model prog w) A (eval a env) (fun vl s₂ => wpAny (model prog w) A (eval b env) (fun vu s₃ =>
      ∃ (d : Bs) (td : Tok) (lo hi : Nat) (tl tu : Tok), o = .bytes d td ∧ vl = .int (lo : Int) tl ∧ vu = .int (hi : Int) tu ∧ d.size ≤ 100000 ∧ lo ≤ hi ∧ hi ≤ d.size ∧
        ∀ h' t' k, s₃.heap.StaysIn h' → Q (.bytes ((d.toList.drop lo).take (hi - lo)).toArray t') { s₃ with heap := h', toks := k }) E s₂) E s₁) E s) :
    wpAny (model prog w) A (eval (.Subscript value (.Slice (some a) (some b) none p) pos) env) Q E s := by
  rw [eval_Subscript]
  refine wpAny_bind (wpAny_mono h (fun o s₁ h₁ => wpAny_bind (wpAny_holding (wpAny_Slice (wpAny_mono h₁ (fun vl s₂ h₂ => wpAny_mono h₂ (fun vu s₃ h₃ => ?_) fun _ _ e => e) fun _ _ e => e)))) fun _ _ e => e)
  rw [evalPart_none]
  refine wpAny_pure ?_
  refine wpAny_bind (wpAny_standAt ?_)
  obtain ⟨d, td, lo, hi, tl, tu, rfl, rfl, rfl, hz, h1, h2, hQ⟩ := h₃
  have e : KBy.picked d (some (lo : Int)) (some (hi : Int)) = ((d.toList.drop lo).take (hi - lo)).toArray := by
    rw [KBc.picked_eq]
    simp only [Option.elim_some]
    rw [clipAt_nat, clipAt_nat, Nat.min_eq_left h2, Nat.min_eq_left (Nat.le_trans h1 h2)]
  have gi : wpAny (model prog w) A (getItem (.bytes d td) (.ref s₃.heap.objs.size)) Q E { s₃ with heap := s₃.heap.push { cls := .type "slice", data := .fields #[.int (lo : Int) tl, .int (hi : Int) tu, .none] } } := by
    refine getItem_meets (typeIs_bytes _ _ _) (by decide) FB.slot_bytes_getitem FB.entry_bytes_getitem (FB.args_bytes_getitem_2 _ _) (KBc.meets_slice2 d td _ (.int _ _) (.int _ _))
      ⟨Heap.IsSliceOf.new _ _ _ _, Nat.le_trans (KBc.size_picked_le d _ _) (by rw [sizeLine_eq]; omega), fun t' k => ?_⟩
    rw [e]
    exact hQ _ t' k fun b o q => Heap.get?_push_of_some _ q
  have go : ∀ r, letTemporaryGo value (.bytes d td) r = pure () := fun r => by cases value <;> rfl
  have fin := wpAny_operating (vs := [.ref s₃.heap.objs.size, .bytes d td]) (wpAny_mono gi (fun r s₄ h₄ => (wpAny_bind (wpAny_of_eq (go r) (wpAny_pure h₄)) : wpAny (model prog w) A (letTemporaryGo value (.bytes d td) r >>= fun _ => pure r) Q E s₄)) fun _ _ x => x)
  refine wpAny_bind ?_
  rw [getitemInPython_of_ne (typeIs_bytes s₃ d td).not_modules]
  refine wpAny_bind (wpAny_specialOf (typeIs_bytes _ d td) FB.slot_bytes_getitem.lookup ?_)
  first
    | exact wpAny_pure (wpAny_bind fin)
    | exact wpAny_bind (wpAny_pure (wpAny_bind fin))
    | exact wpAny_bind fin
end

def RangeAt (P L : Addr) (h : Heap) (r : Addr) (n : Nat) : Prop := Off P L r ∧ ∃ u v t, IsRange h r 0 (n : Int) 1 u v t
theorem RangeAt.kx {P L : Addr} {h h' : Heap} {r : Addr} {n : Nat} (x : RangeAt P L h r n) (k : Kx P L h h') : RangeAt P L h' r n :=
  ⟨x.1, let ⟨u, v, t, e⟩ := x.2; ⟨u, v, t, k _ _ x.1 e⟩⟩

def cutB (d : Bs) (lo hi : Nat) : Bs := ((d.toList.drop lo).take (hi - lo)).toArray
def keyN (xs : List Int) (k : Nat) : Bs :=
  (cutB (byteArr (colNs xs 0 true)) (2 * k) (2 * k + 2) ++ cutB (byteArr (colNs xs 1 true)) (3 * k) (3 * k + 3)) ++ cutB (byteArr (colNs xs 2 true)) (5 * k) (5 * k + 5)
def keysOf (xs : List Int) : List Bs := (List.range xs.length).map (keyN xs)
theorem cutB_size (d : Bs) (lo hi : Nat) : (cutB d lo hi).size ≤ hi - lo := by simp [cutB]; omega

section
variable {prog : Program} {w : World} {A : Around} {E : Value → Shared → Prop} {s : Shared} {B : Heap} {ps : Array Value} {P L f : Addr} {cd : Value} {m : Str → Option Value} {cv : Nat → Option Value}

theorem seg5 (C : LawC B P L) {a : Addr} {as : List Value} {xs : List Int} {Q : Flow → Shared → Prop} (S : LawSt B ps P L m cv s.heap) (hm : m "numbers" = some (.ref a)) (ha : s.heap.IsList a as.toArray) (hxs : IntsAre as xs) (hz : xs.length ≤ 30)
    (h : ∀ h' tk r, LawSt B ps P L m (fun j => if j = 2 then some (.ref r) else cv j) h' → RangeAt P L h' r xs.length → Kx P L s.heap h' → Q .next { s with heap := h', toks := tk }) :
    wpAny (model prog w) A (exec (lawStmt 5) (lawEnv L f cd)) Q E s := by
  have hlen := intsAre_len hxs
  refine wpAny_Assign_Name ?_
  refine ev_callT (S.g C).range ?_
  refine spliced_more ?_
  refine ev_callB (S.g C).len ?_
  refine spliced_more ?_
  refine ev_loc S.ns hm ?_
  refine spliced_none ?_
  refine len_list ha (by simp; omega) ?_
  refine spliced_none ?_
  refine range_obj fun h₁ r tk u v hr k₁ h0 _ _ => ?_
  have S' := S.stays k₁
  refine wpAny_storeName_cell (c := L + 1 + 2) rfl rfl rfl (S'.cell 2 (by decide)) fun h₅ hc₅ hs₅ => ?_
  have kx := kx_storeC (P := P) (L := L) (i := 2) (by decide) hs₅
  rw [List.size_toArray, hlen] at hr
  exact h h₅ _ r (S'.storeC C hc₅ hs₅) ⟨S.off h0, _, _, _, kx _ _ (S.off h0) hr⟩ ((Kx.of_stays k₁).trans kx)

theorem seg6 (C : LawC B P L) (R : Room 1 A) {tu hi r : Addr} {xs : List Int} {Q : Flow → Shared → Prop} (S : LawSt B ps P L m cv s.heap) (hm1 : cv 1 = some (.ref tu)) (hm2 : cv 2 = some (.ref r)) (hm : m "high" = some (.ref hi))
    (htu : BsAt P L s.heap tu (cols xs true)) (hhi : BsAt P L s.heap hi (cols xs true)) (hr : RangeAt P L s.heap r xs.length) (hz : xs.length ≤ 30)
    (h : ∀ h' tk ke pl, LawSt B ps P L m (fun j => if j = 4 then some (.ref pl) else if j = 3 then some (.ref ke) else cv j) h' → BsAt P L h' ke (keysOf xs) → BsAt P L h' pl (keysOf xs) → Kx P L s.heap h' → Q .next { s with heap := h', toks := tk }) :
    wpAny (model prog w) A (exec (lawStmt 6) (lawEnv L f cd)) Q E s := by
  have c1 := S.cell 1 (by decide)
  rw [hm1] at c1
  have c2 := S.cell 2 (by decide)
  rw [hm2] at c2
  refine Assign_Tuple ?_
  refine compCH (fun i a h => ∃ us, h.IsList a (List.toArray us) ∧ BsAre us (keysOf xs)) (fun i a h h' ⟨vs, hl, hi⟩ hk => ⟨vs, hl.at hk, hi⟩) (Iterates.list (l := s.heap.objs.size) (items := #[.ref tu, .ref hi]) R.handled fun E Q hq => ?_) (by simp) (fun C₃ i v s₃ m₃ E' hi hv hn hc₃ hk => ?_) fun D h' tk ys hD hl hp hk => ?_
  · refine wpAny_List ?_
    refine wpAny_items_cons ?_
    refine ev_cell c1 ?_
    refine wpAny_items_cons ?_
    refine ev_loc S.ns hm ?_
    refine wpAny_items_nil ⟨by simp [sizeLine_eq], ?_⟩
    exact hq _ _ (fun b o e => Heap.get?_push_of_some _ e) ⟨_, Heap.get?_push_size _ rfl, rfl, _, rfl⟩
  · obtain ⟨a, rfl, _, us, hl, hb⟩ : ∃ a, v = .ref a ∧ BsAt P L s₃.heap a (cols xs true) := by
      have hi2 : i < 2 := hi
      match i, hi2 with
      | 0, _ => exact ⟨tu, (Option.some.inj hv).symm, htu.kx (Kx.of_stays hk)⟩
      | 1, _ => exact ⟨_, (Option.some.inj hv).symm, hhi.kx (Kx.of_stays hk)⟩
    obtain ⟨_, u', v', t', hr₃⟩ := hr.kx (Kx.of_stays (P := P) (L := L) hk)
    refine compP (fun k y => ∃ t, y = .bytes (keyN xs k) t) (Iterates.robj (m := xs.length) R.handled hr₃ rfl (by omega) fun E Q hq => ev_cell (c2.keeps hk) hq) (by omega) (fun C₄ k v s₄ m₄ E'' hk4 hv hn₄ hm₄ hk₄ => ?_) fun D h' tk ys hD hl hp hk => ?_
    · obtain ⟨t, rfl⟩ := hv
      obtain ⟨ki, hki⟩ : ∃ ki : Int, ki = (k : Int) := ⟨_, rfl⟩
      rw [← hki] at hm₄
      have one := hc₃.keeps hk₄
      have hl₄ := hl.at fun o e => hk₄ _ o e
      have sz : ∀ j, j < 3 → (byteArr (colNs xs j true)).size = xs.length * wdN j := fun j _ => col_size xs j true
      refine wpAny_BinOp ?_
      refine wpAny_BinOp ?_
      refine sub_slice_bytes ?_
      refine Subscript_ ?_
      refine ev_cell one ?_
      refine wpAny_Constant_int ?_
      refine item_bs hl₄ hb (by decide) (by decide) (b := byteArr (colNs xs 0 true)) (cols_get xs true (by decide)) fun tb => ?_
      refine wpAny_BinOp ?_
      refine wpAny_Constant_int ?_
      refine ev_loc hn₄ hm₄ ?_
      refine mul_int ?_
      refine wpAny_BinOp ?_
      refine wpAny_BinOp ?_
      refine wpAny_Constant_int ?_
      refine ev_loc hn₄ hm₄ ?_
      refine mul_int ?_
      refine wpAny_Constant_int ?_
      refine add_int ?_
      refine ⟨_, tb, 2 * k, 2 * k + 2, _, _, rfl, by congr 1; omega, by congr 1; omega, by rw [sz 0 (by decide)]; show xs.length * 2 ≤ _; omega, by omega, by rw [sz 0 (by decide)]; show _ ≤ xs.length * 2; omega, fun h₅ t₅ tk₅ k₅ => ?_⟩
      dsimp only
      refine sub_slice_bytes ?_
      refine Subscript_ ?_
      refine ev_cell (one.keeps k₅) ?_
      refine wpAny_Constant_int ?_
      refine item_bs (hl₄.at fun o e => k₅ _ o e) hb (by decide) (by decide) (b := byteArr (colNs xs 1 true)) (cols_get xs true (by decide)) fun tb1 => ?_
      refine wpAny_BinOp ?_
      refine wpAny_Constant_int ?_
      refine ev_loc (hn₄.keeps k₅) hm₄ ?_
      refine mul_int ?_
      refine wpAny_BinOp ?_
      refine wpAny_BinOp ?_
      refine wpAny_Constant_int ?_
      refine ev_loc (hn₄.keeps k₅) hm₄ ?_
      refine mul_int ?_
      refine wpAny_Constant_int ?_
      refine add_int ?_
      refine ⟨_, tb1, 3 * k, 3 * k + 3, _, _, rfl, by congr 1; omega, by congr 1; omega, by rw [sz 1 (by decide)]; show xs.length * 3 ≤ _; omega, by omega, by rw [sz 1 (by decide)]; show _ ≤ xs.length * 3; omega, fun h₆ t₆ tk₆ k₆ => ?_⟩
      dsimp only
      refine KBy.add_bytes ?_ ?_
      · show (cutB _ _ _).size + (cutB _ _ _).size ≤ _
        have := cutB_size (byteArr (colNs xs 0 true)) (2 * k) (2 * k + 2)
        have := cutB_size (byteArr (colNs xs 1 true)) (3 * k) (3 * k + 3)
        omega
      intro ta tka
      refine sub_slice_bytes ?_
      refine Subscript_ ?_
      refine ev_cell (one.keeps (fun b o e => k₆ b o (k₅ b o e))) ?_
      refine wpAny_Constant_int ?_
      refine item_bs (hl₄.at fun o e => (fun b o e => k₆ b o (k₅ b o e)) _ o e) hb (by decide) (by decide) (b := byteArr (colNs xs 2 true)) (cols_get xs true (by decide)) fun tb2 => ?_
      refine wpAny_BinOp ?_
      refine wpAny_Constant_int ?_
      refine ev_loc (hn₄.keeps (fun b o e => k₆ b o (k₅ b o e))) hm₄ ?_
      refine mul_int ?_
      refine wpAny_BinOp ?_
      refine wpAny_BinOp ?_
      refine wpAny_Constant_int ?_
      refine ev_loc (hn₄.keeps (fun b o e => k₆ b o (k₅ b o e))) hm₄ ?_
      refine mul_int ?_
      refine wpAny_Constant_int ?_
      refine add_int ?_
      refine ⟨_, tb2, 5 * k, 5 * k + 5, _, _, rfl, by congr 1; omega, by congr 1; omega, by rw [sz 2 (by decide)]; show xs.length * 5 ≤ _; omega, by omega, by rw [sz 2 (by decide)]; show _ ≤ xs.length * 5; omega, fun h₇ t₇ tk₇ k₇ => ?_⟩
      dsimp only
      refine KBy.add_bytes ?_ ?_
      · show (cutB _ _ _ ++ cutB _ _ _).size + (cutB _ _ _).size ≤ _
        rw [Array.size_append]
        have := cutB_size (byteArr (colNs xs 0 true)) (2 * k) (2 * k + 2)
        have := cutB_size (byteArr (colNs xs 1 true)) (3 * k) (3 * k + 3)
        have := cutB_size (byteArr (colNs xs 2 true)) (5 * k) (5 * k + 5)
        omega
      intro tc tkc
      exact ⟨⟨tc, rfl⟩, _, _, rfl, fun b o e => k₇ b o (k₆ b o (k₅ b o e))⟩
    · exact ⟨⟨D, rfl, hD, ys, hl, paired_bs hp⟩, _, _, rfl, hk⟩
  · obtain ⟨rs, rfl, hr⟩ := paired_refs hp
    obtain ⟨f0, us0, hl0, hb0⟩ := hr 0 (show 0 < 2 by decide)
    obtain ⟨f1, us1, hl1, hb1⟩ := hr 1 (show 1 < 2 by decide)
    have S' := S.stays hk
    rw [arm_assign_Tuple]
    refine wpAny_bind (wpAny_standAt ?_)
    unfold unpack
    refine wpAny_bind (wpAny_holding ?_)
    refine unpack_list2 R.handled hl fun h₁ tk₁ k₁ => ?_
    have S₁ := S'.stays k₁
    refine assignInOrder_cons ?_
    refine assign_Name ?_
    refine wpAny_storeName_cell (c := L + 1 + 3) rfl rfl rfl (S₁.cell 3 (by decide)) fun h₅ hc₅ hs₅ => ?_
    have kx₅ := kx_storeC (P := P) (L := L) (i := 3) (by decide) hs₅
    have S₅ := S₁.storeC C hc₅ hs₅
    refine assignInOrder_cons ?_
    refine assign_Name ?_
    refine wpAny_storeName_cell (c := L + 1 + 4) rfl rfl rfl (S₅.cell 4 (by decide)) fun h₆ hc₆ hs₆ => ?_
    have kx₆ := kx_storeC (P := P) (L := L) (i := 4) (by decide) hs₆
    refine assignInOrder_nil ?_
    have kx := (Kx.of_stays k₁).trans (kx₅.trans kx₆)
    exact h h₆ _ (rs 0) (rs 1) (S₅.storeC C hc₆ hs₆) ⟨S.off f0, us0, hl0.at fun o e => kx _ o (S.off f0) e, hb0⟩ ⟨S.off f1, us1, hl1.at fun o e => kx _ o (S.off f1) e, hb1⟩ ((Kx.of_stays hk).trans kx)
end
end Mine
/-! part P2 -/
namespace Mine
open PySem PySem.W PySem.Calls PyProof.Rows PySem.SeqAt

/-! ## keys as numbers -/
def valR : List Nat → Nat
  | [] => 0
  | x :: l => x * 256 ^ l.length + valR l
theorem valR_append : ∀ l m : List Nat, valR (l ++ m) = valR l * 256 ^ m.length + valR m
  | [], m => by simp [valR]
  | x :: l, m => by
    show x * 256 ^ (l ++ m).length + valR (l ++ m) = _
    rw [valR_append l m, List.length_append, Nat.pow_add, valR, Nat.add_mul, Nat.mul_assoc]; omega
theorem valR_lt : ∀ l : List Nat, (∀ x ∈ l, x < 256) → valR l < 256 ^ l.length
  | [], _ => by simp [valR]
  | x :: l, h => by
    have h1 := valR_lt l fun y hy => h y (List.mem_cons_of_mem _ hy)
    have h2 := h x List.mem_cons_self
    have h3 : (x + 1) * 256 ^ l.length ≤ 256 * 256 ^ l.length := Nat.mul_le_mul_right _ h2
    rw [Nat.add_mul] at h3
    rw [List.length_cons, Nat.pow_succ, valR]; omega
theorem lex_val : ∀ l m : List Nat, l.length = m.length → (∀ x ∈ l, x < 256) → (∀ x ∈ m, x < 256) → (l < m ↔ valR l < valR m)
  | [], [], _, _, _ => by simp [valR]
  | [], _ :: _, h, _, _ => by simp at h
  | _ :: _, [], h, _, _ => by simp at h
  | x :: l, y :: m, h, hl, hm => by
    have hlen : l.length = m.length := by simpa using h
    have ih := lex_val l m hlen (fun z hz => hl z (List.mem_cons_of_mem _ hz)) fun z hz => hm z (List.mem_cons_of_mem _ hz)
    have v1 := valR_lt l fun z hz => hl z (List.mem_cons_of_mem _ hz)
    have v2 := valR_lt m fun z hz => hm z (List.mem_cons_of_mem _ hz)
    rw [List.cons_lt_cons_iff, valR, valR, hlen]
    rw [hlen] at v1
    rcases Nat.lt_trichotomy x y with q | q | q
    · have h3 : (x + 1) * 256 ^ m.length ≤ y * 256 ^ m.length := Nat.mul_le_mul_right _ q
      rw [Nat.add_mul] at h3
      constructor
      · intro _; omega
      · intro _; exact .inl q
    · subst q
      constructor
      · rintro (q | ⟨_, q⟩)
        · exact absurd q (Nat.lt_irrefl _)
        · have := ih.mp q; omega
      · intro q; exact .inr ⟨rfl, ih.mpr (by omega)⟩
    · have h3 : (y + 1) * 256 ^ m.length ≤ x * 256 ^ m.length := Nat.mul_le_mul_right _ q
      rw [Nat.add_mul] at h3
      constructor
      · rintro (q' | ⟨q', _⟩) <;> omega
      · intro _; omega
theorem nums_lt (b : Bs) : ∀ x ∈ nums b, x < 256 := by
  intro x hx
  obtain ⟨y, _, rfl⟩ := List.mem_map.mp hx
  exact y.toNat_lt
theorem nums_append (a b : Bs) : nums (a ++ b) = nums a ++ nums b := by simp [nums]

def dig (j : Nat) (v : Int) : List Nat := (List.range (wdN j)).map fun p => ((v.fdiv (256 ^ (wdN j - 1 - p))).fmod 256).toNat
theorem nums_cut (xs : List Int) {j k : Nat} (hj : j < 3) (hk : k < xs.length) : nums (cutB (byteArr (colNs xs j true)) (wdN j * k) (wdN j * k + wdN j)) = dig j (fieldN (xs.getD k 0) j) := by
  obtain ⟨w0, _⟩ := wdN_pos hj
  apply List.ext_getElem?
  intro p
  unfold nums cutB dig
  rw [List.getElem?_map, List.getElem?_map]
  simp only []
  by_cases hp : p < wdN j
  · have hlt : wdN j * k + p < xs.length * wdN j := by
      have : (k + 1) * wdN j ≤ xs.length * wdN j := Nat.mul_le_mul_right _ hk
      rw [Nat.add_mul, Nat.mul_comm k] at this; omega
    have e := col_get xs j true hlt
    have e1 : (wdN j * k + p) / wdN j = k := by rw [Nat.mul_add_div w0, Nat.div_eq_of_lt hp, Nat.add_zero]
    have e2 : (wdN j * k + p) % wdN j = p := by rw [Nat.mul_add_mod, Nat.mod_eq_of_lt hp]
    rw [List.getElem?_take, if_pos (by omega), List.getElem?_drop, Array.getElem?_toList, e, List.getElem?_range hp]
    simp only [Option.map_some, Option.some.injEq, colInt, e1, e2, if_true]
    have b0 := Int.fmod_nonneg_of_pos ((fieldN (xs.getD k 0) j).fdiv (256 ^ (wdN j - 1 - p))) (show (0 : Int) < 256 by decide)
    have b1 := Int.fmod_lt_of_pos ((fieldN (xs.getD k 0) j).fdiv (256 ^ (wdN j - 1 - p))) (show (0 : Int) < 256 by decide)
    rw [Nat.toUInt8_eq, UInt8.toNat_ofNat']
    omega
  · rw [List.getElem?_take, if_neg (by omega), List.getElem?_eq_none (by simp; omega)]
    rfl
theorem nums_key (xs : List Int) {k : Nat} (hk : k < xs.length) : nums (keyN xs k) = (dig 0 (modeOf (xs.getD k 0)) ++ dig 1 (sizeOf' (xs.getD k 0))) ++ dig 2 (placeOf' (xs.getD k 0)) := by
  unfold keyN
  rw [nums_append, nums_append]
  rw [show cutB (byteArr (colNs xs 0 true)) (2 * k) (2 * k + 2) = cutB (byteArr (colNs xs 0 true)) (wdN 0 * k) (wdN 0 * k + wdN 0) from rfl,
    show cutB (byteArr (colNs xs 1 true)) (3 * k) (3 * k + 3) = cutB (byteArr (colNs xs 1 true)) (wdN 1 * k) (wdN 1 * k + wdN 1) from rfl,
    show cutB (byteArr (colNs xs 2 true)) (5 * k) (5 * k + 5) = cutB (byteArr (colNs xs 2 true)) (wdN 2 * k) (wdN 2 * k + wdN 2) from rfl,
    nums_cut xs (by decide) hk, nums_cut xs (by decide) hk, nums_cut xs (by decide) hk]
  rfl

theorem fdiv_nn (a b : Int) (h : 0 ≤ b) : a.fdiv b = a / b := Int.fdiv_eq_ediv_of_nonneg a h
theorem fmod_nn (a b : Int) (h : 0 ≤ b) : a.fmod b = a % b := Int.fmod_eq_emod_of_nonneg a h
theorem modeOf_bd (x : Int) : 0 ≤ modeOf x ∧ modeOf x < 65536 := by
  unfold modeOf
  rw [fmod_nn x 4 (by decide), fdiv_nn x 4 (by decide), fmod_nn _ 4096 (by decide)]
  have h0 : 0 ≤ x % 4 := Int.emod_nonneg _ (by decide)
  have h1 : x % 4 < 4 := Int.emod_lt_of_pos _ (by decide)
  have h2 : 0 ≤ (x / 4) % 4096 := Int.emod_nonneg _ (by decide)
  have h3 : (x / 4) % 4096 < 4096 := Int.emod_lt_of_pos _ (by decide)
  generalize (x / 4) % 4096 = y at *
  have : (x % 4).toNat < 4 := by omega
  generalize (x % 4).toNat = k at *
  match k, this with
  | 0, _ => simp; omega
  | 1, _ => simp; omega
  | 2, _ => simp; omega
  | 3, _ => simp; omega
theorem sizeOf_bd (x : Int) : 0 ≤ sizeOf' x ∧ sizeOf' x < 2 ^ 24 := ⟨Int.fmod_nonneg_of_pos _ (by decide), Int.fmod_lt_of_pos _ (by decide)⟩
theorem placeOf_bd (x : Int) : 0 ≤ placeOf' x ∧ placeOf' x < 2 ^ 40 := ⟨Int.fmod_nonneg_of_pos _ (by decide), Int.fmod_lt_of_pos _ (by decide)⟩

theorem dig0 (v : Int) : dig 0 v = [((v / 256) % 256).toNat, (v % 256).toNat] := by
  have e : List.range (wdN 0) = [0, 1] := by decide
  unfold dig
  rw [e]
  simp [wdN, fdiv_nn, fmod_nn]
theorem dig1 (v : Int) : dig 1 v = [((v / 65536) % 256).toNat, ((v / 256) % 256).toNat, (v % 256).toNat] := by
  have e : List.range (wdN 1) = [0, 1, 2] := by decide
  unfold dig
  rw [e]
  simp [wdN, fdiv_nn, fmod_nn]
theorem dig2 (v : Int) : dig 2 v = [((v / 4294967296) % 256).toNat, ((v / 16777216) % 256).toNat, ((v / 65536) % 256).toNat, ((v / 256) % 256).toNat, (v % 256).toNat] := by
  have e : List.range (wdN 2) = [0, 1, 2, 3, 4] := by decide
  unfold dig
  rw [e]
  simp [wdN, fdiv_nn, fmod_nn]
def digS : Nat → Int → List Nat
  | 0, _ => []
  | n + 1, v => digS n (v / 256) ++ [(v % 256).toNat]
theorem val_step {v : Int} (h0 : 0 ≤ v) : (v / 256).toNat * 256 + (v % 256).toNat = v.toNat := by omega
theorem valS : ∀ (n : Nat) {v : Int}, 0 ≤ v → v < 256 ^ n → valR (digS n v) = v.toNat
  | 0, v, h0, h1 => by
    rw [Int.pow_zero] at h1
    rw [Int.le_antisymm (Int.lt_add_one_iff.mp h1) h0]
    rfl
  | n + 1, v, h0, h1 => by
    rw [Int.pow_succ] at h1
    rw [digS, valR_append, valS n (Int.ediv_nonneg h0 (by decide)) (Int.ediv_lt_of_lt_mul (by decide) h1)]
    show _ * 256 ^ 1 + ((v % 256).toNat * 256 ^ 0 + 0) = _
    rw [Nat.pow_one, Nat.pow_zero, Nat.mul_one, Nat.add_zero]
    exact val_step h0
theorem dv (v : Int) (a b : Int) (h : 0 ≤ a) : v / a / b = v / (a * b) := Int.ediv_ediv_of_nonneg h
theorem val_dig0 {v : Int} (h0 : 0 ≤ v) (h1 : v < 65536) : valR (dig 0 v) = v.toNat := by
  rw [dig0]; exact valS 2 h0 h1
theorem val_dig1 {v : Int} (h0 : 0 ≤ v) (h1 : v < 2 ^ 24) : valR (dig 1 v) = v.toNat := by
  have e : dig 1 v = digS 3 v := by
    rw [dig1, show (65536 : Int) = 256 * 256 from rfl, ← dv v 256 256 (by decide)]; rfl
  rw [e]; exact valS 3 h0 h1
theorem val_dig2 {v : Int} (h0 : 0 ≤ v) (h1 : v < 2 ^ 40) : valR (dig 2 v) = v.toNat := by
  have e : dig 2 v = digS 5 v := by
    rw [dig2, show (4294967296 : Int) = 256 * 256 * 256 * 256 from rfl, show (16777216 : Int) = 256 * 256 * 256 from rfl, show (65536 : Int) = 256 * 256 from rfl,
      ← dv v (256 * 256 * 256) 256 (by decide), ← dv v (256 * 256) 256 (by decide), ← dv v 256 256 (by decide)]; rfl
  rw [e]; exact valS 5 h0 h1
theorem val_key (xs : List Int) {k : Nat} (hk : k < xs.length) : valR (nums (keyN xs k)) = ((modeOf (xs.getD k 0)).toNat * 2 ^ 24 + (sizeOf' (xs.getD k 0)).toNat) * 2 ^ 40 + (placeOf' (xs.getD k 0)).toNat := by
  obtain ⟨a0, a1⟩ := modeOf_bd (xs.getD k 0)
  obtain ⟨b0, b1⟩ := sizeOf_bd (xs.getD k 0)
  obtain ⟨c0, c1⟩ := placeOf_bd (xs.getD k 0)
  rw [nums_key xs hk, valR_append, valR_append, val_dig0 a0 a1, val_dig1 b0 b1, val_dig2 c0 c1, dig1, dig2]
  simp only [List.length_cons, List.length_nil, Nat.zero_add, Nat.reduceAdd, Nat.reducePow]
theorem len_key (xs : List Int) {k : Nat} (hk : k < xs.length) : (nums (keyN xs k)).length = 10 := by rw [nums_key xs hk, dig0, dig1, dig2]; rfl
theorem lex_pair {N a b c d : Nat} (hb : b < N) (hd : d < N) : a * N + b < c * N + d ↔ a < c ∨ a = c ∧ b < d := by
  rcases Nat.lt_trichotomy a c with q | q | q
  · have h : (a + 1) * N ≤ c * N := Nat.mul_le_mul_right _ q
    rw [Nat.add_mul, Nat.one_mul] at h
    exact ⟨fun _ => .inl q, fun _ => Nat.lt_of_lt_of_le (Nat.add_lt_add_left hb _) (Nat.le_trans h (Nat.le_add_right _ _))⟩
  · subst q
    exact ⟨fun h => .inr ⟨rfl, Nat.lt_of_add_lt_add_left h⟩, fun h => Nat.add_lt_add_left (h.elim (fun q => absurd q (Nat.lt_irrefl _)) (·.2)) _⟩
  · have h : (c + 1) * N ≤ a * N := Nat.mul_le_mul_right _ q
    rw [Nat.add_mul, Nat.one_mul] at h
    exact ⟨fun p => absurd p (Nat.not_lt_of_le (Nat.le_trans (Nat.le_of_lt (Nat.add_lt_add_left hd _)) (Nat.le_trans h (Nat.le_add_right _ _)))),
      fun p => p.elim (fun p => absurd q (Nat.lt_asymm p)) fun p => absurd q (p.1 ▸ Nat.lt_irrefl _)⟩
theorem pair_eq {N a b c d : Nat} (hb : b < N) (hd : d < N) (h : a * N + b = c * N + d) : a = c ∧ b = d := by
  have p : ¬ (a < c ∨ a = c ∧ b < d) := fun q => absurd ((lex_pair hb hd).mpr q) (h ▸ Nat.lt_irrefl _)
  have q : ¬ (c < a ∨ c = a ∧ d < b) := fun q => absurd ((lex_pair hd hb).mpr q) (h ▸ Nat.lt_irrefl _)
  have e : a = c := Nat.le_antisymm (Nat.le_of_not_lt fun z => q (.inl z)) (Nat.le_of_not_lt fun z => p (.inl z))
  subst e
  exact ⟨rfl, Nat.add_left_cancel h⟩
theorem cmpL_consNeg (x y : Int) (a b : List Int) : cmpL (x :: a) (y :: b) < 0 ↔ x < y ∨ x = y ∧ cmpL a b < 0 := by
  simp only [cmpL]
  split
  · rename_i q
    exact ⟨fun h => .inr ⟨q, h⟩, fun h => h.elim (fun p => absurd (q ▸ p) (Int.lt_irrefl _)) (·.2)⟩
  · rename_i q
    split
    · rename_i p; exact ⟨fun _ => .inl p, fun _ => by decide⟩
    · rename_i p; exact ⟨fun h => absurd h (by decide), fun h => h.elim (fun z => absurd z p) fun z => absurd z.1 q⟩
theorem toNat_lt_both {x y : Int} (hx : 0 ≤ x) (hy : 0 ≤ y) : x.toNat < y.toNat ↔ x < y := by
  rw [Int.toNat_lt hx, Int.toNat_of_nonneg hy]
theorem toNat_eq_both {x y : Int} (hx : 0 ≤ x) (hy : 0 ≤ y) : x.toNat = y.toNat ↔ x = y :=
  ⟨fun h => by rw [← Int.toNat_of_nonneg hx, ← Int.toNat_of_nonneg hy, h], fun h => by rw [h]⟩
theorem toNat_lt_num {x : Int} {n : Nat} (hx : 0 ≤ x) (h : x < n) : x.toNat < n := (Int.toNat_lt hx).mpr h
theorem key_lt (xs : List Int) {i k : Nat} (hi : i < xs.length) (hk : k < xs.length) : bLt (keyN xs i) (keyN xs k) = decide (cmpL (fieldsOf' (xs.getD i 0)) (fieldsOf' (xs.getD k 0)) < 0) := by
  rw [bLt_nums]
  rw [decide_eq_decide]
  rw [lex_val _ _ (by rw [len_key xs hi, len_key xs hk]) (nums_lt _) (nums_lt _), val_key xs hi, val_key xs hk]
  obtain ⟨a0, _⟩ := modeOf_bd (xs.getD k 0)
  obtain ⟨b0, b1⟩ := sizeOf_bd (xs.getD k 0)
  obtain ⟨c0, c1⟩ := placeOf_bd (xs.getD k 0)
  obtain ⟨d0, _⟩ := modeOf_bd (xs.getD i 0)
  obtain ⟨e0, e1⟩ := sizeOf_bd (xs.getD i 0)
  obtain ⟨f0, f1⟩ := placeOf_bd (xs.getD i 0)
  unfold fieldsOf'
  rw [cmpL_consNeg, cmpL_consNeg, cmpL_consNeg, lex_pair (toNat_lt_num f0 f1) (toNat_lt_num c0 c1), lex_pair (toNat_lt_num e0 e1) (toNat_lt_num b0 b1)]
  have z : ¬ cmpL [] [] < 0 := by decide
  rw [toNat_lt_both d0 a0, toNat_lt_both e0 b0, toNat_lt_both f0 c0]
  constructor
  · rintro (h | ⟨h, g⟩)
    · rcases h with h | ⟨h, g⟩
      · exact .inl h
      · exact .inr ⟨(toNat_eq_both d0 a0).mp h, .inl g⟩
    · obtain ⟨p, q⟩ := pair_eq (toNat_lt_num e0 e1) (toNat_lt_num b0 b1) h
      exact .inr ⟨(toNat_eq_both d0 a0).mp p, .inr ⟨(toNat_eq_both e0 b0).mp q, .inl g⟩⟩
  · rintro (h | ⟨h, g | ⟨h', g | ⟨_, g⟩⟩⟩)
    · exact .inl (.inl h)
    · exact .inl (.inr ⟨by rw [h], ‹_›⟩)
    · exact .inr ⟨by rw [h, h'], ‹_›⟩
    · exact absurd ‹_› z
theorem cmpL_swap (a b : List Int) : cmpL b a = - cmpL a b := by
  induction a generalizing b with
  | nil => cases b <;> simp [cmpL]
  | cons x a ih =>
    cases b with
    | nil => simp [cmpL]
    | cons y b =>
      simp only [cmpL]
      by_cases h : x = y
      · subst h; simp [ih]
      · have h' : ¬ y = x := fun q => h q.symm
        simp only [h, h', if_false]
        split <;> split <;> omega
theorem cmpL_vals (a b : List Int) : cmpL a b = -1 ∨ cmpL a b = 0 ∨ cmpL a b = 1 := by
  induction a generalizing b with
  | nil => cases b <;> simp [cmpL]
  | cons x a ih =>
    cases b with
    | nil => simp [cmpL]
    | cons y b =>
      simp only [cmpL]
      split
      · exact ih b
      · split <;> simp
theorem key_cmp (xs : List Int) {i k : Nat} (hi : i < xs.length) (hk : k < xs.length) :
    (if bLt (keyN xs k) (keyN xs i) then (1 : Int) else 0) - (if bLt (keyN xs i) (keyN xs k) then 1 else 0) = cmpL (fieldsOf' (xs.getD i 0)) (fieldsOf' (xs.getD k 0)) := by
  rw [key_lt xs hk hi, key_lt xs hi hk, cmpL_swap (fieldsOf' (xs.getD i 0))]
  rcases cmpL_vals (fieldsOf' (xs.getD i 0)) (fieldsOf' (xs.getD k 0)) with q | q | q <;> rw [q] <;> decide

theorem key_mode (xs : List Int) {k : Nat} (hk : k < xs.length) : 10 = (keyN xs k).size ∧ (((keyN xs k).getD 0 0).toNat : Int) * 256 + (((keyN xs k).getD 1 0).toNat : Int) = modeOf (xs.getD k 0) := by
  have hl := len_key xs hk
  have e := nums_key xs hk
  have hs : (keyN xs k).size = 10 := by rw [← hl]; simp [nums]
  refine ⟨hs.symm, ?_⟩
  have g : ∀ p, p < 10 → (((keyN xs k).getD p 0).toNat) = (nums (keyN xs k)).getD p 0 := by
    intro p hp
    rw [List.getD_eq_getElem?_getD, nums, List.getElem?_map, Array.getElem?_toList, Array.getElem?_eq_getElem (by omega), Array.getD_eq_getD_getElem?, Array.getElem?_eq_getElem (by omega)]
    rfl
  rw [g 0 (by decide), g 1 (by decide), e]
  obtain ⟨a0, a1⟩ := modeOf_bd (xs.getD k 0)
  generalize modeOf (xs.getD k 0) = v at *
  rw [dig0]
  simp only [List.cons_append, List.getD_cons_zero, List.getD_cons_succ]
  omega
end Mine
/-! part V7 -/
namespace Mine
open PySem PySem.W PySem.Calls PyProof.Rows PySem.SeqAt
open Sem (wp)

theorem keysOf_get (xs : List Int) {k : Nat} (hk : k < xs.length) : (keysOf xs)[k]? = some (keyN xs k) := by simp [keysOf, hk]
theorem rows_get {n : Nat} (rows : Nat → Addr) {k : Nat} (hk : k < n) : ((List.range n).map fun i => Value.ref (rows i))[k]? = some (.ref (rows k)) := by simp [hk]
theorem fields_len (x : Int) : (fieldsOf' x).length = 3 := rfl

section
variable {prog : Program} {w : World} {A : Around} {E : Value → Shared → Prop} {s : Shared} {B : Heap} {ps : Array Value} {P L f : Addr} {cd : Value} {m : Str → Option Value} {cv : Nat → Option Value}

theorem eqAt_int_same {a b : Int} {t u : Tok} (h : a = b) : EqAt A.in1 s (.int a t) (.int b u) true := by
  have := eqAt_int (A := A.in1) (s := s) (a := a) (b := b) (t := t) (u := u)
  rw [decide_eq_true h] at this
  exact this
theorem eqAt_str_same {a b : Str} {t u : Tok} (h : a = b) : EqAt A.in1 s (.str a t) (.str b u) true := by
  have := EqAt.str_str (A := A.in1) (s := s) a t b u
  rw [show (a == b) = true from beq_iff_eq.mpr h] at this
  exact this

theorem seg7 (C : LawC B P L) (R : Room 1 A) {ke r fl : Addr} {xs : List Int} {rows : Nat → Addr} {Q : Flow → Shared → Prop} (S : LawSt B ps P L m cv s.heap) (hm3 : cv 3 = some (.ref ke)) (hm2 : cv 2 = some (.ref r)) (hm5 : cv 5 = some (.ref fl))
    (hke : BsAt P L s.heap ke (keysOf xs)) (hr : RangeAt P L s.heap r xs.length) (hR : RowsN P L s.heap fl xs rows) (hz : xs.length ≤ 30)
    (h : ∀ h' tk, LawSt B ps P L m cv h' → Kx P L s.heap h' → Q .next { s with heap := h', toks := tk }) :
    wpAny (model prog w) A (exec (lawStmt 7) (lawEnv L f cd)) Q E s := by
  have c3 := S.cell 3 (by decide)
  rw [hm3] at c3
  have c2 := S.cell 2 (by decide)
  rw [hm2] at c2
  have c5 := S.cell 5 (by decide)
  rw [hm5] at c5
  have hu : A.units < cLine := by have := R.units; omega
  obtain ⟨_, us, hl, hb⟩ := hke
  obtain ⟨_, u', v', t', hr'⟩ := hr
  refine wpAny_If ?_
  refine wpAny_isTrue_Compare1 ?_
  refine comp2P (m := xs.length) (fun i k y => ∃ t, y = .int (cmpL (fieldsOf' (xs.getD i 0)) (fieldsOf' (xs.getD k 0))) t) R.handled hr' rfl hz (fun E Q hq => ev_cell c2 hq) (fun C₃ s₃ m₃ E Q hn hk hq => ?_) (fun C₃ i k t u s₃ m₃ E' hi hk hn hm1 hm2 hks => ?_) fun D h' tk ys hD hlD hlen hF hk => ?_
  · exact ev_cell (c2.keeps hk) hq
  · have G := (S.g C).keeps hks
    obtain ⟨ff, g1, g2⟩ := G.cmp
    obtain ⟨ii, hii⟩ : ∃ ii : Int, ii = (i : Int) := ⟨_, rfl⟩
    obtain ⟨ki, hki⟩ : ∃ ki : Int, ki = (k : Int) := ⟨_, rfl⟩
    rw [← hii] at hm1
    rw [← hki] at hm2
    refine ev_callF g1 g2 ?_
    refine spliced_more ?_
    refine Subscript_ ?_
    refine ev_cell (c3.keeps hks) ?_
    refine ev_loc hn hm1 ?_
    refine item_bs (hl.at fun o e => hks _ o e) hb (by omega) (by omega) (b := keyN xs i) (by rw [hii, Int.toNat_natCast]; exact keysOf_get xs hi) fun tb => ?_
    refine spliced_more ?_
    refine Subscript_ ?_
    refine ev_cell (c3.keeps hks) ?_
    refine ev_loc hn hm2 ?_
    refine item_bs (hl.at fun o e => hks _ o e) hb (by omega) (by omega) (b := keyN xs k) (by rw [hki, Int.toNat_natCast]; exact keysOf_get xs hk) fun tb2 => ?_
    refine spliced_none ⟨fun _ _ e => e, ?_⟩
    refine cmp_call g2 G.limit R fun h₄ k₄ tk₄ ks₄ => ?_
    rw [key_cmp xs hi hk]
    exact ⟨⟨_, rfl⟩, _, _, rfl, ks₄⟩
  · have S' := S.stays hk
    refine comp2P (m := xs.length) (fun i k y => ∃ t, y = .int (cmpL (fieldsOf' (xs.getD i 0)) (fieldsOf' (xs.getD k 0))) t) R.handled (hk _ _ hr') rfl hz (fun E Q hq => ev_cell (c2.keeps hk) hq) (fun C₃ s₃ m₃ E Q hn hk₃ hq => ?_) (fun C₃ i k t u s₃ m₃ E' hi hk3 hn hm1 hm2 hks => ?_) fun D₂ h₂ tk₂ zs hD₂ hlD₂ hlen₂ hF₂ hk₂ => ?_
    · exact ev_cell ((c2.keeps hk).keeps hk₃) hq
    · have G := (S'.g C).keeps hks
      obtain ⟨ff, g1, g2⟩ := G.order
      have R₃ := (hR.kx (Kx.of_stays hk)).kx (Kx.of_stays hks)
      obtain ⟨_, vs1, hv1, hi1⟩ := R₃.row i hi
      obtain ⟨_, vs2, hv2, hi2⟩ := R₃.row k hk3
      obtain ⟨ii, hii⟩ : ∃ ii : Int, ii = (i : Int) := ⟨_, rfl⟩
      obtain ⟨ki, hki⟩ : ∃ ki : Int, ki = (k : Int) := ⟨_, rfl⟩
      rw [← hii] at hm1
      rw [← hki] at hm2
      refine ev_callF g1 g2 ?_
      refine spliced_more ?_
      refine Subscript_ ?_
      refine ev_cell ((c5.keeps hk).keeps hks) ?_
      refine ev_loc hn hm1 ?_
      refine item_litK (v := .ref (rows i)) R₃.list (by omega) (by omega) (by rw [hii, Int.toNat_natCast]; exact rows_get rows hi) ?_
      refine spliced_more ?_
      refine Subscript_ ?_
      refine ev_cell ((c5.keeps hk).keeps hks) ?_
      refine ev_loc hn hm2 ?_
      refine item_litK (v := .ref (rows k)) R₃.list (by omega) (by omega) (by rw [hki, Int.toNat_natCast]; exact rows_get rows hk3) ?_
      refine spliced_none ⟨fun _ _ e => e, ?_⟩
      refine order_call g2 G.limit R G.zip hv1 hv2 hi1 hi2 (fields_len _) (fields_len _) fun h₄ t₄ tk₄ ks₄ => ?_
      exact ⟨⟨_, rfl⟩, _, _, rfl, ks₄⟩
    · refine ne_lists_same (hlD.at fun o e => hk₂ _ o e) hlD₂ (by rw [hlen, hlen₂]) hu (fun j x y hx hy => ?_) ?_
      · have hj : j < xs.length * xs.length := by
          rcases Nat.lt_or_ge j ys.length with q | q
          · rw [hlen] at q; exact q
          · rw [List.getElem?_eq_none q] at hx; cases hx
        have h0 : 0 < xs.length := by
          rcases Nat.eq_zero_or_pos xs.length with q | q
          · rw [q] at hj; simp at hj
          · exact q
        have e : j / xs.length * xs.length + j % xs.length = j := by rw [Nat.mul_comm]; exact Nat.div_add_mod j xs.length
        have i1 : j / xs.length < xs.length := Nat.div_lt_of_lt_mul hj
        have i2 : j % xs.length < xs.length := Nat.mod_lt _ h0
        obtain ⟨t1, rfl⟩ := hF (j / xs.length) (j % xs.length) x i1 i2 (by rw [e]; exact hx)
        obtain ⟨t2, rfl⟩ := hF₂ (j / xs.length) (j % xs.length) y i1 i2 (by rw [e]; exact hy)
        exact eqAt_int_same rfl
      · refine wpAny_truthy_bool ?_
        rw [if_neg (by decide)]
        refine wpAny_execs_nil ?_
        exact h _ _ (S'.stays hk₂) ((Kx.of_stays hk).trans (Kx.of_stays hk₂))
end
end Mine
/-! part V8 -/
namespace Mine
open PySem PySem.W PySem.Calls PyProof.Rows PySem.SeqAt
open Sem (wp)

structure LawM (B : Heap) (c P : Addr) (mg : Str → Option Value) : Prop where
  g : B.Ns mainGlobals mg
  code : CodeHd B c P
  built : B.BuiltinsAt mg P

section
variable {B h h' : Heap} {ps : Array Value} {P L : Addr} {m : Str → Option Value} {cv : Nat → Option Value}
theorem LawSt.off_list (S : LawSt B ps P L m cv h) {D : Addr} {its : Array Value} (hl : h.IsList D its) : Off P L D := by
  obtain ⟨o, e, hc, n, hd⟩ := hl
  refine ⟨?_, fun i hi => ?_⟩
  · rintro rfl
    have q := S.tab
    rw [e] at q; cases q; cases hc
  · rintro rfl
    match i, hi with
    | 0, _ => obtain ⟨o', _, _, q, q', _⟩ := S.ns; rw [show h.get? L = some o from e] at q; cases q; rw [hd] at q'; cases q'
    | i + 1, hi =>
      obtain ⟨o', q, q'⟩ := S.cell i (Nat.lt_of_succ_lt_succ hi)
      rw [← add1 L i] at q
      rw [show h.get? (L + (i + 1)) = some o from e] at q; cases q; rw [hd] at q'; cases q'
/-- the table of the code is written anew -/
theorem LawSt.retab {ps' : Array Value} (C : LawC B P L) (S : LawSt B ps P L m cv h) (hx : Heap.ExtBut P h h') (ht : h'.get? P = some (tabObj ps')) : LawSt B ps' P L m cv h' :=
  ⟨fun b o hb e => hx b o hb (S.kb b o hb e), ht, S.ns.at' fun o e => hx _ o (Nat.ne_of_gt C.ne) e,
    fun i hi => let ⟨o, a, b⟩ := S.cell i hi; ⟨o, hx _ o (ne_add1 P L i (Nat.le_of_lt C.ne)).symm a, b⟩⟩
/-- all but the names is kept -/
theorem LawSt.but (C : LawC B P L) (S : LawSt B ps P L m cv h) (hx : ∀ b o, b ≠ L → h.get? b = some o → h'.get? b = some o) (hn : h'.Ns L m) : LawSt B ps P L m cv h' :=
  ⟨fun b o hb e => hx b o (Nat.ne_of_lt (C.below b o e)) (S.kb b o hb e), hx _ _ (Nat.ne_of_lt C.ne) S.tab, hn,
    fun i hi => let ⟨o, a, b⟩ := S.cell i hi; ⟨o, hx _ o (ne_add1 L L i (Nat.le_refl _)).symm a, b⟩⟩
end

section
variable {prog : Program} {w : World} {A : Around} {E : Value → Shared → Prop} {s : Shared} {B : Heap} {P L f c : Addr} {m : Str → Option Value} {cv : Nat → Option Value}

def dueOk (xs : List Int) (js : List Nat) : Prop := js.Perm (List.range xs.length) ∧ js.Pairwise (fun i j => ¬ cmpL (fieldsOf' (xs.getD j 0)) (fieldsOf' (xs.getD i 0)) < 0)

theorem seg8 (C : LawC B P L) {mg : Str → Option Value} (M : LawM B c P mg) (R : Room 1 A) {r fl : Addr} {xs : List Int} {rows : Nat → Addr} {Q : Flow → Shared → Prop} (S : LawSt B #[] P L m cv s.heap) (hm2 : cv 2 = some (.ref r)) (hm5 : cv 5 = some (.ref fl))
    (hr : RangeAt P L s.heap r xs.length) (hR : RowsN P L s.heap fl xs rows) (hz : xs.length ≤ 30) (hz2 : 2 ≤ xs.length)
    (h : ∀ h' tk ps m' D us js, LawSt B ps P L m' cv h' → m' = (fun z : Str => if z = "due" then some (.ref D) else m z) → Off P L D → h'.IsList D (List.toArray us) → IntsAre us (js.map fun j : Nat => (j : Int)) → dueOk xs js → Kx P L s.heap h' → Q .next { s with heap := h', toks := tk }) :
    wpAny (model prog w) A (exec (lawStmt 8) (lawEnv L f (.ref c))) Q E s := by
  have c2 := S.cell 2 (by decide)
  rw [hm2] at c2
  have c5 := S.cell 5 (by decide)
  rw [hm5] at c5
  obtain ⟨hro, uu, vv, tt, hr'⟩ := hr
  have hgP : mainGlobals ≠ P := by
    rintro rfl
    obtain ⟨o, es, ep, e, hd, _⟩ := M.g
    rw [C.tab] at e; cases e; cases hd
  have g₁ : s.heap.Ns mainGlobals mg := M.g.at' fun o e => S.kb _ o hgP e
  have code₁ : CodeHd s.heap c P := let ⟨o, vs, file, tf, flags, tg, inF, text, tt, a, x⟩ := M.code; ⟨o, vs, file, tf, flags, tg, inF, text, tt, S.kb _ o (by obtain ⟨_, _, _, _, _, _, _, _, q⟩ := x; exact q) a, x⟩
  have built₁ : s.heap.BuiltinsAt mg P := let ⟨bm, o, a, b, d, e, p, x⟩ := M.built; ⟨bm, o, a, b, d, e, S.kb _ o e p, x⟩
  refine wpAny_Assign_Name ?_
  refine ev_sorted_key (v := lamBody) (S.g C).sorted ?_
  refine spliced_more ?_
  refine ev_cell c2 ?_
  refine spliced_none ?_
  refine wpAny_evalAll_cons ?_
  show wpAny _ _ (eval (.Lambda lamArgs lamBody lamScope ⟨116, 29, 116, 48⟩) (lawEnv L f (.ref c)) >>= fun v => standAt ⟨116, 10, 116, 49⟩ >>= fun _ => pure v) _ _ _
  refine wpAny_bind (lam_make g₁ code₁ S.tab built₁ fun h₁ F ps tk hx ht hlam hF0 => ?_)
  refine wpAny_bind (wpAny_standAt (wpAny_pure ?_))
  refine wpAny_evalAll_nil ?_
  have S₁ := S.retab C hx ht
  have hFL : F ≠ L := by
    rintro rfl
    obtain ⟨o, _, _, q, _⟩ := S.ns
    rw [show s.heap.get? F = none from hF0] at q; cases q
  have hr₁ : IsRange h₁ r 0 (xs.length : Int) 1 uu vv tt := hx _ _ hro.1 hr'
  have kx₁ : Kx P L s.heap h₁ := fun b o ho e => hx b o ho.1 e
  have R₁ := hR.kx kx₁
  refine sorted_key (rows := rows) (kv := fun i => fieldsOf' (xs.getD i 0)) R.handled (by have := R.units; omega) hr₁ (hro.2 0 (by decide)) hz2 (by omega) S₁.ns (fun i hi => ?_) (fun i _ => rfl) (fun i t h tk Q' hi hk hq => ?_) fun h' D us js tk hk hn hl hi hp hw => ?_
  · obtain ⟨a, vs, b, d⟩ := R₁.row i hi
    exact ⟨a.2 0 (by decide), vs, b, d⟩
  · obtain ⟨pm, c', ctv, ho, hcd⟩ := hlam
    have c5₁ := S₁.cell 5 (by decide)
    rw [hm5] at c5₁
    have S₂ : LawG h := (C.G).kt fun b o ho e => hk b o (Nat.ne_of_lt (C.below b o e)) (S₁.kb b o (fun q => by subst q; rw [C.tab] at e; cases e; exact ho rfl) e)
    refine lam_call (F := F) (cf := L + 1 + 5) (fl := fl) (as := (List.range xs.length).map fun i => Value.ref (rows i)) (T := rows i) ⟨pm, c', ctv, hk _ _ hFL ho, ?_⟩ S₂.limit (by have := R.depth; show A.depth < _; omega) ?_ ?_ (rows_get rows hi) (by omega) hq
    · obtain ⟨cc, o, vs, t', e, g, r⟩ := hcd
      exact ⟨cc, o, vs, t', e, hk _ _ (fun q => by subst q; obtain ⟨o', _, _, a, b, _⟩ := S₁.ns; rw [show h₁.get? cc = some o from g] at a; cases a; rw [r.1] at b; cases b) g, r⟩
    · obtain ⟨o, a, b⟩ := c5₁
      exact ⟨o, hk _ _ (ne_add1 L L 5 (Nat.le_refl _)).symm a, b⟩
    · exact R₁.list.at fun o e => hk _ o (R₁.off.2 0 (by decide)) e
  · have S₂ := S₁.but C hk hn
    have off := S₂.off_list hl
    refine wpAny_storeName_local rfl S₂.ns (fun h₆ hn₆ hs₆ => ?_) rfl
    have kx₆ := kx_store (P := P) hs₆
    exact h h₆ _ ps _ D us js (S₂.store C hn₆ hs₆) rfl off (hl.at fun o e => kx₆ _ o off e) hi ⟨hp, hw⟩ (kx₁.trans ((show Kx P L h₁ h' from fun b o ho e => hk b o (ho.2 0 (by decide)) e).trans kx₆))
end
end Mine
/-! part V9 -/
namespace Mine
open PySem PySem.W PySem.Calls PyProof.Rows PySem.SeqAt
open Sem (wp)

def kindSel (xs : List Int) (j : Nat) : Bool := decide (8 = (modeOf (xs.getD j 0)).fdiv 4096) || decide (10 = (modeOf (xs.getD j 0)).fdiv 4096)
def isInt (q : Int) : Value → Bool
  | .int n _ => decide (n = q)
  | _ => false

theorem any_kind {q : Int} {t u : Tok} : (List.toArray [Value.int 8 t, Value.int 10 u]).any (isInt q) = (decide (8 = q) || decide (10 = q)) := by simp [isInt]

section
variable {prog : Program} {w : World} {A : Around} {E : Value → Shared → Prop} {s : Shared} {P L : Addr} {m : Str → Option Value} {env : Env}
theorem kind_test {p1 p2 p3 p4 p5 p6 p7 p8 p9 p10 p11 : Pos} {whole : Sem Value} {c fl : Addr} {xs : List Int} {rows : Nat → Addr} {j : Nat} {t : Tok} {Q : Bool → Shared → Prop} (hc : s.heap.IsCell c (some (.ref fl))) (hR : RowsN P L s.heap fl xs rows) (hj : j < xs.length) (hz : xs.length ≤ 30)
    (hn : s.heap.Ns env.locals m) (hm : m "k" = some (.int (j : Int) t)) 
    (h : ∀ h' tk, s.heap.StaysIn h' → Q (kindSel xs j) { s with heap := h', toks := tk })
    (e1 : env.cells.lookup ("fields" : Str) = some c := by rfl) (e2 : env.scope.kind = .function := by rfl) (e3 : env.kindOf "fields" = some .cell := by rfl) (e4 : env.kindOf "k" = some .local := by rfl) :
    wpAny (model prog w) A (PySem.isTrue (.Compare (.BinOp (.Subscript (.Subscript (.Name "fields" p1) (.Name "k" p2) p3) (.Constant (.int 0) 0 p4) p5) .FloorDiv (.Constant (.int 4096) 0 p6) p7) [.In] [.List [.Constant (.int 8) 0 p8, .Constant (.int 10) 0 p9] p10] p11) env whole) Q E s := by
  obtain ⟨ji, hji⟩ : ∃ ji : Int, ji = (j : Int) := ⟨_, rfl⟩
  rw [← hji] at hm
  obtain ⟨_, vs, hv, hi⟩ := hR.row j hj
  refine wpAny_isTrue_Compare1 ?_
  refine wpAny_BinOp ?_
  refine Subscript_ ?_
  refine Subscript_ ?_
  refine ev_cell hc ?_ e1 e2 e3
  refine ev_loc hn hm ?_ e2 e4
  refine item_litK (v := .ref (rows j)) hR.list (by omega) (by omega) (by rw [hji, Int.toNat_natCast]; exact rows_get rows hj) ?_
  refine wpAny_Constant_int ?_
  obtain ⟨tm, hx⟩ := intsAre_get hi 0 (modeOf (xs.getD j 0)) rfl
  refine item_litK (v := .int (modeOf (xs.getD j 0)) tm) hv (by decide) (by decide) hx ?_
  refine wpAny_Constant_int ?_
  refine floordiv_int (by decide) ?_ (.inl (PyProof.noPylong_small (by decide)))
  refine wpAny_List ?_
  refine wpAny_items_cons ?_
  refine wpAny_Constant_int ?_
  refine wpAny_items_cons ?_
  refine wpAny_Constant_int ?_
  refine wpAny_items_nil ⟨by simp [sizeLine_eq], ?_⟩
  dsimp only
  generalize hH : s.heap.push _ = h₁
  have k₁ : s.heap.StaysIn h₁ := by rw [← hH]; exact fun b o e => Heap.get?_push_of_some _ e
  have hl₁ := show h₁.IsList s.heap.objs.size _ from ⟨_, by rw [← hH]; exact Heap.get?_push_size _ rfl, rfl, _, rfl⟩
  clear hH
  refine in_listAt (isInt ((modeOf (xs.getD j 0)).fdiv 4096)) hl₁ (fun y hy => ?_) ?_
  · simp only [List.mem_toArray, List.mem_cons, List.not_mem_nil, or_false] at hy
    rcases hy with rfl | rfl
    · exact eqAt_int
    · exact eqAt_int
  · refine wpAny_truthy_bool ?_
    rw [any_kind]
    exact h _ _ k₁

end

theorem paired_bsL {g : Nat → Bs} : ∀ {l : List Nat} {ys : List Value}, Paired (fun i y => ∃ t, y = Value.bytes (g i) t) l ys → BsAre ys (l.map g)
  | _, _, .nil => BsAre.nil
  | _, _, .cons (a := a) (l₁ := l₁) x r => by
    obtain ⟨t, rfl⟩ := x
    exact (BsAre.one _ t).append (paired_bsL r)
theorem js_range (js : List Nat) : (List.range js.length).map (fun i => js.getD i 0) = js := by
  apply List.ext_getElem?
  intro i
  by_cases h : i < js.length
  · simp [h]
  · rw [List.getElem?_eq_none (by simp; omega), List.getElem?_eq_none (by omega)]
theorem js_map {β : Type} (js : List Nat) (g : Nat → β) : (List.range js.length).map (fun i => g (js.getD i 0)) = js.map g := by
  conv => rhs; rw [← js_range js]
  rw [List.map_map]; rfl
theorem js_filter {β : Type} (js : List Nat) (p : Nat → Bool) (g : Nat → β) : ((List.range js.length).filter fun i => p (js.getD i 0)).map (fun i => g (js.getD i 0)) = (js.filter p).map g := by
  conv => rhs; rw [← js_range js]
  rw [List.filter_map, List.map_map]; rfl

section
variable {prog : Program} {w : World} {A : Around} {E : Value → Shared → Prop} {s : Shared} {B : Heap} {ps : Array Value} {P L f : Addr} {cd : Value} {m : Str → Option Value} {cv : Nat → Option Value}

theorem seg9 (C : LawC B P L) (R : Room 1 A) {fl pl D : Addr} {us : List Value} {js : List Nat} {xs : List Int} {rows : Nat → Addr} {Q : Flow → Shared → Prop} (S : LawSt B ps P L m cv s.heap) (hm5 : cv 5 = some (.ref fl)) (hm4 : cv 4 = some (.ref pl)) (hmD : m "due" = some (.ref D))
    (hR : RowsN P L s.heap fl xs rows) (hpl : BsAt P L s.heap pl (keysOf xs)) (hD : s.heap.IsList D us.toArray) (hus : IntsAre us (js.map fun j : Nat => (j : Int))) (hjs : ∀ j ∈ js, j < xs.length) (hz : xs.length ≤ 30) (hjz : js.length ≤ 30)
    (h : ∀ h' tk m' ro so, LawSt B ps P L m' cv h' → m' = (fun z : Str => if z = "row" then some (.ref ro) else if z = "some" then some (.ref so) else m z) → BsAt P L h' ro (js.map (keyN xs)) → BsAt P L h' so ((js.filter (kindSel xs)).map (keyN xs)) → Kx P L s.heap h' → Q .next { s with heap := h', toks := tk }) :
    wpAny (model prog w) A (exec (lawStmt 9) (lawEnv L f cd)) Q E s := by
  have c5 := S.cell 5 (by decide)
  rw [hm5] at c5
  have c4 := S.cell 4 (by decide)
  rw [hm4] at c4
  obtain ⟨_, vs, hv, hb⟩ := hpl
  have hlen : us.length = js.length := by rw [intsAre_len hus]; simp
  have at_ : ∀ i v, i < us.toArray.size → us.toArray[i]? = some v → ∃ t, v = .int ((js.getD i 0 : Nat) : Int) t ∧ js.getD i 0 < xs.length := fun i v hi hv => by
    have hi' : i < js.length := by simpa [hlen] using hi
    obtain ⟨t, e⟩ := intsAre_get hus i ((js.getD i 0 : Nat) : Int) (by simp [hi'])
    rw [List.getElem?_toArray, e] at hv
    refine ⟨t, (Option.some.inj hv).symm, hjs _ ?_⟩
    rw [List.getD_eq_getElem?_getD, List.getElem?_eq_getElem hi']
    exact List.getElem_mem hi'
  refine Assign_Tuple_swapped (names := ["row", "some"]) ?_
  refine wpAny_Tuple ?_
  refine wpAny_items_cons ?_
  refine compP (fun i y => ∃ t, y = Value.bytes (keyN xs (js.getD i 0)) t) (Iterates.list (l := D) (items := us.toArray) R.handled fun E Q hq => ev_loc S.ns hmD (hq _ _ (fun _ _ e => e) hD)) (by simp; omega) (fun C₃ i v s₃ m₃ E' hi hv3 hn hm₃ hk => ?_) fun D₁ h₁ tk₁ ys hD₁ hl₁ hp₁ hk₁ => ?_
  · obtain ⟨t, rfl, hjx⟩ := at_ i v hi hv3
    obtain ⟨ji, hji⟩ : ∃ ji : Int, ji = ((js.getD i 0 : Nat) : Int) := ⟨_, rfl⟩
    rw [← hji] at hm₃
    refine Subscript_ ?_
    refine ev_cell (c4.keeps hk) ?_
    refine ev_loc hn hm₃ ?_
    refine item_bs (hv.at fun o e => hk _ o e) hb (by omega) (by omega) (b := keyN xs (js.getD i 0)) (by rw [hji, Int.toNat_natCast]; exact keysOf_get xs hjx) fun tb => ?_
    exact ⟨⟨_, rfl⟩, _, _, rfl, fun _ _ e => e⟩
  · have S₁ := S.stays hk₁
    refine wpAny_items_cons ?_
    refine compPT (fun i => kindSel xs (js.getD i 0)) (fun i y => ∃ t, y = Value.bytes (keyN xs (js.getD i 0)) t) (Iterates.list (l := D) (items := us.toArray) R.handled fun E Q hq => ev_loc S₁.ns hmD (hq _ _ (fun _ _ e => e) (hD.at fun o e => hk₁ _ o e))) (by simp; omega) (fun C₃ i v s₃ m₃ E' hi hv3 hn hm₃ hk => ?_) fun D₂ h₂ tk₂ zs hD₂ hl₂ hp₂ hk₂ => ?_
    · obtain ⟨t, rfl, hjx⟩ := at_ i v hi hv3
      refine kind_test ((c5.keeps hk₁).keeps hk) ((hR.kx (Kx.of_stays hk₁)).kx (Kx.of_stays hk)) hjx hz hn hm₃ (fun h₄ tk₄ k₄ => ?_)
      refine ⟨rfl, ⟨_, _, rfl, k₄⟩, fun _ => ?_⟩
      obtain ⟨ji, hji⟩ : ∃ ji : Int, ji = ((js.getD i 0 : Nat) : Int) := ⟨_, rfl⟩
      rw [← hji] at hm₃
      refine Subscript_ ?_
      refine ev_cell (((c4.keeps hk₁).keeps hk).keeps k₄) ?_
      refine ev_loc (hn.keeps k₄) hm₃ ?_
      refine item_bs (hv.at fun o e => k₄ _ o (hk _ o (hk₁ _ o e))) hb (by omega) (by omega) (b := keyN xs (js.getD i 0)) (by rw [hji, Int.toNat_natCast]; exact keysOf_get xs hjx) fun tb => ?_
      exact ⟨⟨_, rfl⟩, _, _, rfl, fun _ _ e => e⟩
    · have S₂ := S₁.stays hk₂
      refine wpAny_items_nil ⟨by simp [sizeLine_eq], ?_⟩
      dsimp only
      generalize hH : h₂.push _ = h₃
      have k₃ : h₂.StaysIn h₃ := by rw [← hH]; exact fun b o e => Heap.get?_push_of_some _ e
      have ht₃ := show h₃.IsTuple h₂.objs.size _ from ⟨_, by rw [← hH]; exact Heap.get?_push_size _ rfl, rfl, _, rfl⟩
      clear hH
      have S₃ := S₂.stays k₃
      refine swap2 (a := "row") (b := "some") R.handled ht₃ S₃.ns fun h₄ tk₄ hn₄ hk₄ => ?_
      have kx₄ : Kx P L h₃ h₄ := fun b o ho e => hk₄ b o (ho.2 0 (by decide)) e
      have kx : Kx P L h₁ h₄ := (Kx.of_stays hk₂).trans ((Kx.of_stays k₃).trans kx₄)
      rw [List.size_toArray, hlen] at hp₁ hp₂
      have S₄ : LawSt B ps P L _ cv h₄ := ⟨fun b o hb e => hk₄ b o (Nat.ne_of_lt (C.below b o e)) (S₃.kb b o hb e), hk₄ _ _ (Nat.ne_of_lt C.ne) S₃.tab, hn₄, fun i hi => let ⟨o, a, b⟩ := S₃.cell i hi; ⟨o, hk₄ _ o (ne_add1 L L i (Nat.le_refl _)).symm a, b⟩⟩
      refine h h₄ _ _ D₁ D₂ S₄ rfl ⟨S.off hD₁, ys, hl₁.at fun o e => kx _ o (S.off hD₁) e, ?_⟩ ⟨S₁.off hD₂, zs, hl₂.at fun o e => ((Kx.of_stays k₃).trans kx₄) _ o (S₁.off hD₂) e, ?_⟩ ((Kx.of_stays hk₁).trans kx)
      · have := paired_bsL hp₁
        rw [js_map js (keyN xs)] at this
        exact this
      · have := paired_bsL hp₂
        rw [js_filter js (kindSel xs) (keyN xs)] at this
        exact this
end
end Mine
/-! part P3 -/
namespace Mine
open PySem PySem.W PySem.Calls PyProof.Rows PySem.SeqAt

/-! ## the signs of a mode -/
theorem and_pow (M k : Nat) : M &&& 2 ^ k = if M / 2 ^ k % 2 = 1 then 2 ^ k else 0 := by
  apply Nat.eq_of_testBit_eq
  intro i
  rw [Nat.testBit_and, Nat.testBit_two_pow]
  by_cases e : k = i
  · subst e
    rw [decide_eq_true rfl, Bool.and_true, Nat.testBit_eq_decide_div_mod_eq]
    by_cases h : M / 2 ^ k % 2 = 1
    · rw [if_pos h, Nat.testBit_two_pow_self, decide_eq_true h]
    · rw [if_neg h, Nat.zero_testBit, decide_eq_false h]
  · rw [decide_eq_false e, Bool.and_false]
    split
    · rw [Nat.testBit_two_pow, decide_eq_false e]
    · rw [Nat.zero_testBit]
theorem hit_one {i : Nat} (hi : i ≠ 0) (M k : Nat) : fmHit i (M : Int) ((2 ^ k : Nat) : Int) = decide (M / 2 ^ k % 2 = 1) := by
  unfold fmHit
  rw [if_neg hi, bitAnd_pp (Int.natCast_nonneg _) (Int.natCast_nonneg _), Int.toNat_natCast, Int.toNat_natCast, and_pow]
  by_cases h : M / 2 ^ k % 2 = 1
  · rw [if_pos h, decide_eq_true h]; simp
  · have : (2 : Nat) ^ k ≠ 0 := Nat.ne_of_gt (Nat.two_pow_pos k)
    rw [if_neg h, decide_eq_false h, beq_eq_false_iff_ne]
    omega
theorem hit_two {i : Nat} (hi : i ≠ 0) (M a b : Nat) (hd : (2 ^ a ||| 0 : Nat) ≠ (2 ^ a ||| 2 ^ b) ∧ (0 ||| 2 ^ b : Nat) ≠ (2 ^ a ||| 2 ^ b) ∧ (0 : Nat) ≠ (2 ^ a ||| 2 ^ b)) : fmHit i (M : Int) ((2 ^ a ||| 2 ^ b : Nat) : Int) = (decide (M / 2 ^ a % 2 = 1) && decide (M / 2 ^ b % 2 = 1)) := by
  unfold fmHit
  rw [if_neg hi, bitAnd_pp (Int.natCast_nonneg _) (Int.natCast_nonneg _), Int.toNat_natCast, Int.toNat_natCast, Nat.and_or_distrib_left, and_pow, and_pow]
  by_cases h : M / 2 ^ a % 2 = 1
  · by_cases g : M / 2 ^ b % 2 = 1
    · rw [if_pos h, if_pos g, decide_eq_true h, decide_eq_true g]; simp
    · rw [if_pos h, if_neg g, decide_eq_true h, decide_eq_false g, Bool.true_and, beq_eq_false_iff_ne]
      exact fun q => hd.1 (by exact_mod_cast q)
  · by_cases g : M / 2 ^ b % 2 = 1
    · rw [if_neg h, if_pos g, decide_eq_false h, Bool.false_and, beq_eq_false_iff_ne]
      exact fun q => hd.2.1 (by exact_mod_cast q)
    · rw [if_neg h, if_neg g, decide_eq_false h, Bool.false_and, beq_eq_false_iff_ne]
      exact fun q => hd.2.2 (by exact_mod_cast q)
theorem char_one {i : Nat} (hi : i ≠ 0) (M k : Nat) (c : Str) : fmChar i (M : Int) [(((2 ^ k : Nat) : Int), c)] = if M / 2 ^ k % 2 = 1 then c else "-" := by
  unfold fmChar
  simp only [List.find?_cons, hit_one hi]
  by_cases h : M / 2 ^ k % 2 = 1
  · simp [h]
  · simp [h, hi]
theorem char_three {i : Nat} (hi : i ≠ 0) (M a b : Nat) (c d e : Str) (hd : (2 ^ a ||| 0 : Nat) ≠ (2 ^ a ||| 2 ^ b) ∧ (0 ||| 2 ^ b : Nat) ≠ (2 ^ a ||| 2 ^ b) ∧ (0 : Nat) ≠ (2 ^ a ||| 2 ^ b)) :
    fmChar i (M : Int) [(((2 ^ a ||| 2 ^ b : Nat) : Int), c), (((2 ^ a : Nat) : Int), d), (((2 ^ b : Nat) : Int), e)] = [("-" : Str), e, d, c].getD (M / 2 ^ b % 2 + 2 * (M / 2 ^ a % 2)) "" := by
  unfold fmChar
  simp only [List.find?_cons, hit_one hi, hit_two hi M a b hd]
  have ha : M / 2 ^ a % 2 = 0 ∨ M / 2 ^ a % 2 = 1 := by omega
  have hb : M / 2 ^ b % 2 = 0 ∨ M / 2 ^ b % 2 = 1 := by omega
  rcases ha with ha | ha <;> rcases hb with hb | hb <;> simp [ha, hb, hi]

theorem kind_bits {M : Nat} (h : M < 65536) : M &&& 61440 = M / 4096 * 4096 := by
  have h1 : (M &&& 61440) / 2 ^ 12 = M / 4096 := by
    rw [Nat.and_div_two_pow]
    show M / 4096 &&& (2 ^ 4 - 1) = _
    rw [Nat.and_two_pow_sub_one_eq_mod]
    omega
  have h2 : (M &&& 61440) % 2 ^ 12 = 0 := by
    rw [Nat.and_mod_two_pow]
    show M % 2 ^ 12 &&& 0 = 0
    simp
  have := Nat.div_add_mod (M &&& 61440) (2 ^ 12)
  rw [h1, h2] at this
  omega
theorem char_kind {M : Nat} (h : M < 65536) (hk : M / 4096 = 8 ∨ M / 4096 = 4 ∨ M / 4096 = 10 ∨ M / 4096 = 12) : fmChar 0 (M : Int) (fmTab.getD 0 []) = sgKind ((M : Int).fdiv 4096) := by
  have e : Builtin.bitAnd (M : Int) 61440 = ((M / 4096 * 4096 : Nat) : Int) := by
    rw [bitAnd_pp (by omega) (by decide), Int.toNat_natCast]
    exact congrArg _ (kind_bits h)
  have g : (M : Int).fdiv 4096 = ((M / 4096 : Nat) : Int) := by rw [fdiv_nn _ _ (by decide)]; omega
  rw [g]
  unfold fmChar
  have hit : ∀ b, fmHit 0 (M : Int) b = (((M / 4096 * 4096 : Nat) : Int) == b) := fun b => by unfold fmHit; rw [if_pos rfl, e]
  simp only [hit]
  rcases hk with q | q | q | q <;> rw [q] <;> decide

theorem fd (M c : Nat) : (M : Int).fdiv (c : Int) = ((M / c : Nat) : Int) := by rw [fdiv_nn _ _ (Int.natCast_nonneg _)]; rfl
theorem fd0 (M : Nat) : (M : Int).fdiv (8 ^ (2 - 0)) = ((M / 64 : Nat) : Int) := by rw [show (8 : Int) ^ (2 - 0) = ((64 : Nat) : Int) from rfl, fd]
theorem fd1 (M : Nat) : (M : Int).fdiv (8 ^ (2 - 1)) = ((M / 8 : Nat) : Int) := by rw [show (8 : Int) ^ (2 - 1) = ((8 : Nat) : Int) from rfl, fd]
theorem fd2 (M : Nat) : (M : Int).fdiv (8 ^ (2 - 2)) = ((M / 1 : Nat) : Int) := by rw [show (8 : Int) ^ (2 - 2) = ((1 : Nat) : Int) from rfl, fd]
theorem bitA (V : Nat) : (V : Int) % 8 / 4 = 1 ↔ V / 4 % 2 = 1 := by omega
theorem bitB (V : Nat) : (V : Int) % 8 / 2 % 2 = 1 ↔ V / 2 % 2 = 1 := by omega
theorem bitL (V U : Nat) : ((V : Int) % 8 % 2 + 2 * ((U : Int) % 2)).toNat = V % 2 + 2 * (U % 2) := by omega
theorem sgA_eq (M : Nat) : sgA (M : Int) 0 = (if M / 2 ^ 8 % 2 = 1 then ("r" : Str) else "-") ∧ sgA (M : Int) 1 = (if M / 2 ^ 5 % 2 = 1 then ("r" : Str) else "-") ∧ sgA (M : Int) 2 = (if M / 2 ^ 2 % 2 = 1 then ("r" : Str) else "-") := by
  have key : ∀ (k V b : Nat), (M : Int).fdiv (8 ^ (2 - k)) = (V : Int) → V / 4 = b → sgA (M : Int) k = (if b % 2 = 1 then ("r" : Str) else "-") := by
    intro k V b hv hb
    unfold sgA sgThree
    rw [hv, fmod_nn _ _ (by decide), fdiv_nn _ _ (by decide), ← hb]
    by_cases h : V / 4 % 2 = 1
    · rw [if_pos (beq_iff_eq.mpr ((bitA V).mpr h)), if_pos h]
    · rw [if_neg (fun q => h ((bitA V).mp (beq_iff_eq.mp q))), if_neg h]
  exact ⟨key 0 _ _ (fd0 M) (Nat.div_div_eq_div_mul M 64 4), key 1 _ _ (fd1 M) (Nat.div_div_eq_div_mul M 8 4), key 2 _ _ (fd2 M) (Nat.div_div_eq_div_mul M 1 4)⟩
theorem sgB_eq (M : Nat) : sgB (M : Int) 0 = (if M / 2 ^ 7 % 2 = 1 then ("w" : Str) else "-") ∧ sgB (M : Int) 1 = (if M / 2 ^ 4 % 2 = 1 then ("w" : Str) else "-") ∧ sgB (M : Int) 2 = (if M / 2 ^ 1 % 2 = 1 then ("w" : Str) else "-") := by
  have key : ∀ (k V b : Nat), (M : Int).fdiv (8 ^ (2 - k)) = (V : Int) → V / 2 = b → sgB (M : Int) k = (if b % 2 = 1 then ("w" : Str) else "-") := by
    intro k V b hv hb
    unfold sgB sgThree
    rw [hv, fmod_nn _ 8 (by decide), fdiv_nn _ 2 (by decide), fmod_nn _ 2 (by decide), ← hb]
    by_cases h : V / 2 % 2 = 1
    · rw [if_pos (beq_iff_eq.mpr ((bitB V).mpr h)), if_pos h]
    · rw [if_neg (fun q => h ((bitB V).mp (beq_iff_eq.mp q))), if_neg h]
  exact ⟨key 0 _ _ (fd0 M) (Nat.div_div_eq_div_mul M 64 2), key 1 _ _ (fd1 M) (Nat.div_div_eq_div_mul M 8 2), key 2 _ _ (fd2 M) (Nat.div_div_eq_div_mul M 1 2)⟩
theorem sgL_eq (M : Nat) : sgL (M : Int) 0 = [("-" : Str), "x", "S", "s"].getD (M / 2 ^ 6 % 2 + 2 * (M / 2 ^ 11 % 2)) "" ∧ sgL (M : Int) 1 = [("-" : Str), "x", "S", "s"].getD (M / 2 ^ 3 % 2 + 2 * (M / 2 ^ 10 % 2)) "" ∧ sgL (M : Int) 2 = [("-" : Str), "x", "T", "t"].getD (M / 2 ^ 0 % 2 + 2 * (M / 2 ^ 9 % 2)) "" := by
  have key : ∀ (k V U b c : Nat) (C D : Str), Txt.item "SST" k = C → Txt.item "sst" k = D → (M : Int).fdiv (8 ^ (2 - k)) = (V : Int) → (2 : Int) ^ (2 - k) = (c : Int) → M / 512 / c = U → V % 2 + 2 * (U % 2) = b → sgL (M : Int) k = [("-" : Str), "x", C, D].getD b "" := by
    intro k V U b c C D hC hD hv hc hu hb
    unfold sgL sgThree sgOwn
    rw [hv, hc, show (512 : Int) = ((512 : Nat) : Int) from rfl, fd, fd, hu, hC, hD, fmod_nn _ 8 (by decide), fmod_nn _ 2 (by decide), fmod_nn _ 2 (by decide), bitL, hb]
  exact ⟨key 0 (M / 2 ^ 6) (M / 2 ^ 11) _ 4 _ _ (by decide) (by decide) (fd0 M) rfl (Nat.div_div_eq_div_mul M 512 4) rfl, key 1 (M / 2 ^ 3) (M / 2 ^ 10) _ 2 _ _ (by decide) (by decide) (fd1 M) rfl (Nat.div_div_eq_div_mul M 512 2) rfl,
    key 2 (M / 2 ^ 0) (M / 2 ^ 9) _ 1 _ _ (by decide) (by decide) (fd2 M) rfl (Nat.div_div_eq_div_mul M 512 1) rfl⟩

theorem join_ten (a b c d e f g h i j : Str) : Txt.join "" [a, b, c, d, e, f, g, h, i, j] = a ++ b ++ c ++ d ++ e ++ f ++ g ++ h ++ i ++ j := by
  show Builtin.Str.glued "" _ = _
  rw [StrLaws.glued_eq_join]
  have e0 : ∀ x y : Str, x ++ ("" : Str) ++ y = x ++ y := fun x y => by
    rw [show x ++ ("" : Str) = x from Str.append_empty x]
  simp only [Str.join, e0, Str.append_assoc]

theorem signs_eq {m : Int} (h0 : 0 ≤ m) (h1 : m < 65536) (hk : m.fdiv 4096 = 8 ∨ m.fdiv 4096 = 4 ∨ m.fdiv 4096 = 10 ∨ m.fdiv 4096 = 12) : Txt.join "" (fmTexts m) = sgUp m 3 := by
  obtain ⟨M, rfl⟩ : ∃ M : Nat, m = (M : Int) := ⟨m.toNat, by omega⟩
  have hk' : M / 4096 = 8 ∨ M / 4096 = 4 ∨ M / 4096 = 10 ∨ M / 4096 = 12 := by
    rw [show (4096 : Int) = ((4096 : Nat) : Int) from rfl, fd] at hk
    exact hk.imp Int.ofNat.inj (.imp Int.ofNat.inj (.imp Int.ofNat.inj Int.ofNat.inj))
  have t1 : fmTab.getD 1 [] = [(((2 ^ 8 : Nat) : Int), ("r" : Str))] := by decide +kernel
  have t2 : fmTab.getD 2 [] = [(((2 ^ 7 : Nat) : Int), ("w" : Str))] := by decide +kernel
  have t3 : fmTab.getD 3 [] = [(((2 ^ 11 ||| 2 ^ 6 : Nat) : Int), ("s" : Str)), (((2 ^ 11 : Nat) : Int), ("S" : Str)), (((2 ^ 6 : Nat) : Int), ("x" : Str))] := by decide +kernel
  have t4 : fmTab.getD 4 [] = [(((2 ^ 5 : Nat) : Int), ("r" : Str))] := by decide +kernel
  have t5 : fmTab.getD 5 [] = [(((2 ^ 4 : Nat) : Int), ("w" : Str))] := by decide +kernel
  have t6 : fmTab.getD 6 [] = [(((2 ^ 10 ||| 2 ^ 3 : Nat) : Int), ("s" : Str)), (((2 ^ 10 : Nat) : Int), ("S" : Str)), (((2 ^ 3 : Nat) : Int), ("x" : Str))] := by decide +kernel
  have t7 : fmTab.getD 7 [] = [(((2 ^ 2 : Nat) : Int), ("r" : Str))] := by decide +kernel
  have t8 : fmTab.getD 8 [] = [(((2 ^ 1 : Nat) : Int), ("w" : Str))] := by decide +kernel
  have t9 : fmTab.getD 9 [] = [(((2 ^ 9 ||| 2 ^ 0 : Nat) : Int), ("t" : Str)), (((2 ^ 9 : Nat) : Int), ("T" : Str)), (((2 ^ 0 : Nat) : Int), ("x" : Str))] := by decide +kernel
  unfold fmTexts
  rw [show List.range 10 = [0, 1, 2, 3, 4, 5, 6, 7, 8, 9] by decide]
  simp only [List.map_cons, List.map_nil, t1, t2, t3, t4, t5, t6, t7, t8, t9]
  rw [join_ten, char_kind (by omega) hk', char_one (by decide), char_one (by decide), char_one (by decide), char_one (by decide), char_one (by decide), char_one (by decide), char_three (by decide) _ _ _ _ _ _ (by decide), char_three (by decide) _ _ _ _ _ _ (by decide), char_three (by decide) _ _ _ _ _ _ (by decide)]
  obtain ⟨a0, a1, a2⟩ := sgA_eq M
  obtain ⟨b0, b1, b2⟩ := sgB_eq M
  obtain ⟨l0, l1, l2⟩ := sgL_eq M
  rw [← a0, ← a1, ← a2, ← b0, ← b1, ← b2, ← l0, ← l1, ← l2]
  rfl
theorem kind_of (c y : Int) (h2 : 0 ≤ y) (h3 : y < 4096) : (c * 4096 + y) / 4096 = c := by omega
theorem mode_kind (x : Int) : (modeOf x).fdiv 4096 = 8 ∨ (modeOf x).fdiv 4096 = 4 ∨ (modeOf x).fdiv 4096 = 10 ∨ (modeOf x).fdiv 4096 = 12 := by
  rw [fdiv_nn _ _ (by decide)]
  unfold modeOf
  rw [fmod_nn x 4 (by decide), fdiv_nn x 4 (by decide), fmod_nn _ 4096 (by decide)]
  have h0 : 0 ≤ x % 4 := Int.emod_nonneg _ (by decide)
  have h1 : x % 4 < 4 := Int.emod_lt_of_pos _ (by decide)
  have h2 : 0 ≤ (x / 4) % 4096 := Int.emod_nonneg _ (by decide)
  have h3 : (x / 4) % 4096 < 4096 := Int.emod_lt_of_pos _ (by decide)
  generalize (x / 4) % 4096 = y at *
  have : (x % 4).toNat < 4 := by omega
  generalize (x % 4).toNat = k at *
  match k, this with
  | 0, _ => exact .inl (kind_of 8 y h2 h3)
  | 1, _ => exact .inr (.inl (kind_of 4 y h2 h3))
  | 2, _ => exact .inr (.inr (.inl (kind_of 10 y h2 h3)))
  | 3, _ => exact .inr (.inr (.inr (kind_of 12 y h2 h3)))
end Mine
/-! part W0 -/
namespace Mine
open PySem PySem.W PySem.Calls PyProof.Rows PySem.SeqAt
open Sem (wp)

section
variable {prog : Program} {w : World} {A : Around} {E : Value → Shared → Prop} {s : Shared} {B : Heap} {ps : Array Value} {P L f : Addr} {cd : Value} {m : Str → Option Value} {cv : Nat → Option Value}

theorem seg10 (C : LawC B P L) (R : Room 2 A) {ke fl : Addr} {xs : List Int} {rows : Nat → Addr} {Q : Flow → Shared → Prop} (S : LawSt B ps P L m cv s.heap) (hm3 : cv 3 = some (.ref ke)) (hm5 : cv 5 = some (.ref fl))
    (hke : BsAt P L s.heap ke (keysOf xs)) (hR : RowsN P L s.heap fl xs rows) (hz : xs.length ≤ 30)
    (h : ∀ h' tk, LawSt B ps P L m cv h' → Kx P L s.heap h' → Q .next { s with heap := h', toks := tk }) :
    wpAny (model prog w) A (exec (lawStmt 10) (lawEnv L f cd)) Q E s := by
  have R1 : Room 1 A := ⟨R.handled, by have := R.depth; omega, by have := R.units; omega⟩
  have c3 := S.cell 3 (by decide)
  rw [hm3] at c3
  have c5 := S.cell 5 (by decide)
  rw [hm5] at c5
  have hu : A.units < cLine := by have := R.units; omega
  obtain ⟨_, us, hl, hb⟩ := hke
  have hul : us.length = xs.length := by rw [hb.len]; simp [keysOf]
  refine wpAny_If ?_
  refine wpAny_isTrue_Compare1 ?_
  refine compP (fun i y => ∃ t, y = Value.str (Txt.join "" (fmTexts (modeOf (xs.getD i 0)))) t) (Iterates.list (l := ke) (items := us.toArray) R.handled fun E Q hq => ev_cell c3 (hq _ _ (fun _ _ e => e) hl)) (by simp; omega) (fun C₃ i v s₃ m₃ E' hi hv3 hn hm₃ hk => ?_) fun D₁ h₁ tk₁ ys hD₁ hl₁ hp₁ hk₁ => ?_
  · have hix : i < xs.length := by simpa [hul] using hi
    have hv' : us[i]? = some v := by rw [← List.getElem?_toArray]; exact hv3
    obtain ⟨b, t, rfl, e⟩ := hb.getV hv'
    rw [keysOf_get xs hix] at e; cases e
    obtain ⟨k10, km⟩ := key_mode xs hix
    have G := (S.g C).keeps hk
    obtain ⟨ff, fi, tb, rs, g1, g2, g3, g4, g5, g6⟩ := G.mode
    refine ev_callF g1 g2 ?_
    refine spliced_more ?_
    refine wpAny_BinOp ?_
    refine wpAny_BinOp ?_
    refine Subscript_ ?_
    refine ev_loc hn hm₃ ?_
    refine wpAny_Constant_int ?_
    refine bytes_item (by omega) (by decide) (by omega) ?_
    refine wpAny_Constant_int ?_
    refine mul_int ?_
    refine Subscript_ ?_
    refine ev_loc hn hm₃ ?_
    refine wpAny_Constant_int ?_
    refine bytes_item (by omega) (by decide) (by omega) ?_
    refine add_int ?_
    refine spliced_none ⟨fun _ _ e => e, ?_⟩
    refine filemode_call g2 G.limit R G.enum g3 g4 g5 g6 fun h₄ t₄ tk₄ k₄ => ?_
    refine ⟨⟨t₄, ?_⟩, _, _, rfl, k₄⟩
    rw [← km]
    rfl
  · have S₁ := S.stays hk₁
    have R₁ := hR.kx (Kx.of_stays hk₁)
    refine compP (fun i y => ∃ t, y = Value.str (sgUp (modeOf (xs.getD i 0)) 3) t) (Iterates.list (l := fl) (items := ((List.range xs.length).map fun i => Value.ref (rows i)).toArray) R.handled fun E Q hq => ev_cell (c5.keeps hk₁) (hq _ _ (fun _ _ e => e) R₁.list)) (by simp; omega) (fun C₃ i v s₃ m₃ E' hi hv3 hn hm₃ hk => ?_) fun D₂ h₂ tk₂ zs hD₂ hl₂ hp₂ hk₂ => ?_
    · have hix : i < xs.length := by simpa using hi
      have hv' : v = .ref (rows i) := by
        rw [List.getElem?_toArray, rows_get rows hix] at hv3
        exact (Option.some.inj hv3).symm
      subst hv'
      have G := (S₁.g C).keeps hk
      obtain ⟨ff, g1, g2⟩ := G.signs
      obtain ⟨_, vs, hv, hi⟩ := (R₁.kx (Kx.of_stays hk)).row i hix
      obtain ⟨tm, hx⟩ := intsAre_get hi 0 (modeOf (xs.getD i 0)) rfl
      refine ev_callF g1 g2 ?_
      refine spliced_more ?_
      refine Subscript_ ?_
      refine ev_loc hn hm₃ ?_
      refine wpAny_Constant_int ?_
      refine item_litK (v := .int (modeOf (xs.getD i 0)) tm) hv (by decide) (by decide) hx ?_
      refine spliced_none ⟨fun _ _ e => e, ?_⟩
      refine signs_call g2 G.limit R1 G.range (mode_kind _) fun h₄ t₄ tk₄ k₄ => ?_
      exact ⟨⟨t₄, rfl⟩, _, _, rfl, k₄⟩
    · have l1 : ys.length = xs.length := by rw [← hp₁.length]; simp [hul]
      have l2 : zs.length = xs.length := by rw [← hp₂.length]; simp
      refine ne_lists_same (hl₁.at fun o e => hk₂ _ o e) hl₂ (by rw [l1, l2]) hu (fun j x y hx hy => ?_) ?_
      · have hj : j < xs.length := by
          rcases Nat.lt_or_ge j ys.length with q | q
          · rw [l1] at q; exact q
          · rw [List.getElem?_eq_none q] at hx; cases hx
        obtain ⟨y1, e1, t1, rfl⟩ := paired_get hp₁ (show (List.range us.toArray.size)[j]? = some j by simp [hul, hj])
        obtain ⟨y2, e2, t2, rfl⟩ := paired_get hp₂ (show (List.range ((List.range xs.length).map fun i => Value.ref (rows i)).toArray.size)[j]? = some j by simp [hj])
        rw [e1] at hx; cases hx
        rw [e2] at hy; cases hy
        exact eqAt_str_same (signs_eq (modeOf_bd _).1 (modeOf_bd _).2 (mode_kind _))
      · refine wpAny_truthy_bool ?_
        rw [if_neg (by decide)]
        refine wpAny_execs_nil ?_
        exact h _ _ (S₁.stays hk₂) ((Kx.of_stays hk₁).trans (Kx.of_stays hk₂))
end
end Mine
/-! part W1 -/
namespace Mine
open PySem PySem.W PySem.Calls PyProof.Rows PySem.SeqAt
open Sem (wp)

def pickOf (xs : List Int) : List Bs := ((List.range xs.length).filter (kindSel xs)).map (keyN xs)
theorem pickOf_len (xs : List Int) : (pickOf xs).length ≤ xs.length := by
  unfold pickOf
  rw [List.length_map]
  exact Nat.le_trans (List.length_filter_le _ _) (by simp)

section
variable {prog : Program} {w : World} {A : Around} {E : Value → Shared → Prop} {s : Shared} {B : Heap} {ps : Array Value} {P L f : Addr} {cd : Value} {m : Str → Option Value} {cv : Nat → Option Value}

theorem seg11 (C : LawC B P L) (R : Room 1 A) {ke r fl ro so : Addr} {xs : List Int} {js : List Nat} {rows : Nat → Addr} {Q : Flow → Shared → Prop} (S : LawSt B ps P L m cv s.heap) (hm3 : cv 3 = some (.ref ke)) (hm2 : cv 2 = some (.ref r)) (hm5 : cv 5 = some (.ref fl)) (hmr : m "row" = some (.ref ro)) (hms : m "some" = some (.ref so))
    (hke : BsAt P L s.heap ke (keysOf xs)) (hr : RangeAt P L s.heap r xs.length) (hR : RowsN P L s.heap fl xs rows) (hro : BsAt P L s.heap ro (js.map (keyN xs))) (hso : BsAt P L s.heap so ((js.filter (kindSel xs)).map (keyN xs))) (hz : xs.length ≤ 30) (hjz : js.length ≤ 30) (hne : js.filter (kindSel xs) ≠ [])
    (h : ∀ h' tk m' fe al bs, LawSt B ps P L m' cv h' → m' = (fun z : Str => if z = "fewer" then some (.ref fe) else if z = "alone" then some (.ref al) else m z) → BsAt P L h' fe bs → bs.Perm (pickOf xs) → bs.Pairwise (fun a b => bLt b a = false) →
      BsAt P L h' al (aloneF (js.map (keyN xs)) ((js.filter (kindSel xs)).map (keyN xs))) → Kx P L s.heap h' → Q .next { s with heap := h', toks := tk }) :
    wpAny (model prog w) A (exec (lawStmt 11) (lawEnv L f cd)) Q E s := by
  have c3 := S.cell 3 (by decide)
  rw [hm3] at c3
  have c2 := S.cell 2 (by decide)
  rw [hm2] at c2
  have c5 := S.cell 5 (by decide)
  rw [hm5] at c5
  obtain ⟨_, us, hl, hb⟩ := hke
  obtain ⟨_, u', v', t', hr'⟩ := hr
  have G := S.g C
  refine Assign_Tuple_swapped (names := ["fewer", "alone"]) ?_
  refine wpAny_Tuple ?_
  refine wpAny_items_cons ?_
  refine ev_callB G.sorted ?_
  refine spliced_more ?_
  refine compPT (kindSel xs) (fun i y => ∃ t, y = Value.bytes (keyN xs i) t) (Iterates.robj (m := xs.length) R.handled hr' rfl (by omega) fun E Q hq => ev_cell c2 hq) (by omega) (fun C₃ i v s₃ m₃ E' hi hv3 hn hm₃ hk => ?_) fun D₁ h₁ tk₁ ys hD₁ hl₁ hp₁ hk₁ => ?_
  · obtain ⟨t, rfl⟩ := hv3
    refine kind_test (c5.keeps hk) (hR.kx (Kx.of_stays hk)) hi hz hn hm₃ (fun h₄ tk₄ k₄ => ?_)
    refine ⟨rfl, ⟨_, _, rfl, k₄⟩, fun _ => ?_⟩
    obtain ⟨ji, hji⟩ : ∃ ji : Int, ji = (i : Int) := ⟨_, rfl⟩
    rw [← hji] at hm₃
    refine Subscript_ ?_
    refine ev_cell ((c3.keeps hk).keeps k₄) ?_
    refine ev_loc (hn.keeps k₄) hm₃ ?_
    refine item_bs (hl.at fun o e => k₄ _ o (hk _ o e)) hb (by omega) (by omega) (b := keyN xs i) (by rw [hji, Int.toNat_natCast]; exact keysOf_get xs hi) fun tb => ?_
    exact ⟨⟨_, rfl⟩, _, _, rfl, fun _ _ e => e⟩
  · have S₁ := S.stays hk₁
    have b₁ : BsAre ys (pickOf xs) := paired_bsL hp₁
    refine spliced_none ?_
    refine sorted_bs hl₁ b₁ (by have := pickOf_len xs; omega) fun h₂ D us₂ bs k₂ hD₂ hl₂ hb₂ hp hw => ?_
    have S₂ := S₁.stays k₂
    have G₂ := S₂.g C
    obtain ⟨fa, g1, g2⟩ := G₂.alone
    refine wpAny_items_cons ?_
    refine ev_callF g1 g2 ?_
    refine spliced_more ?_
    refine ev_loc S₂.ns hmr ?_
    refine spliced_more ?_
    refine ev_loc S₂.ns hms ?_
    refine spliced_none ⟨fun _ _ e => e, ?_⟩
    obtain ⟨_, ur, hlr, hbr⟩ := (hro.kx (Kx.of_stays hk₁)).kx (Kx.of_stays k₂)
    obtain ⟨_, uo, hlo, hbo⟩ := (hso.kx (Kx.of_stays hk₁)).kx (Kx.of_stays k₂)
    refine alone_call g2 G₂.limit R hlr hlo hbr hbo (by simpa using hne) (by simp; omega) (by have := List.length_filter_le (kindSel xs) js; rw [List.length_map]; omega) fun h₃ Pa ua tk₃ k₃ hla hba => ?_
    have S₃ := S₂.stays k₃
    refine wpAny_items_nil ⟨by simp [sizeLine_eq], ?_⟩
    dsimp only
    generalize hH : h₃.push _ = h₄
    have k₄ : h₃.StaysIn h₄ := by rw [← hH]; exact fun b o e => Heap.get?_push_of_some _ e
    have ht₄ := show h₄.IsTuple h₃.objs.size _ from ⟨_, by rw [← hH]; exact Heap.get?_push_size _ rfl, rfl, _, rfl⟩
    clear hH
    have S₄ := S₃.stays k₄
    refine swap2 (a := "fewer") (b := "alone") R.handled ht₄ S₄.ns fun h₅ tk₅ hn₅ hk₅ => ?_
    have kx₅ : Kx P L h₄ h₅ := fun b o ho e => hk₅ b o (ho.2 0 (by decide)) e
    have kx : Kx P L h₃ h₅ := (Kx.of_stays k₄).trans kx₅
    have S₅ : LawSt B ps P L _ cv h₅ := ⟨fun b o hb e => hk₅ b o (Nat.ne_of_lt (C.below b o e)) (S₄.kb b o hb e), hk₅ _ _ (Nat.ne_of_lt C.ne) S₄.tab, hn₅, fun i hi => let ⟨o, a, b⟩ := S₄.cell i hi; ⟨o, hk₅ _ o (ne_add1 L L i (Nat.le_refl _)).symm a, b⟩⟩
    have oD := S₂.off_list hl₂
    have oP := S₃.off_list hla
    refine h h₅ _ _ D Pa bs S₅ rfl ⟨oD, us₂, hl₂.at fun o e => kx _ o oD (k₃ _ o e), hb₂⟩ hp hw ⟨oP, ua, hla.at fun o e => kx _ o oP e, hba⟩ ((Kx.of_stays hk₁).trans ((Kx.of_stays k₂).trans ((Kx.of_stays k₃).trans kx)))
end
end Mine
/-! part P4 -/
namespace Mine
open PySem PySem.W PySem.Calls PyProof.Rows PySem.SeqAt

/-! ## the difference of sorted lists -/
abbrev Srt (l : List Bs) : Prop := l.Pairwise (fun a b => bLt b a = false)

theorem bLe_lt {a b c : Bs} (h1 : bLt b a = false) (h2 : bLt b c = true) : bLt a c = true := by
  by_cases q : a = b
  · rw [q]; exact h2
  · cases e : bLt a b with
    | true => exact bLt_trans e h2
    | false => exact absurd (bLt_total e h1) q
theorem bLt_le {a b c : Bs} (h1 : bLt a b = true) (h2 : bLt c b = false) : bLt a c = true := by
  by_cases q : b = c
  · rw [← q]; exact h1
  · cases e : bLt b c with
    | true => exact bLt_trans h1 e
    | false => exact absurd (bLt_total e h2) q
theorem bLt_ne {a b : Bs} (h : bLt a b = true) : a ≠ b := by rintro rfl; rw [bLt_irrefl] at h; cases h

/-- what follows a run of equal items -/
theorem run_split (e : Bs) : ∀ xs : List Bs, Srt (e :: xs) → (∃ k, xs = List.replicate k e ++ dropEq e xs) ∧ Srt (dropEq e xs) ∧ ∀ z ∈ dropEq e xs, bLt e z = true
  | [], _ => ⟨⟨0, rfl⟩, List.Pairwise.nil, fun z h => nomatch h⟩
  | x :: xs, h => by
    have hx := List.pairwise_cons.mp h
    by_cases q : x = e
    · subst q
      rw [dropEq_cons_eq]
      obtain ⟨⟨k, hk⟩, hs, hz⟩ := run_split x xs hx.2
      exact ⟨⟨k + 1, by rw [List.replicate_succ, List.cons_append, ← hk]⟩, hs, hz⟩
    · rw [dropEq_cons_ne q]
      refine ⟨⟨0, rfl⟩, hx.2, fun z hz => ?_⟩
      have hx1 : bLt e x = true := by
        cases c : bLt e x with
        | true => rfl
        | false => exact absurd (bLt_total (hx.1 x List.mem_cons_self) c) q
      rcases List.mem_cons.mp hz with rfl | hz
      · exact hx1
      · exact bLt_le hx1 ((List.pairwise_cons.mp hx.2).1 z hz)

structure DInv (Yf X Y acc : List Bs) : Prop where
  sx : Srt X
  sy : Srt Y
  sub : ∀ y ∈ Y, y ∈ X
  mem : ∀ z ∈ X, (z ∈ Yf ↔ z ∈ Y)
  acc : ∀ a ∈ acc, ∀ z ∈ X, bLt a z = true
  fin : Y = [] → ∀ z ∈ X, bLt (Yf.getLastD #[]) z = true
  last : Y ≠ [] → Yf.getLastD #[] = Y.getLastD #[]

theorem last_ge : ∀ (l : List Bs), Srt l → ∀ a ∈ l, bLt (l.getLastD #[]) a = false
  | [], _, a, h => nomatch h
  | [x], _, a, h => by rw [List.mem_singleton] at h; subst h; exact bLt_irrefl _
  | x :: y :: l, h, a, ha => by
    have hx := List.pairwise_cons.mp h
    have e : (x :: y :: l).getLastD #[] = (y :: l).getLastD #[] := by simp [List.getLastD]
    rw [e]
    rcases List.mem_cons.mp ha with rfl | ha
    · have : (y :: l).getLastD #[] ∈ y :: l := by
        rw [show (y :: l).getLastD #[] = (y :: l).getLast (by simp) by simp [List.getLastD]]
        exact List.getLast_mem _
      exact hx.1 _ this
    · exact last_ge (y :: l) hx.2 a ha

theorem step_skip {Yf acc : List Bs} {e : Bs} (h : e ∈ Yf) : stepA Yf acc e = acc := by unfold stepA; rw [if_neg (fun q => q.1 h)]
theorem fold_skip {Yf acc : List Bs} {e : Bs} (h : ∀ a, a = acc → stepA Yf a e = a) : ∀ k, (List.replicate k e).foldl (stepA Yf) acc = acc
  | 0 => rfl
  | k + 1 => by rw [List.replicate_succ, List.foldl_cons, h acc rfl]; exact fold_skip h k

theorem fold_all {Yf : List Bs} : ∀ (X acc : List Bs), (∀ z ∈ X, z ∉ Yf ∧ bLt (Yf.getLastD #[]) z = true) → X.foldl (stepA Yf) acc = acc ++ X
  | [], acc, _ => by simp
  | x :: X, acc, h => by
    have hx := h x List.mem_cons_self
    rw [List.foldl_cons, show stepA Yf acc x = acc ++ [x] by unfold stepA; rw [if_pos ⟨hx.1, .inl hx.2⟩], fold_all X _ fun z hz => h z (List.mem_cons_of_mem _ hz)]
    simp

/-- an item that is not in the other -/
theorem DInv.miss {Yf : List Bs} {e : Bs} {X : List Bs} {a : Bs} {Y acc : List Bs} (I : DInv Yf (e :: X) (a :: Y) acc) (h : bLt e a = true) :
    (e :: X).foldl (stepA Yf) acc = (dropEq e X).foldl (stepA Yf) (acc ++ [e]) ∧ DInv Yf (dropEq e X) (a :: Y) (acc ++ [e]) := by
  obtain ⟨⟨k, hk⟩, hs, hz⟩ := run_split e X I.sx
  have hY := List.pairwise_cons.mp I.sy
  have gt : ∀ y ∈ a :: Y, bLt e y = true := fun y hy => by
    rcases List.mem_cons.mp hy with rfl | hy
    · exact h
    · exact bLt_le h (hY.1 y hy)
  have eY : e ∉ a :: Y := fun q => bLt_ne (gt e q) rfl
  have eYf : e ∉ Yf := fun q => eY ((I.mem e List.mem_cons_self).mp q)
  have el : bLt (Yf.getLastD #[]) e = false := by
    rw [I.last (by simp)]
    have m : (a :: Y).getLastD #[] ∈ a :: Y := by
      rw [show (a :: Y).getLastD #[] = (a :: Y).getLast (by simp) by simp [List.getLastD]]
      exact List.getLast_mem _
    exact bLt_asymm (gt _ m)
  have ea : e ∉ acc := fun q => bLt_ne (I.acc e q e List.mem_cons_self) rfl
  have dm : ∀ z ∈ dropEq e X, z ∈ e :: X := fun z q => by rw [hk]; exact List.mem_cons_of_mem _ (List.mem_append_right _ q)
  refine ⟨?_, ⟨hs, I.sy, fun y hy => ?_, fun z hz' => I.mem z (dm z hz'), fun b hb z hz' => ?_, fun q => by simp at q, I.last⟩⟩
  · rw [List.foldl_cons, show stepA Yf acc e = acc ++ [e] by unfold stepA; rw [if_pos ⟨eYf, .inr ea⟩]]
    conv => lhs; rw [hk, List.foldl_append]
    rw [fold_skip (fun b hb => ?_) k]
    subst hb
    unfold stepA
    rw [if_neg]
    rintro ⟨_, q | q⟩
    · rw [el] at q; cases q
    · exact q (by simp)
  · have y1 := I.sub y hy
    have y2 := gt y hy
    rw [hk] at y1
    rcases List.mem_cons.mp y1 with rfl | y1
    · exact absurd rfl (bLt_ne y2)
    · rcases List.mem_append.mp y1 with q | q
      · exact absurd (List.eq_of_mem_replicate q).symm (bLt_ne y2)
      · exact q
  · rcases List.mem_append.mp hb with q | q
    · exact I.acc b q z (dm z hz')
    · rw [List.mem_singleton] at q; subst q; exact hz z hz'
/-- an item of both -/
theorem DInv.both {Yf : List Bs} {e : Bs} {X : List Bs} {Y acc : List Bs} (I : DInv Yf (e :: X) (e :: Y) acc) :
    (e :: X).foldl (stepA Yf) acc = (dropEq e X).foldl (stepA Yf) acc ∧ DInv Yf (dropEq e X) (dropEq e Y) acc := by
  obtain ⟨⟨k, hk⟩, hs, hz⟩ := run_split e X I.sx
  obtain ⟨⟨k', hk'⟩, hs', hz'⟩ := run_split e Y I.sy
  have eYf : e ∈ Yf := (I.mem e List.mem_cons_self).mpr List.mem_cons_self
  have dm : ∀ z ∈ dropEq e X, z ∈ e :: X := fun z q => by rw [hk]; exact List.mem_cons_of_mem _ (List.mem_append_right _ q)
  have dm' : ∀ z ∈ dropEq e Y, z ∈ e :: Y := fun z q => by rw [hk']; exact List.mem_cons_of_mem _ (List.mem_append_right _ q)
  have down : ∀ z ∈ e :: X, bLt e z = true → z ∈ dropEq e X := fun z y1 y2 => by
    rw [hk] at y1
    rcases List.mem_cons.mp y1 with rfl | y1
    · exact absurd rfl (bLt_ne y2)
    · rcases List.mem_append.mp y1 with q | q
      · exact absurd (List.eq_of_mem_replicate q).symm (bLt_ne y2)
      · exact q
  have down' : ∀ z ∈ e :: Y, bLt e z = true → z ∈ dropEq e Y := fun z y1 y2 => by
    rw [hk'] at y1
    rcases List.mem_cons.mp y1 with rfl | y1
    · exact absurd rfl (bLt_ne y2)
    · rcases List.mem_append.mp y1 with q | q
      · exact absurd (List.eq_of_mem_replicate q).symm (bLt_ne y2)
      · exact q
  refine ⟨?_, ⟨hs, hs', fun y hy => down y (I.sub y (dm' y hy)) (hz' y hy), fun z hz1 => ?_, fun b hb z hz1 => I.acc b hb z (dm z hz1), fun q z hz1 => ?_, fun q => ?_⟩⟩
  · rw [List.foldl_cons, step_skip eYf]
    conv => lhs; rw [hk, List.foldl_append]
    rw [fold_skip (fun b _ => step_skip eYf) k]
  · rw [I.mem z (dm z hz1)]
    exact ⟨fun q => down' z q (hz z hz1), fun q => dm' z q⟩
  · have l : (e :: Y).getLastD #[] = e := by
      have m : (e :: Y).getLastD #[] ∈ e :: Y := by
        rw [show (e :: Y).getLastD #[] = (e :: Y).getLast (by simp) by simp [List.getLastD]]
        exact List.getLast_mem _
      rw [hk', q, List.append_nil] at m
      rcases List.mem_cons.mp m with m | m
      · conv => lhs; rw [hk', q, List.append_nil]
        exact m
      · conv => lhs; rw [hk', q, List.append_nil]
        exact List.eq_of_mem_replicate m
    rw [I.last (by simp), l]
    exact hz z hz1
  · rw [I.last (by simp)]
    have e1 : ∀ (l : List Bs) (r : List Bs), r ≠ [] → (l ++ r).getLastD #[] = r.getLastD #[] := fun l r hr => by
      rw [List.getLastD_eq_getLast?, List.getLastD_eq_getLast?, List.getLast?_append]
      cases c : r.getLast? with
      | none => exact absurd (List.getLast?_eq_none_iff.mp c) hr
      | some v => rfl
    have e2 : e :: Y = (e :: List.replicate k' e) ++ dropEq e Y := by rw [List.cons_append, ← hk']
    rw [e2]
    exact e1 _ _ q

theorem DInv.no_less {Yf : List Bs} {e : Bs} {X : List Bs} {a : Bs} {Y acc : List Bs} (I : DInv Yf (e :: X) (a :: Y) acc) : bLt a e = false := by
  rcases List.mem_cons.mp (I.sub a List.mem_cons_self) with q | q
  · rw [q]; exact bLt_irrefl _
  · exact (List.pairwise_cons.mp I.sx).1 a q

theorem sld_one (Yf : List Bs) : ∀ (n : Nat) (X Y acc une : List Bs), X.length + Y.length ≤ n → DInv Yf X Y acc → sldL X Y acc une = (X.foldl (stepA Yf) acc, une)
  | _, [], [], acc, une, _, _ => by rw [sldL]; simp
  | _, [], y :: Y, acc, une, _, I => by have := I.sub y List.mem_cons_self; cases this
  | _, e :: X, [], acc, une, _, I => by
    rw [sldL, fold_all (e :: X) acc fun z hz => ⟨fun q => (nomatch (I.mem z hz).mp q), I.fin rfl z hz⟩]
  | 0, e :: X, a :: Y, acc, une, hn, _ => by simp at hn
  | n + 1, e :: X, a :: Y, acc, une, hn, I => by
    simp only [List.length_cons] at hn
    have d1 := dropEq_len e X
    have d2 := dropEq_len a Y
    rw [sldL]
    by_cases h1 : bLt e a = true
    · obtain ⟨f1, I'⟩ := I.miss h1
      rw [if_pos h1, f1, sld_one Yf n _ _ _ _ (by simp only [List.length_cons]; omega) I']
    · rw [if_neg h1, if_neg (by rw [I.no_less]; decide)]
      have q : e = a := bLt_total (by simpa using h1) I.no_less
      subst q
      obtain ⟨f1, I'⟩ := I.both
      rw [f1, sld_one Yf n _ _ _ _ (by omega) I']
theorem sld_two (Yf : List Bs) : ∀ (n : Nat) (X Y acc mis : List Bs), X.length + Y.length ≤ n → DInv Yf X Y acc → sldL Y X mis acc = (mis, X.foldl (stepA Yf) acc)
  | _, [], [], acc, mis, _, _ => by rw [sldL]; simp
  | _, [], y :: Y, acc, mis, _, I => by have := I.sub y List.mem_cons_self; cases this
  | _, e :: X, [], acc, mis, _, I => by
    rw [sldL, fold_all (e :: X) acc fun z hz => ⟨fun q => (nomatch (I.mem z hz).mp q), I.fin rfl z hz⟩]
  | 0, e :: X, a :: Y, acc, mis, hn, _ => by simp at hn
  | n + 1, e :: X, a :: Y, acc, mis, hn, I => by
    simp only [List.length_cons] at hn
    have d1 := dropEq_len e X
    have d2 := dropEq_len a Y
    rw [sldL, if_neg (by rw [I.no_less]; decide)]
    by_cases h1 : bLt e a = true
    · obtain ⟨f1, I'⟩ := I.miss h1
      rw [if_pos h1, f1, sld_two Yf n _ _ _ _ (by simp only [List.length_cons]; omega) I']
    · rw [if_neg h1]
      have q : e = a := bLt_total (by simpa using h1) I.no_less
      subst q
      obtain ⟨f1, I'⟩ := I.both
      rw [f1, sld_two Yf n _ _ _ _ (by omega) I']

theorem DInv.start {X Y : List Bs} (hX : Srt X) (hY : Srt Y) (hs : ∀ y ∈ Y, y ∈ X) (hn : Y ≠ []) : DInv Y X Y [] :=
  ⟨hX, hY, hs, fun _ _ => Iff.rfl, fun _ h => (nomatch h), fun q => absurd q hn, fun _ => rfl⟩
theorem sld_law {X Y : List Bs} (hX : Srt X) (hY : Srt Y) (hs : ∀ y ∈ Y, y ∈ X) (hn : Y ≠ []) : sldL X Y [] [] = (aloneF X Y, []) ∧ sldL Y X [] [] = ([], aloneF X Y) :=
  ⟨sld_one Y _ X Y [] [] (Nat.le_refl _) (DInv.start hX hY hs hn), sld_two Y _ X Y [] [] (Nat.le_refl _) (DInv.start hX hY hs hn)⟩

/-- the sorted order is one -/
theorem srt_unique : ∀ {a b : List Bs}, a.Perm b → Srt a → Srt b → a = b
  | [], b, p, _, _ => by rw [List.nil_perm] at p; exact p.symm
  | x :: a, [], p, _, _ => by have := p.length_eq; simp at this
  | x :: a, y :: b, p, ha, hb => by
    have hx := List.pairwise_cons.mp ha
    have hy := List.pairwise_cons.mp hb
    have e : x = y := by
      have m1 : x ∈ y :: b := p.mem_iff.mp List.mem_cons_self
      have m2 : y ∈ x :: a := p.mem_iff.mpr List.mem_cons_self
      rcases List.mem_cons.mp m1 with q | q
      · exact q
      · rcases List.mem_cons.mp m2 with q' | q'
        · exact q'.symm
        · exact bLt_total (hy.1 x q |> fun h => by exact hx.1 y q' |> fun g => by first | exact h | exact g) (by first | exact hx.1 y q' | exact hy.1 x q)
    subst e
    rw [srt_unique (List.Perm.cons_inv p) hx.2 hy.2]

theorem due_sorted {xs : List Int} {js : List Nat} (h : dueOk xs js) (hj : ∀ j ∈ js, j < xs.length) : Srt (js.map (keyN xs)) := by
  rw [Srt, List.pairwise_map]
  refine h.2.imp_of_mem fun {i j} hi hj' q => ?_
  rw [key_lt xs (hj j hj') (hj i hi)]
  exact decide_eq_false q
end Mine
/-! part W2 -/
namespace Mine
open PySem PySem.W PySem.Calls PyProof.Rows PySem.SeqAt
open Sem (wp)

section
variable {A : Around} {s : Shared}
theorem eqAt_lists_bs {a b : Addr} {us vs : List Value} {bs : List Bs} (hl : s.heap.IsList a us.toArray) (hb : s.heap.IsList b vs.toArray) (h1 : BsAre us bs) (h2 : BsAre vs bs) (hu : A.units < cLine) : EqAt A s (.ref a) (.ref b) true := fun prog w E Q h => by
  have hlen : us.length = vs.length := by rw [h1.len, h2.len]
  unfold eqBool
  refine wpAny_holding ?_
  refine wpAny_ite_split (fun _ => wpAny_bind (wpAny_rule (wpAny_pure h))) (fun _ => ?_)
  refine wpAny_bind ?_
  show wpAny _ _ (richCompare .Eq (.ref a) (.ref b)) _ _ _
  refine RcAt.lists (e := fun _ => true) hl hb (by simpa using hlen) hu (fun j g1 g2 => ?_) _ _ _ _ ?_
  · obtain ⟨c, t, e1, e2⟩ := h1.getV (i := j) (v := us.toArray[j]) (by simp)
    obtain ⟨d, u, e3, e4⟩ := h2.getV (i := j) (v := vs.toArray[j]) (by simp)
    rw [e2] at e4; cases e4
    rw [e1, e3]
    have := eqAt_bytes (A := A.in1) (s := s) (b := c) (c := c) (t := t) (u := u)
    rw [decide_eq_true rfl] at this
    exact this
  · rw [show (List.range us.toArray.size).all (fun _ => true) = true by simp]
    exact wpAny_truthy_bool h
theorem eqAt_tuples {a b : Addr} {x y x' y' : Value} (hl : s.heap.IsTuple a #[x, y]) (hb : s.heap.IsTuple b #[x', y']) (h1 : EqAt A.in1 s x x' true) (h2 : EqAt A.in1 s y y' true) (hu : A.units < cLine) : EqAt A s (.ref a) (.ref b) true := fun prog w E Q h => by
  unfold eqBool
  refine wpAny_holding ?_
  refine wpAny_ite_split (fun _ => wpAny_bind (wpAny_rule (wpAny_pure h))) (fun _ => ?_)
  refine wpAny_bind ?_
  show wpAny _ _ (richCompare .Eq (.ref a) (.ref b)) _ _ _
  refine RcAt.tuples (e := fun _ => true) hl hb hu (fun j g1 g2 => ?_) _ _ _ _ ?_
  · match j, g1 with
    | 0, _ => exact h1
    | 1, _ => exact h2
  · exact wpAny_truthy_bool h
end

section
variable {B h h' : Heap} {ps : Array Value} {P L : Addr} {m : Str → Option Value} {cv : Nat → Option Value}
theorem LawSt.kp (C : LawC B P L) (S : LawSt B ps P L m cv h) (k : KpB [L] h h') : LawSt B ps P L m cv h' :=
  ⟨fun b o hb e => (k b o (S.kb b o hb e)).2 (by simpa using Nat.ne_of_lt (C.below b o e)), (k _ _ S.tab).2 (by simpa using Nat.ne_of_lt C.ne), k.ns S.ns, fun i hi => k.cell (S.cell i hi)⟩
theorem kx_kp (k : KpB [L] h h') : Kx P L h h' := fun b o ho e => (k b o e).2 (by simpa using ho.2 0 (by decide))
theorem LawSt.frames {f : Addr} {cd : Value} (S : LawSt B ps P L m cv h) : FrOk h [lawEnv L f cd] := by
  obtain ⟨o, es, ep, a1, a2, _⟩ := S.ns
  exact ⟨(show (defScope 34).kind ≠ .module by decide), ⟨L, o, rfl, rfl, a1, fun vs q => by rw [a2] at q; cases q⟩, trivial⟩
end

section
variable {prog : Program} {w : World} {A : Around} {E : Value → Shared → Prop} {s : Shared} {B : Heap} {ps : Array Value} {P L f : Addr} {cd : Value} {m : Str → Option Value} {cv : Nat → Option Value}

theorem seg12 (C : LawC B P L) (R : Room 1 A) (hfr : A.frames = some [lawEnv L f cd]) {ke fe al : Addr} {xs : List Int} {X Y : List Bs} {Q : Flow → Shared → Prop} (S : LawSt B ps P L m cv s.heap) (hm3 : cv 3 = some (.ref ke)) (hmf : m "fewer" = some (.ref fe)) (hma : m "alone" = some (.ref al))
    (hke : BsAt P L s.heap ke (keysOf xs)) (hfe : BsAt P L s.heap fe Y) (hal : BsAt P L s.heap al (aloneF X Y)) (hX : X.Perm (keysOf xs)) (sX : Srt X) (sY : Srt Y) (sub : ∀ y ∈ Y, y ∈ X) (hne : Y ≠ []) (hz : xs.length ≤ 30) (hzY : Y.length ≤ 30)
    (h : ∀ h' tk, LawSt B ps P L m cv h' → Q (.ret (.bool true)) { s with heap := h', toks := tk }) :
    wpAny (model prog w) A (exec (lawStmt 12) (lawEnv L f cd)) Q E s := by
  obtain ⟨q1, q2⟩ := sld_law sX sY sub hne
  have c3 := S.cell 3 (by decide)
  rw [hm3] at c3
  have lX : X.length ≤ 30 := by rw [hX.length_eq]; simp [keysOf]; omega
  have lK : (keysOf xs).length < 64 := by simp [keysOf]; omega
  obtain ⟨ok, us, hl, hb⟩ := hke
  obtain ⟨of, uf, hlf, hbf⟩ := hfe
  refine wpAny_Return_some ?_
  refine wpAny_Compare1 ?_
  refine wpAny_List ?_
  refine wpAny_items_cons ?_
  obtain ⟨ff, g1, g2⟩ := (S.g C).diff
  refine ev_callF g1 g2 ?_
  refine spliced_more ?_
  refine ev_callB (S.g C).sorted ?_
  refine spliced_more ?_
  refine ev_cell c3 ?_
  refine spliced_none ?_
  refine sorted_bs hl hb lK fun h₁ D us₁ bs₁ k₁ hD hl₁ hb₁ hp₁ hw₁ => ?_
  have e₁ : bs₁ = X := srt_unique (hp₁.trans hX.symm) hw₁ sX
  subst e₁
  have S₁ := S.stays k₁
  refine spliced_more ?_
  refine ev_loc S₁.ns hmf ?_
  refine spliced_none ⟨k₁, ?_⟩
  refine sld_call (g2.keeps k₁) (S₁.g C).limit R hfr S₁.frames (S₁.g C).index hl₁ (hlf.at fun o e => k₁ _ o e) hb₁ hbf (by omega) (by omega) fun h₂ T M U ua vs' tk₂ kp₂ hT hM hbM hU hbU => ?_
  rw [q1] at hbM hbU
  have kp₂ : KpB [L] h₁ h₂ := kp₂
  have S₂ := S₁.kp C kp₂
  have kx₂ : Kx P L s.heap h₂ := (Kx.of_stays k₁).trans (kx_kp kp₂)
  refine wpAny_items_cons ?_
  obtain ⟨ff2, g3, g4⟩ := (S₂.g C).diff
  refine ev_callF g3 g4 ?_
  refine spliced_more ?_
  refine ev_loc S₂.ns hmf ?_
  refine spliced_more ?_
  refine ev_callB (S₂.g C).sorted ?_
  refine spliced_more ?_
  refine ev_cell (kp₂.cell (c3.keeps k₁)) ?_
  refine spliced_none ?_
  refine sorted_bs (hl.at fun o e => kx₂ _ o ok e) hb lK fun h₃ D' us₃ bs₃ k₃ hD' hl₃ hb₃ hp₃ hw₃ => ?_
  have e₃ : bs₃ = bs₁ := srt_unique (hp₃.trans hX.symm) hw₃ sX
  subst e₃
  have S₃ := S₂.stays k₃
  refine spliced_none ⟨k₃, ?_⟩
  refine sld_call (g4.keeps k₃) (S₃.g C).limit R hfr S₃.frames (S₃.g C).index (hlf.at fun o e => k₃ _ o (kx₂ _ o of e)) hl₃ hbf hb₃ (by omega) (by omega) fun h₄ T' M' U' ub vs'' tk₄ kp₄ hT' hM' hbM' hU' hbU' => ?_
  rw [q2] at hbM' hbU'
  have kp₄ : KpB [L] h₃ h₄ := kp₄
  have S₄ := S₃.kp C kp₄
  have kx₄ : Kx P L s.heap h₄ := kx₂.trans ((Kx.of_stays k₃).trans (kx_kp kp₄))
  have kq : KpB [L] h₂ h₄ := (KpB.of_stays k₃).trans kp₄
  refine wpAny_items_nil ⟨by simp [sizeLine_eq], ?_⟩
  dsimp only
  generalize hH : h₄.push _ = h₅
  have k₅ : h₄.StaysIn h₅ := by rw [← hH]; exact fun b o e => Heap.get?_push_of_some _ e
  have hl₅ := show h₅.IsList h₄.objs.size _ from ⟨_, by rw [← hH]; exact Heap.get?_push_size _ rfl, rfl, _, rfl⟩
  clear hH
  have S₅ := S₄.stays k₅
  refine wpAny_List ?_
  refine wpAny_items_cons ?_
  refine wpAny_Tuple ?_
  refine wpAny_items_cons ?_
  refine ev_loc S₅.ns hma ?_
  refine wpAny_items_cons ?_
  refine wpAny_List ?_
  refine wpAny_items_nil ⟨by simp [sizeLine_eq], ?_⟩
  dsimp only
  generalize hH : h₅.push _ = h₆
  have k₆ : h₅.StaysIn h₆ := by rw [← hH]; exact fun b o e => Heap.get?_push_of_some _ e
  have hl₆ := show h₆.IsList h₅.objs.size (List.toArray []) from ⟨_, by rw [← hH]; exact Heap.get?_push_size _ rfl, rfl, _, rfl⟩
  clear hH
  have S₆ := S₅.stays k₆
  refine wpAny_items_nil ⟨by simp [sizeLine_eq], ?_⟩
  dsimp only
  generalize hH : h₆.push _ = h₇
  have k₇ : h₆.StaysIn h₇ := by rw [← hH]; exact fun b o e => Heap.get?_push_of_some _ e
  have ht₇ := show h₇.IsTuple h₆.objs.size _ from ⟨_, by rw [← hH]; exact Heap.get?_push_size _ rfl, rfl, _, rfl⟩
  clear hH
  have S₇ := S₆.stays k₇
  refine wpAny_items_cons ?_
  refine wpAny_Tuple ?_
  refine wpAny_items_cons ?_
  refine wpAny_List ?_
  refine wpAny_items_nil ⟨by simp [sizeLine_eq], ?_⟩
  dsimp only
  generalize hH : h₇.push _ = h₈
  have k₈ : h₇.StaysIn h₈ := by rw [← hH]; exact fun b o e => Heap.get?_push_of_some _ e
  have hl₈ := show h₈.IsList h₇.objs.size (List.toArray []) from ⟨_, by rw [← hH]; exact Heap.get?_push_size _ rfl, rfl, _, rfl⟩
  clear hH
  have S₈ := S₇.stays k₈
  refine wpAny_items_cons ?_
  refine ev_loc S₈.ns hma ?_
  refine wpAny_items_nil ⟨by simp [sizeLine_eq], ?_⟩
  dsimp only
  generalize hH : h₈.push _ = h₉
  have k₉ : h₈.StaysIn h₉ := by rw [← hH]; exact fun b o e => Heap.get?_push_of_some _ e
  have ht₉ := show h₉.IsTuple h₈.objs.size _ from ⟨_, by rw [← hH]; exact Heap.get?_push_size _ rfl, rfl, _, rfl⟩
  clear hH
  have S₉ := S₈.stays k₉
  refine wpAny_items_nil ⟨by simp [sizeLine_eq], ?_⟩
  dsimp only
  generalize hH : h₉.push _ = h₁₀
  have k₁₀ : h₉.StaysIn h₁₀ := by rw [← hH]; exact fun b o e => Heap.get?_push_of_some _ e
  have hl₁₀ := show h₁₀.IsList h₉.objs.size _ from ⟨_, by rw [← hH]; exact Heap.get?_push_size _ rfl, rfl, _, rfl⟩
  clear hH
  have S₁₀ := S₉.stays k₁₀
  have z49 : h₄.StaysIn h₁₀ := fun b o e => k₁₀ b o (k₉ b o (k₈ b o (k₇ b o (k₆ b o (k₅ b o e)))))
  obtain ⟨oa, uA, hlA, hbA⟩ := hal
  have hlA' : h₁₀.IsList al uA.toArray := hlA.at fun o e => z49 _ o (kx₄ _ o oa e)
  have u5 : A.units + 5 < cLine := by have := R.units; omega
  show wpAny _ _ (richCompare .Eq (.ref h₄.objs.size) (.ref h₉.objs.size)) _ _ _
  refine RcAt.lists (items := #[.ref T, .ref T']) (items2 := #[.ref h₆.objs.size, .ref h₈.objs.size]) (e := fun _ => true) (hl₅.at fun o e => k₁₀ _ o (k₉ _ o (k₈ _ o (k₇ _ o (k₆ _ o e))))) hl₁₀ rfl (by omega) (fun j a1 a2 => ?_) _ _ _ _ ?_
  · have m1 : A.in1.units < cLine := by show A.units + 1 < _; omega
    have m2 : A.in1.in1.units < cLine := by show A.units + 1 + 1 < _; omega
    match j, a1 with
    | 0, _ =>
      exact eqAt_tuples ((kq.tuple hT).at fun o e => z49 _ o e) (ht₇.at fun o e => k₁₀ _ o (k₉ _ o (k₈ _ o e))) (eqAt_lists_bs ((kq.list hM).at fun o e => z49 _ o e) hlA' hbM hbA m2)
        (eqAt_lists_bs ((kq.list hU).at fun o e => z49 _ o e) (hl₆.at fun o e => k₁₀ _ o (k₉ _ o (k₈ _ o (k₇ _ o e)))) hbU BsAre.nil m2) m1
    | 1, _ =>
      exact eqAt_tuples (hT'.at fun o e => z49 _ o e) (ht₉.at fun o e => k₁₀ _ o e) (eqAt_lists_bs (hM'.at fun o e => z49 _ o e) (hl₈.at fun o e => k₁₀ _ o (k₉ _ o e)) hbM' BsAre.nil m2)
        (eqAt_lists_bs (hU'.at fun o e => z49 _ o e) hlA' hbU' hbA m2) m1
  · exact h _ _ S₁₀
end
end Mine
/-! part W3 -/
namespace Mine
open PySem PySem.W PySem.Calls PyProof.Rows PySem.SeqAt
open Sem (wp)

theorem kind_four (ns : List Int) : kindSel (numsOf ns) 4 = true := by
  have e : (numsOf ns).getD 4 0 = 2 ^ 45 + 1668 := rfl
  unfold kindSel
  rw [e]
  decide +kernel
theorem due_lt {xs : List Int} {js : List Nat} (h : dueOk xs js) : ∀ j ∈ js, j < xs.length := fun j hj => List.mem_range.mp (h.1.mem_iff.mp hj)
theorem due_len {xs : List Int} {js : List Nat} (h : dueOk xs js) : js.length = xs.length := by rw [h.1.length_eq]; simp
theorem due_keys {xs : List Int} {js : List Nat} (h : dueOk xs js) : (js.map (keyN xs)).Perm (keysOf xs) := h.1.map _
theorem due_some {xs : List Int} {js : List Nat} {bs : List Bs} (h : dueOk xs js) (hp : bs.Perm (pickOf xs)) (hw : Srt bs) : (js.filter (kindSel xs)).map (keyN xs) = bs := by
  refine srt_unique (((h.1.filter _).map _).trans hp.symm) ?_ hw
  exact List.Pairwise.sublist (List.filter_sublist.map _) (due_sorted h (due_lt h))

section
variable {prog : Program} {w : World} {A : Around} {E : Value → Shared → Prop} {s : Shared} {B : Heap} {P L f c : Addr} {m : Str → Option Value} {cv : Nat → Option Value}

set_option maxHeartbeats 4000000 in
theorem law_body (C : LawC B P L) {mg : Str → Option Value} (M : LawM B c P mg) (R : Room 2 A) (hfr : A.frames = some [lawEnv L f (.ref c)]) {sc : Addr} {as : List Value} {ns : List Int} {Q : Flow → Shared → Prop} (S : LawSt B #[] P L m cv s.heap) (hm : m "script" = some (.ref sc)) (hsc : B.IsList sc as.toArray) (hns : IntsAre as ns) (hz : ns.length ≤ 1048576)
    (h : ∀ h' tk ps m' cv', LawSt B ps P L m' cv' h' → Q (.ret (.bool true)) { s with heap := h', toks := tk }) :
    wpOk (model prog w) A (execs (defBody 34) (lawEnv L f (.ref c))) Q E s := by
  have R1 : Room 1 A := ⟨R.handled, by have := R.depth; omega, by have := R.units; omega⟩
  obtain ⟨n7, n11⟩ := numsOf_len ns
  have hk4 := kind_four ns
  show wpOk _ _ (execs [lawStmt 0, lawStmt 1, lawStmt 2, lawStmt 3, lawStmt 4, lawStmt 5, lawStmt 6, lawStmt 7, lawStmt 8, lawStmt 9, lawStmt 10, lawStmt 11, lawStmt 12] _) _ _ _
  refine ok_execs_cons ?_
  refine wpOk_of (seg0 C S hm hsc hns hz fun h₀ tk₀ m₀ a vs S₀ hm₀ oa ha hvs => ?_)
  dsimp only
  generalize hxs : numsOf ns = xs at *
  refine ok_execs_cons ?_
  refine wpOk_of (seg1 C R1 S₀ hm₀ ha hvs (by omega) fun h₁ tk₁ fl rows S₁ hR₁ kx₁ => ?_)
  dsimp only
  have ha₁ : h₁.IsList a (List.toArray vs) := ha.at fun o e => kx₁ _ o oa e
  refine ok_execs_cons ?_
  refine wpOk_of (seg2 C R1 S₁ rfl hR₁ (by omega) fun h₂ tk₂ m₂ lo hi S₂ em₂ hlo₂ hhi₂ kx₂ => ?_)
  dsimp only
  have hm₂ : m₂ "numbers" = some (.ref a) := by rw [em₂]; exact hm₀
  have hmh₂ : m₂ "high" = some (.ref hi) := by rw [em₂]; rfl
  have hR₂ := hR₁.kx kx₂
  have ha₂ : h₂.IsList a (List.toArray vs) := ha₁.at fun o e => kx₂ _ o oa e
  refine ok_execs_cons ?_
  refine seg3 C R1 S₂ rfl hlo₂ (by omega) fun h₃ tk₃ tu S₃ htu₃ kx₃ => ?_
  dsimp only
  have hR₃ := hR₂.kx kx₃
  have ha₃ : h₃.IsList a (List.toArray vs) := ha₂.at fun o e => kx₃ _ o oa e
  refine ok_execs_cons ?_
  refine seg4 C R1 S₃ rfl rfl hmh₂ (hlo₂.kx kx₃) htu₃ (hhi₂.kx kx₃) (by omega) fun h₄ tk₄ S₄ kx₄ => ?_
  dsimp only
  have hR₄ := hR₃.kx kx₄
  have htu₄ := htu₃.kx kx₄
  have hhi₄ := (hhi₂.kx kx₃).kx kx₄
  have ha₄ : h₄.IsList a (List.toArray vs) := ha₃.at fun o e => kx₄ _ o oa e
  refine ok_execs_cons ?_
  refine wpOk_of (seg5 C S₄ hm₂ ha₄ hvs (by omega) fun h₅ tk₅ r S₅ hr₅ kx₅ => ?_)
  dsimp only
  have hR₅ := hR₄.kx kx₅
  refine ok_execs_cons ?_
  refine wpOk_of (seg6 C R1 S₅ rfl rfl hmh₂ (htu₄.kx kx₅) (hhi₄.kx kx₅) hr₅ (by omega) fun h₆ tk₆ ke pl S₆ hke₆ hpl₆ kx₆ => ?_)
  dsimp only
  have hR₆ := hR₅.kx kx₆
  have hr₆ := hr₅.kx kx₆
  refine ok_execs_cons ?_
  refine wpOk_of (seg7 C R1 S₆ rfl rfl rfl hke₆ hr₆ hR₆ (by omega) fun h₇ tk₇ S₇ kx₇ => ?_)
  dsimp only
  have hR₇ := hR₆.kx kx₇
  have hr₇ := hr₆.kx kx₇
  have hke₇ := hke₆.kx kx₇
  have hpl₇ := hpl₆.kx kx₇
  refine ok_execs_cons ?_
  refine wpOk_of (seg8 C M R1 S₇ rfl rfl hr₇ hR₇ (by omega) (by omega) fun h₈ tk₈ ps m₈ D us js S₈ em₈ oD hD hus hdue kx₈ => ?_)
  dsimp only
  have hmD : m₈ "due" = some (.ref D) := by rw [em₈]; rfl
  have hR₈ := hR₇.kx kx₈
  have hr₈ := hr₇.kx kx₈
  have hke₈ := hke₇.kx kx₈
  have jl := due_len hdue
  refine ok_execs_cons ?_
  refine wpOk_of (seg9 C R1 S₈ rfl rfl hmD hR₈ (hpl₇.kx kx₈) hD hus (due_lt hdue) (by omega) (by omega) fun h₉ tk₉ m₉ ro so S₉ em₉ hro₉ hso₉ kx₉ => ?_)
  dsimp only
  have hmr : m₉ "row" = some (.ref ro) := by rw [em₉]; rfl
  have hms : m₉ "some" = some (.ref so) := by rw [em₉]; rfl
  have hR₉ := hR₈.kx kx₉
  have hr₉ := hr₈.kx kx₉
  have hke₉ := hke₈.kx kx₉
  refine ok_execs_cons ?_
  refine wpOk_of (seg10 C R S₉ rfl rfl hke₉ hR₉ (by omega) fun h₁₀ tk₁₀ S₁₀ kx₁₀ => ?_)
  dsimp only
  have hne : js.filter (kindSel xs) ≠ [] := by
    have m4 : 4 ∈ js := hdue.1.mem_iff.mpr (List.mem_range.mpr (by omega))
    exact List.ne_nil_of_mem (List.mem_filter.mpr ⟨m4, hk4⟩)
  refine ok_execs_cons ?_
  refine wpOk_of (seg11 C R1 S₁₀ rfl rfl rfl hmr hms (hke₉.kx kx₁₀) (hr₉.kx kx₁₀) (hR₉.kx kx₁₀) (hro₉.kx kx₁₀) (hso₉.kx kx₁₀) (by omega) (by omega) hne fun h₁₁ tk₁₁ m₁₁ fe al bs S₁₁ em₁₁ hfe hp hw hal kx₁₁ => ?_)
  dsimp only
  have es := due_some hdue hp hw
  rw [es] at hal
  have hmf : m₁₁ "fewer" = some (.ref fe) := by rw [em₁₁]; rfl
  have hma : m₁₁ "alone" = some (.ref al) := by rw [em₁₁]; rfl
  refine ok_execs_cons ?_
  refine wpOk_of (seg12 C R1 hfr S₁₁ rfl hmf hma ((hke₉.kx kx₁₀).kx kx₁₁) hfe hal (due_keys hdue) (due_sorted hdue (due_lt hdue)) hw (fun y hy => ?_) (fun q => ?_) (by omega) (by have := pickOf_len xs; rw [hp.length_eq]; omega) fun h' tk S' => ?_)
  · rw [← es] at hy
    obtain ⟨j, hj, rfl⟩ := List.mem_map.mp hy
    exact List.mem_map.mpr ⟨j, (List.mem_filter.mp hj).1, rfl⟩
  · rw [← es] at q
    exact hne (List.map_eq_nil_iff.mp q)
  · exact h h' tk ps _ _ S'
end
end Mine
/-! part H0 -/
namespace Mine
open PySem PySem.W PySem.Calls PyProof.Rows
open Sem (wp)

/-! ## the head, for a call that is shown under `wpOk` alone
The library's head asks for the call under every stack; `bytearray` looks into the stack, so no such proof can be. Here the call is asked under the stack that the claim lays. -/

abbrev WalkOk (q : Program) (loose : List Str) (XP : (Str → Option Value) → Heap → Prop) (YP : World → Heap → Prop) (r : RowW) (d : DefRec) (kwd : List (Str × Expr)) : Prop :=
  ∀ (w : World) (s₀ s₁ : Shared) (mg mb : Str → Option Value), Ground q loose r.records XP w s₀ mg mb s₁.heap → YP w s₁.heap → ∀ (a : Addr) (o : Obj) (pm cd doc dV kV : Value), s₁.heap.get? a = some o →
    o.data = .func { docDef d.name d.params d.body d.scope pm cd doc with defaults := dV, kwdefaults := kV } → s₁.heap.CodeRec cd d.name → Dflts mg s₁.heap d.params kwd dV kV → mg d.name = some (.ref a) → s₁.gens = #[] →
    ∀ (args : List WData) (vals : List Value) (as : List Addr), r.claim.pre args = true → WData.layableAll args = true → ReadsAllW r.records (classAt s₀.heap) s₁.heap vals args as → WellAll w.params s₁.heap vals args → (∀ a ∈ as, (a == sysModules) = false) →
      wpOk (model r.prog w) callerA (PySem.call (.ref a) vals) (fun v s' => GoodWG r.claim (classAt s₀.heap) (ExcName.means s₀.heap) args s₁ (.ok (.ret v)) s')
        (fun e s' => GoodWG r.claim (classAt s₀.heap) (ExcName.means s₀.heap) args s₁ (.error e) s') s₁

theorem wp_caller {M : Model} {t : Sem Fin} {R : Result → Shared → Prop} {s : Shared}
    (h : wpOk M callerA t (fun fin s' => ∃ f, fin = .done f ∧ R (.ok f) s') (fun e s' => R (.error e) s') s) :
    wp M ⟨.builtin "claim.caller" {}, none, none, [], none⟩ t (Sem.finPost M ⟨.builtin "claim.caller" {}, none, none, [], none⟩ R) (fun e _ s' => R (.error e) s') default s :=
  Sem.wp_mono M _ t (fun fin p' s' h' => by obtain ⟨f, rfl, hf⟩ := h'; exact hf) (fun _ _ _ h' => h') default s (h _ _ caller_in ⟨rfl, fun _ hx => nomatch hx⟩)

theorem callFrom_ok {c : ClaimW} {tree : List Value → Sem Fin} {w : World} {s : Shared} {free : Addr → Prop} {gens : Prop} {kept : Heap → Prop} (hz : s.asleep) (hgens : s.gens = #[])
    (hspec : ∀ args, c.pre args = true → WData.layableAll args = true → ∀ ord : List DictEntry → List DictEntry, (∀ l, (ord l).Perm l) →
      ∃ vs s₁, layAllW c.records (classAt s.heap) w.params ord args s = some (vs, s₁) ∧
        wpOk (model c.prog w) callerA (tree vs) (fun fin s' => ∃ f, fin = .done f ∧ (c.Ends s args vs s₁ (.ok f) s' ∧ s'.os = s.os ∧ AllBare s'.gens ∧ kept s'.heap))
          (fun e s' => c.Ends s args vs s₁ (.error e) s' ∧ s'.os = s.os ∧ AllBare s'.gens ∧ kept s'.heap) s₁) :
    c.CallFrom (fun vs => ⟨tree vs, .builtin "claim.caller" {}, default, []⟩) w free gens kept s := by
  intro args hpre hlay ord hord
  obtain ⟨vs, s₁, laid, code⟩ := hspec args hpre hlay ord hord
  have rest := layAllW_rest _ _ _ laid
  obtain ⟨k, r, s'', s', sched, hrun, forgot, ends, os, kp⟩ := wp_halts_full (M := model c.prog w) (R := fun r s' => c.Ends s args vs s₁ r s' ∧ s'.os = s.os ∧ kept s'.heap) (Shared.asleep_of_life rest.2.2.2 hz)
    (wp_caller (R := fun r s' => (c.Ends s args vs s₁ r s' ∧ s'.os = s.os ∧ kept s'.heap) ∧ leftWithCleanup s'.gens = false)
      (wpOk_mono code (fun _ _ ⟨f, e, h1, h2, h3, h4⟩ => ⟨f, e, ⟨h1, h2, h4⟩, leftWithCleanup_false_of_bare h3⟩) fun _ _ ⟨h1, h2, h3, h4⟩ => ⟨⟨h1, h2, h4⟩, leftWithCleanup_false_of_bare h3⟩))
  obtain ⟨eh, _, _, eo, _⟩ := Shared.forget_eq forgot
  have ends := ends.congr eh
  have kp : kept s'.heap := by rw [eh]; exact kp
  have os : s'.os = s.os := eo.trans os
  have life : s'.heap.life = s.heap.life := (runN_life _ _ _ hrun).trans rest.2.2.2
  refine ⟨vs, s₁, laid, k, _, s', sched, ?_, (fun _ i x hx => by rw [hgens] at hx; simp at hx), kp, by rw [life], Shared.rest_eq os⟩
  rcases ends with ⟨v, rfl, d1, d2, d3, d4, d5⟩ | ⟨e, ob, cls, rfl, d1, d2, d3, d4, d5⟩
  · exact .inl ⟨v, rfl, d1, d2, d3, fun b o y _ => d4 b o y, d5⟩
  · exact .inr ⟨e, ob, cls, rfl, d1, d2, d3, d4, fun b o y _ => d5 b o y⟩

end Mine
namespace Mine.Hd
open PySem PySem.W PySem.Calls PyProof.Rows
/-- the head's conclusion from the call shown under `wpOk` -/
theorem holdsOwn {r : OpenRow} {q : Program} {loose : List Str} {Xt : Shared → Bool} {XP : (Str → Option Value) → Heap → Prop} {α : Type} {Yf : Shared → α} {Ya : World → α} {YP : World → Heap → Prop} {d : DefRec} {kwd : List (Str × Expr)} {N : Nat}
    (left : LeftO r.prog q loose Xt Yf Ya N) (hY : ∀ w s, Yf s = Ya w → YP w s.heap) (hYk : ∀ w h h', YP w h → (∀ b o, h.get? b = some o → h'.get? b = some o) → YP w h')
    (hX : ∀ s, Xt s = true → XP (s.heap.nsMap mainGlobals) s.heap) (hXk : ∀ mg h h', XP mg h → (∀ b o, h.get? b = some o → h'.get? b = some o) → XP mg h')
    (hdef : defOf q r.name = some (d, kwd)) (hp : r.prog.theDef r.name = some (d.params, d.body, d.scope)) (hk : kwWritten? d.params.kwonlyargs d.params.kw_defaults = some kwd) (hRf : ∀ s, Xt s = true → RecFacts r.records s.heap) (hwr : (!r.writes || r.records.isEmpty) = true)
    (k1 : r.wellSaid = true) (ok : (chainsOk q && opensWell r.prog && (frees r.toRowW && r.within.isEmpty)) = true) (hb : r.prog.bare) (hw : r.toRowW.promised)
    (walk : WalkOk q loose XP YP r.toRowW d kwd) : r.Holds := by
  obtain ⟨ok, k5⟩ := Bool.and_eq_true_iff.mp ok
  obtain ⟨hch, o1⟩ := Bool.and_eq_true_iff.mp ok
  obtain ⟨k5, k6⟩ := Bool.and_eq_true_iff.mp k5
  obtain ⟨hsame, hu, ha, hap, hm⟩ := frees_parts k5
  refine ⟨k1, hw, ⟨hb, o1, by show r.makers.map _ = []; rw [hm]; rfl⟩, hw.witness, fun w => ⟨(left.behind hX hch w).1, fun s' hs' => ?_⟩⟩
  obtain ⟨s₀, hf, hg0, s, ran, hz, hgens, hg, G1, y⟩ := (left.behind (XP := fun mg h => XP mg h ∧ RecFacts r.records h) (fun s hs => ⟨hX s hs, hRf s hs⟩) hch w).2 s' hs'
  have G0 : Ground q loose [] XP w s (s.heap.nsMap mainGlobals) (s.heap.nsMap builtinsNs) s.heap := ⟨G1.T, G1.B, G1.D, G1.TE, G1.TD, G1.W, G1.X.1, G1.cls, G1.has, G1.apart, G1.once, G1.K⟩
  have recs := G1.X.2
  have gens0 : s.gens = #[] := Array.eq_empty_of_size_eq_zero (beq_iff_eq.mp hgens)
  have G : Ground q loose r.records XP w s _ _ s.heap := recs.ground G0
  have within : r.toRowW.claim.within = [] := List.isEmpty_iff.mp k6
  refine ⟨s₀, hf, hg0, s, ran, fun n hn => ?_, recs.1, recs.2.1, ?_⟩
  · obtain rfl : n = r.name := by split at hn <;> simp_all
    exact pinned_of_view hg G0 hdef hp hk
  refine callFrom_ok (c := r.toRowW.claim) (tree := fun vs => do match ← nsGet mainNs r.name with
      | some f => do ret (← PySem.call f vs)
      | none => unsupported "claim.caller:no-such-global") hz gens0 fun args hpre hlay ord hord => ?_
  obtain ⟨⟨vs, s₁⟩, laid⟩ := Option.isSome_iff_exists.mp (layAllW_isSome (P := w.params) (ord := ord) G.has args r.args s (pre_splitW hpre).1)
  have keeps := layAllW_keeps _ _ _ laid
  have rest := layAllW_rest _ _ _ laid
  obtain ⟨as, hrd, hin, hold⟩ := reads_layAllW hord _ _ _ laid hlay s₁.heap (fun _ _ e => e)
  have L : Laid r.records w s s₁ args vs as := ⟨⟨ord, hord, laid⟩, hrd, hin, hold, keeps, rest.1.trans gens0, rest.2.2.1⟩
  have G₁ := G.keeps hXk keeps
  obtain ⟨a, o, pm, cd, doc, dV, kV, h1, h2, h3, h4, h5⟩ := G₁.fn hdef
  have W := walk w s s₁ _ _ G₁ (hYk _ _ _ (hY w s y) keeps) a o pm cd doc dV kV h2 h3 h4 h5 (defOf_name hdef ▸ h1) L.gens args vs as hpre hlay L.reads L.well (L.low G.low)
  refine ⟨vs, s₁, laid, wpOk_bind (wpOk_of (wpAny_nsGet G₁.T.g ?_))⟩
  rw [h1]
  refine wpOk_bind (wpOk_mono W (fun v s' g => wpOk_pure ⟨_, rfl, ?_⟩) fun e s' g => ?_) <;>
    exact have z := g.laid (c := r.toRowW.claim) hsame within (ident_freeW hu ha hap) L; ⟨z.1, z.2.1, z.2.2, fun q => ⟨namesKept_of ran hg _ keeps g.2.1.old, noTable hwr q⟩⟩
end Mine.Hd
/-! part H3 -/
namespace Mine
open PySem PySem.W PyProof.Rows
def keepIdx : List Nat := [1, 3, 4, 5, 6, 7, 8, 9, 10, 11, 12, 13, 14, 15, 16, 17, 18, 19, 20, 21, 22, 23, 24, 26, 27, 29, 30, 31, 32, 33, 34]
def vw : Program := { PySem.Challenge.pw_oy0081_01 with main := { PySem.Challenge.pw_oy0081_01.main with body := keepIdx.filterMap fun i => PySem.Challenge.pw_oy0081_01.main.body[i]? } }
def fmLit0 : List (Str × WData) := [(Str.ofString "_filemode_table", .tuple [
  .tuple [.tuple [.int 40960, .str "l"], .tuple [.int 49152, .str "s"], .tuple [.int 32768, .str "-"], .tuple [.int 24576, .str "b"], .tuple [.int 16384, .str "d"], .tuple [.int 8192, .str "c"], .tuple [.int 4096, .str "p"]],
  .tuple [.tuple [.int 256, .str "r"]], .tuple [.tuple [.int 128, .str "w"]], .tuple [.tuple [.int 2112, .str "s"], .tuple [.int 2048, .str "S"], .tuple [.int 64, .str "x"]],
  .tuple [.tuple [.int 32, .str "r"]], .tuple [.tuple [.int 16, .str "w"]], .tuple [.tuple [.int 1032, .str "s"], .tuple [.int 1024, .str "S"], .tuple [.int 8, .str "x"]],
  .tuple [.tuple [.int 4, .str "r"]], .tuple [.tuple [.int 2, .str "w"]], .tuple [.tuple [.int 513, .str "t"], .tuple [.int 512, .str "T"], .tuple [.int 1, .str "x"]]])]
namespace Hd
set_option maxHeartbeats 8000000 in
theorem left : LeftO PySem.Challenge.pw_oy0081_01 vw [Str.ofString "_filemode_table"] (fun s => xlAt vw fmLit0 s && recOk [] s) (Hook.obs Hook.none) (Hook.val Hook.none) 1532 := by
  intro w
  kernel_rfl
end Hd
end Mine
/-! part H4 -/
namespace Mine
open PySem PySem.W PyProof.Rows
set_option maxHeartbeats 8000000 in
theorem said : PySem.Challenge.rw_oy0081_01.wellSaid = true := by
  delta OpenLaw.wellSaid OpenRow.wellSaid OpenRow.partSaid looksOpen
  repeat' (with_reducible refine look_both ?_ ?_)
  all_goals (as_aux_lemma => kernel_rfl)
def lawRec : DefRec := ⟨"law", defParams 34, defBody 34, defScope 34, ⟨105, 0, 121, 131⟩⟩
theorem lawDef : defOf vw PySem.Challenge.rw_oy0081_01.row.name = some (lawRec, []) := by kernel_rfl
theorem promised : PySem.Challenge.rw_oy0081_01.row.toRowW.promised := by w_witness2
theorem hpd : PySem.Challenge.rw_oy0081_01.row.toRowW.prog.theDef PySem.Challenge.rw_oy0081_01.row.toRowW.name = some (defParams 34, defBody 34, defScope 34) := by kernel_rfl
theorem hkd : kwWritten? (defParams 34).kwonlyargs (defParams 34).kw_defaults = some [] := by kernel_rfl
theorem hwd : (!PySem.Challenge.rw_oy0081_01.row.writes || PySem.Challenge.rw_oy0081_01.row.toRowW.records.isEmpty) = true := by kernel_rfl
theorem okk1 : chainsOk vw = true := by kernel_rfl
theorem okk2 : opensWell PySem.Challenge.rw_oy0081_01.row.toRowW.prog = true := by kernel_rfl
theorem okk3 : (frees PySem.Challenge.rw_oy0081_01.row.toRowW && PySem.Challenge.rw_oy0081_01.row.toRowW.within.isEmpty) = true := by kernel_rfl
theorem okk : (chainsOk vw && opensWell PySem.Challenge.rw_oy0081_01.row.toRowW.prog && (frees PySem.Challenge.rw_oy0081_01.row.toRowW && PySem.Challenge.rw_oy0081_01.row.toRowW.within.isEmpty)) = true := look_both (look_both okk1 okk2) okk3
theorem bared : PySem.Challenge.rw_oy0081_01.row.toRowW.prog.bare := ⟨rfl, rfl, rfl, rfl, rfl, by decide +kernel⟩
set_option maxHeartbeats 8000000 in
theorem hdHead (walk : WalkOk vw [Str.ofString "_filemode_table"] (XL vw fmLit0) (Hook.says Hook.none) PySem.Challenge.rw_oy0081_01.row.toRowW lawRec []) : PySem.Challenge.rw_oy0081_01.Holds :=
  ⟨said, Hd.holdsOwn (r := PySem.Challenge.rw_oy0081_01.row) (q := vw) (loose := [Str.ofString "_filemode_table"]) (Xt := fun s => xlAt vw fmLit0 s && recOk [] s) (XP := XL vw fmLit0) (Yf := Hook.obs Hook.none) (Ya := Hook.val Hook.none) (YP := Hook.says Hook.none) (N := 1532)
    Hd.left (Hook.of Hook.none) (Hook.keeps Hook.none) (fun s e => xl_of s (Bool.and_eq_true_iff.mp e).1) XL.keeps lawDef hpd hkd (fun s e => recFacts_of (Bool.and_eq_true_iff.mp e).2) hwd (row_said said) okk bared promised walk⟩
end Mine
/-! part X0 -/
namespace Mine
open PySem PySem.W PySem.Calls PyProof.Rows

/-! ## what the top gives -/
def fmLit : WData := .tuple (fmTab.map fun row => .tuple (row.map fun p => .tuple [.int p.1, .str p.2]))

theorem readsW_tuple {R : WRecords} {cl : Str → Option Addr} {h : Heap} {v : Value} {ds : List WData} {as : List Addr} (x : ReadsW R cl h v (.tuple ds) as) : ∃ a its, v = .ref a ∧ h.IsTuple a (List.toArray its) ∧ ReadsAllW R cl h its ds as := by
  cases x with
  | @tuple a o vs n xs as e1 e2 e3 e4 => exact ⟨_, vs.toList, rfl, ⟨_, e1, e2, n, by simpa using e3⟩, e4⟩
theorem readsW_list {R : WRecords} {cl : Str → Option Addr} {h : Heap} {v : Value} {ds : List WData} {as : List Addr} (x : ReadsW R cl h v (.list ds) as) : ∃ a its bs, v = .ref a ∧ h.IsList a (List.toArray its) ∧ ReadsAllW R cl h its ds bs := by
  cases x with
  | @list a o vs n xs as e1 e2 e3 e4 => exact ⟨_, vs.toList, _, rfl, ⟨_, e1, e2, n, by simpa using e3⟩, e4⟩
theorem readsAllW_len {R : WRecords} {cl : Str → Option Addr} {h : Heap} : ∀ {vs : List Value} {ds : List WData} {as : List Addr}, ReadsAllW R cl h vs ds as → vs.length = ds.length
  | _, _, _, .nil => rfl
  | _, _, _, .cons _ r => by simp [readsAllW_len r]
theorem readsAllW_get {R : WRecords} {cl : Str → Option Addr} {h : Heap} : ∀ {vs : List Value} {ds : List WData} {as : List Addr}, ReadsAllW R cl h vs ds as → ∀ {i : Nat} {d : WData}, ds[i]? = some d → ∃ v bs, vs[i]? = some v ∧ ReadsW R cl h v d bs
  | _, _, _, .nil, i, d, e => by simp at e
  | _, _, _, .cons x r, 0, d, e => by simp at e; subst e; exact ⟨_, _, rfl, x⟩
  | _, _, _, .cons x r, i + 1, d, e => by simpa using readsAllW_get r (by simpa using e)

theorem table_of_lit {R : WRecords} {cl : Str → Option Addr} {h : Heap} {v : Value} {as : List Addr} (x : ReadsW R cl h v fmLit as) : ∃ tb rs, v = .ref tb ∧ TableAt h tb rs := by
  obtain ⟨tb, rs, rfl, ht, hr⟩ := readsW_tuple x
  refine ⟨tb, rs, rfl, ht, by rw [readsAllW_len hr]; rfl, fun i row hrow => ?_⟩
  obtain ⟨v, bs, e, y⟩ := readsAllW_get hr (show (fmTab.map fun row => WData.tuple (row.map fun p => .tuple [.int p.1, .str p.2]))[i]? = _ by rw [List.getElem?_map, hrow]; rfl)
  obtain ⟨Ra, ps, rfl, hR, hp⟩ := readsW_tuple y
  refine ⟨Ra, ps, e, hR, by rw [readsAllW_len hp]; simp, fun j b c hj => ?_⟩
  obtain ⟨u, cs, e2, z⟩ := readsAllW_get hp (show (row.map fun p => WData.tuple [.int p.1, .str p.2])[j]? = _ by rw [List.getElem?_map, hj]; rfl)
  obtain ⟨T, its, rfl, hT, hi⟩ := readsW_tuple z
  cases hi with
  | cons a1 r1 =>
  cases r1 with
  | cons a2 r2 =>
  cases r2
  cases a1
  cases a2
  exact ⟨T, _, _, e2, hT⟩

section
variable {p : Program} {loose : List Str} {mean : ExcName → Option Value} {mg mb : Str → Option Value} {h : Heap}
theorem fn_of_top (T : Top p loose mean mg mb h) {name : Str} {n : Nat} (e : ((recsOf p).find? (fun e => e.name == name)).map (fun d => (d.name, d.params, d.body, d.scope)) = some (name, defParams n, defBody n, defScope n)) :
    ∃ f, mg name = some (.ref f) ∧ FnAt h f name n := by
  obtain ⟨d, hf, hd⟩ := Option.map_eq_some_iff.mp e
  obtain ⟨a, o, pm, code, doc, h1, h2, h3, h4⟩ := T.fn d (List.mem_of_find?_eq_some hf)
  injection hd with e1 e2
  injection e2 with e2 e3
  injection e3 with e3 e4
  rw [e1] at h1 h3 h4
  rw [e2, e3, e4] at h3
  exact ⟨a, h1, o, doc, pm, _, code, _, h2, h3, h4⟩
theorem gname_fn (T : Top p loose mean mg mb h) {name : Str} {n : Nat} (e : ((recsOf p).find? (fun e => e.name == name)).map (fun d => (d.name, d.params, d.body, d.scope)) = some (name, defParams n, defBody n, defScope n)) :
    ∃ f, GName h name (.ref f) ∧ FnAt h f name n := let ⟨f, a, b⟩ := fn_of_top T e; ⟨f, ⟨mg, mb, T.g, T.b, .inl a⟩, b⟩
theorem gname_int (T : Top p loose mean mg mb h) {name : Str} {i : Int} (e : valOf p name = some (.int i)) : ∃ t, GName h name (.int i t) := by
  obtain ⟨v, a, b⟩ := T.const name _ e
  have := b h
  cases this with
  | int i t => exact ⟨t, mg, mb, T.g, T.b, .inl a⟩
end

abbrev VwLoose : List Str := [Str.ofString "_filemode_table"]
theorem vw_names : namesOk vw (looseW vw VwLoose) (namesW vw VwLoose) = true := by kernel_rfl
theorem vw_imports : importsNone vw = true := by kernel_rfl
theorem vw_f1 : ((recsOf vw).find? (fun e => e.name == ("_byteswap" : Str))).map (fun d => (d.name, d.params, d.body, d.scope)) = some (("_byteswap" : Str), defParams 1, defBody 1, defScope 1) := by kernel_rfl
theorem vw_f3 : ((recsOf vw).find? (fun e => e.name == ("S_IFMT" : Str))).map (fun d => (d.name, d.params, d.body, d.scope)) = some (("S_IFMT" : Str), defParams 3, defBody 3, defScope 3) := by kernel_rfl
theorem vw_f24 : ((recsOf vw).find? (fun e => e.name == ("filemode" : Str))).map (fun d => (d.name, d.params, d.body, d.scope)) = some (("filemode" : Str), defParams 24, defBody 24, defScope 24) := by kernel_rfl
theorem vw_f26 : ((recsOf vw).find? (fun e => e.name == ("sorted_list_difference" : Str))).map (fun d => (d.name, d.params, d.body, d.scope)) = some (("sorted_list_difference" : Str), defParams 26, defBody 26, defScope 26) := by kernel_rfl
theorem vw_f27 : ((recsOf vw).find? (fun e => e.name == ("three_way_cmp" : Str))).map (fun d => (d.name, d.params, d.body, d.scope)) = some (("three_way_cmp" : Str), defParams 27, defBody 27, defScope 27) := by kernel_rfl
theorem vw_f29 : ((recsOf vw).find? (fun e => e.name == ("_law_fields" : Str))).map (fun d => (d.name, d.params, d.body, d.scope)) = some (("_law_fields" : Str), defParams 29, defBody 29, defScope 29) := by kernel_rfl
theorem vw_f30 : ((recsOf vw).find? (fun e => e.name == ("_law_column" : Str))).map (fun d => (d.name, d.params, d.body, d.scope)) = some (("_law_column" : Str), defParams 30, defBody 30, defScope 30) := by kernel_rfl
theorem vw_f31 : ((recsOf vw).find? (fun e => e.name == ("_law_signs" : Str))).map (fun d => (d.name, d.params, d.body, d.scope)) = some (("_law_signs" : Str), defParams 31, defBody 31, defScope 31) := by kernel_rfl
theorem vw_f32 : ((recsOf vw).find? (fun e => e.name == ("_law_order" : Str))).map (fun d => (d.name, d.params, d.body, d.scope)) = some (("_law_order" : Str), defParams 32, defBody 32, defScope 32) := by kernel_rfl
theorem vw_f33 : ((recsOf vw).find? (fun e => e.name == ("_law_alone" : Str))).map (fun d => (d.name, d.params, d.body, d.scope)) = some (("_law_alone" : Str), defParams 33, defBody 33, defScope 33) := by kernel_rfl
theorem vw_f34 : ((recsOf vw).find? (fun e => e.name == ("law" : Str))).map (fun d => (d.name, d.params, d.body, d.scope)) = some (("law" : Str), defParams 34, defBody 34, defScope 34) := by kernel_rfl
theorem vw_reg : valOf vw "S_IFREG" = some (.int 32768) := by kernel_rfl
theorem vw_dir : valOf vw "S_IFDIR" = some (.int 16384) := by kernel_rfl
theorem vw_lnk : valOf vw "S_IFLNK" = some (.int 40960) := by kernel_rfl
theorem vw_sock : valOf vw "S_IFSOCK" = some (.int 49152) := by kernel_rfl
def vwBuilt : List Str := ["range", "len", "sorted", "bytes", "bytearray", "type", "zip", "enumerate", "IndexError"]
theorem vw_free : (vwBuilt.all fun x => !(namesW vw VwLoose).contains x && !bootMainNames.contains x && x != "__name__") = true := by kernel_rfl

theorem gname_boot {R : WRecords} {XP : (Str → Option Value) → Heap → Prop} {w : World} {s₀ : Shared} {mg mb : Str → Option Value} {h : Heap} (G : Ground vw VwLoose R XP w s₀ mg mb h) {x : Str} {v : Value} (hx : x ∈ vwBuilt) (hv : bootBuiltins x = some v) : GName h x v := by
  have O := G.glob vw_names vw_imports
  have q := List.all_eq_true.mp vw_free x hx
  simp only [Bool.and_eq_true, Bool.not_eq_true', bne_iff_ne, ne_eq] at q
  refine ⟨mg, mb, G.T.g, G.T.b, .inr ⟨O.free x (fun m => ?_) (fun m => ?_), ?_⟩⟩
  · have := List.contains_iff_mem.mpr m; rw [q.1.1] at this; cases this
  · have := List.contains_iff_mem.mpr m; rw [q.1.2] at this; cases this
  · rw [O.builtins x q.2]; exact hv

theorem law_g {R : WRecords} {w : World} {s₀ : Shared} {mg mb : Str → Option Value} {h : Heap} {lv : List (Str × WData)} (G : Ground vw VwLoose R (XL vw lv) w s₀ mg mb h) (hlv : (Str.ofString "_filemode_table", fmLit) ∈ lv) : LawG h where
  limit := G.T.nolimit
  range := gname_boot G (by decide) (by kernel_rfl)
  len := gname_boot G (by decide) (by kernel_rfl)
  sorted := gname_boot G (by decide) (by kernel_rfl)
  bytes := gname_boot G (by decide) (by kernel_rfl)
  bytearray := gname_boot G (by decide) (by kernel_rfl)
  type := gname_boot G (by decide) (by kernel_rfl)
  zip := gname_boot G (by decide) (by kernel_rfl)
  enum := gname_boot G (by decide) (by kernel_rfl)
  index := gname_boot G (by decide) (by kernel_rfl)
  kinds := ⟨gname_int G.T vw_reg, gname_int G.T vw_dir, gname_int G.T vw_lnk, gname_int G.T vw_sock⟩
  swap := gname_fn G.T vw_f1
  mode := by
    obtain ⟨f, a1, a2⟩ := gname_fn G.T vw_f24
    obtain ⟨fi, b1, b2⟩ := gname_fn G.T vw_f3
    obtain ⟨v, c1, c2⟩ := G.X.2.val _ hlv
    obtain ⟨tb, rs, rfl, c3⟩ := table_of_lit c2
    exact ⟨f, fi, tb, rs, a1, a2, ⟨mg, mb, G.T.g, G.T.b, .inl c1⟩, b1, b2, c3⟩
  diff := gname_fn G.T vw_f26
  cmp := gname_fn G.T vw_f27
  fields := gname_fn G.T vw_f29
  column := gname_fn G.T vw_f30
  signs := gname_fn G.T vw_f31
  order := gname_fn G.T vw_f32
  alone := gname_fn G.T vw_f33
end Mine
/-! part X1 -/
namespace Mine
open PySem PySem.W PySem.Calls PyProof.Rows
open Sem (wp)

section
variable {prog : Program} {w : World} {A : Around} {E : Value → Shared → Prop} {s : Shared}
/-- a def with cells is called -/
theorem call_defC_ok {f c : Addr} {o : Obj} {doc pm ct : Value} {an : Option Addr} {name : Str} {n : Nat} {args : List Value} {binds : List (Str × Value)} {Q : Value → Shared → Prop} (ho : s.heap.get? f = some o) (hd : o.data = .func (fnOf name name (defParams n) (defBody n) (defScope n) .none .none doc pm an (.ref c) ct)) (hcd : s.heap.CodeRec (.ref c) name) (hlim : s.heap.NoLimit) (hroom : A.depth < recursionLimit)
    (hbind : bindArgs (fnOf name name (defParams n) (defBody n) (defScope n) .none .none doc pm an (.ref c) ct) ⟨args, []⟩ = pure binds)
    (h : ∀ h₁ tk, h₁.Ns s.heap.objs.size (bindL (envOfC name (defScope n) s.heap.objs.size f (.ref c)).kindOf binds fun _ => none) →
      (∀ k a, (cellsFrom (s.heap.objs.size + 1) (defScope n).names []).lookup k = some a → h₁.IsCell a (bindC (envOfC name (defScope n) s.heap.objs.size f (.ref c)).kindOf binds (fun _ => none) k)) → s.heap.StaysIn h₁ →
      wpOk (model prog w) (A.deeper (envOfC name (defScope n) s.heap.objs.size f (.ref c))) (execs (defBody n) (envOfC name (defScope n) s.heap.objs.size f (.ref c)))
        (fun fl s' => Q (match fl with | .ret v => v | _ => .none) s') (fun _ _ => False) { s with heap := h₁, toks := tk })
    (hkind : ∀ x ∈ binds, (defScope n).names.lookup x.1 = some .local ∨ ((defScope n).names.lookup x.1 = some .cell ∧ ((cellsFrom (s.heap.objs.size + 1) (defScope n).names []).lookup x.1).isSome = true))
    (hco : (defScope n).isCoroutine = false) (hgen : (defScope n).isGenerator = false) (hk : (defScope n).kind = .function) :
    wpOk (model prog w) A (call (.ref f) args) Q E s := by
  obtain ⟨c', oc, vs, tq, hc, hoc, hdc, hq⟩ := hcd
  cases hc
  refine wpOk_call (codeOk_of_tree rfl ?_)
  show wpOk _ _ (callAny (.ref f) _) _ _ s
  simp only [callAny]
  refine wpOk_bind (wpOk_of (wpAny_load ho ?_))
  simp only [hd, callFunction, hco, hgen]
  refine wpOk_bind (m := field (.ref c) 1) (wpOk_of (wpAny_field hoc hdc hq (wpOk_bind (wpOk_pure ?_))))
  refine wpOk_bind ?_
  rw [hbind]
  refine wpOk_pure (wpOk_bind (wpOk_of (wpAny_newFunctionEnv_cells hk hkind (fun env he s' x => ?_))))
  subst he
  obtain ⟨h₁, tk, rfl, hk⟩ := x.done
  refine wpOk_bind (wpOk_of (wpAny_enterFrame (hlim.keeps hk) hroom (wpOk_of (wpAny_pure ⟨rfl, ?_⟩))))
  refine ok_func ?_
  exact h h₁ tk x.toInCall.ns x.cell hk
end

theorem ints_of {R : WRecords} {cl : Str → Option Addr} {h : Heap} : ∀ {its : List Value} {xs : List WData} {bs : List Addr}, ReadsAllW R cl h its xs bs → (∀ d ∈ xs, ∃ i, d = WData.int i) → ∃ ns, IntsAre its ns ∧ ns.length = xs.length
  | _, _, _, .nil, _ => ⟨[], .nil, rfl⟩
  | _, _, _, .cons x r, hh => by
    obtain ⟨ns, hn, hl⟩ := ints_of r fun d hd => hh d (List.mem_cons_of_mem _ hd)
    obtain ⟨i, rfl⟩ := hh _ List.mem_cons_self
    cases x with
    | int i t => exact ⟨i :: ns, .cons i t hn, by simp [hl]⟩

theorem oldK_law {B h : Heap} {c P L : Addr} {ps : Array Value} {m : Str → Option Value} {cv : Nat → Option Value} (ht : B.TableAt c P #[]) (S : LawSt B ps P L m cv h) : OldK B h := by
  refine ⟨fun b o e => ?_, fun b o e => ?_⟩
  · by_cases q : b = P
    · subst q
      rw [ht.2] at e
      cases e
      exact .inr (.inl ⟨ht.isCodeTable, rfl, #[], ps, rfl, by rw [Array.empty_append]; exact S.tab⟩)
    · exact .inl (S.kb b o q e)
  · by_cases q : b = P
    · subst q; exact ⟨_, S.tab⟩
    · exact ⟨o, S.kb b o q e⟩

theorem claim_args {args : List WData} (hpre : PySem.Challenge.rw_oy0081_01.row.toRowW.claim.pre args = true) (hlay : WData.layableAll args = true) : ∃ xs, args = [.list xs] ∧ (∀ d ∈ xs, ∃ i, d = WData.int i) ∧ xs.length ≤ 1048576 := by
  have h := (pre_splitW hpre).1
  obtain ⟨d, r, rfl, h1, h2⟩ := hasAllW_cons (e := .list .int) (es := []) h
  obtain rfl := hasAllW_nil h2
  obtain ⟨xs, rfl, hi⟩ := hasW_list h1
  refine ⟨xs, rfl, fun d hd => hasW_int (hasItemsW_at hi d hd), length_le_of_layableW ?_⟩
  simpa [WData.layableAll] using hlay

theorem claim_post (xs : List WData) : PySem.Challenge.rw_oy0081_01.row.toRowW.claim.post [.list xs] (.bool true) [.list xs] = true := by
  show (WShape.has [] (.bool true) .bool && WTm.holds [] (.eq .res (.lit (.bool true))) { args := [.list xs], res := some (.bool true), after := [.list xs] }) = true
  simp only [WShape.has, WShape.arms, WTm.holds, WTm.value]
  decide +kernel
set_option maxHeartbeats 8000000 in
theorem law_walk {lv : List (Str × WData)} (hlv : (Str.ofString "_filemode_table", fmLit) ∈ lv) {YP : World → Heap → Prop} {d : DefRec} {kwd : List (Str × Expr)} (hd : d.name = "law") :
    WalkOk vw VwLoose (XL vw lv) YP PySem.Challenge.rw_oy0081_01.row.toRowW d kwd := by
  intro w s₀ s₁ mg mb G _ a o pm cd doc dV kV ho hdat hcd _ hmg hgens args vals as hpre hlay hreads _ _
  obtain ⟨xs, rfl, hint, hlen⟩ := claim_args hpre hlay
  rw [hd] at hmg
  have LG := law_g G hlv
  obtain ⟨f, hmf, o', doc', pm', an, cdv, ct, ho', hdat', hcd'⟩ := fn_of_top G.T vw_f34
  rw [hmg] at hmf
  cases hmf
  rw [ho] at ho'
  cases ho'
  obtain ⟨d', hf, hd'⟩ := Option.map_eq_some_iff.mp vw_f34
  injection hd' with e1 _
  obtain ⟨a2, o2, fd, c, P, g1, g2, g3, g4, g5, g6⟩ := G.T.tab d' (List.mem_of_find?_eq_some hf)
  rw [e1, hmg] at g1
  cases g1
  rw [ho] at g2
  cases g2
  rw [hdat'] at g3
  cases g3
  have g4 : cdv = .ref c := g4
  subst g4
  cases hreads with
  | cons hv hr =>
  cases hr
  obtain ⟨sc, its, bs, rfl, hl, hi⟩ := readsW_list hv
  obtain ⟨ns, hns, hnl⟩ := ints_of hi hint
  have tabP : s₁.heap.get? P = some (tabObj #[]) := g6.2
  have C : LawC s₁.heap P s₁.heap.objs.size := ⟨tabP, fun b o e => Heap.lt_size e, LG⟩
  have M : LawM s₁.heap c P mg := by
    refine ⟨G.T.g, CodeHd.of g5 g6, ?_⟩
    obtain ⟨bm, ob, h1, h2, h3, h4, h5, h6⟩ := G.T.bmain
    refine ⟨bm, ob, h1, h2, ?_, ?_, h3, h4, h5, h6⟩
    · rintro rfl
      obtain ⟨og, es, ep, e, hdg, _⟩ := G.T.g
      rw [e] at h3; cases h3
      rw [hdg] at h6; cases h6
    · rintro rfl
      rw [tabP] at h3; cases h3
      cases h4
  refine call_defC_ok (n := 34) (binds := [(("script" : Str), .ref sc)]) ho hdat' hcd' G.T.nolimit (by decide) rfl (fun h₁ tk hn hc hk => ?_) (by intro x hx; rw [List.mem_singleton] at hx; subst hx; exact .inl rfl) rfl rfl rfl
  have S : LawSt s₁.heap #[] P s₁.heap.objs.size (bindL (lawEnv s₁.heap.objs.size a (.ref c)).kindOf [(("script" : Str), .ref sc)] fun _ => none) (fun _ => none) h₁ := by
    refine ⟨fun b o _ e => hk b o e, hk _ _ tabP, hn, fun i hi => ?_⟩
    match i, hi with
    | 0, _ => exact hc "low" _ rfl
    | 1, _ => exact hc "turned" _ rfl
    | 2, _ => exact hc "places" _ rfl
    | 3, _ => exact hc "keys" _ rfl
    | 4, _ => exact hc "plain" _ rfl
    | 5, _ => exact hc "fields" _ rfl
  have R : Room 2 (callerA.deeper (lawEnv s₁.heap.objs.size a (.ref c))) := ⟨rfl, show callerA.depth + 1 + 2 < recursionLimit by decide +kernel, show callerA.units + 3 + (3 * 2 + 40) < cLine by decide +kernel⟩
  have hfr : (callerA.deeper (lawEnv s₁.heap.objs.size a (.ref c))).frames = some [lawEnv s₁.heap.objs.size a (.ref c)] := rfl
  have hms : (bindL (lawEnv s₁.heap.objs.size a (.ref c)).kindOf [(("script" : Str), .ref sc)] fun _ => none) "script" = some (.ref sc) := rfl
  have hz : ns.length ≤ 1048576 := by omega
  refine law_body (prog := PySem.Challenge.rw_oy0081_01.row.toRowW.prog) (w := w) (A := callerA.deeper (lawEnv s₁.heap.objs.size a (.ref c))) (s := { s₁ with heap := h₁, toks := tk }) (B := s₁.heap) (P := P) (L := s₁.heap.objs.size) (f := a) (c := c) C M R hfr S hms hl hns hz fun h' tk' ps m' cv' S' => ?_
  dsimp only
  refine ⟨.inl ⟨.bool true, .bool true, [], rfl, fun _ => rfl, .bool true, claim_post xs, fun _ => ⟨List.nodup_nil, fun _ q => (nomatch q)⟩⟩, oldK_law g6 S', rfl, ?_⟩
  show AllBare s₁.gens
  rw [hgens]
  exact AllBare.empty
end Mine
/-! part X2 -/
set_option maxHeartbeats 8000000 in
theorem PySem.Challenge.cw_oy0081_01_holds : PySem.Challenge.rw_oy0081_01.Holds := by
  refine Mine.hdHead (Mine.law_walk ?_ rfl)
  exact List.mem_singleton.mpr (by kernel_rfl)
