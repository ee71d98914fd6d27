import PyProof.Rows.All
import Wide.All
import OpenK.AllK
import Wide.FinOn
import PySem.Challenge.RW_fp5018_01
open PySem PySem.W PyProof.Rows
set_option Elab.async false
namespace Mine
set_option maxRecDepth 100000 in
set_option maxHeartbeats 8000000 in
open_top hd for PySem.Challenge.rw_fp5018_01
end Mine
set_option linter.unusedVariables false
set_option maxRecDepth 100000
section
namespace Mine

/-- a value without its token -/
inductive PV where
  | un
  | int (i : Int)
  | str (s : Str)
  | val (v : Value)

def PV.is : PV → Value → Prop
  | .un, _ => True
  | .int i, v => ∃ t, v = .int i t
  | .str s, v => ∃ t, v = .str s t
  | .val x, v => v = x

def PV.at : PV → Option Value → Prop
  | .un, _ => True
  | p, o => ∃ v, o = some v ∧ p.is v

theorem PV.at_of {p : PV} {v : Value} (h : p.is v) : p.at (some v) := by
  cases p <;> first | trivial | exact ⟨v, rfl, h⟩
theorem PV.of_at {p : PV} {o : Option Value} (h : p.at o) (hu : p ≠ .un) : ∃ v, o = some v ∧ p.is v := by
  cases p <;> first | exact absurd rfl hu | exact h

/-- one entry of a list of pairs takes another value -/
inductive Put {κ β : Type} (k : κ) (v : β) : List (κ × β) → List (κ × β) → Prop
  | here {u : β} {r : List (κ × β)} : Put k v ((k, u) :: r) ((k, v) :: r)
  | there {p : κ × β} {r r' : List (κ × β)} : Put k v r r' → Put k v (p :: r) (p :: r')

theorem Put.keys {κ β : Type} {k : κ} {v : β} {l l' : List (κ × β)} (h : Put k v l l') : l'.map (·.1) = l.map (·.1) := by
  induction h with
  | here => rfl
  | there _ ih => simp [ih]
theorem Put.has {κ β : Type} {k : κ} {v : β} {l l' : List (κ × β)} (h : Put k v l l') : k ∈ l.map (·.1) := by
  induction h with
  | here => simp
  | there _ ih => simp only [List.map_cons, List.mem_cons]; exact .inr ih
theorem Put.mem {κ β : Type} {k : κ} {v : β} {l l' : List (κ × β)} (h : Put k v l l') (hn : (l.map (·.1)).Nodup) {p : κ × β} (hp : p ∈ l') : p = (k, v) ∨ (p ∈ l ∧ p.1 ≠ k) := by
  induction h with
  | @here u r =>
    rcases List.mem_cons.mp hp with rfl | hp
    · exact .inl rfl
    · refine .inr ⟨.tail _ hp, fun e => ?_⟩
      have h1 := (List.nodup_cons.mp hn).1
      have h2 : p.1 ∈ r.map (·.1) := List.mem_map.mpr ⟨p, hp, rfl⟩
      rw [e] at h2
      exact h1 h2
  | @there q r r' hr ih =>
    rcases List.mem_cons.mp hp with rfl | hp
    · refine .inr ⟨.head _, fun e => ?_⟩
      have h1 := (List.nodup_cons.mp hn).1
      have h2 := hr.has
      rw [← e] at h2
      exact h1 h2
    · rcases ih (List.nodup_cons.mp hn).2 hp with e | ⟨a, b⟩
      · exact .inl e
      · exact .inr ⟨.tail _ a, b⟩

abbrev Lo := List (Str × PV)
abbrev OP := Obj → Prop
abbrev Ob := List (Addr × OP)

structure Cf where
  A : Around
  env : Env
  h₀ : Heap
  os : OsState

def Obs (h₀ : Heap) (L : Addr) (h : Heap) (ob : Ob) : Prop := (ob.map (·.1)).Nodup ∧ ∀ p ∈ ob, ∃ o, h.get? p.1 = some o ∧ p.1 ≠ L ∧ h₀.get? p.1 = none ∧ p.2 o

structure Rep0 (c : Cf) (lo : Lo) (ob : Ob) (s : Shared) : Prop where
  fr : ∃ m, Fr c.h₀ c.env.locals s.heap m ∧ ∀ p ∈ lo, p.2.at (m p.1)
  obs : Obs c.h₀ c.env.locals s.heap ob
  nd : (lo.map (·.1)).Nodup
  loc : ∀ p ∈ lo, c.env.kindOf p.1 = some .local ∧ (p.1 == ("__debug__" : Str)) = false
  os : s.os = c.os
  gens : AllBare s.gens

structure Rep (c : Cf) (lo : Lo) (ob : Ob) (s : Shared) : Prop extends Rep0 c lo ob s where
  tk : 1 ≤ s.toks

structure Gd (c : Cf) : Prop where
  kind : c.env.scope.kind = .function
  glob : c.env.globals = mainGlobals
  blt : c.env.builtins = builtinsNs
  frame : c.env.frame = some c.env.locals
  hand : c.A.handled = none

section
variable {c : Cf} {lo lo' : Lo} {ob ob' : Ob} {s : Shared}

theorem Rep0.toks (R : Rep0 c lo ob s) (k : Nat) : Rep0 c lo ob { s with toks := k } := ⟨R.fr, R.obs, R.nd, R.loc, R.os, R.gens⟩

theorem Obs.ext {h₀ h h' : Heap} {L : Addr} (O : Obs h₀ L h ob) (k : ∀ b o, h.get? b = some o → h'.get? b = some o) : Obs h₀ L h' ob :=
  ⟨O.1, fun p hp => let ⟨o, a, b⟩ := O.2 p hp; ⟨o, k _ _ a, b⟩⟩
theorem Fr.ext {h₀ h h' : Heap} {L : Addr} {m : Str → Option Value} (F : Fr h₀ L h m) (k : ∀ b o, h.get? b = some o → h'.get? b = some o) : Fr h₀ L h' m :=
  ⟨F.ns.at' (fun o e => k _ o e), fun b o e => k b o (F.keep b o e), F.above⟩

/-- the heap has grown -/
theorem Rep0.ext (R : Rep0 c lo ob s) {h' : Heap} (k : ∀ b o, s.heap.get? b = some o → h'.get? b = some o) (t : Nat) : Rep0 c lo ob { s with heap := h', toks := t } :=
  ⟨let ⟨m, F, hm⟩ := R.fr; ⟨m, Fr.ext F k, hm⟩, R.obs.ext k, R.nd, R.loc, R.os, R.gens⟩

theorem Obs.fresh {h₀ h : Heap} {L : Addr} {m : Str → Option Value} (F : Fr h₀ L h m) (O : Obs h₀ L h ob) {a : Addr} (ha : h.get? a = none) : a ∉ ob.map (·.1) ∧ a ≠ L ∧ h₀.get? a = none := by
  refine ⟨fun hm => ?_, fun e => ?_, ?_⟩
  · obtain ⟨p, hp, e⟩ := List.mem_map.mp hm
    obtain ⟨o, ho, _⟩ := O.2 p hp
    rw [e, ha] at ho; cases ho
  · obtain ⟨o, _, _, ho, _⟩ := F.ns
    rw [← e, ha] at ho; cases ho
  · cases q : h₀.get? a with
    | none => rfl
    | some o => have := F.keep a o q; rw [ha] at this; cases this

/-- a new object joins the ledger -/
theorem Rep0.new (R : Rep0 c lo ob s) {a : Addr} {o : Obj} {P : OP} {h' : Heap} (ha : s.heap.get? a = none) (k : ∀ b o, s.heap.get? b = some o → h'.get? b = some o) (ho : h'.get? a = some o) (hP : P o) (t : Nat) :
    Rep0 c lo ((a, P) :: ob) { s with heap := h', toks := t } := by
  have R' := R.ext k t
  obtain ⟨m, F, hm⟩ := R.fr
  have hf := Obs.fresh F R.obs ha
  refine ⟨R'.fr, ⟨List.nodup_cons.mpr ⟨hf.1, R.obs.1⟩, fun p hp => ?_⟩, R.nd, R.loc, R.os, R.gens⟩
  rcases List.mem_cons.mp hp with rfl | hp
  · exact ⟨o, ho, hf.2.1, hf.2.2, hP⟩
  · exact R'.obs.2 p hp

/-- an object of the ledger changes -/
theorem Rep0.upd (R : Rep0 c lo ob s) {a : Addr} {P : OP} {o' : Obj} {h' : Heap} (U : Put a P ob ob') (hs : ∀ b o, b ≠ a → s.heap.get? b = some o → h'.get? b = some o) (ho : h'.get? a = some o') (hP : P o') (t : Nat) : Rep0 c lo ob' { s with heap := h', toks := t } := by
  obtain ⟨m, F, hm⟩ := R.fr
  have hmem := U.has
  obtain ⟨q, hq, e⟩ := List.mem_map.mp hmem
  obtain ⟨o, h1, h2, h3, _⟩ := R.obs.2 q hq
  rw [e] at h1 h2 h3
  refine ⟨⟨m, ⟨F.ns.at' fun o e => hs _ o (Ne.symm h2) e, fun b o e => hs b o (fun q => by rw [q, h3] at e; cases e) (F.keep b o e), F.above⟩, hm⟩, ⟨U.keys ▸ R.obs.1, fun p hp => ?_⟩, R.nd, R.loc, R.os, R.gens⟩
  rcases U.mem R.obs.1 hp with rfl | ⟨hp, hne⟩
  · exact ⟨o', ho, h2, h3, hP⟩
  · obtain ⟨o, g1, g2⟩ := R.obs.2 p hp
    exact ⟨o, hs _ _ hne g1, g2⟩

theorem Rep0.get (R : Rep0 c lo ob s) {a : Addr} {P : OP} (h : (a, P) ∈ ob) : ∃ o, s.heap.get? a = some o ∧ P o := let ⟨o, a, _, _, b⟩ := R.obs.2 _ h; ⟨o, a, b⟩

theorem Rep0.sub (R : Rep0 c lo ob s) (hs : ob'.Sublist ob) : Rep0 c lo ob' s := ⟨R.fr, ⟨R.obs.1.sublist (hs.map _), fun p hp => R.obs.2 p (hs.subset hp)⟩, R.nd, R.loc, R.os, R.gens⟩

/-- a local name is stored -/
theorem Rep0.store (R : Rep0 c lo ob s) {x : Str} {v : PV} {u : Value} (hv : v.is u) (U : Put x v lo lo') {h' : Heap} (hn : ∀ m, s.heap.Ns c.env.locals m → h'.Ns c.env.locals (fun y => if y = x then some u else m y)) (hs : Heap.SameBut c.env.locals s.heap h') (t : Nat) : Rep0 c lo' ob { s with heap := h', toks := t } := by
  obtain ⟨m, F, hm⟩ := R.fr
  refine ⟨⟨_, F.set (hn m F.ns) hs, fun p hp => ?_⟩, ⟨R.obs.1, fun p hp => ?_⟩, U.keys ▸ R.nd, fun p hp => ?_, R.os, R.gens⟩
  · rcases U.mem R.nd hp with rfl | ⟨hp, hne⟩
    · show v.at (if x = x then some u else m x)
      rw [if_pos rfl]; exact PV.at_of hv
    · show p.2.at (if p.1 = x then some u else m p.1)
      rw [if_neg hne]; exact hm p hp
  · obtain ⟨o, h1, h2, h3⟩ := R.obs.2 p hp
    exact ⟨o, (hs.2 _ h2).trans h1, h2, h3⟩
  · have : p.1 ∈ lo'.map (·.1) := List.mem_map.mpr ⟨p, hp, rfl⟩
    rw [U.keys] at this
    obtain ⟨q, hq, e⟩ := List.mem_map.mp this
    rw [← e]; exact R.loc q hq
end

section
variable (prog : Program) (w : World) (c : Cf) (lo : Lo) (ob : Ob)
/-- the expression gives v and leaves all as it is -/
def Ev (e : Expr) (v : PV) : Prop := ∀ (s : Shared) (Q E : Value → Shared → Prop), Rep c lo ob s → (∀ u s', v.is u → Rep0 c lo ob s' → Q u s') → wpAny (model prog w) c.A (eval e c.env) Q E s
/-- the expression gives something of which Φ holds -/
def EvX (e : Expr) (Φ : PV → Ob → Prop) : Prop := ∀ (s : Shared) (Q E : Value → Shared → Prop), Rep c lo ob s → (∀ v u ob' s', Φ v ob' → v.is u → Rep0 c lo ob' s' → Q u s') → wpAny (model prog w) c.A (eval e c.env) Q E s
def Tr (e : Expr) (b : Bool) : Prop := ∀ (s : Shared) (Q : Bool → Shared → Prop) (E : Value → Shared → Prop) (whole : Sem Value), whole = eval e c.env → Rep c lo ob s → (∀ s', Rep0 c lo ob s' → Q b s') → wpAny (model prog w) c.A (isTrue e c.env whole) Q E s
def TrA (op : BoolOp) (es : List Expr) (b : Bool) : Prop := ∀ (s : Shared) (Q : Bool → Shared → Prop) (E : Value → Shared → Prop), Rep c lo ob s → (∀ s', Rep0 c lo ob s' → Q b s') → wpAny (model prog w) c.A (allTrue op es c.env) Q E s
/-- one step on two values: what it gives -/
def Op (t : Value → Value → Sem Value) (a b r : PV) : Prop := ∀ (ua ub : Value) (s : Shared) (Q E : Value → Shared → Prop), a.is ua → b.is ub → Rep c lo ob s → (∀ u s', r.is u → Rep0 c lo ob s' → Q u s') → wpAny (model prog w) c.A (t ua ub) Q E s

inductive Out where
  | next | cont | brk
  | ret (v : PV)
def Out.is : Out → Flow → Prop
  | .next, f => f = .next
  | .cont, f => f = .cont
  | .brk, f => f = .brk
  | .ret v, f => ∃ u, f = .ret u ∧ v.is u
abbrev Post := Out → Lo → Ob → Prop
abbrev EPost := Value → Shared → Prop
def WX (X : EPost) (body : List Stmt) (Φ : Post) : Prop := ∀ (s : Shared) (Q : Flow → Shared → Prop) (E : Value → Shared → Prop), Rep c lo ob s → (∀ o f lo' ob' s', Φ o lo' ob' → o.is f → Rep0 c lo' ob' s' → Q f s') → (∀ e s', X e s' → E e s') → PassesOwn (model prog w) c.A c.env E → wpAny (model prog w) c.A (execs body c.env) Q E s
def WS (X : EPost) (st : Stmt) (Φ : Post) : Prop := ∀ (s : Shared) (Q : Flow → Shared → Prop) (E : Value → Shared → Prop), Rep c lo ob s → (∀ o f lo' ob' s', Φ o lo' ob' → o.is f → Rep0 c lo' ob' s' → Q f s') → (∀ e s', X e s' → E e s') → PassesOwn (model prog w) c.A c.env E → wpAny (model prog w) c.A (exec st c.env) Q E s
def Seq (X : EPost) (rest : List Stmt) (Φ : Post) : Post
  | .next, lo, ob => WX prog w c lo ob X rest Φ
  | o, lo, ob => Φ o lo ob
end


section
variable {prog : Program} {w : World} {c : Cf} {lo : Lo} {ob : Ob} {s : Shared} {E : Value → Shared → Prop}
theorem Ev.use {e : Expr} {v : PV} (h : Ev prog w c lo ob e v) {Q : Value → Shared → Prop} (R : Rep c lo ob s) (q : ∀ u s', v.is u → Rep c lo ob s' → Q u s') : wpAny (model prog w) c.A (eval e c.env) Q E s :=
  wpAny_with_toks R.tk (h _ _ _ R fun u s' hu R' ht => q u s' hu ⟨R', ht⟩)
theorem EvX.use {e : Expr} {Φ : PV → Ob → Prop} (h : EvX prog w c lo ob e Φ) {Q : Value → Shared → Prop} (R : Rep c lo ob s) (q : ∀ v u ob' s', Φ v ob' → v.is u → Rep c lo ob' s' → Q u s') : wpAny (model prog w) c.A (eval e c.env) Q E s :=
  wpAny_with_toks R.tk (h _ _ _ R fun v u ob' s' hΦ hu R' ht => q v u ob' s' hΦ hu ⟨R', ht⟩)
theorem Tr.use {e : Expr} {b : Bool} (h : Tr prog w c lo ob e b) {Q : Bool → Shared → Prop} (R : Rep c lo ob s) (q : ∀ s', Rep c lo ob s' → Q b s') : wpAny (model prog w) c.A (isTrue e c.env (eval e c.env)) Q E s :=
  wpAny_with_toks R.tk (h _ _ _ _ rfl R fun s' R' ht => q s' ⟨R', ht⟩)
theorem TrA.use {op : BoolOp} {es : List Expr} {b : Bool} (h : TrA prog w c lo ob op es b) {Q : Bool → Shared → Prop} (R : Rep c lo ob s) (q : ∀ s', Rep c lo ob s' → Q b s') : wpAny (model prog w) c.A (allTrue op es c.env) Q E s :=
  wpAny_with_toks R.tk (h _ _ _ R fun s' R' ht => q s' ⟨R', ht⟩)
theorem Op.use {t : Value → Value → Sem Value} {a b r : PV} (h : Op prog w c lo ob t a b r) {ua ub : Value} {Q : Value → Shared → Prop} (ha : a.is ua) (hb : b.is ub) (R : Rep c lo ob s) (q : ∀ u s', r.is u → Rep c lo ob s' → Q u s') : wpAny (model prog w) c.A (t ua ub) Q E s :=
  wpAny_with_toks R.tk (h _ _ _ _ _ ha hb R fun u s' hu R' ht => q u s' hu ⟨R', ht⟩)
theorem WX.use {X : EPost} {body : List Stmt} {Φ : Post} (h : WX prog w c lo ob X body Φ) {Q : Flow → Shared → Prop} (R : Rep c lo ob s) (q : ∀ o f lo' ob' s', Φ o lo' ob' → o.is f → Rep c lo' ob' s' → Q f s') (x : ∀ e s', X e s' → E e s') (pe : PassesOwn (model prog w) c.A c.env E) : wpAny (model prog w) c.A (execs body c.env) Q E s :=
  wpAny_mono (wpAny_toks_of R.tk (h _ (fun f s' => ∃ o lo' ob', Φ o lo' ob' ∧ o.is f ∧ Rep0 c lo' ob' s') E R (fun o f lo' ob' s' hΦ hf R' => ⟨o, lo', ob', hΦ, hf, R'⟩) x pe)) (fun f s' ⟨ht, o, lo', ob', hΦ, hf, R'⟩ => q o f lo' ob' s' hΦ hf ⟨R', ht⟩) fun _ _ e => e.2
theorem WS.use {X : EPost} {st : Stmt} {Φ : Post} (h : WS prog w c lo ob X st Φ) {Q : Flow → Shared → Prop} (R : Rep c lo ob s) (q : ∀ o f lo' ob' s', Φ o lo' ob' → o.is f → Rep c lo' ob' s' → Q f s') (x : ∀ e s', X e s' → E e s') (pe : PassesOwn (model prog w) c.A c.env E) : wpAny (model prog w) c.A (exec st c.env) Q E s :=
  wpAny_mono (wpAny_toks_of R.tk (h _ (fun f s' => ∃ o lo' ob', Φ o lo' ob' ∧ o.is f ∧ Rep0 c lo' ob' s') E R (fun o f lo' ob' s' hΦ hf R' => ⟨o, lo', ob', hΦ, hf, R'⟩) x pe)) (fun f s' ⟨ht, o, lo', ob', hΦ, hf, R'⟩ => q o f lo' ob' s' hΦ hf ⟨R', ht⟩) fun _ _ e => e.2
end

section
variable {prog : Program} {w : World} {c : Cf} {lo lo' : Lo} {ob : Ob} {pos : Pos} {k : Nat} {x : Str}

theorem ev_x {e : Expr} {v : PV} (h : Ev prog w c lo ob e v) : EvX prog w c lo ob e (fun v' ob' => v' = v ∧ ob' = ob) := fun s Q E R q => h s Q E R fun u s' hu R' => q v u ob s' ⟨rfl, rfl⟩ hu R'
theorem evx_mono {e : Expr} {Φ Φ' : PV → Ob → Prop} (h : EvX prog w c lo ob e Φ) (k : ∀ v ob', Φ v ob' → Φ' v ob') : EvX prog w c lo ob e Φ' := fun s Q E R q => h s Q E R fun v u ob' s' a => q v u ob' s' (k _ _ a)

theorem ev_int {i : Int} : Ev prog w c lo ob (.Constant (.int i) k pos) (.int i) := fun s Q E R q => wpAny_Constant_int (q _ _ ⟨_, rfl⟩ (R.toks _))
theorem ev_str {x y : Str} (h : x = y) : Ev prog w c lo ob (.Constant (.str x) k pos) (.str y) := fun s Q E R q => by subst h; exact wpAny_Constant_str (q _ _ ⟨_, rfl⟩ (R.toks _))
theorem ev_none : Ev prog w c lo ob (.Constant .none k pos) (.val .none) := fun s Q E R q => wpAny_Constant_none (q _ _ rfl R.1)
theorem ev_bool {b : Bool} : Ev prog w c lo ob (.Constant (.bool b) k pos) (.val (.bool b)) := fun s Q E R q => wpAny_Constant_bool (q _ _ rfl R.1)

theorem ev_name (K : c.env.scope.kind = .function) {v : PV} (h : (x, v) ∈ lo) (hu : v ≠ .un) : Ev prog w c lo ob (.Name x pos) v := fun s Q E R q => by
  obtain ⟨m, F, hm⟩ := R.fr
  obtain ⟨u, e, hu'⟩ := PV.of_at (hm _ h) hu
  obtain ⟨l1, l2⟩ := R.loc _ h
  exact wpAny_Name (wpAny_loadName_local K l1 F.ns e (q _ _ hu' R.1)) l2

theorem ev_cmp {l r : Expr} {op : CmpOp} {a b v : PV} (hl : Ev prog w c lo ob l a) (hr : Ev prog w c lo ob r b) (ho : Op prog w c lo ob (compareOp op) a b v)
    (hm : behindInMarks op r = false) : Ev prog w c lo ob (.Compare l [op] [r] pos) v := fun s Q E R q =>
  wpAny_Compare1 (hl.use R fun ua s₁ ha R₁ => hr.use R₁ fun ub s₂ hb R₂ => ho.use ha hb R₂ fun u s' hu R' => q u s' hu R'.toRep0) hm
theorem ev_bin {l r : Expr} {op : Operator} {a b v : PV} (hl : Ev prog w c lo ob l a) (hr : Ev prog w c lo ob r b) (ho : Op prog w c lo ob (binaryOp op) a b v) : Ev prog w c lo ob (.BinOp l op r pos) v := fun s Q E R q =>
  wpAny_BinOp (hl.use R fun ua s₁ ha R₁ => hr.use R₁ fun ub s₂ hb R₂ => ho.use ha hb R₂ fun u s' hu R' => q u s' hu R'.toRep0)
theorem ev_ite {t a b : Expr} {y : Bool} {v : PV} (ht : Tr prog w c lo ob t y) (ha : y = true → Ev prog w c lo ob a v) (hb : y = false → Ev prog w c lo ob b v) : Ev prog w c lo ob (.IfExp t a b pos) v := fun s Q E R q => by
  refine wpAny_IfExp (ht.use R fun s' R' => ?_)
  cases y with
  | true => exact ha rfl _ _ _ R' q
  | false => exact hb rfl _ _ _ R' q
theorem ev_neg {e : Expr} {i : Int} (h : Ev prog w c lo ob e (.int i)) : Ev prog w c lo ob (.UnaryOp .USub e pos) (.int (-i)) := fun s Q E R q =>
  wpAny_UnaryOp (h.use R fun u s' hu R' => by obtain ⟨t, rfl⟩ := hu; exact neg_int (q _ _ ⟨_, rfl⟩ (R'.toks _)))

theorem tr_cmp {l r : Expr} {op : CmpOp} {a b : PV} {t : Bool} (hl : Ev prog w c lo ob l a) (hr : Ev prog w c lo ob r b) (ho : Op prog w c lo ob (compareOp op) a b (.val (.bool t)))
    (hm : behindInMarks op r = false) : Tr prog w c lo ob (.Compare l [op] [r] pos) t := fun s Q E whole _ R q =>
  wpAny_isTrue_Compare1 (hl.use R fun ua s₁ ha R₁ => hr.use R₁ fun ub s₂ hb R₂ => ho.use ha hb R₂ fun u s₃ hu R₃ => by cases hu; exact wpAny_truthy_bool (q _ R₃.1)) hm
theorem tr_name (K : c.env.scope.kind = .function) {t : Bool} (h : (x, PV.val (.bool t)) ∈ lo) : Tr prog w c lo ob (.Name x pos) t := fun s Q E whole hw R q =>
  wpAny_isTrue_value (hw ▸ (ev_name K h (by intro h; cases h)).use R fun u s' hu R' => by cases hu; exact wpAny_truthy_bool (q _ R'.1))
theorem tr_call {f : Expr} {as : List Expr} {ks : List Keyword} {t : Bool} (h : Ev prog w c lo ob (.Call f as ks pos) (.val (.bool t))) : Tr prog w c lo ob (.Call f as ks pos) t := fun s Q E whole hw R q =>
  wpAny_isTrue_value (hw ▸ h.use R fun u s' hu R' => by cases hu; exact wpAny_truthy_bool (q _ R'.1))
theorem tr_not {e : Expr} {t : Bool} (h : Tr prog w c lo ob e t) : Tr prog w c lo ob (.UnaryOp .Not e pos) (!t) := fun s Q E whole _ R q => wpAny_isTrue_Not (h.use R fun s' R' => q s' R'.toRep0)
theorem tr_op {op : BoolOp} {es : List Expr} {t : Bool} (h : TrA prog w c lo ob op es t) : Tr prog w c lo ob (.BoolOp op es pos) t := fun s Q E whole _ R q => wpAny_isTrue_BoolOp (h.use R fun s' R' => q s' R'.toRep0)
theorem tra_and_nil : TrA prog w c lo ob .And [] true := fun s Q E R q => wpAny_allTrue_And_nil (q _ R.1)
theorem tra_or_nil : TrA prog w c lo ob .Or [] false := fun s Q E R q => wpAny_allTrue_Or_nil (q _ R.1)
theorem tra_and {e : Expr} {es : List Expr} {a b : Bool} (h : Tr prog w c lo ob e a) (hs : a = true → TrA prog w c lo ob .And es b) : TrA prog w c lo ob .And (e :: es) (a && b) := fun s Q E R q => by
  refine wpAny_allTrue_And_cons (h.use R fun s' R' => ?_)
  cases a with
  | true => exact hs rfl _ _ _ R' q
  | false => exact q _ R'.1
theorem tra_or {e : Expr} {es : List Expr} {a b : Bool} (h : Tr prog w c lo ob e a) (hs : a = false → TrA prog w c lo ob .Or es b) : TrA prog w c lo ob .Or (e :: es) (a || b) := fun s Q E R q => by
  refine wpAny_allTrue_Or_cons (h.use R fun s' R' => ?_)
  cases a with
  | true => exact q _ R'.1
  | false => exact hs rfl _ _ _ R' q

variable {X : EPost} {Φ : Post} {st : Stmt} {rest : List Stmt}
theorem wx_nil (h : Φ .next lo ob) : WX prog w c lo ob X [] Φ := fun s Q E R q _ _ => wpAny_execs_nil (q _ _ _ _ _ h rfl R.1)
theorem wx_cons (h : WS prog w c lo ob X st (Seq prog w c X rest Φ)) : WX prog w c lo ob X (st :: rest) Φ := fun s Q E R q x pe => by
  refine wpAny_execs_cons (h.use R (fun o f lo' ob' s' hΦ hf R' => ?_) x pe)
  cases o with
  | next => cases hf; exact hΦ _ _ _ R' q x pe
  | cont => cases hf; exact q _ _ _ _ _ hΦ rfl R'.1
  | brk => cases hf; exact q _ _ _ _ _ hΦ rfl R'.1
  | ret v => obtain ⟨u, rfl, hu⟩ := hf; exact q _ _ _ _ _ hΦ ⟨u, rfl, hu⟩ R'.1
theorem wx_mono {body : List Stmt} {Ψ : Post} (h : WX prog w c lo ob X body Ψ) (k : ∀ o lo' ob', Ψ o lo' ob' → Φ o lo' ob') : WX prog w c lo ob X body Φ := fun s Q E R q x pe => h _ _ _ R (fun o f lo' ob' s' a => q o f lo' ob' s' (k _ _ _ a)) x pe
theorem ws_mono {Ψ : Post} (h : WS prog w c lo ob X st Ψ) (k : ∀ o lo' ob', Ψ o lo' ob' → Φ o lo' ob') : WS prog w c lo ob X st Φ := fun s Q E R q x pe => h _ _ _ R (fun o f lo' ob' s' a => q o f lo' ob' s' (k _ _ _ a)) x pe

theorem ws_pass (h : Φ .next lo ob) : WS prog w c lo ob X (.Pass pos) Φ := fun s Q E R q _ _ => wpAny_Pass (q _ _ _ _ _ h rfl R.1)
theorem ws_ret {e : Expr} {v : PV} (h : Ev prog w c lo ob e v) (hΦ : Φ (.ret v) lo ob) : WS prog w c lo ob X (.Return (some e) pos) Φ := fun s Q E R q _ _ => wpAny_Return_some (h.use R fun u s' hu R' => q _ _ _ _ _ hΦ ⟨u, rfl, hu⟩ R'.1)
theorem ws_retx {e : Expr} (h : EvX prog w c lo ob e (fun v ob' => Φ (.ret v) lo ob')) : WS prog w c lo ob X (.Return (some e) pos) Φ := fun s Q E R q _ _ => wpAny_Return_some (h.use R fun v u ob' s' hΦ hu R' => q _ _ _ _ _ hΦ ⟨u, rfl, hu⟩ R'.1)
theorem ws_if {t : Expr} {a b : List Stmt} {y : Bool} (ht : Tr prog w c lo ob t y) (ha : y = true → WX prog w c lo ob X a Φ) (hb : y = false → WX prog w c lo ob X b Φ) : WS prog w c lo ob X (.If t a b pos) Φ := fun s Q E R q x pe => by
  refine wpAny_If (ht.use R fun s' R' => ?_)
  cases y with
  | true => exact ha rfl _ _ _ R' q x pe
  | false => exact hb rfl _ _ _ R' q x pe

theorem store_name (K : c.env.scope.kind = .function) {v : PV} {u : Value} (hv : v.is u) (U : Put x v lo lo') {s : Shared} {Q : Unit → Shared → Prop} {E : Value → Shared → Prop} (R : Rep0 c lo ob s) (q : ∀ s', Rep0 c lo' ob s' → Q () s') : wpAny (model prog w) c.A (storeName c.env x u) Q E s := by
  obtain ⟨m, F, hm⟩ := R.fr
  obtain ⟨p, hp, e⟩ := List.mem_map.mp U.has
  obtain ⟨l1, l2⟩ := R.loc _ hp
  rw [e] at l1
  have hp : (c.env.scope.kind == .class || (c.env.scope.kind == .module && c.env.locals != c.env.globals)) = false := by rw [K]; rfl
  rw [storeName_local l1 hp]
  refine fun Γ pp hΓ => Sem.wp_nsSet _ Γ _ pp s F.ns x u _ fun h' hn hs => ?_
  refine q _ ?_
  have R1 := R.fr
  refine ⟨⟨_, F.set hn hs, fun p hp => ?_⟩, ⟨R.obs.1, fun p hp => ?_⟩, U.keys ▸ R.nd, fun p hp => ?_, R.os, R.gens⟩
  · rcases U.mem R.nd hp with rfl | ⟨hp, hne⟩
    · show v.at (if x = x then some u else m x)
      rw [if_pos rfl]; exact PV.at_of hv
    · show p.2.at (if p.1 = x then some u else m p.1)
      rw [if_neg hne]; exact hm p hp
  · obtain ⟨o, h1, h2, h3⟩ := R.obs.2 p hp
    exact ⟨o, (hs.2 _ h2).trans h1, h2, h3⟩
  · have : p.1 ∈ lo'.map (·.1) := List.mem_map.mpr ⟨p, hp, rfl⟩
    rw [U.keys] at this
    obtain ⟨q, hq, e⟩ := List.mem_map.mp this
    rw [← e]; exact R.loc q hq

theorem ws_set (K : c.env.scope.kind = .function) {e : Expr} {v : PV} {p' : Pos} (h : Ev prog w c lo ob e v) (U : Put x v lo lo') (hΦ : Φ .next lo' ob)
    (hs : swapsWith e (some (.Name x p')) pos.line c.env = pure false := by rfl) : WS prog w c lo ob X (.Assign [.Name x p'] e pos) Φ := fun s Q E R q _ _ =>
  wpAny_Assign_Name (h.use R fun u s' hu R' => store_name K hu U R'.1 fun s'' R'' => q _ _ _ _ _ hΦ rfl R'') hs
theorem ws_setx (K : c.env.scope.kind = .function) {e : Expr} {p' : Pos} (h : EvX prog w c lo ob e (fun v ob' => ∃ lo', Put x v lo lo' ∧ Φ .next lo' ob'))
    (hs : swapsWith e (some (.Name x p')) pos.line c.env = pure false := by rfl) : WS prog w c lo ob X (.Assign [.Name x p'] e pos) Φ := fun s Q E R q _ _ =>
  wpAny_Assign_Name (h.use R fun v u ob' s' hu hv R' => let ⟨lo', U, hΦ⟩ := hu; store_name K hv U R'.1 fun s'' R'' => q _ _ _ _ _ hΦ rfl R'') hs
/-- an expression whose value is None is dropped -/
theorem ws_none {e : Expr} (h : EvX prog w c lo ob e (fun v ob' => v = .val .none ∧ Φ .next lo ob')) (hi : interactive c.env = false := by rfl) (hs : swapsWith e none pos.line c.env = pure false := by rfl) : WS prog w c lo ob X (.Expr e pos) Φ := fun s Q E R q _ _ =>
  wpAny_Expr (h.use R fun v u ob' s' hv hu R' => by obtain ⟨rfl, hΦ⟩ := hv; cases hu; exact q _ _ _ _ _ hΦ rfl R'.1) hi hs
theorem ws_aug (K : c.env.scope.kind = .function) {e : Expr} {op : Operator} {p' : Pos} {a b v : PV} (ha : (x, a) ∈ lo) (hu : a ≠ .un) (h : Ev prog w c lo ob e b) (ho : Op prog w c lo ob (inplaceOp op) a b v) (U : Put x v lo lo') (hΦ : Φ .next lo' ob) :
    WS prog w c lo ob X (.AugAssign (.Name x p') op e pos) Φ := fun s Q E R q _ _ => by
  obtain ⟨m, F, hm⟩ := R.fr
  obtain ⟨u, ex, hu'⟩ := PV.of_at (hm _ ha) hu
  obtain ⟨l1, l2⟩ := R.loc _ ha
  exact wpAny_AugAssign_Name (wpAny_loadName_local K l1 F.ns ex (h.use R fun ub s' hb R' => ho.use hu' hb R' fun ur s'' hr R'' => store_name K hr U R''.1 fun s₃ R₃ => q _ _ _ _ _ hΦ rfl R₃))
end
end Mine
end
section
open PySem.Calls
namespace Mine

inductive All2 {α β : Type} (R : α → β → Prop) : List α → List β → Prop
  | nil : All2 R [] []
  | cons {a : α} {b : β} {as : List α} {bs : List β} : R a b → All2 R as bs → All2 R (a :: as) (b :: bs)
theorem All2.length {α β : Type} {R : α → β → Prop} {as : List α} {bs : List β} (h : All2 R as bs) : as.length = bs.length := by
  induction h with
  | nil => rfl
  | cons _ _ ih => simp [ih]
theorem All2.append {α β : Type} {R : α → β → Prop} {as as' : List α} {bs bs' : List β} (h : All2 R as bs) (h' : All2 R as' bs') : All2 R (as ++ as') (bs ++ bs') := by
  induction h with
  | nil => exact h'
  | cons a _ ih => exact .cons a ih
theorem All2.get {α β : Type} {R : α → β → Prop} {as : List α} {bs : List β} (h : All2 R as bs) : ∀ {i : Nat} {a : α}, as[i]? = some a → ∃ b, bs[i]? = some b ∧ R a b := by
  induction h with
  | nil => intro i a e; simp at e
  | @cons a b as bs hab hs ih =>
    intro i x e
    cases i with
    | zero => simp at e; exact ⟨b, by simp, e ▸ hab⟩
    | succ i => simp at e; obtain ⟨b', h1, h2⟩ := ih e; exact ⟨b', by simpa using h1, h2⟩

/-- a list or a tuple whose items are these -/
def SeqO (cls : String) (vs : List PV) : OP := fun o => ∃ us n, o = { cls := .type cls, data := .seq us.toArray n } ∧ All2 PV.is vs us

theorem Obs.news {h₀ h : Heap} {L : Addr} {ob : Ob} (O : Obs h₀ L h ob) : ∃ nx, News h₀ L h nx ∧ nx.map (·.1) = ob.map (·.1) ∧ ∀ p ∈ ob, ∃ o, (p.1, o) ∈ nx ∧ p.2 o := by
  obtain ⟨nd, H⟩ := O
  induction ob with
  | nil => exact ⟨[], fun _ hp => (nomatch hp), rfl, fun _ hp => (nomatch hp)⟩
  | cons q r ih =>
    obtain ⟨nx, h1, h2, h3⟩ := ih (List.nodup_cons.mp nd).2 (fun p hp => H p (.tail _ hp))
    obtain ⟨o, g1, g2, g3, g4⟩ := H q (.head _)
    refine ⟨(q.1, o) :: nx, fun p hp => ?_, by simp [h2], fun p hp => ?_⟩
    · rcases List.mem_cons.mp hp with rfl | hp
      · exact ⟨g1, g2, g3⟩
      · exact h1 p hp
    · rcases List.mem_cons.mp hp with rfl | hp
      · exact ⟨o, .head _, g4⟩
      · obtain ⟨o', a, b⟩ := h3 p hp
        exact ⟨o', .tail _ a, b⟩
theorem Obs.of_news {h₁ h₀' : Heap} {L' : Addr} {ob : Ob} {nx : List (Addr × Obj)} (nd : (ob.map (·.1)).Nodup) (N : News h₀' L' h₁ nx) (hr : ∀ p ∈ ob, ∃ o, (p.1, o) ∈ nx ∧ p.2 o) : Obs h₀' L' h₁ ob :=
  ⟨nd, fun p hp => let ⟨o, a, b⟩ := hr p hp; ⟨o, (N _ a).1, (N _ a).2.1, (N _ a).2.2, b⟩⟩

theorem Rep0.bridge {c : Cf} {lo : Lo} {ob : Ob} {s : Shared} (R : Rep0 c lo ob s) : ∃ m nx, Fr c.h₀ c.env.locals s.heap m ∧ News c.h₀ c.env.locals s.heap nx ∧
    ∀ s', Fr c.h₀ c.env.locals s'.heap m → News c.h₀ c.env.locals s'.heap nx → s'.os = s.os → s'.gens = s.gens → Rep0 c lo ob s' := by
  obtain ⟨m, F, hm⟩ := R.fr
  obtain ⟨nx, h1, _, h3⟩ := R.obs.news
  exact ⟨m, nx, F, h1, fun s' F' N' e1 e2 => ⟨⟨m, F', hm⟩, Obs.of_news R.obs.1 N' h3, R.nd, R.loc, e1.trans R.os, e2 ▸ R.gens⟩⟩

section
variable (prog : Program) (w : World) (c : Cf) (lo : Lo) (ob : Ob)
def EvL (es : List Expr) (Φ : List PV → Ob → Prop) : Prop := ∀ (pos : Pos) (s : Shared) (Q : List Value → Shared → Prop) (E : Value → Shared → Prop), Rep c lo ob s → (∀ vs us ob' s', Φ vs ob' → All2 PV.is vs us → Rep0 c lo ob' s' → Q us s') → wpAny (model prog w) c.A (spliced (backTo pos (starEach es c.env))) Q E s
def Cl (f : Value) (vs : List PV) (Φ : PV → Ob → Prop) : Prop := ∀ (us : List Value) (s : Shared) (Q E : Value → Shared → Prop), All2 PV.is vs us → Rep c lo ob s → (∀ v u ob' s', Φ v ob' → v.is u → Rep0 c lo ob' s' → Q u s') → wpAny (model prog w) c.A (call f us) Q E s
/-- the tail of a subscript -/
def Sb (value slice : Expr) (o i : PV) (r : PV) : Prop := ∀ (ou iu : Value) (s : Shared) (Q E : Value → Shared → Prop), o.is ou → i.is iu → Rep c lo ob s → (∀ u s', r.is u → Rep0 c lo ob s' → Q u s') → wpAny (model prog w) c.A (subscriptTail value slice ou iu) Q E s
def Gm (o : PV) (name : Str) (id : String) : Prop := ∀ (ou : Value) (pl : Sem Bool) (s : Shared) (Q : Value × List Value → Shared → Prop) (E : Value → Shared → Prop), o.is ou → Rep c lo ob s → Q (.builtin id, [ou]) s → wpAny (model prog w) c.A (getMethod ou name pl) Q E s
end


section
variable {prog : Program} {w : World} {c : Cf} {lo : Lo} {ob : Ob} {s : Shared} {E : Value → Shared → Prop}
theorem EvL.use {es : List Expr} {pos : Pos} {Φ : List PV → Ob → Prop} (h : EvL prog w c lo ob es Φ) {Q : List Value → Shared → Prop} (R : Rep c lo ob s) (q : ∀ vs us ob' s', Φ vs ob' → All2 PV.is vs us → Rep c lo ob' s' → Q us s') : wpAny (model prog w) c.A (spliced (backTo pos (starEach es c.env))) Q E s :=
  wpAny_with_toks R.tk (h _ _ _ _ R fun v u ob' s' hΦ hu R' ht => q v u ob' s' hΦ hu ⟨R', ht⟩)
theorem Cl.use {f : Value} {vs : List PV} {Φ : PV → Ob → Prop} (h : Cl prog w c lo ob f vs Φ) {us : List Value} {Q : Value → Shared → Prop} (hu : All2 PV.is vs us) (R : Rep c lo ob s) (q : ∀ v u ob' s', Φ v ob' → v.is u → Rep c lo ob' s' → Q u s') : wpAny (model prog w) c.A (call f us) Q E s :=
  wpAny_with_toks R.tk (h _ _ _ _ hu R fun v u ob' s' hΦ hu R' ht => q v u ob' s' hΦ hu ⟨R', ht⟩)
theorem Sb.use {value slice : Expr} {o i r : PV} (h : Sb prog w c lo ob value slice o i r) {ou iu : Value} {Q : Value → Shared → Prop} (ho : o.is ou) (hi : i.is iu) (R : Rep c lo ob s) (q : ∀ u s', r.is u → Rep c lo ob s' → Q u s') : wpAny (model prog w) c.A (subscriptTail value slice ou iu) Q E s :=
  wpAny_with_toks R.tk (h _ _ _ _ _ ho hi R fun u s' hu R' ht => q u s' hu ⟨R', ht⟩)
end

section
variable {prog : Program} {w : World} {c : Cf} {lo lo' : Lo} {ob ob' : Ob} {pos p' apos : Pos} {k : Nat} {x : Str}

theorem evl_nil {Φ : List PV → Ob → Prop} (h : Φ [] ob) : EvL prog w c lo ob [] Φ := fun pos s Q E R q => args_nil (q [] [] ob s h .nil R.1)
theorem evl_cons {e : Expr} {es : List Expr} {Φ : List PV → Ob → Prop} (h : EvX prog w c lo ob e (fun v ob' => EvL prog w c lo ob' es (fun vs ob'' => Φ (v :: vs) ob''))) (he : starEach (e :: es) c.env = (false, eval e c.env) :: starEach es c.env) :
    EvL prog w c lo ob (e :: es) Φ := fun pos s Q E R q => args_cons (h.use R fun v u ob' s' hΦ hu R' => hΦ.use R' fun vs us ob'' s'' hΦ' hus R'' => q _ _ _ _ hΦ' (.cons hu hus) R''.1) he
theorem evl_cons1 {e : Expr} {es : List Expr} {v : PV} {Φ : List PV → Ob → Prop} (h : Ev prog w c lo ob e v) (hs : EvL prog w c lo ob es (fun vs ob'' => Φ (v :: vs) ob'')) (he : starEach (e :: es) c.env = (false, eval e c.env) :: starEach es c.env) :
    EvL prog w c lo ob (e :: es) Φ := evl_cons (fun s Q E R q => h _ _ _ R fun u s' hu R' => q v u ob s' hs hu R') he

/-- a call of a built-in function by name -/
theorem evx_callB {f : Expr} {e : Expr} {es : List Expr} {id : String} {Φ : PV → Ob → Prop} (hf : Ev prog w c lo ob f (.val (.builtin id))) (h : EvL prog w c lo ob (e :: es) (fun vs ob' => Cl prog w c lo ob' (.builtin id) vs Φ))
    (hc : eval (.Call f (e :: es) [] pos) c.env = (do callWith pos (← eval f c.env) [] (backTo pos (starEach (e :: es) c.env)) (backToKw pos (keywordEach [] c.env))))
    (he : starEach (e :: es) c.env = (false, eval e c.env) :: starEach es c.env) (hp : (backTo pos (starEach es c.env)).any (·.1) = false) : EvX prog w c lo ob (.Call f (e :: es) [] pos) Φ := fun s Q E R q =>
  Call_ (hf.use R fun u s₁ hu R₁ => by
    cases hu
    exact callWith_builtin1 (h.use R₁ fun vs us ob' s₂ hc hus R₂ => hc.use hus R₂ fun v u ob' s' a b R' => q v u ob' s' a b R'.1) he hp) hc
theorem evx_callT {f : Expr} {e : Expr} {es : List Expr} {T : String} {Φ : PV → Ob → Prop} (hf : Ev prog w c lo ob f (.val (.type T))) (h : EvL prog w c lo ob (e :: es) (fun vs ob' => Cl prog w c lo ob' (.type T) vs Φ))
    (hc : eval (.Call f (e :: es) [] pos) c.env = (do callWith pos (← eval f c.env) [] (backTo pos (starEach (e :: es) c.env)) (backToKw pos (keywordEach [] c.env))))
    (he : starEach (e :: es) c.env = (false, eval e c.env) :: starEach es c.env) (hp : (backTo pos (starEach es c.env)).any (·.1) = false) : EvX prog w c lo ob (.Call f (e :: es) [] pos) Φ := fun s Q E R q =>
  Call_ (hf.use R fun u s₁ hu R₁ => by
    cases hu
    refine PyProof.Rows.callWith_type1 (h.use R₁ fun vs us ob' s₂ hc hus R₂ => hc.use hus R₂ fun v u ob' s' a b R' => q v u ob' s' a b R'.1) ?_ ?_
    · exact he
    · exact hp) hc
theorem evx_callF {f : Expr} {e : Expr} {es : List Expr} {a : Addr} {o : Obj} {fd : FuncData} {Φ : PV → Ob → Prop} (hf : Ev prog w c lo ob f (.val (.ref a))) (ho : c.h₀.get? a = some o) (hd : o.data = .func fd) (h : EvL prog w c lo ob (e :: es) (fun vs ob' => Cl prog w c lo ob' (.ref a) vs Φ))
    (hc : eval (.Call f (e :: es) [] pos) c.env = (do callWith pos (← eval f c.env) [] (backTo pos (starEach (e :: es) c.env)) (backToKw pos (keywordEach [] c.env))))
    (he : starEach (e :: es) c.env = (false, eval e c.env) :: starEach es c.env) : EvX prog w c lo ob (.Call f (e :: es) [] pos) Φ := fun s Q E R q =>
  Call_ (hf.use R fun u s₁ hu R₁ => by
    cases hu
    refine callWith_def hd (h.use R₁ fun vs us ob' s₂ hc hus R₂ => ⟨?_, hc.use hus R₂ fun v u ob' s' a b R' => q v u ob' s' a b R'.1⟩) he
    obtain ⟨m, F, _⟩ := R₂.fr
    exact F.keep _ _ ho) hc
/-- a method of a built-in type's value -/
theorem evx_meth1 {o : Expr} {name : Str} {id : String} {e : Expr} {es : List Expr} {ov : PV} {pl : Sem Bool} {Φ : PV → Ob → Prop} (ho : Ev prog w c lo ob o ov) (hg : Gm prog w c lo ob ov name id) (h : EvL prog w c lo ob (e :: es) (fun vs ob' => Cl prog w c lo ob' (.builtin id) (ov :: vs) Φ))
    (hc : eval (.Call (.Attribute o name apos) (e :: es) [] pos) c.env = (do
      let ov ← eval o c.env
      standAt apos.atName
      let (f, first) ← holding [ov] (getMethod ov name pl)
      callWith pos f first (backTo pos (starEach (e :: es) c.env)) []))
    (he : starEach (e :: es) c.env = (false, eval e c.env) :: starEach es c.env) (hp : (backTo pos (starEach es c.env)).any (·.1) = false) : EvX prog w c lo ob (.Call (.Attribute o name apos) (e :: es) [] pos) Φ := fun s Q E R q =>
  MethodCall_ (pl := pl) (ho.use R fun u s₁ hu R₁ => hg _ _ _ _ _ hu R₁ (callWith_method1 (h.use R₁ fun vs us ob' s₂ hc hus R₂ => hc.use (.cons hu hus) R₂ fun v u ob' s' a b R' => q v u ob' s' a b R'.1) he hp)) hc
theorem evx_meth0 {o : Expr} {name : Str} {id : String} {ov : PV} {pl : Sem Bool} {Φ : PV → Ob → Prop} (ho : Ev prog w c lo ob o ov) (hg : Gm prog w c lo ob ov name id) (h : Cl prog w c lo ob (.builtin id) [ov] Φ)
    (hc : eval (.Call (.Attribute o name apos) [] [] pos) c.env = (do
      let ov ← eval o c.env
      standAt apos.atName
      let (f, first) ← holding [ov] (getMethod ov name pl)
      callWith pos f first (backTo pos (starEach [] c.env)) [])) : EvX prog w c lo ob (.Call (.Attribute o name apos) [] [] pos) Φ := fun s Q E R q =>
  MethodCall_ (pl := pl) (ho.use R fun u s₁ hu R₁ => hg _ _ _ _ _ hu R₁ (callWith_method0 (h.use (.cons hu .nil) R₁ fun v u ob' s' a b R' => q v u ob' s' a b R'.1))) hc
theorem ev_of_x {e : Expr} {v : PV} (h : EvX prog w c lo ob e (fun v' ob' => v' = v ∧ ob' = ob)) : Ev prog w c lo ob e v := fun s Q E R q => h s Q E R fun v' u ob' s' hΦ hu R' => by
  obtain ⟨rfl, rfl⟩ := hΦ; exact q _ _ hu R'

theorem evx_tuple {es : List Expr} {Φ : PV → Ob → Prop} (h : EvL prog w c lo ob es (fun vs ob' => vs.length ≤ 1000 ∧ ∀ a, Φ (.val (.ref a)) ((a, SeqO "tuple" vs) :: ob'))) : EvX prog w c lo ob (.Tuple es k pos) Φ := fun s Q E R q =>
  Tuple_ (h.use R fun vs us ob' s₁ hΦ hus R₁ => wpAny_newObj_type (q _ _ _ _ (hΦ.2 _) rfl (R₁.new (a := s₁.heap.objs.size) (o := { cls := .type "tuple", data := .seq us.toArray }) (by simp [Heap.get?]) (fun b o e => Heap.get?_push_of_some _ e) (Heap.get?_push_size _ rfl) ⟨us, 0, rfl, hus⟩ s₁.toks))
    (by show us.toArray.size ≤ sizeLine; rw [List.size_toArray, ← hus.length, sizeLine_eq]; have := hΦ.1; omega))
theorem evx_list {es : List Expr} {Φ : PV → Ob → Prop} (h : EvL prog w c lo ob es (fun vs ob' => vs.length ≤ 1000 ∧ ∀ a, Φ (.val (.ref a)) ((a, SeqO "list" vs) :: ob'))) : EvX prog w c lo ob (.List es pos) Φ := fun s Q E R q =>
  List_ (h.use R fun vs us ob' s₁ hΦ hus R₁ => wpAny_newObj_type (q _ _ _ _ (hΦ.2 _) rfl (R₁.new (a := s₁.heap.objs.size) (o := { cls := .type "list", data := .seq us.toArray }) (by simp [Heap.get?]) (fun b o e => Heap.get?_push_of_some _ e) (Heap.get?_push_size _ rfl) ⟨us, 0, rfl, hus⟩ s₁.toks))
    (by show us.toArray.size ≤ sizeLine; rw [List.size_toArray, ← hus.length, sizeLine_eq]; have := hΦ.1; omega))

theorem ev_sub {value slice : Expr} {o i r : PV} (ho : Ev prog w c lo ob value o) (hi : Ev prog w c lo ob slice i) (h : Sb prog w c lo ob value slice o i r) : Ev prog w c lo ob (.Subscript value slice pos) r := fun s Q E R q =>
  Subscript_ (ho.use R fun ou s₁ hou R₁ => hi.use R₁ fun iu s₂ hiu R₂ => h.use hou hiu R₂ fun u s' a R' => q u s' a R'.1)
end

section
variable {prog : Program} {w : World} {c : Cf} {lo lo' : Lo} {ob ob' : Ob} {pos p' apos : Pos} {k : Nat} {x y : Str} {a b : Int}

theorem op_int {t : Value → Value → Sem Value} {r : PV} (h : ∀ (t1 t2 : Tok) (s : Shared) (Q E : Value → Shared → Prop), (∀ u tk, r.is u → Q u { s with toks := tk }) → wpAny (model prog w) c.A (t (.int a t1) (.int b t2)) Q E s) : Op prog w c lo ob t (.int a) (.int b) r := fun ua ub s Q E ha hb R q => by
  obtain ⟨t1, rfl⟩ := ha; obtain ⟨t2, rfl⟩ := hb
  exact h _ _ _ _ _ fun u tk hu => q _ _ hu (R.1.toks tk)
theorem op_str {t : Value → Value → Sem Value} {r : PV} (h : ∀ (t1 t2 : Tok) (s : Shared) (Q E : Value → Shared → Prop), (∀ u tk, r.is u → Q u { s with toks := tk }) → wpAny (model prog w) c.A (t (.str x t1) (.str y t2)) Q E s) : Op prog w c lo ob t (.str x) (.str y) r := fun ua ub s Q E ha hb R q => by
  obtain ⟨t1, rfl⟩ := ha; obtain ⟨t2, rfl⟩ := hb
  exact h _ _ _ _ _ fun u tk hu => q _ _ hu (R.1.toks tk)
theorem op_eq_int : Op prog w c lo ob (compareOp .Eq) (.int a) (.int b) (.val (.bool (a == b))) := op_int fun t1 t2 s Q E q => eq_int (q _ s.toks rfl)
theorem op_ne_int : Op prog w c lo ob (compareOp .NotEq) (.int a) (.int b) (.val (.bool (a != b))) := op_int fun t1 t2 s Q E q => ne_int (q _ s.toks rfl)
theorem op_lt_int : Op prog w c lo ob (compareOp .Lt) (.int a) (.int b) (.val (.bool (decide (a < b)))) := op_int fun t1 t2 s Q E q => lt_int (q _ s.toks rfl)
theorem op_gt_int : Op prog w c lo ob (compareOp .Gt) (.int a) (.int b) (.val (.bool (decide (b < a)))) := op_int fun t1 t2 s Q E q => gt_int (q _ s.toks rfl)
theorem op_le_int : Op prog w c lo ob (compareOp .LtE) (.int a) (.int b) (.val (.bool (decide (a ≤ b)))) := op_int fun t1 t2 s Q E q => le_int (q _ s.toks rfl)
theorem op_eq_str : Op prog w c lo ob (compareOp .Eq) (.str x) (.str y) (.val (.bool (x == y))) := op_str fun t1 t2 s Q E q => PyProof.Rows.eq_str (q _ s.toks rfl)
theorem op_ne_str : Op prog w c lo ob (compareOp .NotEq) (.str x) (.str y) (.val (.bool (x != y))) := op_str fun t1 t2 s Q E q => PyProof.Rows.ne_str (q _ s.toks rfl)
theorem op_in_str {z : Nat} : Op prog w c lo ob (compareOp .In) (.str ⟨#[z]⟩) (.str x) (.val (.bool (decide (z ∈ x.cps.toList)))) := op_str fun t1 t2 s Q E q => PyProof.Rows.in_str (by rw [StrLaws.found_one]; exact q _ s.toks rfl)
theorem op_notin_str {z : Nat} : Op prog w c lo ob (compareOp .NotIn) (.str ⟨#[z]⟩) (.str x) (.val (.bool (!decide (z ∈ x.cps.toList)))) := op_str fun t1 t2 s Q E q => P.notIn_str (by rw [StrLaws.found_one]; exact q _ s.toks rfl)
theorem op_eq_none_str : Op prog w c lo ob (compareOp .Eq) (.val .none) (.str y) (.val (.bool false)) := fun ua ub s Q E ha hb R q => by
  cases ha; obtain ⟨t2, rfl⟩ := hb
  exact PySem.EqNone.eq_none_str (q _ _ rfl R.1)
theorem op_ne_none_str : Op prog w c lo ob (compareOp .NotEq) (.val .none) (.str y) (.val (.bool true)) := fun ua ub s Q E ha hb R q => by
  cases ha; obtain ⟨t2, rfl⟩ := hb
  exact PySem.EqNone.ne_none_str (q _ _ rfl R.1)
theorem op_ne_bool {p q : Bool} : Op prog w c lo ob (compareOp .NotEq) (.val (.bool p)) (.val (.bool q)) (.val (.bool (p != q))) := fun ua ub s Q E ha hb R qq => by
  cases ha; cases hb
  exact PyProof.Rows.ne_bool (qq _ _ rfl R.1)
theorem op_is_none {v : Value} : Op prog w c lo ob (compareOp .Is) (.val v) (.val .none) (.val (.bool (v == .none))) := fun ua ub s Q E ha hb R q => by
  cases ha; cases hb
  exact is_none_gen (q _ _ rfl R.1)
theorem op_is_none_str : Op prog w c lo ob (compareOp .Is) (.str x) (.val .none) (.val (.bool false)) := fun ua ub s Q E ha hb R q => by
  cases hb; obtain ⟨t2, rfl⟩ := ha
  exact is_none_gen (q _ _ rfl R.1)
theorem op_add_int : Op prog w c lo ob (binaryOp .Add) (.int a) (.int b) (.int (a + b)) := op_int fun t1 t2 s Q E q => add_int (q _ _ ⟨_, rfl⟩)
theorem op_iadd_int : Op prog w c lo ob (inplaceOp .Add) (.int a) (.int b) (.int (a + b)) := op_int fun t1 t2 s Q E q => iadd_int (q _ _ ⟨_, rfl⟩)
theorem op_sub_int : Op prog w c lo ob (binaryOp .Sub) (.int a) (.int b) (.int (a - b)) := op_int fun t1 t2 s Q E q => sub_int (q _ _ ⟨_, rfl⟩)
theorem op_mul_int (h : IntMulOk a b) : Op prog w c lo ob (binaryOp .Mult) (.int a) (.int b) (.int (a * b)) := op_int fun t1 t2 s Q E q => mul_int (q _ _ ⟨_, rfl⟩) h
theorem op_mod_int (h : b ≠ 0) : Op prog w c lo ob (binaryOp .Mod) (.int a) (.int b) (.int (a.fmod b)) := op_int fun t1 t2 s Q E q => mod_int' h (q _ _ ⟨_, rfl⟩)
theorem op_add_str (h : x.length + y.length ≤ 2 ^ 24) : Op prog w c lo ob (binaryOp .Add) (.str x) (.str y) (.str (x ++ y)) := op_str fun t1 t2 s Q E q => PyProof.Rows.add_str (fun t' tk => q _ _ ⟨_, rfl⟩) (by rw [sizeLine_eq]; exact h)
theorem op_iadd_str (h : x.length + y.length ≤ 2 ^ 24) : Op prog w c lo ob (inplaceOp .Add) (.str x) (.str y) (.str (x ++ y)) := op_str fun t1 t2 s Q E q => PyProof.Rows.iadd_str (fun t' tk => q _ _ ⟨_, rfl⟩) (by rw [sizeLine_eq]; exact h)

/-- an item of a text -/
theorem sb_str {value slice : Expr} {i : Int} {z : Nat} (h0 : 0 ≤ i) (h1 : x.cps.toList[i.toNat]? = some z) (hl : x.length < 2 ^ 30)
    (hs : ∀ o i, subscripted slice false o i = operate [o, i] (getItem o i) := by intro _ _; with_unfolding_all rfl) : Sb prog w c lo ob value slice (.str x) (.int i) (.str ⟨#[z]⟩) := fun ou iu s Q E ho hi R q => by
  obtain ⟨t1, rfl⟩ := ho; obtain ⟨t2, rfl⟩ := hi
  have hz := (List.getElem?_eq_some_iff.mp h1).1
  have hz' : i.toNat < x.cps.size := by simpa using hz
  have hlt : i < (x.length : Int) := by show i < (x.cps.size : Int); omega
  refine tail_any (typeIs_str s x t1) F.slot_str_getitem.lookup (PyProof.Rows.getItem_str (c := z) ?_ ?_ (q _ _ ⟨_, rfl⟩ (R.1.toks _))) (hs _ _)
  · simp only [Bool.or_eq_false_iff, decide_eq_false_iff_not]; constructor <;> omega
  · rw [seqIndex_of h0 hlt]
    show x.cps[i.toNat]? = some z
    rw [← h1]; simp

theorem All2.strs : ∀ {ss : List Str} {us : List Value}, All2 PV.is (ss.map .str) us → StrsAre us ss
  | [], _, .nil => .nil
  | s :: ss, _, .cons (b := b) h hs => by obtain ⟨t, rfl⟩ := h; exact .cons s t (All2.strs hs)
theorem SeqO.isList {h : Heap} {a : Addr} {o : Obj} {vs : List PV} (ho : h.get? a = some o) (hs : SeqO "list" vs o) : ∃ us, h.PlainList a us.toArray ∧ All2 PV.is vs us := by
  obtain ⟨us, n, rfl, hu⟩ := hs
  exact ⟨us, ⟨n, ho⟩, hu⟩
theorem SeqO.isTup {h : Heap} {a : Addr} {o : Obj} {vs : List PV} (ho : h.get? a = some o) (hs : SeqO "tuple" vs o) : ∃ us, IsTup h a us.toArray ∧ All2 PV.is vs us := by
  obtain ⟨us, n, rfl, hu⟩ := hs
  exact ⟨us, ⟨_, ho, rfl, n, rfl⟩, hu⟩
/-- a list whose class and items are told, no more -/
def ListW (vs : List PV) : OP := fun o => o.cls = .type "list" ∧ ∃ us n, o.data = .seq us.toArray n ∧ All2 PV.is vs us
theorem ListW.isList {h : Heap} {a : Addr} {o : Obj} {vs : List PV} (ho : h.get? a = some o) (hs : ListW vs o) : ∃ us, h.IsList a us.toArray ∧ All2 PV.is vs us := by
  obtain ⟨h1, us, n, h2, hu⟩ := hs
  exact ⟨us, ⟨_, ho, h1, n, h2⟩, hu⟩
theorem SeqO.weak {o : Obj} {vs : List PV} (hs : SeqO "list" vs o) : ListW vs o := by
  obtain ⟨us, n, rfl, hu⟩ := hs
  exact ⟨rfl, us, n, rfl, hu⟩

theorem sb_list {value slice : Expr} {l : Addr} {vs : List PV} {i : Int} {v : PV} (hm : (l, ListW vs) ∈ ob ∨ (l, SeqO "list" vs) ∈ ob) (h0 : 0 ≤ i) (hb : i < 2 ^ 40) (h1 : vs[i.toNat]? = some v)
    (hs : ∀ o i, subscripted slice false o i = operate [o, i] (getItem o i) := by intro _ _; with_unfolding_all rfl) : Sb prog w c lo ob value slice (.val (.ref l)) (.int i) v := fun ou iu s Q E ho hi R q => by
  cases ho; obtain ⟨t2, rfl⟩ := hi
  obtain ⟨us, hl, hu⟩ : ∃ us, s.heap.IsList l us.toArray ∧ All2 PV.is vs us := by
    rcases hm with hm | hm
    · obtain ⟨o, h1, h2⟩ := R.1.get hm; exact ListW.isList h1 h2
    · obtain ⟨o, h1, h2⟩ := R.1.get hm; exact ListW.isList h1 h2.weak
  obtain ⟨u, e, hv⟩ := hu.get h1
  exact tail_any hl.typeIs slot_list_getitem.lookup (wpAny_getItem_list hl h0 (by omega) (by simpa using e) (q _ _ hv R.1)) (hs _ _)
theorem sb_list_last {value slice : Expr} {l : Addr} {vs : List PV} {v : PV} (hm : (l, SeqO "list" (vs ++ [v])) ∈ ob) (hb : vs.length < 2 ^ 40)
    (hs : ∀ o i, subscripted slice false o i = operate [o, i] (getItem o i) := by intro _ _; with_unfolding_all rfl) : Sb prog w c lo ob value slice (.val (.ref l)) (.int (-1)) v := fun ou iu s Q E ho hi R q => by
  cases ho; obtain ⟨t2, rfl⟩ := hi
  obtain ⟨o, h1, h2⟩ := R.1.get hm
  obtain ⟨us, hp, hu⟩ := SeqO.isList h1 h2
  have hl : s.heap.IsList l us.toArray := by obtain ⟨n, h⟩ := hp; exact ⟨_, h, rfl, n, rfl⟩
  have hn := hu.length
  simp only [List.length_append, List.length_singleton] at hn
  obtain ⟨u, e, hv⟩ := hu.get (i := vs.length) (a := v) (by simp)
  refine tail_any hl.typeIs slot_list_getitem.lookup (wpAny_getItem_list_neg hl (by decide) ?_ (by decide) ?_ (q _ _ hv R.1)) (hs _ _)
  · simp only [List.size_toArray]; omega
  · have : ((-1 : Int) + (us.toArray.size : Int)).toNat = vs.length := by simp only [List.size_toArray]; omega
    rw [this]; simpa using e

/-- the same item without the syntax around it -/
theorem op_in_tuple {l : Addr} {ss : List Str} (hm : (l, SeqO "tuple" (ss.map .str)) ∈ ob) : Op prog w c lo ob (compareOp .In) (.str x) (.val (.ref l)) (.val (.bool (ss.any (· == x)))) := fun ua ub s Q E ha hb R q => by
  obtain ⟨t, rfl⟩ := ha; cases hb
  obtain ⟨o, h1, h2⟩ := R.1.get hm
  obtain ⟨us, ht, hu⟩ := SeqO.isTup h1 h2
  exact in_tuple_strs ht (by simpa using All2.strs hu) (q _ _ rfl R.1)
theorem op_notin_tuple {l : Addr} {ss : List Str} (hm : (l, SeqO "tuple" (ss.map .str)) ∈ ob) : Op prog w c lo ob (compareOp .NotIn) (.str x) (.val (.ref l)) (.val (.bool (!ss.any (· == x)))) := fun ua ub s Q E ha hb R q => by
  obtain ⟨t, rfl⟩ := ha; cases hb
  obtain ⟨o, h1, h2⟩ := R.1.get hm
  obtain ⟨us, ht, hu⟩ := SeqO.isTup h1 h2
  exact notin_tuple_strs ht (by simpa using All2.strs hu) (q _ _ rfl R.1)
theorem op_notin_list {l : Addr} {ss : List Str} (hm : (l, SeqO "list" (ss.map .str)) ∈ ob) : Op prog w c lo ob (compareOp .NotIn) (.str x) (.val (.ref l)) (.val (.bool (!ss.any (· == x)))) := fun ua ub s Q E ha hb R q => by
  obtain ⟨t, rfl⟩ := ha; cases hb
  obtain ⟨o, h1, h2⟩ := R.1.get hm
  obtain ⟨us, hp, hu⟩ := SeqO.isList h1 h2
  have hl : s.heap.IsList l us.toArray := by obtain ⟨n, h⟩ := hp; exact ⟨_, h, rfl, n, rfl⟩
  exact notin_list_strs hl (All2.strs hu) (q _ _ rfl R.1)
end

section
variable {prog : Program} {w : World} {c : Cf} {lo lo' : Lo} {ob ob' : Ob} {pos p' apos : Pos} {k : Nat} {x y z : Str}

/-- a part of a slice -/
theorem part_none {M : Model} {A : Around} {env : Env} {s : Shared} {Q : Value → Shared → Prop} {E : Value → Shared → Prop} (h : Q .none s) : wpAny M A (evalPart none env) Q E s := wpAny_pure h

theorem ev_slice_ss {value lo1 up : Expr} {i j : Int} {sp : Pos} (hv : Ev prog w c lo ob value (.str x)) (hi : Ev prog w c lo ob lo1 (.int i)) (hj : Ev prog w c lo ob up (.int j)) (hx : x.length ≤ 2 ^ 24) (hz : Txt.slice x (some i) (some j) = z) :
    Ev prog w c lo ob (.Subscript value (.Slice (some lo1) (some up) none sp) pos) (.str z) := fun s Q E R q =>
  Subscript_ (hv.use R fun u s₁ hu R₁ => wpAny_Slice (hi.use R₁ fun ui s₂ hui R₂ => hj.use R₂ fun uj s₃ huj R₃ => part_none (by
    obtain ⟨t, rfl⟩ := hu; obtain ⟨ti, rfl⟩ := hui; obtain ⟨tj, rfl⟩ := huj
    obtain ⟨m, nx, F, N, back⟩ := R₃.1.bridge
    exact slice_strN_ss F N (fun h' t' k F' N' => q _ _ ⟨t', by rw [hz]⟩ (back _ F' N' rfl rfl)) (hsz := by rw [sizeLine_eq]; exact hx) (ht := by
      intro r; unfold letTemporaryGo; cases value <;> rfl))))
theorem ev_slice_sn {value lo1 : Expr} {i : Int} {sp : Pos} (hv : Ev prog w c lo ob value (.str x)) (hi : Ev prog w c lo ob lo1 (.int i)) (hx : x.length ≤ 2 ^ 24) (hz : Txt.slice x (some i) none = z) :
    Ev prog w c lo ob (.Subscript value (.Slice (some lo1) none none sp) pos) (.str z) := fun s Q E R q =>
  Subscript_ (hv.use R fun u s₁ hu R₁ => wpAny_Slice (hi.use R₁ fun ui s₂ hui R₂ => part_none (part_none (by
    obtain ⟨t, rfl⟩ := hu; obtain ⟨ti, rfl⟩ := hui
    obtain ⟨m, nx, F, N, back⟩ := R₂.1.bridge
    exact slice_strN_sn F N (fun h' t' k F' N' => q _ _ ⟨t', by rw [hz]⟩ (back _ F' N' rfl rfl)) (hsz := by rw [sizeLine_eq]; exact hx) (ht := by
      intro r; unfold letTemporaryGo; cases value <;> rfl)))))

theorem Rep0.newFresh {s : Shared} (R : Rep0 c lo ob s) (o1 o2 : Obj) {P : OP} (hP : P o2) (hf : o2.isFreed = false) : Rep0 c lo ((s.heap.objs.size + 1, P) :: ob) { s with heap := (s.heap.push o1).push o2 } := by
  have h1 : (s.heap.push o1).objs.size = s.heap.objs.size + 1 := Heap.size_push ..
  have := (R.ext (h' := s.heap.push o1) (fun b o e => Heap.get?_push_of_some _ e) s.toks).new (a := (s.heap.push o1).objs.size) (o := o2) (h' := (s.heap.push o1).push o2) (P := P) (by simp [Heap.get?]) (fun b o e => Heap.get?_push_of_some _ e) (Heap.get?_push_size _ hf) hP s.toks
  rw [h1] at this
  exact this

/-- a slice of a list -/
theorem evx_slice_list {xn : Str} {np : Pos} {l : Addr} {vs : List PV} {lo1 up : Option Expr} {i j : Option Int} {sp : Pos} {Φ : PV → Ob → Prop} (hv : Ev prog w c lo ob (.Name xn np) (.val (.ref l))) (hm : (l, SeqO "list" vs) ∈ ob)
    (hi : ∀ (s : Shared) (Q E : Value → Shared → Prop), Rep c lo ob s → (∀ u s', IsPart u i → Rep c lo ob s' → Q u s') → wpAny (model prog w) c.A (evalPart lo1 c.env) Q E s)
    (hj : ∀ (s : Shared) (Q E : Value → Shared → Prop), Rep c lo ob s → (∀ u s', IsPart u j → Rep c lo ob s' → Q u s') → wpAny (model prog w) c.A (evalPart up c.env) Q E s)
    (hx : vs.length ≤ 2 ^ 24) {zs : List PV} (hz : ∀ us : List Value, All2 PV.is vs us → ∃ ys : List Value, slicePick us.toArray i j none = ys.toArray ∧ All2 PV.is zs ys) (h : ∀ a, Φ (.val (.ref a)) ((a, SeqO "list" zs) :: ob)) :
    EvX prog w c lo ob (.Subscript (.Name xn np) (.Slice lo1 up none sp) pos) Φ := fun s Q E R q =>
  Subscript_ (hv.use R fun u s₁ hu R₁ => wpAny_Slice (hi _ _ _ R₁ fun ui s₂ hui R₂ => hj _ _ _ R₂ fun uj s₃ huj R₃ => part_none (by
    cases hu
    obtain ⟨o, h1, h2⟩ := R₃.1.get hm
    obtain ⟨us, hp, hu⟩ := SeqO.isList h1 h2
    have hl : s₃.heap.IsList l us.toArray := by obtain ⟨n, h⟩ := hp; exact ⟨_, h, rfl, n, rfl⟩
    obtain ⟨ys, hy, hys⟩ := hz us hu
    have hlen := hu.length
    refine subscriptTail_ops (ops := [.ref s₃.heap.objs.size, .ref l]) (Heap.IsList.typeIs (s := { s₃ with heap := s₃.heap.push { cls := .type "slice", data := .fields #[ui, uj, .none] } }) (hl.push _)) list_getitem_lookup
      (wpAny_getItem_list_slice (hl.push _) (Heap.IsSliceOf.new ..) hui huj .none (by simp) ?_ (by rw [sizeLine_eq]; simp only [List.size_toArray]; omega)) ?_ ?_
    · rw [hy]
      have h1 : (s₃.heap.push { cls := .type "slice", data := .fields #[ui, uj, .none] }).objs.size = s₃.heap.objs.size + 1 := Heap.size_push ..
      show Q (.ref (s₃.heap.push _).objs.size) _
      rw [h1]
      exact q _ _ _ _ (h _) rfl (R₃.1.newFresh _ _ ⟨ys, 0, rfl, hys⟩ rfl)
    · rfl
    · intro r; rfl)))

/-- x in (a, b, ..), the texts written -/
theorem tr_in_disp {l : Expr} {es : List Expr} {ss : List Str} {kk : Nat} {tp : Pos} (hl : Ev prog w c lo ob l (.str x)) (hr : EvL prog w c lo ob es (fun vs ob' => vs = ss.map .str ∧ ob' = ob)) (hn : ss.length ≤ 1000)
    (hm : behindInMarks .In (.Tuple es kk tp) = false := by rfl) : Tr prog w c lo ob (.Compare l [.In] [.Tuple es kk tp] pos) (ss.any (· == x)) := fun s Q E whole _ R q =>
  wpAny_isTrue_Compare1 (hl.use R fun ua s₁ ha R₁ => (evx_tuple (Φ := fun v ob' => ∃ a, v = .val (.ref a) ∧ ob' = (a, SeqO "tuple" (ss.map .str)) :: ob) fun pos s Q E R q => hr _ _ _ _ R fun vs us ob' s' hΦ => q vs us ob' s' (by obtain ⟨rfl, rfl⟩ := hΦ; exact ⟨by simpa using hn, fun a => ⟨a, rfl, rfl⟩⟩)).use R₁ fun v ub ob' s₂ hΦ hb R₂ => by
    obtain ⟨a, rfl, rfl⟩ := hΦ
    exact (op_in_tuple (.head _)).use ha hb R₂ fun u s₃ hu R₃ => by cases hu; exact wpAny_truthy_bool (q _ (R₃.1.sub (List.sublist_cons_self ..)))) hm
theorem tr_notin_disp {l : Expr} {es : List Expr} {ss : List Str} {kk : Nat} {tp : Pos} (hl : Ev prog w c lo ob l (.str x)) (hr : EvL prog w c lo ob es (fun vs ob' => vs = ss.map .str ∧ ob' = ob)) (hn : ss.length ≤ 1000)
    (hm : behindInMarks .NotIn (.Tuple es kk tp) = false := by rfl) : Tr prog w c lo ob (.Compare l [.NotIn] [.Tuple es kk tp] pos) (!ss.any (· == x)) := fun s Q E whole _ R q =>
  wpAny_isTrue_Compare1 (hl.use R fun ua s₁ ha R₁ => (evx_tuple (Φ := fun v ob' => ∃ a, v = .val (.ref a) ∧ ob' = (a, SeqO "tuple" (ss.map .str)) :: ob) fun pos s Q E R q => hr _ _ _ _ R fun vs us ob' s' hΦ => q vs us ob' s' (by obtain ⟨rfl, rfl⟩ := hΦ; exact ⟨by simpa using hn, fun a => ⟨a, rfl, rfl⟩⟩)).use R₁ fun v ub ob' s₂ hΦ hb R₂ => by
    obtain ⟨a, rfl, rfl⟩ := hΦ
    exact (op_notin_tuple (.head _)).use ha hb R₂ fun u s₃ hu R₃ => by cases hu; exact wpAny_truthy_bool (q _ (R₃.1.sub (List.sublist_cons_self ..)))) hm

-- calls of built-ins
theorem cl_len_str (h : x.length < 2 ^ 30) {Φ : PV → Ob → Prop} (hΦ : Φ (.int x.length) ob) : Cl prog w c lo ob (.builtin "len") [.str x] Φ := fun us s Q E hu R q => by
  cases hu with | cons h1 hs => cases hs; obtain ⟨t, rfl⟩ := h1; exact PyProof.Rows.len_str (by omega) (q _ _ _ _ hΦ ⟨_, rfl⟩ (R.1.toks _))
theorem cl_len_list {l : Addr} {vs : List PV} (hm : (l, ListW vs) ∈ ob ∨ (l, SeqO "list" vs) ∈ ob) (hb : vs.length < 2 ^ 30) {Φ : PV → Ob → Prop} (hΦ : Φ (.int vs.length) ob) : Cl prog w c lo ob (.builtin "len") [.val (.ref l)] Φ := fun us s Q E hu R q => by
  cases hu with | cons h1 hs => ?_
  cases hs; cases h1
  obtain ⟨us, hl, hu⟩ : ∃ us, s.heap.IsList l us.toArray ∧ All2 PV.is vs us := by
    rcases hm with hm | hm
    · obtain ⟨o, h1, h2⟩ := R.1.get hm; exact ListW.isList h1 h2
    · obtain ⟨o, h1, h2⟩ := R.1.get hm; exact ListW.isList h1 h2.weak
  have e := hu.length
  have e2 : us.toArray.size = vs.length := by simp [e]
  refine PyProof.Rows.len_list hl (by rw [e2]; omega) ?_
  rw [e2]
  exact q _ _ _ _ hΦ ⟨_, rfl⟩ (R.1.toks _)
theorem cl_str_int {a : Int} (h : a.natAbs < 2 ^ 60) {Φ : PV → Ob → Prop} (hΦ : Φ (.str (Str.ofString (toString a))) ob) : Cl prog w c lo ob (.type "str") [.int a] Φ := fun us s Q E hu R q => by
  cases hu with | cons h1 hs => ?_
  cases hs; obtain ⟨t, rfl⟩ := h1
  have hl : a.natAbs.log2 < 1920 := by
    by_cases h0 : a.natAbs = 0
    · rw [h0]; decide
    · have := (Nat.log2_lt h0).mpr h
      omega
  exact P.str_of_int hl (q _ _ _ _ hΦ ⟨_, rfl⟩ (R.1.toks _))
theorem cl_isalnum {Φ : PV → Ob → Prop} (hΦ : Φ (.val (.bool (Txt.isalnum x))) ob) : Cl prog w c lo ob (.builtin "str.isalnum") [.str x] Φ := fun us s Q E hu R q => by
  cases hu with | cons h1 hs => cases hs; obtain ⟨t, rfl⟩ := h1; exact SC.isalnum (q _ _ _ _ hΦ rfl R.1)
theorem cl_find3 {i : Int} {Φ : PV → Ob → Prop} (hΦ : Φ (.int (Txt.find3 x y i)) ob) : Cl prog w c lo ob (.builtin "str.find") [.str x, .str y, .int i] Φ := fun us s Q E hu R q => by
  cases hu with | cons h1 hs => ?_
  cases hs with | cons h2 hs => ?_
  cases hs with | cons h3 hs => ?_
  cases hs; obtain ⟨t, rfl⟩ := h1; obtain ⟨t2, rfl⟩ := h2; obtain ⟨t3, rfl⟩ := h3
  exact SC.find3 (q _ _ _ _ hΦ ⟨_, rfl⟩ (R.1.toks _))
theorem cl_join {l : Addr} {ss : List Str} (hm : (l, SeqO "list" (ss.map .str)) ∈ ob) (hb : (ss.map (·.length)).sum + ss.length * x.length ≤ 16777216) {Φ : PV → Ob → Prop} (hΦ : Φ (.str (Txt.join x ss)) ob) : Cl prog w c lo ob (.builtin "str.join") [.str x, .val (.ref l)] Φ := fun us s Q E hu R q => by
  cases hu with | cons h1 hs => ?_
  cases hs with | cons h2 hs => ?_
  cases hs; obtain ⟨t, rfl⟩ := h1; cases h2
  obtain ⟨o, h1, h2⟩ := R.1.get hm
  obtain ⟨us, hp, hu⟩ := SeqO.isList h1 h2
  have hl : s.heap.IsList l us.toArray := by obtain ⟨n, h⟩ := hp; exact ⟨_, h, rfl, n, rfl⟩
  exact join_list hl (by simpa using All2.strs hu) hb fun t' k => q _ _ _ _ hΦ ⟨_, rfl⟩ (R.1.toks _)
theorem cl_append {l : Addr} {vs : List PV} {v : PV} (hm : (l, SeqO "list" vs) ∈ ob) (hb : vs.length ≤ 2 ^ 20) (U : Put l (SeqO "list" (vs ++ [v])) ob ob') {Φ : PV → Ob → Prop} (hΦ : Φ (.val .none) ob') : Cl prog w c lo ob (.builtin "list.append") [.val (.ref l), v] Φ := fun us s Q E hu R q => by
  cases hu with | cons h1 hs => ?_
  cases hs with | cons h2 hs => ?_
  cases hs; cases h1
  obtain ⟨o, h1, h2'⟩ := R.1.get hm
  obtain ⟨us, hp, hu⟩ := SeqO.isList h1 h2'
  have e := hu.length
  refine wpAny_list_append_plain (l := l) (items := us.toArray) hp (fun h' hp' hs => ?_) (by rw [sizeLine_eq]; simp only [List.size_toArray]; omega)
  obtain ⟨n, hn⟩ := hp'
  refine q _ _ _ _ hΦ rfl (R.1.upd U (fun b o hb e => (hs.2 b hb).trans e) hn ⟨us ++ [_], n, by simp, hu.append (.cons h2 .nil)⟩ s.toks)

theorem gm_str {name : Str} {id : String} (h : ∀ (x : Str) (t : Tok) (pl : Sem Bool) (s : Shared) (Q : Value × List Value → Shared → Prop) (E : Value → Shared → Prop), Q (.builtin id, [.str x t]) s → wpAny (model prog w) c.A (getMethod (.str x t) name pl) Q E s) : Gm prog w c lo ob (.str x) name id := fun ou pl s Q E ho R q => by
  obtain ⟨t, rfl⟩ := ho; exact h _ _ _ _ _ _ q
theorem gm_isalnum : Gm prog w c lo ob (.str x) (Str.ofString "isalnum") "str.isalnum" := gm_str fun x t pl s Q E q => GM.isalnum q
theorem gm_find : Gm prog w c lo ob (.str x) (Str.ofString "find") "str.find" := gm_str fun x t pl s Q E q => GM.find q
theorem gm_replace : Gm prog w c lo ob (.str x) (Str.ofString "replace") "str.replace" := gm_str fun x t pl s Q E q => GM.replace q
theorem gm_join : Gm prog w c lo ob (.str x) (Str.ofString "join") "str.join" := gm_str fun x t pl s Q E q => GM.join q
theorem gm_append {l : Addr} {vs : List PV} (hm : (l, SeqO "list" vs) ∈ ob) : Gm prog w c lo ob (.val (.ref l)) (Str.ofString "append") "list.append" := fun ou pl s Q E ho R q => by
  cases ho
  obtain ⟨o, h1, h2⟩ := R.1.get hm
  obtain ⟨us, n, rfl, hu⟩ := h2
  exact Calls.getMethod_list_append h1 rfl rfl q
theorem gm_index {l : Addr} {vs : List PV} (hm : (l, SeqO "list" vs) ∈ ob) : Gm prog w c lo ob (.val (.ref l)) (Str.ofString "index") "list.index" := fun ou pl s Q E ho R q => by
  cases ho
  obtain ⟨o, h1, h2⟩ := R.1.get hm
  obtain ⟨us, n, rfl, hu⟩ := h2
  exact getMethod_builtin (T := "list") ⟨_, h1, rfl⟩ PySem.F.plainAttrs_list PySem.F.slot_list_index PySem.F.type_list_index (fun a e => by cases e; exact ⟨_, h1, rfl⟩) q

/-- e.replace(y, z), y and z written and not the same -/
theorem ev_replace {e : Expr} {k1 k2 : Nat} {p1 p2 : Pos} {pl : Sem Bool} {r : Str} (hv : Ev prog w c lo ob e (.str x)) (hyz : (y == z) = false) (hb : x.length + (x.length + 1) * z.length ≤ 16777216) (hr : Txt.replace x y z = r)
    (hc : eval (.Call (.Attribute e (Str.ofString "replace") apos) [.Constant (.str y) k1 p1, .Constant (.str z) k2 p2] [] pos) c.env = (do
      let ov ← eval e c.env
      standAt apos.atName
      let (f, first) ← holding [ov] (getMethod ov (Str.ofString "replace") pl)
      callWith pos f first (backTo pos (starEach [.Constant (.str y) k1 p1, .Constant (.str z) k2 p2] c.env)) []) := by rfl) :
    Ev prog w c lo ob (.Call (.Attribute e (Str.ofString "replace") apos) [.Constant (.str y) k1 p1, .Constant (.str z) k2 p2] [] pos) (.str r) := fun s Q E R q =>
  MethodCall_ (pl := pl) (hv.use R fun u s₁ hu R₁ => by
    obtain ⟨t, rfl⟩ := hu
    refine GM.replace (callWith_method1 (args_cons (wpAny_Constant_str (args_cons (wpAny_Constant_str (args_nil ?_))))))
    have ht := R₁.tk
    exact SC.replace (by show s₁.toks ≠ 0; omega) (by show s₁.toks + 1 ≠ 0; omega) (by show s₁.toks ≠ s₁.toks + 1; omega) hyz hb (fun t' k => q _ _ ⟨t', by rw [hr]⟩ (R₁.1.toks _))) hc
end

structure Fn0 (K : Frag) (a : Addr) (fd : FuncData) (body : List Stmt) : Prop where
  look : ∃ oc od osl, K.lookup a = some ⟨oc, od, .func fd, osl⟩
  body : fd.body = .stmts body
  cl : fd.closure = []
  gl : fd.globals = mainGlobals
  bu : fd.builtins = builtinsNs
  code : codeIn K fd.code fd.qualname = true
  kind : fd.scope.kind = .function
  co : fd.scope.isCoroutine = false
  gen : fd.scope.isGenerator = false

/-- what a frame's ground says of the top -/
structure Gt (K : Frag) (p : Program) (loose : List Str) (mg mb : Str → Option Value) (c : Cf) : Prop where
  X : K.In c.h₀
  T : TopRead p loose mg mb c.h₀
  hand : c.A.handled = none
  kind : c.env.scope.kind = .function
  glob : c.env.globals = mainGlobals
  blt : c.env.builtins = builtinsNs
  frame : c.env.frame = some c.env.locals
  bel : ∃ A₀ base outer, Below A₀ base outer c.h₀ ∧ c.A.frames = some (c.env :: outer)

def fnEnv (fd : FuncData) (L a : Addr) : Env := envX fd.qualname fd.scope L a fd.code []

/-- the frame of a call of fd's from c -/
abbrev fnCf (c : Cf) (fd : FuncData) (a L : Addr) (g : Heap) : Cf := ⟨c.A.deeper (fnEnv fd L a), fnEnv fd L a, g, c.os⟩

def NoX : EPost := fun _ _ => False
def RetΦ (Φ : PV → Ob → Prop) : Post
  | .ret v, _, ob => Φ v ob
  | .next, _, ob => Φ (.val .none) ob
  | _, _, _ => False

theorem lookup_mem {β : Type} : ∀ {l : List (Str × β)} {k : Str} {v : β}, (l.map (·.1)).Nodup → (k, v) ∈ l → l.lookup k = some v
  | (k', v') :: r, k, v, nd, h => by
    rcases List.mem_cons.mp h with e | h
    · cases e; simp [List.lookup_cons]
    · have hk : k ≠ k' := fun e => by
        have h1 := (List.nodup_cons.mp nd).1
        exact h1 (e ▸ List.mem_map.mpr ⟨(k, v), h, rfl⟩)
      rw [List.lookup_cons, beq_eq_false_iff_ne.mpr hk]
      exact lookup_mem (List.nodup_cons.mp nd).2 h

section
variable {prog : Program} {w : World} {K : Frag} {p : Program} {loose : List Str} {mg mb : Str → Option Value} {c : Cf} {lo : Lo} {ob : Ob} {pos : Pos} {x : Str}

theorem ev_glob (G : Gt K p loose mg mb c) {v : Value} (e : nsIn K mainGlobals x = some (some v)) (hx : c.env.kindOf x = some .globalImplicit) (hd : (x == ("__debug__" : Str)) = false) : Ev prog w c lo ob (.Name x pos) (.val v) := fun s Q E R q => by
  obtain ⟨m, F, _⟩ := R.fr
  refine Calls.Name_function_global G.kind hx (Calls.loadGlobal_global (mg := mg) (v := v) ?_ ?_ (q _ _ rfl R.1)) hd
  · rw [G.glob]; exact G.T.g.keeps F.keep
  · exact mg_of G.X G.T.g e
theorem ev_globB (G : Gt K p loose mg mb c) {v : Value} (e : nsIn K mainGlobals x = some none) (hv : bootBuiltins x = some v) (hn : x ≠ "__name__") (hx : c.env.kindOf x = some .globalImplicit) (hd : (x == ("__debug__" : Str)) = false) : Ev prog w c lo ob (.Name x pos) (.val v) := fun s Q E R q => by
  obtain ⟨m, F, _⟩ := R.fr
  refine Calls.Name_function_global G.kind hx (Calls.loadGlobal_builtin (mg := mg) (mb := mb) (v := v) ?_ ?_ ?_ ?_ (q _ _ rfl R.1)) hd
  · rw [G.glob]; exact G.T.g.keeps F.keep
  · exact mg_none_of G.X G.T.g e
  · rw [G.blt]; exact G.T.b.keeps F.keep
  · exact (G.T.builtins x hn).trans hv

theorem gt_fn {a : Addr} {fd : FuncData} {body : List Stmt} (F : Fn0 K a fd body) {h : Heap} (X : K.In h) : ∃ o, h.get? a = some o ∧ o.data = .func fd := by
  obtain ⟨oc, od, osl, e⟩ := F.look
  exact ⟨_, X _ _ e, rfl⟩

theorem cl_fn (G : Gt K p loose mg mb c) {a : Addr} {fd : FuncData} {body : List Stmt} {vs : List PV} {names others : List Str} {Φ : PV → Ob → Prop} (F : Fn0 K a fd body) (nocell : ∀ x ∈ fd.scope.names, x.2 ≠ .cell) (hroom : c.A.depth < recursionLimit)
    (hbind : ∀ us, All2 PV.is vs us → bindArgs fd ⟨us, []⟩ = pure (names.zip us)) (hnd : (names ++ others).Nodup) (hlen : names.length = vs.length) (hloc : ∀ y ∈ names ++ others, fd.scope.names.lookup y = some .local ∧ (y == ("__debug__" : Str)) = false)
    (H : ∀ L g, Gt K p loose mg mb (fnCf c fd a L g) → WX prog w (fnCf c fd a L g) (names.zip vs ++ others.map fun y => (y, .un)) ob NoX body (RetΦ Φ)) : Cl prog w c lo ob (.ref a) vs Φ := fun us s Q E hu R q => by
  obtain ⟨A₀, base, outer, B, hA⟩ := G.bel
  obtain ⟨m, Fr0, hlo⟩ := R.fr
  obtain ⟨nx, N, kn, rn⟩ := R.obs.news
  obtain ⟨o, ho, hd⟩ := gt_fn F G.X
  have hX := G.X
  have hcode : (c.h₀).CodeRec fd.code fd.qualname := codeRec_of G.X F.code
  obtain ⟨name, qual, params, fbody, scope, globals, closure, defaults, kwdefaults, doc, pyModule, annotations, code, closureTuple, builtins⟩ := fd
  obtain ⟨h1, h2, h3, h4, h5, h6, h7, h8, h9⟩ := F
  simp only at h2 h3 h4 h5 h6 h7 h8 h9
  subst h2 h3 h4 h5
  have hul := hu.length
  have nmap : (names.zip us).map (·.1) = names := by
    rw [List.map_fst_zip]; omega
  have hm : ∀ y ∈ names.zip us, scope.names.lookup y.1 = some .local := fun y hy => by
    refine (hloc y.1 (List.mem_append_left _ ?_)).1
    rw [← nmap]; exact List.mem_map.mpr ⟨y, hy, rfl⟩
  have nd1 : names.Nodup := (List.nodup_append.mp hnd).1
  have keys : (names.zip vs ++ others.map fun y => (y, PV.un)).map (·.1) = names ++ others := by
    rw [List.map_append, List.map_map, List.map_fst_zip (by omega)]
    simp [Function.comp_def]
  refine wpAny_call (callX_plain B Fr0 N G.T.nolimit hA G.frame G.kind (Fr0.keep _ _ ho) hd (hcode.keeps Fr0.keep) hroom (BindsTo.of_eq (hbind us hu)) hm (fun g L' h₁ FG F' N' B' st _ => ?_) nocell h8 h9 h7)
  have Gc : Gt K p loose mg mb ⟨c.A.deeper (envX qual scope L' a code []), envX qual scope L' a code [], g, c.os⟩ :=
    ⟨fun b ob e => st _ _ (hX b ob e), G.T.keeps st, G.hand, h7, rfl, rfl, rfl, ⟨_, _, _, B', by show (c.A.deeper _).frames = _; rw [Around.frames_deeper hA]⟩⟩
  have R' : Rep ⟨c.A.deeper (envX qual scope L' a code []), envX qual scope L' a code [], g, c.os⟩ (names.zip vs ++ others.map fun y => (y, .un)) ob { s with heap := h₁, toks := s.toks + (names.zip us).length } := by
    refine ⟨⟨⟨_, F', fun q hq => ?_⟩, ?_, ?_, fun q hq => ?_, R.os, R.gens⟩, ?_⟩
    · rcases List.mem_append.mp hq with hq | hq
      · obtain ⟨i, hi, e⟩ := List.mem_iff_getElem.mp hq
        have hi' : i < names.length ∧ i < vs.length := by
          rw [List.length_zip] at hi; omega
        rw [List.getElem_zip] at e
        subst e
        obtain ⟨u, hu1, hu2⟩ := hu.get (i := i) (a := vs[i]) (List.getElem?_eq_getElem _)
        have hi2 : i < us.length := by omega
        have lk : (names.zip us).reverse.lookup names[i] = some u := by
          refine lookup_mem ?_ ?_
          · rw [List.map_reverse, nmap]; exact List.pairwise_reverse.mpr (nd1.imp Ne.symm)
          · refine List.mem_reverse.mpr (List.mem_iff_getElem.mpr ⟨i, by rw [List.length_zip]; omega, ?_⟩)
            rw [List.getElem_zip]
            rw [List.getElem?_eq_getElem hi2] at hu1
            rw [Option.some.inj hu1]
        show vs[i].at ((names.zip us).reverse.lookup names[i])
        rw [lk]; exact PV.at_of hu2
      · obtain ⟨y, _, rfl⟩ := List.mem_map.mp hq
        trivial
    · exact Obs.of_news R.obs.1 N' rn
    · rw [keys]; exact hnd
    · have : q.1 ∈ names ++ others := by rw [← keys]; exact List.mem_map.mpr ⟨q, hq, rfl⟩
      exact hloc _ this
    · have := R.tk; show 1 ≤ s.toks + _; omega
  refine wpAny_mono ((H _ _ Gc).use (E := fun _ _ => False) (Q := fun fl s' => LeaveK c.h₀ c.env.locals m g (fun r s' => match r with | .ok (.ret v) => Q v s' | .ok _ => False | .error e => E e s') (match fl with | .ret v => v | _ => .none) s') R' (fun o f lo' ob' s' hΦ hf R'' => ?_) (fun e s' x => x.elim) PassesOwn.never) (fun _ _ x => x) (fun _ _ x => x.elim)
  have fin : ∀ (v : PV) (u : Value), Φ v ob' → v.is u → LeaveK c.h₀ c.env.locals m g (fun r s' => match r with | .ok (.ret v) => Q v s' | .ok _ => False | .error e => E e s') u s' := fun v u hv hvu => by
    obtain ⟨m2, F2, _⟩ := R''.fr
    obtain ⟨nx2, N2, kn2, rn2⟩ := R''.obs.news
    refine leaveK_ F2 N2 fun F3 N3 => ?_
    exact q v u ob' s' hv hvu ⟨⟨m, F3, hlo⟩, Obs.of_news R''.obs.1 N3 rn2, R.nd, R.loc, R''.os, R''.gens⟩
  cases o with
  | next => cases hf; exact fin _ _ hΦ rfl
  | cont => exact hΦ.elim
  | brk => exact hΦ.elim
  | ret v => obtain ⟨u, rfl, hu2⟩ := hf; exact fin v u hΦ hu2
end

section
variable (prog : Program) (w : World) (c : Cf) (lo : Lo) (ob : Ob)
def Wl (X : EPost) (test : Expr) (body : List Stmt) (Φ : Post) : Prop := ∀ (s : Shared) (Q : Flow → Shared → Prop) (E : Value → Shared → Prop), Rep c lo ob s → (∀ o f lo' ob' s', Φ o lo' ob' → o.is f → Rep0 c lo' ob' s' → Q f s') → (∀ e s', X e s' → E e s') → PassesOwn (model prog w) c.A c.env E →
  codeAny (model prog w) c.A (.whileLoop test body [] c.env) (fun r s' => match r with | .ok f => Q f s' | .error e => cameBackBy (model prog w) c.A c.env E e s') s
/-- behind a turn -/
def Turn (X : EPost) (test : Expr) (body : List Stmt) (Φ : Post) : Post
  | .next, lo, ob => Wl prog w c lo ob X test body Φ
  | .cont, lo, ob => Wl prog w c lo ob X test body Φ
  | .brk, lo, ob => Φ .next lo ob
  | .ret v, lo, ob => Φ (.ret v) lo ob
end

section
variable {prog : Program} {w : World} {c : Cf} {lo lo' : Lo} {ob : Ob} {pos : Pos} {x : Str} {X : EPost} {Φ : Post}

theorem wl_step {test : Expr} {body : List Stmt} {b : Bool} (ht : Tr prog w c lo ob test b) (hb : b = true → WX prog w c lo ob X body (Turn prog w c X test body Φ)) (he : b = false → Φ .next lo ob) : Wl prog w c lo ob X test body Φ := fun s Q E R q x pe => by
  refine codeAny_of_tree ?_
  show wpAny _ c.A ((whileTurn test body [] c.env).onRaise (fun x => do noteFrame x c.env; theTreesLotGoes x)) _ _ s
  refine wpAny_noted ?_
  simp only [whileTurn]
  refine wpAny_bind (ht.use R fun s₂ R₂ => ?_)
  cases b with
  | false =>
    simp only [Bool.false_eq_true, if_false]
    exact wpAny_bind (wpAny_execs_nil (wpAny_pure (q _ _ _ _ _ (he rfl) rfl R₂.1)))
  | true =>
    simp only [if_true]
    refine wpAny_bind (wpAny_passesOwn pe ((hb rfl).use (E := E) R₂ (fun o f lo' ob' s' hΦ hf R' => ?_) x pe))
    cases o with
    | next => cases hf; exact wpAny_pure ⟨rfl, hΦ _ _ _ R' q x pe⟩
    | cont => cases hf; exact wpAny_pure ⟨rfl, hΦ _ _ _ R' q x pe⟩
    | brk => cases hf; exact wpAny_pure (q _ _ _ _ _ hΦ rfl R'.1)
    | ret v => obtain ⟨u, rfl, hu⟩ := hf; exact wpAny_pure (q _ _ _ _ _ hΦ ⟨u, rfl, hu⟩ R'.1)
theorem ws_while {test : Expr} {body : List Stmt} (h : Wl prog w c lo ob X test body Φ) : WS prog w c lo ob X (.While test body [] pos) Φ := fun s Q E R q x pe => wpAny_While (h _ _ _ R q x pe)
theorem wl_mono {test : Expr} {body : List Stmt} {Ψ : Post} (h : Wl prog w c lo ob X test body Ψ) (k : ∀ o lo' ob', Ψ o lo' ob' → Φ o lo' ob') : Wl prog w c lo ob X test body Φ := fun s Q E R q x pe => h _ _ _ R (fun o f lo' ob' s' a => q o f lo' ob' s' (k _ _ _ a)) x pe

-- less is known
inductive Wk : Lo → Lo → Prop
  | nil : Wk [] []
  | same {p : Str × PV} {r r' : Lo} : Wk r r' → Wk (p :: r) (p :: r')
  | un {y : Str} {v : PV} {r r' : Lo} : Wk r r' → Wk ((y, v) :: r) ((y, .un) :: r')
theorem Wk.keys {l l' : Lo} (h : Wk l l') : l'.map (·.1) = l.map (·.1) := by
  induction h with
  | nil => rfl
  | same _ ih => simp [ih]
  | un _ ih => simp [ih]
theorem Wk.mem {l l' : Lo} (h : Wk l l') {p : Str × PV} (hp : p ∈ l') : p.2 = .un ∨ p ∈ l := by
  induction h with
  | nil => cases hp
  | same _ ih => rcases List.mem_cons.mp hp with rfl | hp
                 · exact .inr (.head _)
                 · exact (ih hp).imp_right (.tail _)
  | un _ ih => rcases List.mem_cons.mp hp with rfl | hp
               · exact .inl rfl
               · exact (ih hp).imp_right (.tail _)
theorem Rep0.weak {ob' : Ob} {s : Shared} (R : Rep0 c lo ob s) (h : Wk lo lo') (hs : ob'.Sublist ob) : Rep0 c lo' ob' s := by
  have R := R.sub hs
  refine ⟨?_, R.obs, h.keys ▸ R.nd, fun p hp => ?_, R.os, R.gens⟩
  · obtain ⟨m, F, hm⟩ := R.fr
    refine ⟨m, F, fun p hp => ?_⟩
    rcases h.mem hp with e | hp
    · rw [e]; trivial
    · exact hm p hp
  · have : p.1 ∈ lo'.map (·.1) := List.mem_map.mpr ⟨p, hp, rfl⟩
    rw [h.keys] at this
    obtain ⟨q, hq, e⟩ := List.mem_map.mp this
    rw [← e]; exact R.loc q hq
def Up (Φ : Post) : Post := fun o lo ob => ∃ lo' ob', Wk lo lo' ∧ List.Sublist ob' ob ∧ Φ o lo' ob'
theorem wx_up {body : List Stmt} (h : WX prog w c lo ob X body (Up Φ)) : WX prog w c lo ob X body Φ := fun s Q E R q x pe => h _ _ _ R (fun o f lo' ob' s' ⟨lo2, ob2, a, b, hΦ⟩ hf R' => q o f lo2 ob2 s' hΦ hf (R'.weak a b)) x pe
theorem wx_weak {ob' : Ob} {body : List Stmt} (a : Wk lo lo') (b : List.Sublist ob' ob) (h : WX prog w c lo' ob' X body Φ) : WX prog w c lo ob X body Φ := fun s Q E R q x pe => h _ _ _ ⟨R.1.weak a b, R.tk⟩ q x pe
theorem wl_weak {ob' : Ob} {test : Expr} {body : List Stmt} (a : Wk lo lo') (b : List.Sublist ob' ob) (h : Wl prog w c lo' ob' X test body Φ) : Wl prog w c lo ob X test body Φ := fun s Q E R q x pe => h _ _ _ ⟨R.1.weak a b, R.tk⟩ q x pe

/-- the enumeration of a text -/
def EnumO (it : Addr) (i : Nat) : OP := fun o => ∃ old, o = { cls := .type "enumerate", dict := none, data := .fields #[.none, .bool false, .ref it, rawInt i, .none, old], slots := #[] }
def StrItO (y : Str) (i : Nat) : OP := fun o => ∃ t, o.cls = .type (strIterType y) ∧ o.data = .fields #[.str y t, .int i 0]

theorem evx_enum {e : Expr} {y : Str} {Φ : PV → Ob → Prop} (hx : ∀ (s : Shared) (Q E : Value → Shared → Prop), Rep c lo ob s → Q (.type "enumerate") s → wpAny (model prog w) c.A (eval (.Name x pos) c.env) Q E s) : True := trivial

theorem cl_enum {y : Str} {Φ : PV → Ob → Prop} (h : ∀ e it, Φ (.val (.ref e)) ((e, EnumO it 0) :: (it, StrItO y 0) :: ob)) : Cl prog w c lo ob (.type "enumerate") [.str y] Φ := fun us s Q E hu R q => by
  cases hu with | cons h1 hs => ?_
  cases hs; obtain ⟨t, rfl⟩ := h1
  refine call_enumerate_str fun h' he hit hsz hk => ?_
  obtain ⟨oi, hoi, hci, hdi⟩ := hit
  have n1 : s.heap.get? s.heap.objs.size = none := by simp [Heap.get?]
  have R1 := R.1.new (a := s.heap.objs.size) (o := oi) (P := StrItO y 0) (h' := h') n1 hk hoi ⟨t, hci, hdi⟩ s.toks
  have n2 : s.heap.get? (s.heap.objs.size + 1) = none := by simp [Heap.get?]
  refine q _ _ _ _ (h _ _) rfl ⟨R1.fr, ⟨List.nodup_cons.mpr ⟨?_, R1.obs.1⟩, fun p hp => ?_⟩, R1.nd, R1.loc, R1.os, R1.gens⟩
  · intro hm
    rcases List.mem_cons.mp hm with e | hm
    · exact absurd e (Nat.succ_ne_self _)
    · obtain ⟨m, F, _⟩ := R.fr
      exact (Obs.fresh F R.obs n2).1 hm
  · rcases List.mem_cons.mp hp with rfl | hp
    · obtain ⟨m, F, _⟩ := R.fr
      have hf := Obs.fresh F R.obs n2
      exact ⟨_, he, hf.2.1, hf.2.2, .none, rfl⟩
    · exact R1.obs.2 p hp
end

/-- the entry of a key -/
inductive Has {κ β : Type} (k : κ) (v : β) : List (κ × β) → Prop
  | here {r : List (κ × β)} : Has k v ((k, v) :: r)
  | there {p : κ × β} {r : List (κ × β)} : Has k v r → Has k v (p :: r)
theorem Has.mem {κ β : Type} {k : κ} {v : β} {l : List (κ × β)} (h : Has k v l) : (k, v) ∈ l := by
  induction h with
  | here => exact .head _
  | there _ ih => exact .tail _ ih
theorem ev_nm {prog : Program} {w : World} {c : Cf} {lo : Lo} {ob : Ob} {x : Str} {pos : Pos} (K : c.env.scope.kind = .function) {v : PV} (h : Has x v lo) (hu : v ≠ .un) : Ev prog w c lo ob (.Name x pos) v := ev_name K h.mem hu

inductive Puts : List (Str × PV) → Lo → Lo → Prop
  | nil {l : Lo} : Puts [] l l
  | cons {x : Str} {v : PV} {r : List (Str × PV)} {l l' l'' : Lo} : Put x v l l' → Puts r l' l'' → Puts ((x, v) :: r) l l''

inductive NamesAre : List Expr → List Str → Prop
  | nil : NamesAre [] []
  | cons {x : Str} {p : Pos} {es : List Expr} {xs : List Str} : NamesAre es xs → NamesAre (.Name x p :: es) (x :: xs)

theorem All2.set {α β : Type} {R : α → β → Prop} {as : List α} {bs : List β} {a : α} {b : β} (h : All2 R as bs) (hab : R a b) : ∀ j : Nat, All2 R (as.set j a) (bs.set j b) := by
  induction h with
  | nil => intro j; exact .nil
  | cons h hs ih =>
    intro j
    cases j with
    | zero => exact .cons hab hs
    | succ j => exact .cons h (ih j)

theorem Rep0.extBut {c : Cf} {lo : Lo} {ob : Ob} {s : Shared} (R : Rep0 c lo ob s) {h' : Heap} {a : Addr} (ha : s.heap.objs.size ≤ a) (hx : Heap.ExtBut a s.heap h') (t : Nat) : Rep0 c lo ob { s with heap := h', toks := t } :=
  R.ext (fun b o e => hx b o (fun q => absurd (Heap.lt_size e) (by subst q; exact Nat.not_lt.mpr ha)) e) t

section
variable {prog : Program} {w : World} {c : Cf} {lo lo' : Lo} {ob : Ob} {pos : Pos} {x : Str} {X : EPost} {Φ : Post}

theorem order_names (K : c.env.scope.kind = .function) : ∀ {es : List Expr} {xs : List Str} {vs : List PV} {us : List Value} {lo lo' : Lo} {s : Shared} {Q : Unit → Shared → Prop} {E : Value → Shared → Prop}, NamesAre es xs → All2 PV.is vs us → Puts (xs.zip vs) lo lo' → xs.length = vs.length → Rep0 c lo ob s →
    (∀ s', Rep0 c lo' ob s' → Q () s') → wpAny (model prog w) c.A (assignInOrder ((assignEach es c.env).map (·.2)) us) Q E s
  | _, _, _, _, _, _, _, _, _, .nil, .nil, .nil, _, R, q => wpAny_pure (q _ R)
  | _, _, _, _, _, _, _, _, _, .cons h, .cons hu hus, .cons hp hps, hl, R, q => by
    refine wpAny_bind (wpAny_holding (wpAny_assign_Name (store_name K hu hp R fun s' R' => ?_)))
    exact order_names K h hus hps (by simpa using hl) R' q
  | _, _, _, _, _, _, _, _, _, .cons _, .nil, _, hl, _, _ => by simp at hl
  | _, _, _, _, _, _, _, _, _, .nil, .cons _ _, _, hl, _, _ => by simp at hl

theorem order_binds (K : c.env.scope.kind = .function) : ∀ {xs : List Str} {vs : List PV} {us : List Value} {lo lo' : Lo} {s : Shared} {Q : Unit → Shared → Prop} {E : Value → Shared → Prop}, All2 PV.is vs us → Puts (xs.zip vs) lo lo' → xs.length = vs.length → Rep0 c lo ob s →
    (∀ s', Rep0 c lo' ob s' → Q () s') → wpAny (model prog w) c.A (assignInOrder (xs.map fun n => bindName c.env n) us) Q E s
  | [], _, _, _, _, _, _, _, .nil, .nil, _, R, q => wpAny_pure (q _ R)
  | _ :: _, _, _, _, _, _, _, _, .cons hu hus, .cons hp hps, hl, R, q => by
    refine wpAny_bind (wpAny_holding (wpAny_bindName (store_name K hu hp R fun s' R' => ?_)))
    exact order_binds K hus hps (by simpa using hl) R' q
  | [], _, _, _, _, _, _, _, .cons _ _, _, hl, _, _ => by simp at hl
  | _ :: _, _, _, _, _, _, _, _, .nil, _, hl, _, _ => by simp at hl

theorem All2.reverse {α β : Type} {R : α → β → Prop} {as : List α} {bs : List β} (h : All2 R as bs) : All2 R as.reverse bs.reverse := by
  induction h with
  | nil => exact .nil
  | cons a _ ih => rw [List.reverse_cons, List.reverse_cons]; exact ih.append (.cons a .nil)

/-- a, b, .. = (..): the tuple is made and taken apart -/
theorem ws_unpack (K : c.env.scope.kind = .function) (hh : c.A.handled = none) {es ts : List Expr} {xs : List Str} {k1 k2 : Nat} {p1 p2 : Pos} (hn : NamesAre ts xs) (hlen : (assignEach ts c.env).length = xs.length) (hst : (assignEach ts c.env).findIdx? (·.1) = none)
    (h : EvL prog w c lo ob es (fun vs ob' => xs.length = vs.length ∧ vs.length ≤ 100 ∧ ∃ lo', Puts (xs.zip vs) lo lo' ∧ Φ .next lo' ob'))
    (hs : swapsWithSole [.Tuple ts k1 p1] (.Tuple es k2 p2) pos.line c.env = pure false) (hw : swappedStores [.Tuple ts k1 p1] (.Tuple es k2 p2) c.env = pure none) : WS prog w c lo ob X (.Assign [.Tuple ts k1 p1] (.Tuple es k2 p2) pos) Φ := fun s Q E R q x pe =>
  Assign_Tuple ((evx_tuple (Φ := fun v ob' => ∃ a vs ob0, v = .val (.ref a) ∧ ob' = (a, SeqO "tuple" vs) :: ob0 ∧ xs.length = vs.length ∧ ∃ lo', Puts (xs.zip vs) lo lo' ∧ Φ .next lo' ob0) (fun p s Q E R q => h _ _ _ _ R fun vs us ob' s' hΦ => q vs us ob' s' ⟨by omega, fun a => ⟨a, vs, ob', rfl, rfl, hΦ.1, hΦ.2.2⟩⟩)).use R fun v u ob' s₁ hΦ hu R₁ => by
    obtain ⟨a, vs, ob0, rfl, rfl, hl, lo', P, hΦ⟩ := hΦ
    cases hu
    obtain ⟨o, h1, us, n, rfl, hus⟩ := R₁.1.get (.head _)
    refine wpAny_assign_Tuple hh (items := us.toArray) ⟨_, h1, rfl, n, rfl⟩ (by rw [hlen, hl, hus.length]; simp) hst fun h' hx => ?_
    refine order_names K hn hus P hl ((R₁.1.extBut (Nat.le_refl _) hx s₁.toks).sub (List.sublist_cons_self ..)) fun s' R' => q _ _ _ _ _ hΦ rfl R') hs hw
theorem ws_unpackS (K : c.env.scope.kind = .function) (hh : c.A.handled = none) {es ts : List Expr} {xs : List Str} {k1 k2 : Nat} {p1 p2 : Pos}
    (h : EvL prog w c lo ob es (fun vs ob' => xs.length = vs.length ∧ vs.length ≤ 100 ∧ ∃ lo', Puts (xs.reverse.zip vs.reverse) lo lo' ∧ Φ .next lo' ob'))
    (hs : swapsWithSole [.Tuple ts k1 p1] (.Tuple es k2 p2) pos.line c.env = pure false) (hw : swappedStores [.Tuple ts k1 p1] (.Tuple es k2 p2) c.env = pure (some xs)) : WS prog w c lo ob X (.Assign [.Tuple ts k1 p1] (.Tuple es k2 p2) pos) Φ := fun s Q E R q x pe =>
  Assign_Tuple_swapped ((evx_tuple (Φ := fun v ob' => ∃ a vs ob0, v = .val (.ref a) ∧ ob' = (a, SeqO "tuple" vs) :: ob0 ∧ xs.length = vs.length ∧ ∃ lo', Puts (xs.reverse.zip vs.reverse) lo lo' ∧ Φ .next lo' ob0) (fun p s Q E R q => h _ _ _ _ R fun vs us ob' s' hΦ => q vs us ob' s' ⟨by omega, fun a => ⟨a, vs, ob', rfl, rfl, hΦ.1, hΦ.2.2⟩⟩)).use R fun v u ob' s₁ hΦ hu R₁ => by
    obtain ⟨a, vs, ob0, rfl, rfl, hl, lo', P, hΦ⟩ := hΦ
    cases hu
    obtain ⟨o, h1, us, n, rfl, hus⟩ := R₁.1.get (.head _)
    have e1 : xs.length = us.toArray.size := by rw [hl, hus.length]; simp
    rw [e1]
    refine wpAny_unpackItems_tuple hh (items := us.toArray) ⟨_, h1, rfl, n, rfl⟩ fun h' hx => ?_
    refine order_binds K hus.reverse P (by simp [hl]) ((R₁.1.extBut (Nat.le_refl _) hx s₁.toks).sub (List.sublist_cons_self ..)) fun s' R' => q _ _ _ _ _ hΦ rfl R') hs hw

/-- x[i] += e on a list of the ledger -/
theorem ws_augsub {o i e : Expr} {op : Operator} {sp : Pos} {l : Addr} {vs : List PV} {k : Int} {old b new : PV} {ob' : Ob} (ho : Ev prog w c lo ob o (.val (.ref l))) (hi : Ev prog w c lo ob i (.int k)) (he : Ev prog w c lo ob e b) (hop : Op prog w c lo ob (inplaceOp op) old b new)
    (hm : (l, ListW vs) ∈ ob) (h0 : 0 ≤ k) (hb : k < vs.length) (h1 : vs[k.toNat]? = some old) (hv : vs.length < 2 ^ 40) (U : Put l (ListW (vs.set k.toNat new)) ob ob') (hΦ : Φ .next lo ob')
    (hx : ∀ ov iv nv, augStore i ov iv nv = (do holding [nv, ov, iv] (setItem ov iv nv); release [nv, ov, iv] []; pure .next)) : WS prog w c lo ob X (.AugAssign (.Subscript o i sp) op e pos) Φ := fun s Q E R q x pe => by
  show wpAny (model prog w) c.A (do
    standAt pos
    let ov ← eval o c.env
    let iv ← holding [ov] (eval i c.env)
    let new ← holding [ov, iv] do
      standAt sp
      let old ← getItem ov iv
      let v ← holding [old] (eval e c.env)
      standAt pos
      operate [old, v] (inplaceOp op old v)
    standAt sp
    augStore i ov iv new) Q E s
  refine wpAny_bind (wpAny_standAt (wpAny_bind (ho.use R fun ou s₁ hou R₁ => wpAny_bind (wpAny_holding (hi.use R₁ fun iu s₂ hiu R₂ => wpAny_bind (wpAny_holding (wpAny_bind (wpAny_standAt (wpAny_bind ?_)))))))))
  cases hou; obtain ⟨t, rfl⟩ := hiu
  obtain ⟨ob1, g1, g2⟩ := R₂.1.get hm
  obtain ⟨us, hl, hu⟩ := ListW.isList g1 g2
  obtain ⟨u, eu, hold⟩ := hu.get h1
  refine wpAny_getItem_list hl h0 (by omega) (by simpa using eu) ?_
  refine wpAny_bind (wpAny_holding (he.use R₂ fun ub s₃ hub R₃ => wpAny_bind (wpAny_standAt (wpAny_operating (hop.use hold hub R₃ fun un s₄ hun R₄ => wpAny_bind (wpAny_standAt ?_))))))
  rw [hx]
  obtain ⟨ob1, g1, g2⟩ := R₄.1.get hm
  obtain ⟨us, hl, hu⟩ := ListW.isList g1 g2
  refine wpAny_bind (wpAny_holding (wpAny_setItem_list hl h0 (by omega) (by rw [hu.length] at hb; simpa using hb) fun h' hl' hs' => wpAny_bind ?_))
  refine fun Γ pp hΓ => ?_
  rw [Sem.wp_release]
  obtain ⟨o', go, gc, n', gd⟩ := hl'
  refine wpAny_pure ?_
  refine q _ _ _ _ _ hΦ rfl (R₄.1.upd U (fun b o hne eo => (hs'.2 b hne).trans eo) go ⟨gc, us.set k.toNat un, n', by rw [gd]; simp, hu.set hun _⟩ s₄.toks)
end

def stAt (i : Nat) : Stmt := PySem.Challenge.pw_fp5018_01.main.body.getD i (.Pass ⟨0, 0, 0, 0⟩)
def stBody : Stmt → List Stmt
  | .FunctionDef _ _ b _ _ _ _ _ _ _ => b
  | _ => []
def stScope : Stmt → Scope
  | .FunctionDef _ _ _ _ _ _ s _ _ _ => s
  | _ => default
def bd (i : Nat) : List Stmt := stBody (stAt i)
def sc (i : Nat) : Scope := stScope (stAt i)
noncomputable def fdOf (P : Params) (a : Nat) : FuncData := match (Mine.hd.heap_39 P).lookup a with
  | some ⟨_, _, .func f, _⟩ => f
  | _ => default

theorem fn_next (P : Params) : Fn0 (Mine.hd.heap_39 P) 123 (fdOf P 123) (bd 15) := ⟨⟨_, _, _, rfl⟩, rfl, rfl, rfl, rfl, by kernel_rfl, rfl, rfl, rfl⟩
theorem sc_next (P : Params) : (fdOf P 123).scope = sc 15 := rfl
theorem bind_next (P : Params) (v0 v1 : Value) : bindArgs (fdOf P 123) ⟨[v0, v1], []⟩ = pure [(Str.ofString "state", v0), (Str.ofString "limit", v1)] := by kernel_rfl
abbrev nm_next : List Str := [Str.ofString "state", Str.ofString "limit"]
abbrev ot_next : List Str := []
theorem nc_next (P : Params) : ∀ x ∈ (fdOf P 123).scope.names, x.2 ≠ .cell := by rw [sc_next]; decide +kernel
theorem nd_next : (nm_next ++ ot_next).Nodup := by decide +kernel
theorem lc_next (P : Params) : ∀ y ∈ nm_next ++ ot_next, (fdOf P 123).scope.names.lookup y = some .local ∧ (y == ("__debug__" : Str)) = false := by rw [sc_next]; decide +kernel
theorem fn_plain (P : Params) : Fn0 (Mine.hd.heap_39 P) 130 (fdOf P 130) (bd 16) := ⟨⟨_, _, _, rfl⟩, rfl, rfl, rfl, rfl, by kernel_rfl, rfl, rfl, rfl⟩
theorem sc_plain (P : Params) : (fdOf P 130).scope = sc 16 := rfl
theorem bind_plain (P : Params) (v0 v1 : Value) : bindArgs (fdOf P 130) ⟨[v0, v1], []⟩ = pure [(Str.ofString "text", v0), (Str.ofString "at", v1)] := by kernel_rfl
abbrev nm_plain : List Str := [Str.ofString "text", Str.ofString "at"]
abbrev ot_plain : List Str := []
theorem nc_plain (P : Params) : ∀ x ∈ (fdOf P 130).scope.names, x.2 ≠ .cell := by rw [sc_plain]; decide +kernel
theorem nd_plain : (nm_plain ++ ot_plain).Nodup := by decide +kernel
theorem lc_plain (P : Params) : ∀ y ∈ nm_plain ++ ot_plain, (fdOf P 130).scope.names.lookup y = some .local ∧ (y == ("__debug__" : Str)) = false := by rw [sc_plain]; decide +kernel
theorem fn_pair (P : Params) : Fn0 (Mine.hd.heap_39 P) 137 (fdOf P 137) (bd 17) := ⟨⟨_, _, _, rfl⟩, rfl, rfl, rfl, rfl, by kernel_rfl, rfl, rfl, rfl⟩
theorem sc_pair (P : Params) : (fdOf P 137).scope = sc 17 := rfl
theorem bind_pair (P : Params) (v0 v1 v2 v3 v4 : Value) : bindArgs (fdOf P 137) ⟨[v0, v1, v2, v3, v4], []⟩ = pure [(Str.ofString "text", v0), (Str.ofString "at", v1), (Str.ofString "sign", v2), (Str.ofString "guard", v3), (Str.ofString "is_ahead", v4)] := by kernel_rfl
abbrev nm_pair : List Str := [Str.ofString "text", Str.ofString "at", Str.ofString "sign", Str.ofString "guard", Str.ofString "is_ahead"]
abbrev ot_pair : List Str := []
theorem nc_pair (P : Params) : ∀ x ∈ (fdOf P 137).scope.names, x.2 ≠ .cell := by rw [sc_pair]; decide +kernel
theorem nd_pair : (nm_pair ++ ot_pair).Nodup := by decide +kernel
theorem lc_pair (P : Params) : ∀ y ∈ nm_pair ++ ot_pair, (fdOf P 137).scope.names.lookup y = some .local ∧ (y == ("__debug__" : Str)) = false := by rw [sc_pair]; decide +kernel
theorem fn_upto (P : Params) : Fn0 (Mine.hd.heap_39 P) 144 (fdOf P 144) (bd 18) := ⟨⟨_, _, _, rfl⟩, rfl, rfl, rfl, rfl, by kernel_rfl, rfl, rfl, rfl⟩
theorem sc_upto (P : Params) : (fdOf P 144).scope = sc 18 := rfl
theorem bind_upto (P : Params) (v0 v1 v2 : Value) : bindArgs (fdOf P 144) ⟨[v0, v1, v2], []⟩ = pure [(Str.ofString "text", v0), (Str.ofString "at", v1), (Str.ofString "sign", v2)] := by kernel_rfl
abbrev nm_upto : List Str := [Str.ofString "text", Str.ofString "at", Str.ofString "sign"]
abbrev ot_upto : List Str := [Str.ofString "end"]
theorem nc_upto (P : Params) : ∀ x ∈ (fdOf P 144).scope.names, x.2 ≠ .cell := by rw [sc_upto]; decide +kernel
theorem nd_upto : (nm_upto ++ ot_upto).Nodup := by decide +kernel
theorem lc_upto (P : Params) : ∀ y ∈ nm_upto ++ ot_upto, (fdOf P 144).scope.names.lookup y = some .local ∧ (y == ("__debug__" : Str)) = false := by rw [sc_upto]; decide +kernel
theorem fn_number (P : Params) : Fn0 (Mine.hd.heap_39 P) 151 (fdOf P 151) (bd 19) := ⟨⟨_, _, _, rfl⟩, rfl, rfl, rfl, rfl, by kernel_rfl, rfl, rfl, rfl⟩
theorem sc_number (P : Params) : (fdOf P 151).scope = sc 19 := rfl
theorem bind_number (P : Params) (v0 v1 : Value) : bindArgs (fdOf P 151) ⟨[v0, v1], []⟩ = pure [(Str.ofString "names", v0), (Str.ofString "name", v1)] := by kernel_rfl
abbrev nm_number : List Str := [Str.ofString "names", Str.ofString "name"]
abbrev ot_number : List Str := []
theorem nc_number (P : Params) : ∀ x ∈ (fdOf P 151).scope.names, x.2 ≠ .cell := by rw [sc_number]; decide +kernel
theorem nd_number : (nm_number ++ ot_number).Nodup := by decide +kernel
theorem lc_number (P : Params) : ∀ y ∈ nm_number ++ ot_number, (fdOf P 151).scope.names.lookup y = some .local ∧ (y == ("__debug__" : Str)) = false := by rw [sc_number]; decide +kernel
theorem fn_region (P : Params) : Fn0 (Mine.hd.heap_39 P) 158 (fdOf P 158) (bd 20) := ⟨⟨_, _, _, rfl⟩, rfl, rfl, rfl, rfl, by kernel_rfl, rfl, rfl, rfl⟩
theorem sc_region (P : Params) : (fdOf P 158).scope = sc 20 := rfl
theorem bind_region (P : Params) (v0 v1 v2 : Value) : bindArgs (fdOf P 158) ⟨[v0, v1, v2], []⟩ = pure [(Str.ofString "text", v0), (Str.ofString "at", v1), (Str.ofString "ahead", v2)] := by kernel_rfl
abbrev nm_region : List Str := [Str.ofString "text", Str.ofString "at", Str.ofString "ahead"]
abbrev ot_region : List Str := [Str.ofString "sign"]
theorem nc_region (P : Params) : ∀ x ∈ (fdOf P 158).scope.names, x.2 ≠ .cell := by rw [sc_region]; decide +kernel
theorem nd_region : (nm_region ++ ot_region).Nodup := by decide +kernel
theorem lc_region (P : Params) : ∀ y ∈ nm_region ++ ot_region, (fdOf P 158).scope.names.lookup y = some .local ∧ (y == ("__debug__" : Str)) = false := by rw [sc_region]; decide +kernel
theorem fn_walk (P : Params) : Fn0 (Mine.hd.heap_39 P) 165 (fdOf P 165) (bd 21) := ⟨⟨_, _, _, rfl⟩, rfl, rfl, rfl, rfl, by kernel_rfl, rfl, rfl, rfl⟩
theorem sc_walk (P : Params) : (fdOf P 165).scope = sc 21 := rfl
theorem bind_walk (P : Params) (v0 v1 : Value) : bindArgs (fdOf P 165) ⟨[v0, v1], []⟩ = pure [(Str.ofString "style", v0), (Str.ofString "text", v1)] := by kernel_rfl
abbrev nm_walk : List Str := [Str.ofString "style", Str.ofString "text"]
abbrev ot_walk : List Str := [Str.ofString "told", Str.ofString "names", Str.ofString "marks", Str.ofString "at", Str.ofString "sign", Str.ofString "ahead", Str.ofString "behind", Str.ofString "end"]
theorem nc_walk (P : Params) : ∀ x ∈ (fdOf P 165).scope.names, x.2 ≠ .cell := by rw [sc_walk]; decide +kernel
theorem nd_walk : (nm_walk ++ ot_walk).Nodup := by decide +kernel
theorem lc_walk (P : Params) : ∀ y ∈ nm_walk ++ ot_walk, (fdOf P 165).scope.names.lookup y = some .local ∧ (y == ("__debug__" : Str)) = false := by rw [sc_walk]; decide +kernel
theorem fn_kind (P : Params) : Fn0 (Mine.hd.heap_39 P) 60 (fdOf P 60) (bd 7) := ⟨⟨_, _, _, rfl⟩, rfl, rfl, rfl, rfl, by kernel_rfl, rfl, rfl, rfl⟩
theorem sc_kind (P : Params) : (fdOf P 60).scope = sc 7 := rfl
theorem bind_kind (P : Params) (v0 : Value) : bindArgs (fdOf P 60) ⟨[v0], []⟩ = pure [(Str.ofString "x", v0)] := by kernel_rfl
abbrev nm_kind : List Str := [Str.ofString "x"]
abbrev ot_kind : List Str := [Str.ofString "t"]
theorem nc_kind (P : Params) : ∀ x ∈ (fdOf P 60).scope.names, x.2 ≠ .cell := by rw [sc_kind]; decide +kernel
theorem nd_kind : (nm_kind ++ ot_kind).Nodup := by decide +kernel
theorem lc_kind (P : Params) : ∀ y ∈ nm_kind ++ ot_kind, (fdOf P 60).scope.names.lookup y = some .local ∧ (y == ("__debug__" : Str)) = false := by rw [sc_kind]; decide +kernel

theorem args1 {f : FuncData} {names : List Str} {a : PV} (h : ∀ u, bindArgs f ⟨[u], []⟩ = pure (names.zip [u])) : ∀ us, All2 PV.is [a] us → bindArgs f ⟨us, []⟩ = pure (names.zip us)
  | _, .cons _ .nil => h _
theorem args2 {f : FuncData} {names : List Str} {a b : PV} (h : ∀ u v, bindArgs f ⟨[u, v], []⟩ = pure (names.zip [u, v])) : ∀ us, All2 PV.is [a, b] us → bindArgs f ⟨us, []⟩ = pure (names.zip us)
  | _, .cons _ (.cons _ .nil) => h _ _
theorem args3 {f : FuncData} {names : List Str} {a b d : PV} (h : ∀ u v x, bindArgs f ⟨[u, v, x], []⟩ = pure (names.zip [u, v, x])) : ∀ us, All2 PV.is [a, b, d] us → bindArgs f ⟨us, []⟩ = pure (names.zip us)
  | _, .cons _ (.cons _ (.cons _ .nil)) => h _ _ _
theorem args5 {f : FuncData} {names : List Str} {a b d e g : PV} (h : ∀ u v x y z, bindArgs f ⟨[u, v, x, y, z], []⟩ = pure (names.zip [u, v, x, y, z])) : ∀ us, All2 PV.is [a, b, d, e, g] us → bindArgs f ⟨us, []⟩ = pure (names.zip us)
  | _, .cons _ (.cons _ (.cons _ (.cons _ (.cons _ .nil)))) => h _ _ _ _ _

abbrev sg (z : Nat) : Str := ⟨#[z]⟩
theorem lit_sq : Str.ofString "'" = ⟨#[39]⟩ := by decide +kernel
theorem lit_dq : Str.ofString "\"" = ⟨#[34]⟩ := by decide +kernel
theorem lit_E : Str.ofString "E" = ⟨#[69]⟩ := by decide +kernel
theorem lit_bs : Str.ofString "\\" = ⟨#[92]⟩ := by decide +kernel
theorem lit_mi : Str.ofString "-" = ⟨#[45]⟩ := by decide +kernel
theorem lit_dl : Str.ofString "$" = ⟨#[36]⟩ := by decide +kernel
theorem lit_co : Str.ofString ":" = ⟨#[58]⟩ := by decide +kernel
theorem lit_eq : Str.ofString "=" = ⟨#[61]⟩ := by decide +kernel
theorem lit_qm : Str.ofString "?" = ⟨#[63]⟩ := by decide +kernel
theorem lit_pc : Str.ofString "%" = ⟨#[37]⟩ := by decide +kernel
theorem lit_lp : Str.ofString "(" = ⟨#[40]⟩ := by decide +kernel
theorem lit_rp : Str.ofString ")" = ⟨#[41]⟩ := by decide +kernel
theorem lit_s : Str.ofString "s" = ⟨#[115]⟩ := by decide +kernel
theorem lit_us : Str.ofString "_" = ⟨#[95]⟩ := by decide +kernel
theorem lit_nl : Str.ofString "\n" = ⟨#[10]⟩ := by decide +kernel
theorem lit_ce : Str.ofString ":=" = ⟨#[58, 61]⟩ := by decide +kernel
theorem lit_ps : Str.ofString "()" = ⟨#[40, 41]⟩ := by decide +kernel
theorem lit_rs : Str.ofString ")s" = ⟨#[41, 115]⟩ := by decide +kernel
theorem lit_em : Str.ofString "" = ⟨#[]⟩ := by decide +kernel
end Mine
end
section
open PySem.Calls
set_option maxHeartbeats 4000000
namespace Mine

local macro_rules | `(tactic| walk_at "my has") => `(tactic| with_reducible (repeat (first | exact Has.here | apply Has.there)))
local macro_rules | `(tactic| walk_at "my put") => `(tactic| with_reducible (repeat (first | exact Put.here | apply Put.there)))
local macro_rules | `(tactic| walk_at "my lit") => `(tactic| with_reducible (first | exact lit_sq | exact lit_dq | exact lit_E | exact lit_bs | exact lit_mi | exact lit_dl | exact lit_co | exact lit_eq | exact lit_qm | exact lit_pc | exact lit_lp | exact lit_rp | exact lit_s | exact lit_us | exact lit_nl | exact lit_ce | exact lit_ps | exact lit_rs | exact lit_em | exact rfl))
local macro_rules | `(tactic| walk_at "my op") => `(tactic| with_reducible (first | exact op_eq_int | exact op_ne_int | exact op_lt_int | exact op_gt_int | exact op_le_int | exact op_eq_str | exact op_ne_str | exact op_in_str | exact op_notin_str | exact op_eq_none_str | exact op_ne_none_str | exact op_ne_bool | exact op_is_none | exact op_is_none_str | exact op_add_int | exact op_iadd_int | exact op_sub_int | exact op_eq_opt | exact op_ne_opt | exact op_none_opt))
local macro_rules | `(tactic| walk_at "my nu") => `(tactic| first | (intro h; cases h; done) | exact PVo_ne _)
local macro_rules | `(tactic| walk_at "my ev") => `(tactic| first
  | with_reducible exact ev_int | ((with_reducible refine' ev_str ?h1); (case h1 => walk_at "my lit")) | with_reducible exact ev_none | with_reducible exact ev_bool
  | ((with_reducible refine' ev_nm ?k1 ?h1 ?u1); (case k1 => assumption); (case h1 => walk_at "my has"; done); (case u1 => walk_at "my nu"))
  | with_reducible refine' ev_bin ?_ ?_ ?_ | ((with_reducible refine' ev_cmp ?_ ?_ ?_ ?m1); (case m1 => exact rfl)) | ((with_reducible refine' tr_cmp ?_ ?_ ?_ ?m1); (case m1 => exact rfl)) | with_reducible refine' tr_not ?_ | with_reducible refine' tr_op ?_
  | with_reducible refine' tra_and ?_ ?_ | with_reducible exact tra_and_nil | with_reducible refine' tra_or ?_ ?_ | with_reducible exact tra_or_nil
  | with_reducible refine' ev_neg ?_
  | walk_at "my op" | ((with_reducible refine' evl_cons1 ?_ ?_ ?m1); (case m1 => exact rfl)) | with_reducible refine' evl_nil ?_ | (guard_target =~ (_ = _ → _); intro _))
local macro_rules | `(tactic| walk_at "my evs") => `(tactic| repeat' (walk_at "my ev"))
local macro_rules | `(tactic| walk_at "my blt") => `(tactic| first | exact ev_globB (by assumption) (by kernel_rfl) boot_len (by decide +kernel) (by kernel_rfl) (by decide +kernel) | exact ev_globB (by assumption) (by kernel_rfl) boot_str (by decide +kernel) (by kernel_rfl) (by decide +kernel) | exact ev_globB (by assumption) (by kernel_rfl) boot_range (by decide +kernel) (by kernel_rfl) (by decide +kernel))
local macro_rules | `(tactic| walk_at "my fn") => `(tactic| exact ev_glob (by assumption) (by kernel_rfl) (by kernel_rfl) (by decide +kernel))
local macro_rules | `(tactic| walk_at "my puts") => `(tactic| (repeat (apply Puts.cons; (focus (walk_at "my put"; done)))); exact Puts.nil)
local macro_rules | `(tactic| walk_at "my nils") => `(tactic| repeat (first | with_reducible refine seq_nil ?_ | with_reducible refine wx_nil ?_))
local macro_rules | `(tactic| walk_at "my nnils") => `(tactic| repeat (first | with_reducible refine seqn_nil ?_ | with_reducible refine wxn_nil ?_))
local macro_rules | `(tactic| walk_at "my meth") => `(tactic| (apply ev_of_x; first | with_reducible apply evx_meth1 | with_reducible apply evx_meth0 | apply evx_meth1 | apply evx_meth0))

theorem seq_nil {prog : Program} {w : World} {c : Cf} {lo : Lo} {ob : Ob} {X : EPost} {Φ : Post} (h : Φ .next lo ob) : Seq prog w c X [] Φ .next lo ob := wx_nil h
def tx (l : List Nat) : Str := ⟨l.toArray⟩
theorem tx_len (l : List Nat) : (tx l).length = l.length := by simp [tx, Str.length]
theorem tx_list (l : List Nat) : (tx l).cps.toList = l := rfl
theorem tx_app (a b : List Nat) : tx a ++ tx b = tx (a ++ b) := by
  show Str.append (tx a) (tx b) = _
  simp [tx, Str.append]
theorem tx_inj {a b : List Nat} : tx a = tx b ↔ a = b := by
  simp [tx]
theorem tx_beq (a b : List Nat) : (tx a == tx b) = (a == b) := by
  rw [Bool.eq_iff_iff]; simp [tx_inj]
theorem sg_beq (a b : Nat) : ((⟨#[a]⟩ : Str) == ⟨#[b]⟩) = (a == b) := by
  rw [Bool.eq_iff_iff]; simp
theorem sg_bne (a b : Nat) : ((⟨#[a]⟩ : Str) != ⟨#[b]⟩) = (a != b) := by simp only [bne, sg_beq]
theorem getD_get {t : List Nat} {j : Nat} (h : j < t.length) : t[j]? = some (t.getD j 0) := by
  rw [List.getD_eq_getElem?_getD, List.getElem?_eq_getElem h]; rfl

open Builtin Builtin.Str in
theorem slice_idx (a b n : Nat) : strSliceIndices (some (a : Int)) (some (b : Int)) 1 n = strSliceIndices (some ((min a n : Nat) : Int)) (some ((min b n : Nat) : Int)) 1 n := by
  have e (k : Nat) : max 0 (min (if (k : Int) < 0 then (k : Int) + n else k) (n : Int)) = max 0 (min (if ((min k n : Nat) : Int) < 0 then ((min k n : Nat) : Int) + n else ((min k n : Nat) : Int)) (n : Int)) := by
    rw [if_neg (by omega), if_neg (by omega)]; omega
  unfold strSliceIndices
  simp only [show (1 : Int) > 0 by decide, if_true]
  rw [e a, e b]
theorem range_nil {a b : Int} (h : b ≤ a) : sliceRange a b 1 = [] := by
  unfold sliceRange
  simp only [show (1 : Int) > 0 by decide, if_true]
  rw [if_neg (by omega)]; rfl
theorem slice_clip (x : Str) (a b : Nat) : Txt.slice x (some (a : Int)) (some (b : Int)) = Txt.slice x (some ((min a x.length : Nat) : Int)) (some ((min b x.length : Nat) : Int)) := by
  unfold Txt.slice
  rw [slice_idx a b, slice_idx (min a x.length) (min b x.length)]
theorem slice_nat (t : List Nat) (a b : Nat) : Txt.slice (tx t) (some (a : Int)) (some (b : Int)) = tx ((t.take b).drop a) := by
  rw [slice_clip]
  rw [tx_len]
  by_cases h : min a t.length ≤ min b t.length
  · have := StrLaws.sliceText_nat (tx t) h (by rw [tx_len]; omega)
    refine Eq.trans this ?_
    rw [tx_list]
    show tx _ = tx _
    rw [tx_inj, List.drop_take]
    by_cases ha : a ≤ t.length
    · rw [show min a t.length = a by omega]
      rw [List.take_eq_take_iff]
      rw [List.length_drop]; omega
    · rw [List.drop_eq_nil_of_le (as := t) (i := a) (by omega), List.drop_eq_nil_of_le (as := t) (by omega)]
      simp
  · have hab : ¬ min a t.length < min b t.length := by omega
    have e0 : Builtin.Str.strSliceIndices (some ((min a t.length : Nat) : Int)) (some ((min b t.length : Nat) : Int)) 1 t.length = [] := by
      unfold Builtin.Str.strSliceIndices
      simp only [show (1 : Int) > 0 by decide, if_true]
      apply range_nil
      split <;> split <;> omega
    unfold Txt.slice
    rw [tx_len, e0, if_neg]
    · show tx [] = _
      rw [tx_inj]
      symm
      apply List.drop_eq_nil_of_le
      rw [List.length_take]; omega
    · simp; omega
theorem slice_from (t : List Nat) (a : Nat) : Txt.slice (tx t) (some (a : Int)) none = tx (t.drop a) := by
  have : Txt.slice (tx t) (some (a : Int)) none = Txt.slice (tx t) (some (a : Int)) (some ((tx t).length : Int)) := by
    unfold Txt.slice; rw [StrLaws.sliceIdx_none_hi]
  rw [this, slice_nat, tx_len, List.take_length]
theorem slice_m1 (t : List Nat) : Txt.slice (tx t) (some (-1)) (some 0) = tx [] := by
  unfold Txt.slice
  have e0 : Builtin.Str.strSliceIndices (some (-1)) (some 0) 1 (tx t).length = [] := by
    unfold Builtin.Str.strSliceIndices
    simp only [show (1 : Int) > 0 by decide, if_true]
    apply range_nil
    split <;> split <;> omega
  rw [e0]
  split
  · rename_i h
    have : (tx t).length = 0 := by have := h; simp at this; exact this.symm
    rw [tx_len] at this
    rw [List.eq_nil_of_length_eq_zero this]
  · rfl

/-- where a sign stands next -/
def upF (t : List Nat) (c : Nat) (i : Nat) : Nat := if h : i < t.length then (if t[i] == c then i + 1 else upF t c (i + 1)) else t.length
termination_by t.length - i

theorem upF_none {t : List Nat} {c : Nat} : ∀ {n i : Nat}, t.length - i = n → (∀ v, i ≤ v → v < t.length → t.getD v 0 ≠ c) → upF t c i = t.length
  | 0, i, hn, h => by rw [upF, dif_neg (by omega)]
  | n + 1, i, hn, h => by
    have hi : i < t.length := by omega
    have := h i (Nat.le_refl _) hi
    rw [List.getD_eq_getElem?_getD, List.getElem?_eq_getElem hi] at this
    rw [upF, dif_pos hi, if_neg (by simpa using this)]
    exact upF_none (n := n) (by omega) fun v h1 h2 => h v (by omega) h2
theorem upF_some {t : List Nat} {c k : Nat} (hk : k < t.length) (hc : t.getD k 0 = c) : ∀ {n i : Nat}, k - i = n → i ≤ k → (∀ v, i ≤ v → v < k → t.getD v 0 ≠ c) → upF t c i = k + 1
  | 0, i, hn, hle, h => by
    have : i = k := by omega
    subst this
    rw [List.getD_eq_getElem?_getD, List.getElem?_eq_getElem hk] at hc
    rw [upF, dif_pos hk, if_pos (by simpa using hc)]
  | n + 1, i, hn, hle, h => by
    have hi : i < t.length := by omega
    have := h i (Nat.le_refl _) (by omega)
    rw [List.getD_eq_getElem?_getD, List.getElem?_eq_getElem hi] at this
    rw [upF, dif_pos hi, if_neg (by simpa using this)]
    exact upF_some hk hc (n := n) (by omega) (by omega) fun v h1 h2 => h v (by omega) h2
theorem cps_getD (t : List Nat) (v : Nat) : (tx t).cps.getD v 0 = t.getD v 0 := by
  simp [tx, Array.getD, List.getD_eq_getElem?_getD]
  split
  · rename_i h; rw [List.getElem?_eq_getElem h]; rfl
  · rename_i h; rw [List.getElem?_eq_none (by omega)]; rfl
theorem from_nat (n i : Nat) : fromIndex n (i : Int) = i := by
  unfold fromIndex
  rw [if_neg (by omega)]; omega
theorem upto_is (t : List Nat) (c i : Nat) : (if Txt.find3 (tx t) ⟨#[c]⟩ (i : Int) < 0 then ((tx t).length : Int) else Txt.find3 (tx t) ⟨#[c]⟩ (i : Int) + 1) = (upF t c i : Nat) := by
  rcases StrLaws.find3_spec (tx t) c (i : Int) with ⟨h, hn⟩ | ⟨k, h, h1, h2, h3, hn⟩
  · rw [h, if_pos (by decide), tx_len]
    rw [from_nat, tx_len] at hn
    rw [upF_none rfl fun v a b => by have := hn v a b; rwa [cps_getD] at this]
  · rw [h, if_neg (by omega)]
    rw [from_nat] at h1 hn
    rw [tx_len] at h2
    rw [cps_getD] at h3
    rw [upF_some h2 h3 rfl h1 fun v a b => by have := hn v a b; rwa [cps_getD] at this]
    rfl

/-- where the end of a bracketed name stands next -/
def psF (t : List Nat) (i : Nat) : Option Nat := if h : i + 1 < t.length then (if t[i] == 41 && t[i + 1] == 115 then some i else psF t (i + 1)) else none
termination_by t.length - i
theorem psF_none {t : List Nat} : ∀ {n i : Nat}, t.length - i = n → (∀ v, i ≤ v → v + 1 < t.length → ¬ (t.getD v 0 = 41 ∧ t.getD (v + 1) 0 = 115)) → psF t i = none
  | 0, i, hn, h => by rw [psF, dif_neg (by omega)]
  | n + 1, i, hn, h => by
    rw [psF]
    split
    · rename_i hi
      have := h i (Nat.le_refl _) hi
      rw [List.getD_eq_getElem?_getD, List.getElem?_eq_getElem (by omega), List.getD_eq_getElem?_getD, List.getElem?_eq_getElem hi] at this
      rw [if_neg (by simpa using this)]
      exact psF_none (n := n) (by omega) fun v h1 h2 => h v (by omega) h2
    · rfl
theorem psF_some {t : List Nat} {k : Nat} (hk : k + 1 < t.length) (hc : t.getD k 0 = 41 ∧ t.getD (k + 1) 0 = 115) : ∀ {n i : Nat}, k - i = n → i ≤ k → (∀ v, i ≤ v → v < k → ¬ (t.getD v 0 = 41 ∧ t.getD (v + 1) 0 = 115)) → psF t i = some k
  | 0, i, hn, hle, h => by
    have : i = k := by omega
    subst this
    rw [List.getD_eq_getElem?_getD, List.getElem?_eq_getElem (by omega), List.getD_eq_getElem?_getD, List.getElem?_eq_getElem hk] at hc
    rw [psF, dif_pos hk, if_pos (by simpa using hc)]
  | n + 1, i, hn, hle, h => by
    have hi : i + 1 < t.length := by omega
    have := h i (Nat.le_refl _) (by omega)
    rw [List.getD_eq_getElem?_getD, List.getElem?_eq_getElem (by omega), List.getD_eq_getElem?_getD, List.getElem?_eq_getElem hi] at this
    rw [psF, dif_pos hi, if_neg (by simpa using this)]
    exact psF_some hk hc (n := n) (by omega) (by omega) fun v h1 h2 => h v (by omega) h2
theorem at_ps (t : List Nat) (n v : Nat) (hn : n = t.length) : StrLaws.At (tx t) ⟨#[41, 115]⟩ n v ↔ v + 1 < t.length ∧ t.getD v 0 = 41 ∧ t.getD (v + 1) 0 = 115 := by
  subst hn
  unfold StrLaws.At
  rw [StrLaws.subAt_eq]
  show v + 2 ≤ t.length ∧ ((t.drop v).take 2 == [41, 115]) = true ↔ _
  by_cases h : v + 1 < t.length
  · rw [List.drop_eq_getElem_cons (by omega : v < t.length), List.drop_eq_getElem_cons h]
    rw [List.getD_eq_getElem?_getD, List.getElem?_eq_getElem (by omega), List.getD_eq_getElem?_getD, List.getElem?_eq_getElem h]
    have : v + 2 ≤ t.length := by omega
    rw [List.take_succ_cons, List.take_succ_cons, List.take_zero]
    simp [h, this]
  · constructor
    · rintro ⟨a, _⟩; omega
    · rintro ⟨a, _⟩; omega
theorem find_ps (t : List Nat) (i : Nat) : Txt.find3 (tx t) ⟨#[41, 115]⟩ (i : Int) = (match psF t i with | some k => (k : Int) | none => -1) := by
  unfold Txt.find3
  rw [from_nat]
  rcases StrLaws.occ_head_from (tx t) ⟨#[41, 115]⟩ i 1 (Nat.le_refl 1) with ⟨h0, hn⟩ | ⟨k, r, h0, hlo, hk, hn⟩
  · rw [h0, psF_none rfl fun v a b e => hn v a ((at_ps t _ v (tx_len t)).mpr ⟨b, e⟩)]
  · rw [h0]
    have hk := (at_ps t _ k (tx_len t)).mp hk
    rw [psF_some hk.1 hk.2 rfl hlo fun v a b e => hn v a b ((at_ps t _ v (tx_len t)).mpr ⟨by omega, e⟩)]
end Mine
end
section
open PySem.Calls
set_option maxHeartbeats 4000000
namespace Mine

local macro_rules | `(tactic| walk_at "my has") => `(tactic| with_reducible (repeat (first | exact Has.here | apply Has.there)))
local macro_rules | `(tactic| walk_at "my put") => `(tactic| with_reducible (repeat (first | exact Put.here | apply Put.there)))
local macro_rules | `(tactic| walk_at "my lit") => `(tactic| with_reducible (first | exact lit_sq | exact lit_dq | exact lit_E | exact lit_bs | exact lit_mi | exact lit_dl | exact lit_co | exact lit_eq | exact lit_qm | exact lit_pc | exact lit_lp | exact lit_rp | exact lit_s | exact lit_us | exact lit_nl | exact lit_ce | exact lit_ps | exact lit_rs | exact lit_em | exact rfl))
local macro_rules | `(tactic| walk_at "my op") => `(tactic| with_reducible (first | exact op_eq_int | exact op_ne_int | exact op_lt_int | exact op_gt_int | exact op_le_int | exact op_eq_str | exact op_ne_str | exact op_in_str | exact op_notin_str | exact op_eq_none_str | exact op_ne_none_str | exact op_ne_bool | exact op_is_none | exact op_is_none_str | exact op_add_int | exact op_iadd_int | exact op_sub_int | exact op_eq_opt | exact op_ne_opt | exact op_none_opt))
local macro_rules | `(tactic| walk_at "my nu") => `(tactic| first | (intro h; cases h; done) | exact PVo_ne _)
local macro_rules | `(tactic| walk_at "my ev") => `(tactic| first
  | with_reducible exact ev_int | ((with_reducible refine' ev_str ?h1); (case h1 => walk_at "my lit")) | with_reducible exact ev_none | with_reducible exact ev_bool
  | ((with_reducible refine' ev_nm ?k1 ?h1 ?u1); (case k1 => assumption); (case h1 => walk_at "my has"; done); (case u1 => walk_at "my nu"))
  | with_reducible refine' ev_bin ?_ ?_ ?_ | ((with_reducible refine' ev_cmp ?_ ?_ ?_ ?m1); (case m1 => exact rfl)) | ((with_reducible refine' tr_cmp ?_ ?_ ?_ ?m1); (case m1 => exact rfl)) | with_reducible refine' tr_not ?_ | with_reducible refine' tr_op ?_
  | with_reducible refine' tra_and ?_ ?_ | with_reducible exact tra_and_nil | with_reducible refine' tra_or ?_ ?_ | with_reducible exact tra_or_nil
  | with_reducible refine' ev_neg ?_
  | walk_at "my op" | ((with_reducible refine' evl_cons1 ?_ ?_ ?m1); (case m1 => exact rfl)) | with_reducible refine' evl_nil ?_ | (guard_target =~ (_ = _ → _); intro _))
local macro_rules | `(tactic| walk_at "my evs") => `(tactic| repeat' (walk_at "my ev"))
local macro_rules | `(tactic| walk_at "my blt") => `(tactic| first | exact ev_globB (by assumption) (by kernel_rfl) boot_len (by decide +kernel) (by kernel_rfl) (by decide +kernel) | exact ev_globB (by assumption) (by kernel_rfl) boot_str (by decide +kernel) (by kernel_rfl) (by decide +kernel) | exact ev_globB (by assumption) (by kernel_rfl) boot_range (by decide +kernel) (by kernel_rfl) (by decide +kernel))
local macro_rules | `(tactic| walk_at "my fn") => `(tactic| exact ev_glob (by assumption) (by kernel_rfl) (by kernel_rfl) (by decide +kernel))
local macro_rules | `(tactic| walk_at "my puts") => `(tactic| (repeat (apply Puts.cons; (focus (walk_at "my put"; done)))); exact Puts.nil)
local macro_rules | `(tactic| walk_at "my nils") => `(tactic| repeat (first | with_reducible refine seq_nil ?_ | with_reducible refine wx_nil ?_))
local macro_rules | `(tactic| walk_at "my nnils") => `(tactic| repeat (first | with_reducible refine seqn_nil ?_ | with_reducible refine wxn_nil ?_))
local macro_rules | `(tactic| walk_at "my meth") => `(tactic| (apply ev_of_x; first | with_reducible apply evx_meth1 | with_reducible apply evx_meth0 | apply evx_meth1 | apply evx_meth0))

section
variable {prog : Program} {w : World} {p : Program} {loose : List Str} {mg mb : Str → Option Value} {c : Cf} {lo : Lo} {ob : Ob}
theorem cl_upto (G : Gt (Mine.hd.heap_39 w.params) p loose mg mb c) (hroom : c.A.depth < recursionLimit) {x y : Str} {i : Int} (hx : x.length < 2 ^ 30) {Φ : PV → Ob → Prop} (hΦ : Φ (.int (if Txt.find3 x y (i + 1) < 0 then x.length else Txt.find3 x y (i + 1) + 1)) ob) :
    Cl prog w c lo ob (.ref 144) [.str x, .int i, .str y] Φ := by
  refine cl_fn (names := nm_upto) (others := ot_upto) G (fn_upto w.params) (nc_upto _) hroom (args3 (bind_upto _)) nd_upto rfl (lc_upto _) fun L g G' => ?_
  have K' := G'.kind
  show WX _ _ _ [(_, _), (_, _), (_, _), (_, _)] _ _ _ _
  refine wx_cons ?_
  apply ws_set K' (v := .int (Txt.find3 x y (i + 1)))
  · walk_at "my meth"
    · walk_at "my evs"
    · exact gm_find
    · walk_at "my evs"
      exact cl_find3 ⟨rfl, rfl⟩
    all_goals rfl
  · walk_at "my put"
  refine wx_cons ?_
  apply ws_ret (v := .int (if Txt.find3 x y (i + 1) < 0 then x.length else Txt.find3 x y (i + 1) + 1))
  · apply ev_ite
    · walk_at "my evs"
    · intro h
      rw [if_pos (by simpa using h)]
      apply ev_of_x; apply evx_callB
      · walk_at "my blt"
      · walk_at "my evs"
        exact cl_len_str hx ⟨rfl, rfl⟩
      all_goals rfl
    · intro h
      rw [if_neg (by simpa using h)]
      walk_at "my evs"
  · exact hΦ

/-- the law's search for a sign with or without a guard ahead -/
def pairF (t : List Nat) (s g : Nat) (ia : Bool) (i : Nat) : Nat :=
  if h : i < t.length then (if t[i] != s || ((t.getD (i - 1) 0 == g) != ia) then pairF t s g ia (i + 1) else i) else i
termination_by t.length - i

def whTest : List Stmt → Expr
  | .While t _ _ _ :: _ => t
  | _ :: r => whTest r
  | [] => .Name "" ⟨0, 0, 0, 0⟩
def whBody : List Stmt → List Stmt
  | .While _ b _ _ :: _ => b
  | _ :: r => whBody r
  | [] => []

/-- len of a text that a name holds -/
theorem ev_len {K : Frag} (G : Gt K p loose mg mb c) {x : Str} {f a : Expr} {pos : Pos} (hf : Ev prog w c lo ob f (.val (.builtin "len"))) (h : Ev prog w c lo ob a (.str x)) (hx : x.length < 2 ^ 30)
    (hc : eval (.Call f [a] [] pos) c.env = (do callWith pos (← eval f c.env) [] (backTo pos (starEach [a] c.env)) (backToKw pos (keywordEach [] c.env))))
    (he : starEach [a] c.env = (false, eval a c.env) :: starEach [] c.env) : Ev prog w c lo ob (.Call f [a] [] pos) (.int x.length) :=
  ev_of_x (evx_callB hf (evl_cons1 h (evl_nil (cl_len_str hx ⟨rfl, rfl⟩)) he) hc he rfl)

theorem ev_char {value slice : Expr} {pos : Pos} {t : List Nat} {i : Int} {z : Nat} (ho : Ev prog w c lo ob value (.str (tx t))) (hi : Ev prog w c lo ob slice (.int i)) (h0 : 0 ≤ i) (h1 : t[i.toNat]? = some z) (hl : t.length < 2 ^ 29)
    (hs : ∀ o i, subscripted slice false o i = operate [o, i] (getItem o i)) : Ev prog w c lo ob (.Subscript value slice pos) (.str ⟨#[z]⟩) :=
  ev_sub ho hi (sb_str h0 (by rw [tx_list]; exact h1) (by rw [tx_len]; omega) hs)
theorem pairF_le (t : List Nat) (s g : Nat) (ia : Bool) (i : Nat) : i ≤ pairF t s g ia i := by
  fun_induction pairF t s g ia i <;> omega
theorem cl_pair (G : Gt (Mine.hd.heap_39 w.params) p loose mg mb c) (hroom : c.A.depth < recursionLimit) {t : List Nat} {s g : Nat} {ia : Bool} {i : Nat} (hx : t.length < 2 ^ 29) {Φ : PV → Ob → Prop} (hΦ : Φ (.int ((pairF t s g ia (i + 1) + 1 : Nat) : Int)) ob) :
    Cl prog w c lo ob (.ref 137) [.str (tx t), .int i, .str ⟨#[s]⟩, .str ⟨#[g]⟩, .val (.bool ia)] Φ := by
  refine cl_fn (names := nm_pair) (others := ot_pair) G (fn_pair w.params) (nc_pair _) hroom (args5 (bind_pair _)) nd_pair rfl (lc_pair _) fun L gg G' => ?_
  have K' := G'.kind
  have hl : (tx t).length < 2 ^ 30 := by rw [tx_len]; omega
  let st (j : Nat) : Lo := [(Str.ofString "text", .str (tx t)), (Str.ofString "at", .int (j : Int)), (Str.ofString "sign", .str ⟨#[s]⟩), (Str.ofString "guard", .str ⟨#[g]⟩), (Str.ofString "is_ahead", .val (.bool ia))]
  show WX _ _ _ (st i) _ _ _ _
  have key : ∀ n j : Nat, t.length - j = n → 1 ≤ j → Wl prog w (fnCf c (fdOf w.params 137) 137 L gg) (st j) ob NoX (whTest (bd 17)) (whBody (bd 17)) (fun o lo' ob' => o = .next ∧ lo' = st (pairF t s g ia j) ∧ ob' = ob) := by
    intro n
    induction n using Nat.strongRecOn with | ind n ih => ?_
    intro j hj h1
    have hstep := pairF.eq_def t s g ia j
    refine wl_step (b := decide ((j : Int) < t.length) && (((t.getD j 0 != s) || (((t.getD (j - 1) 0 == g) != ia) || false)) && true)) ?_ (fun hb => ?_) (fun hb => ?_)
    · refine tr_op ?_
      apply tra_and
      · apply tr_cmp
        · walk_at "my evs"
        · apply ev_len G'
          · walk_at "my blt"
          · walk_at "my evs"
          · exact hl
          all_goals rfl
        · rw [tx_len]; exact op_lt_int
        · rfl
      · intro h
        have hlt : j < t.length := by simpa using h
        apply tra_and
        · refine tr_op ?_
          apply tra_or
          · rw [← sg_bne]
            apply tr_cmp
            · apply ev_char
              · walk_at "my evs"
              · walk_at "my evs"
              · omega
              · exact getD_get hlt
              · omega
              · intro _ _; rfl
            · walk_at "my evs"
            · exact op_ne_str
            · rfl
          · intro _
            apply tra_or
            · rw [← sg_beq]
              apply tr_cmp
              · apply ev_cmp
                · apply ev_char (z := t.getD (j - 1) 0)
                  · walk_at "my evs"
                  · walk_at "my evs"
                  · omega
                  · rw [show ((j : Int) - 1).toNat = j - 1 by omega]; exact getD_get (by omega)
                  · omega
                  · intro _ _; rfl
                · walk_at "my evs"
                · exact op_eq_str
                · rfl
              · walk_at "my evs"
              · exact op_ne_bool
              · rfl
            · intro _; exact tra_or_nil
        · intro _; exact tra_and_nil
    · have hlt : j < t.length := by simp at hb; omega
      refine wx_cons ?_
      apply ws_aug K' (Has.mem (by exact .there .here)) (by intro h; cases h)
      · walk_at "my evs"
      · exact op_iadd_int
      · walk_at "my put"
      · apply wx_nil
        show Wl _ _ _ (st (j + 1)) _ _ _ _ _
        have := ih (t.length - (j + 1)) (by omega) (j + 1) rfl (by omega)
        rw [hstep, dif_pos hlt, if_pos]
        · exact this
        · rw [List.getD_eq_getElem?_getD, List.getElem?_eq_getElem hlt] at hb
          simp at hb ⊢; simpa using hb.2
    · refine ⟨rfl, ?_, rfl⟩
      rw [hstep]
      by_cases hlt : j < t.length
      · rw [dif_pos hlt, if_neg]
        rw [List.getD_eq_getElem?_getD, List.getElem?_eq_getElem hlt] at hb
        simp [hlt] at hb ⊢; simpa using hb
      · rw [dif_neg hlt]
  refine wx_cons ?_
  apply ws_aug K' (Has.mem (by exact .there .here)) (by intro h; cases h)
  · walk_at "my evs"
  · exact op_iadd_int
  · walk_at "my put"
  refine wx_cons ?_
  apply ws_while
  show Wl _ _ _ (st (i + 1)) _ _ _ _ _
  refine wl_mono (key _ (i + 1) rfl (by omega)) ?_
  rintro o lo' ob' ⟨rfl, rfl, rfl⟩
  show WX _ _ _ (st (pairF t s g ia (i + 1))) _ _ _ _
  refine wx_cons ?_
  apply ws_ret
  · walk_at "my evs"
  · exact hΦ
end
end Mine
end
section
open PySem.Calls
set_option maxHeartbeats 4000000
namespace Mine

local macro_rules | `(tactic| walk_at "my has") => `(tactic| with_reducible (repeat (first | exact Has.here | apply Has.there)))
local macro_rules | `(tactic| walk_at "my put") => `(tactic| with_reducible (repeat (first | exact Put.here | apply Put.there)))
local macro_rules | `(tactic| walk_at "my lit") => `(tactic| with_reducible (first | exact lit_sq | exact lit_dq | exact lit_E | exact lit_bs | exact lit_mi | exact lit_dl | exact lit_co | exact lit_eq | exact lit_qm | exact lit_pc | exact lit_lp | exact lit_rp | exact lit_s | exact lit_us | exact lit_nl | exact lit_ce | exact lit_ps | exact lit_rs | exact lit_em | exact rfl))
local macro_rules | `(tactic| walk_at "my op") => `(tactic| with_reducible (first | exact op_eq_int | exact op_ne_int | exact op_lt_int | exact op_gt_int | exact op_le_int | exact op_eq_str | exact op_ne_str | exact op_in_str | exact op_notin_str | exact op_eq_none_str | exact op_ne_none_str | exact op_ne_bool | exact op_is_none | exact op_is_none_str | exact op_add_int | exact op_iadd_int | exact op_sub_int | exact op_eq_opt | exact op_ne_opt | exact op_none_opt))
local macro_rules | `(tactic| walk_at "my nu") => `(tactic| first | (intro h; cases h; done) | exact PVo_ne _)
local macro_rules | `(tactic| walk_at "my ev") => `(tactic| first
  | with_reducible exact ev_int | ((with_reducible refine' ev_str ?h1); (case h1 => walk_at "my lit")) | with_reducible exact ev_none | with_reducible exact ev_bool
  | ((with_reducible refine' ev_nm ?k1 ?h1 ?u1); (case k1 => assumption); (case h1 => walk_at "my has"; done); (case u1 => walk_at "my nu"))
  | with_reducible refine' ev_bin ?_ ?_ ?_ | ((with_reducible refine' ev_cmp ?_ ?_ ?_ ?m1); (case m1 => exact rfl)) | ((with_reducible refine' tr_cmp ?_ ?_ ?_ ?m1); (case m1 => exact rfl)) | with_reducible refine' tr_not ?_ | with_reducible refine' tr_op ?_
  | with_reducible refine' tra_and ?_ ?_ | with_reducible exact tra_and_nil | with_reducible refine' tra_or ?_ ?_ | with_reducible exact tra_or_nil
  | with_reducible refine' ev_neg ?_
  | walk_at "my op" | ((with_reducible refine' evl_cons1 ?_ ?_ ?m1); (case m1 => exact rfl)) | with_reducible refine' evl_nil ?_ | (guard_target =~ (_ = _ → _); intro _))
local macro_rules | `(tactic| walk_at "my evs") => `(tactic| repeat' (walk_at "my ev"))
local macro_rules | `(tactic| walk_at "my blt") => `(tactic| first | exact ev_globB (by assumption) (by kernel_rfl) boot_len (by decide +kernel) (by kernel_rfl) (by decide +kernel) | exact ev_globB (by assumption) (by kernel_rfl) boot_str (by decide +kernel) (by kernel_rfl) (by decide +kernel) | exact ev_globB (by assumption) (by kernel_rfl) boot_range (by decide +kernel) (by kernel_rfl) (by decide +kernel))
local macro_rules | `(tactic| walk_at "my fn") => `(tactic| exact ev_glob (by assumption) (by kernel_rfl) (by kernel_rfl) (by decide +kernel))
local macro_rules | `(tactic| walk_at "my puts") => `(tactic| (repeat (apply Puts.cons; (focus (walk_at "my put"; done)))); exact Puts.nil)
local macro_rules | `(tactic| walk_at "my nils") => `(tactic| repeat (first | with_reducible refine seq_nil ?_ | with_reducible refine wx_nil ?_))
local macro_rules | `(tactic| walk_at "my nnils") => `(tactic| repeat (first | with_reducible refine seqn_nil ?_ | with_reducible refine wxn_nil ?_))
local macro_rules | `(tactic| walk_at "my meth") => `(tactic| (apply ev_of_x; first | with_reducible apply evx_meth1 | with_reducible apply evx_meth0 | apply evx_meth1 | apply evx_meth0))

abbrev dig (n : Nat) : List Nat := (Str.ofString (toString n)).cps.toList
def cut (t : List Nat) (a b : Nat) : List Nat := (t.take b).drop a

/-- the law's search for the end of a plain text -/
def plainF (t : List Nat) (i : Nat) : Nat :=
  if h : i < t.length then (if t[i] != 39 then plainF t (i + 1) else if cut t (i + 1) (i + 2) == [39] then plainF t (i + 2) else i + 1) else i
termination_by t.length - i

def regF (t : List Nat) (i : Nat) (ah : List Nat) : Nat :=
  let z := t.getD i 0
  if z == 39 then (if ah == [69] then pairF t 39 92 false (i + 1) + 1 else plainF t (i + 1))
  else if z == 34 then upF t 34 (i + 1)
  else if z == 45 && ah == [45] then upF t 10 (i + 1)
  else if z == 36 && ah == [36] then pairF t 36 36 true (i + 1) + 1 else i

def addN (ns : List Str) (x : Str) : List Str := if ns.any (· == x) then ns else ns ++ [x]
def numF (ns : List Str) (x : Str) : List Nat := 36 :: dig ((addN ns x).idxOf x + 1)

section
variable {prog : Program} {w : World} {K : Frag} {p : Program} {loose : List Str} {mg mb : Str → Option Value} {c : Cf} {lo : Lo} {ob ob' : Ob} {pos : Pos} {x : Str}
theorem evx_ite {t a b : Expr} {y : Bool} {Φ : PV → Ob → Prop} (ht : Tr prog w c lo ob t y) (ha : y = true → EvX prog w c lo ob a Φ) (hb : y = false → EvX prog w c lo ob b Φ) : EvX prog w c lo ob (.IfExp t a b pos) Φ := fun s Q E R q => by
  refine wpAny_IfExp (ht.use R fun s' R' => ?_)
  cases y with
  | true => exact ha rfl _ _ _ R' q
  | false => exact hb rfl _ _ _ R' q
theorem evx_bin {l r : Expr} {op : Operator} {a : PV} {Φ : PV → Ob → Prop} (hl : Ev prog w c lo ob l a) (hr : EvX prog w c lo ob r (fun b ob' => ∃ v, Op prog w c lo ob' (binaryOp op) a b v ∧ Φ v ob')) : EvX prog w c lo ob (.BinOp l op r pos) Φ := fun s Q E R q =>
  wpAny_BinOp (hl.use R fun ua s₁ ha R₁ => hr.use R₁ fun b ub ob' s₂ h hb R₂ => let ⟨v, ho, hΦ⟩ := h; ho.use ha hb R₂ fun u s' hu R' => q v u ob' s' hΦ hu R'.toRep0)
theorem evx_of {e : Expr} {v : PV} {Φ : PV → Ob → Prop} (h : Ev prog w c lo ob e v) (hΦ : Φ v ob) : EvX prog w c lo ob e Φ := fun s Q E R q => h s Q E R fun u s' hu R' => q v u ob s' hΦ hu R'
theorem evx_fn (G : Gt K p loose mg mb c) {f e : Expr} {es : List Expr} {a : Addr} {fd : FuncData} {body : List Stmt} {Φ : PV → Ob → Prop} (F : Fn0 K a fd body) (hf : Ev prog w c lo ob f (.val (.ref a))) (h : EvL prog w c lo ob (e :: es) (fun vs ob' => Cl prog w c lo ob' (.ref a) vs Φ))
    (hc : eval (.Call f (e :: es) [] pos) c.env = (do callWith pos (← eval f c.env) [] (backTo pos (starEach (e :: es) c.env)) (backToKw pos (keywordEach [] c.env))))
    (he : starEach (e :: es) c.env = (false, eval e c.env) :: starEach es c.env) : EvX prog w c lo ob (.Call f (e :: es) [] pos) Φ := by
  obtain ⟨o, h1, h2⟩ := gt_fn F G.X
  exact evx_callF hf h1 h2 h hc he
theorem room1 {k : Nat} {fd : FuncData} {a L : Addr} {g : Heap} (h : c.A.depth + (k + 1) < recursionLimit) : (fnCf c fd a L g).A.depth + k < recursionLimit := by
  show (c.A.deeper _).depth + k < _
  rw [depth_deeper]; omega
theorem ev_cut {value lo1 up : Expr} {i j : Int} {sp : Pos} {t : List Nat} {a b : Nat} (hv : Ev prog w c lo ob value (.str (tx t))) (hi : Ev prog w c lo ob lo1 (.int i)) (hj : Ev prog w c lo ob up (.int j)) (hx : t.length ≤ 2 ^ 24) (ei : i = a) (ej : j = b) :
    Ev prog w c lo ob (.Subscript value (.Slice (some lo1) (some up) none sp) pos) (.str (tx (cut t a b))) := by
  subst ei ej
  exact ev_slice_ss hv hi hj (by rw [tx_len]; exact hx) (slice_nat t a b)
theorem ev_tail {value lo1 : Expr} {i : Int} {sp : Pos} {t : List Nat} {a : Nat} (hv : Ev prog w c lo ob value (.str (tx t))) (hi : Ev prog w c lo ob lo1 (.int i)) (hx : t.length ≤ 2 ^ 24) (ei : i = a) :
    Ev prog w c lo ob (.Subscript value (.Slice (some lo1) none none sp) pos) (.str (tx (t.drop a))) := by
  subst ei
  exact ev_slice_sn hv hi (by rw [tx_len]; exact hx) (slice_from t a)
theorem isStrOf_at {vs : List Value} {ys : List Str} {k : Str} (h : StrsAre vs ys) : ∀ (j : Nat) (h1 : j < vs.length) (h2 : j < ys.length), isStrOf k vs[j] = (ys[j] == k) := by
  induction h with
  | nil => intro j h1; simp at h1
  | cons s t h ih =>
    intro j h1 h2
    cases j with
    | zero => rfl
    | succ j => exact ih j (by simpa using h1) (by simpa using h2)
theorem StrsAre.len {vs : List Value} {ys : List Str} (h : StrsAre vs ys) : vs.length = ys.length := by
  induction h with
  | nil => rfl
  | cons s t h ih => simp [ih]
theorem cl_index {l : Addr} {ss : List Str} {x : Str} (hm : (l, SeqO "list" (ss.map .str)) ∈ ob) (hx : x ∈ ss) (hb : ss.length < 2 ^ 40) {Φ : PV → Ob → Prop} (hΦ : Φ (.int (ss.idxOf x : Nat)) ob) : Cl prog w c lo ob (.builtin "list.index") [.val (.ref l), .str x] Φ := fun us s Q E hu R q => by
  cases hu with | cons h1 hs => ?_
  cases hs with | cons h2 hs => ?_
  cases hs; cases h1; obtain ⟨t, rfl⟩ := h2
  obtain ⟨o, h1, h2⟩ := R.1.get hm
  obtain ⟨us, n, rfl, hu⟩ := h2
  have hi := All2.strs hu
  have hlen := StrsAre.len hi
  have hj : ss.idxOf x < ss.length := List.idxOf_lt_length_iff.mpr hx
  refine call_meets PySem.F.slot_list_index ⟨_, h1, rfl⟩ PySem.F.entry_list_index (PySem.F.args_list_index_2 _ _)
    (PySem.SeqAt.list_indexAt l us.toArray n none #[] (.str x t) (isStrOf x) (ss.idxOf x) (by simpa [hlen] using hj) (by omega) ?_ ?_) ⟨h1, fun y hy => (eq_isStrOf x t hi y (by simpa using hy)).at _ _, q _ _ _ _ hΦ ⟨_, rfl⟩ (R.1.toks _)⟩
  · show isStrOf x us[ss.idxOf x] = true
    rw [isStrOf_at hi _ (by omega) hj]
    simpa using List.getElem_idxOf hj
  · intro j hjs hlt
    show isStrOf x us[j] = false
    rw [isStrOf_at hi j (by simpa using hjs) (by omega)]
    have := List.not_of_lt_findIdx (p := (· == x)) (xs := ss) hlt
    simpa using this
end
section
variable {prog : Program} {w : World} {p : Program} {loose : List Str} {mg mb : Str → Option Value} {c : Cf} {lo : Lo} {ob ob' : Ob}
theorem cl_plain (G : Gt (Mine.hd.heap_39 w.params) p loose mg mb c) (hroom : c.A.depth < recursionLimit) {t : List Nat} {i : Nat} (hx : t.length ≤ 2 ^ 24) {Φ : PV → Ob → Prop} (hΦ : Φ (.int ((plainF t (i + 1) : Nat) : Int)) ob) :
    Cl prog w c lo ob (.ref 130) [.str (tx t), .int i] Φ := by
  refine cl_fn (names := nm_plain) (others := ot_plain) G (fn_plain w.params) (nc_plain _) hroom (args2 (bind_plain _)) nd_plain rfl (lc_plain _) fun L gg G' => ?_
  have K' := G'.kind
  have hl : (tx t).length < 2 ^ 30 := by rw [tx_len]; omega
  let st (j : Nat) : Lo := [(Str.ofString "text", .str (tx t)), (Str.ofString "at", .int (j : Int))]
  show WX _ _ _ (st i) _ _ _ _
  have key : ∀ n j : Nat, t.length - j = n → Wl prog w (fnCf c (fdOf w.params 130) 130 L gg) (st j) ob NoX (whTest (bd 16)) (whBody (bd 16)) (fun o lo' ob' => (o = .next ∧ lo' = st (plainF t j) ∧ ob' = ob) ∨ (o = .ret (.int ((plainF t j : Nat) : Int)) ∧ ob' = ob)) := by
    intro n
    induction n using Nat.strongRecOn with | ind n ih => ?_
    intro j hj
    have hstep := plainF.eq_def t j
    refine wl_step (b := decide ((j : Int) < t.length)) ?_ (fun hb => ?_) (fun hb => ?_)
    · apply tr_cmp
      · walk_at "my evs"
      · apply ev_len G'
        · walk_at "my blt"
        · walk_at "my evs"
        · exact hl
        all_goals rfl
      · rw [tx_len]; exact op_lt_int
      · rfl
    · have hlt : j < t.length := by simpa using hb
      rw [dif_pos hlt] at hstep
      refine wx_cons ?_
      refine ws_if (y := t[j] != 39) ?_ ?_ ?_
      · rw [← sg_bne]
        apply tr_cmp
        · apply ev_char
          · walk_at "my evs"
          · walk_at "my evs"
          · omega
          · exact List.getElem?_eq_getElem hlt
          · omega
          · intro _ _; rfl
        · walk_at "my evs"
        · exact op_ne_str
        · rfl
      · intro h
        rw [if_pos h] at hstep
        refine wx_cons ?_
        apply ws_aug K' (Has.mem (by exact .there .here)) (by intro h; cases h)
        · walk_at "my evs"
        · exact op_iadd_int
        · walk_at "my put"
        · apply wx_nil
          show WX _ _ _ _ _ _ [] _
          apply wx_nil
          show Wl _ _ _ (st (j + 1)) _ _ _ _ _
          rw [hstep]
          exact ih (t.length - (j + 1)) (by omega) (j + 1) rfl
      · intro h
        rw [if_neg (by simp [h])] at hstep
        refine wx_cons ?_
        refine ws_if (y := cut t (j + 1) (j + 2) == [39]) ?_ ?_ ?_
        · rw [← tx_beq]
          apply tr_cmp
          · apply ev_cut
            · walk_at "my evs"
            · walk_at "my evs"
            · walk_at "my evs"
            · omega
            · rfl
            · rfl
          · walk_at "my evs"
          · exact op_eq_str
          · rfl
        · intro h2
          rw [if_pos h2] at hstep
          refine wx_cons ?_
          apply ws_aug K' (Has.mem (by exact .there .here)) (by intro h; cases h)
          · walk_at "my evs"
          · exact op_iadd_int
          · walk_at "my put"
          · apply wx_nil
            show WX _ _ _ _ _ _ [] _
            apply wx_nil
            show WX _ _ _ _ _ _ [] _
            apply wx_nil
            show Wl _ _ _ (st (j + 2)) _ _ _ _ _
            rw [hstep]
            exact ih (t.length - (j + 2)) (by omega) (j + 2) rfl
        · intro h2
          rw [if_neg (by simp [h2])] at hstep
          refine wx_cons ?_
          apply ws_ret (v := .int ((j : Int) + 1))
          · walk_at "my evs"
          · refine .inr ⟨?_, rfl⟩
            rw [hstep]; rfl
    · refine .inl ⟨rfl, ?_, rfl⟩
      rw [hstep, dif_neg (by simpa using hb)]
  refine wx_cons ?_
  apply ws_aug K' (Has.mem (by exact .there .here)) (by intro h; cases h)
  · walk_at "my evs"
  · exact op_iadd_int
  · walk_at "my put"
  refine wx_cons ?_
  apply ws_while
  show Wl _ _ _ (st (i + 1)) _ _ _ _ _
  refine wl_mono (key _ (i + 1) rfl) ?_
  rintro o lo' ob' (⟨rfl, rfl, rfl⟩ | ⟨rfl, rfl⟩)
  · show WX _ _ _ (st (plainF t (i + 1))) _ _ _ _
    refine wx_cons ?_
    apply ws_ret
    · walk_at "my evs"
    · exact hΦ
  · exact hΦ

/-- what the ground of a frame deeper down says -/
theorem cl_reg (G : Gt (Mine.hd.heap_39 w.params) p loose mg mb c) (hroom : c.A.depth + 1 < recursionLimit) {t : List Nat} {i : Nat} {ah : List Nat} (hi : i < t.length) (hx : t.length ≤ 2 ^ 24) {Φ : PV → Ob → Prop} (hΦ : Φ (.int ((regF t i ah : Nat) : Int)) ob) :
    Cl prog w c lo ob (.ref 158) [.str (tx t), .int i, .str (tx ah)] Φ := by
  refine cl_fn (names := nm_region) (others := ot_region) G (fn_region w.params) (nc_region _) (by omega) (args3 (bind_region _)) nd_region rfl (lc_region _) fun L gg G' => ?_
  have K' := G'.kind
  have hroom' : (fnCf c (fdOf w.params 158) 158 L gg).A.depth < recursionLimit := room1 (k := 0) (fd := fdOf w.params 158) (a := 158) (L := L) (g := gg) hroom
  have hl : (tx t).length < 2 ^ 30 := by rw [tx_len]; omega
  generalize hr : regF t i ah = r at hΦ
  have hreg := regF.eq_def t i ah
  rw [hr] at hreg
  simp only at hreg
  show WX _ _ _ [(_, _), (_, _), (_, _), (_, _)] _ _ _ _
  refine wx_cons ?_
  apply ws_set K' (v := .str (sg (t.getD i 0)))
  · apply ev_char
    · walk_at "my evs"
    · walk_at "my evs"
    · omega
    · exact getD_get hi
    · omega
    · intro _ _; rfl
  · walk_at "my put"
  refine wx_cons ?_
  refine ws_if (y := t.getD i 0 == 39) ?_ ?_ ?_
  · rw [← sg_beq]
    apply tr_cmp
    · walk_at "my evs"
    · walk_at "my evs"
    · exact op_eq_str
    · rfl
  · intro h
    rw [if_pos h] at hreg
    refine wx_cons ?_
    refine ws_retx ?_
    refine evx_ite (y := ah == [69]) ?_ ?_ ?_
    · rw [← tx_beq]
      apply tr_cmp
      · walk_at "my evs"
      · walk_at "my evs"
      · exact op_eq_str
      · rfl
    · intro h2
      rw [if_pos h2] at hreg
      apply evx_fn G' (fn_pair w.params)
      · walk_at "my fn"
      · walk_at "my evs"
        refine cl_pair G' hroom' (by omega) ?_
        show Φ _ _
        rw [← hreg]; exact hΦ
      · rfl
      · rfl
    · intro h2
      rw [if_neg (by simp [h2])] at hreg
      apply evx_fn G' (fn_plain w.params)
      · walk_at "my fn"
      · walk_at "my evs"
        refine cl_plain G' hroom' (by omega) ?_
        show Φ _ _
        rw [← hreg]; exact hΦ
      · rfl
      · rfl
  intro h
  rw [if_neg (by simpa using h)] at hreg
  apply wx_nil
  refine wx_cons ?_
  refine ws_if (y := t.getD i 0 == 34) ?_ ?_ ?_
  · rw [← sg_beq]
    apply tr_cmp
    · walk_at "my evs"
    · walk_at "my evs"
    · exact op_eq_str
    · rfl
  · intro h
    rw [if_pos h] at hreg
    refine wx_cons ?_
    refine ws_retx ?_
    apply evx_fn G' (fn_upto w.params)
    · walk_at "my fn"
    · walk_at "my evs"
      refine cl_upto G' hroom' hl ?_
      have := upto_is t 34 (i + 1)
      push_cast at this
      show Φ _ _
      rw [this, ← hreg]; exact hΦ
    · rfl
    · rfl
  intro h
  rw [if_neg (by simpa using h)] at hreg
  apply wx_nil
  refine wx_cons ?_
  refine ws_if (y := t.getD i 0 == 45 && (ah == [45] && true)) ?_ ?_ ?_
  · rw [← sg_beq, ← tx_beq]
    walk_at "my evs"
    exact op_eq_str
  · intro h
    rw [if_pos (by simpa using h)] at hreg
    refine wx_cons ?_
    refine ws_retx ?_
    apply evx_fn G' (fn_upto w.params)
    · walk_at "my fn"
    · walk_at "my evs"
      refine cl_upto G' hroom' hl ?_
      have := upto_is t 10 (i + 1)
      push_cast at this
      show Φ _ _
      rw [this, ← hreg]; exact hΦ
    · rfl
    · rfl
  intro h
  rw [if_neg (by simpa using h)] at hreg
  apply wx_nil
  refine wx_cons ?_
  refine ws_if (y := t.getD i 0 == 36 && (ah == [36] && true)) ?_ ?_ ?_
  · rw [← sg_beq, ← tx_beq]
    walk_at "my evs"
    exact op_eq_str
  · intro h
    rw [if_pos (by simpa using h)] at hreg
    refine wx_cons ?_
    refine ws_retx ?_
    apply evx_fn G' (fn_pair w.params)
    · walk_at "my fn"
    · walk_at "my evs"
      refine cl_pair G' hroom' (by omega) ?_
      show Φ _ _
      rw [← hreg]; exact hΦ
    · rfl
    · rfl
  intro h
  rw [if_neg (by simpa using h)] at hreg
  apply wx_nil
  refine wx_cons ?_
  apply ws_ret (v := .int i)
  · walk_at "my evs"
  · show Φ _ _
    rw [← hreg]; exact hΦ
end
end Mine
end
section
open PySem.Calls
set_option maxHeartbeats 4000000
namespace Mine

local macro_rules | `(tactic| walk_at "my has") => `(tactic| with_reducible (repeat (first | exact Has.here | apply Has.there)))
local macro_rules | `(tactic| walk_at "my put") => `(tactic| with_reducible (repeat (first | exact Put.here | apply Put.there)))
local macro_rules | `(tactic| walk_at "my lit") => `(tactic| with_reducible (first | exact lit_sq | exact lit_dq | exact lit_E | exact lit_bs | exact lit_mi | exact lit_dl | exact lit_co | exact lit_eq | exact lit_qm | exact lit_pc | exact lit_lp | exact lit_rp | exact lit_s | exact lit_us | exact lit_nl | exact lit_ce | exact lit_ps | exact lit_rs | exact lit_em | exact rfl))
local macro_rules | `(tactic| walk_at "my op") => `(tactic| with_reducible (first | exact op_eq_int | exact op_ne_int | exact op_lt_int | exact op_gt_int | exact op_le_int | exact op_eq_str | exact op_ne_str | exact op_in_str | exact op_notin_str | exact op_eq_none_str | exact op_ne_none_str | exact op_ne_bool | exact op_is_none | exact op_is_none_str | exact op_add_int | exact op_iadd_int | exact op_sub_int | exact op_eq_opt | exact op_ne_opt | exact op_none_opt))
local macro_rules | `(tactic| walk_at "my nu") => `(tactic| first | (intro h; cases h; done) | exact PVo_ne _)
local macro_rules | `(tactic| walk_at "my ev") => `(tactic| first
  | with_reducible exact ev_int | ((with_reducible refine' ev_str ?h1); (case h1 => walk_at "my lit")) | with_reducible exact ev_none | with_reducible exact ev_bool
  | ((with_reducible refine' ev_nm ?k1 ?h1 ?u1); (case k1 => assumption); (case h1 => walk_at "my has"; done); (case u1 => walk_at "my nu"))
  | with_reducible refine' ev_bin ?_ ?_ ?_ | ((with_reducible refine' ev_cmp ?_ ?_ ?_ ?m1); (case m1 => exact rfl)) | ((with_reducible refine' tr_cmp ?_ ?_ ?_ ?m1); (case m1 => exact rfl)) | with_reducible refine' tr_not ?_ | with_reducible refine' tr_op ?_
  | with_reducible refine' tra_and ?_ ?_ | with_reducible exact tra_and_nil | with_reducible refine' tra_or ?_ ?_ | with_reducible exact tra_or_nil
  | with_reducible refine' ev_neg ?_
  | walk_at "my op" | ((with_reducible refine' evl_cons1 ?_ ?_ ?m1); (case m1 => exact rfl)) | with_reducible refine' evl_nil ?_ | (guard_target =~ (_ = _ → _); intro _))
local macro_rules | `(tactic| walk_at "my evs") => `(tactic| repeat' (walk_at "my ev"))
local macro_rules | `(tactic| walk_at "my blt") => `(tactic| first | exact ev_globB (by assumption) (by kernel_rfl) boot_len (by decide +kernel) (by kernel_rfl) (by decide +kernel) | exact ev_globB (by assumption) (by kernel_rfl) boot_str (by decide +kernel) (by kernel_rfl) (by decide +kernel) | exact ev_globB (by assumption) (by kernel_rfl) boot_range (by decide +kernel) (by kernel_rfl) (by decide +kernel))
local macro_rules | `(tactic| walk_at "my fn") => `(tactic| exact ev_glob (by assumption) (by kernel_rfl) (by kernel_rfl) (by decide +kernel))
local macro_rules | `(tactic| walk_at "my puts") => `(tactic| (repeat (apply Puts.cons; (focus (walk_at "my put"; done)))); exact Puts.nil)
local macro_rules | `(tactic| walk_at "my nils") => `(tactic| repeat (first | with_reducible refine seq_nil ?_ | with_reducible refine wx_nil ?_))
local macro_rules | `(tactic| walk_at "my nnils") => `(tactic| repeat (first | with_reducible refine seqn_nil ?_ | with_reducible refine wxn_nil ?_))
local macro_rules | `(tactic| walk_at "my meth") => `(tactic| (apply ev_of_x; first | with_reducible apply evx_meth1 | with_reducible apply evx_meth0 | apply evx_meth1 | apply evx_meth0))


inductive ObImp : Ob → Ob → Prop
  | nil : ObImp [] []
  | same {q : Addr × OP} {r r' : Ob} : ObImp r r' → ObImp (q :: r) (q :: r')
  | imp {a : Addr} {P P' : OP} {r r' : Ob} : (∀ o, P o → P' o) → ObImp r r' → ObImp ((a, P) :: r) ((a, P') :: r')
theorem ObImp.keys {l l' : Ob} (h : ObImp l l') : l'.map (·.1) = l.map (·.1) := by
  induction h with
  | nil => rfl
  | same _ ih => simp [ih]
  | imp _ _ ih => simp [ih]
theorem ObImp.mem {l l' : Ob} (h : ObImp l l') {p : Addr × OP} (hp : p ∈ l') : ∃ P, (p.1, P) ∈ l ∧ ∀ o, P o → p.2 o := by
  induction h with
  | nil => cases hp
  | same _ ih =>
    rcases List.mem_cons.mp hp with rfl | hp
    · exact ⟨_, .head _, fun _ h => h⟩
    · obtain ⟨P, a, b⟩ := ih hp; exact ⟨P, .tail _ a, b⟩
  | imp k _ ih =>
    rcases List.mem_cons.mp hp with rfl | hp
    · exact ⟨_, .head _, k⟩
    · obtain ⟨P, a, b⟩ := ih hp; exact ⟨P, .tail _ a, b⟩
theorem ObImp.refl : ∀ l : Ob, ObImp l l
  | [] => .nil
  | _ :: r => .same (ObImp.refl r)
theorem Put.mem2 {κ β : Type} {k : κ} {v : β} {l l' : List (κ × β)} (h : Put k v l l') : (k, v) ∈ l' := by
  induction h with
  | here => exact .head _
  | there _ ih => exact .tail _ ih
theorem dig_len : ∀ n < 1100, (dig n).length ≤ 4 := by decide +kernel
theorem dollar (n : Nat) : (⟨#[36]⟩ : Str) ++ Str.ofString (toString ((n : Nat) : Int)) = tx (36 :: dig n) := tx_app [36] (dig n)
section
variable {prog : Program} {w : World} {p : Program} {loose : List Str} {mg mb : Str → Option Value} {c : Cf} {lo : Lo} {ob ob' : Ob} {X : EPost} {Φ : Post}
theorem Rep0.imp {s : Shared} (R : Rep0 c lo ob s) (h : ObImp ob ob') : Rep0 c lo ob' s :=
  ⟨R.fr, ⟨h.keys ▸ R.obs.1, fun q hq => let ⟨P, a, b⟩ := h.mem hq; let ⟨o, h1, h2, h3, h4⟩ := R.obs.2 _ a; ⟨o, h1, h2, h3, b o h4⟩⟩, R.nd, R.loc, R.os, R.gens⟩
theorem wx_imp {body : List Stmt} (h : ObImp ob ob') (H : WX prog w c lo ob' X body Φ) : WX prog w c lo ob X body Φ := fun s Q E R q x pe => H _ _ _ ⟨R.1.imp h, R.tk⟩ q x pe
theorem Rep0.same {s : Shared} (R : Rep0 c lo ob s) {l : Addr} {P : OP} (hm : (l, P) ∈ ob) (U : Put l P ob ob') : Rep0 c lo ob' s :=
  ⟨R.fr, ⟨U.keys ▸ R.obs.1, fun q hq => by
    rcases U.mem R.obs.1 hq with rfl | ⟨h, _⟩
    · exact R.obs.2 _ hm
    · exact R.obs.2 _ h⟩, R.nd, R.loc, R.os, R.gens⟩
theorem wx_same {body : List Stmt} {l : Addr} {P : OP} (hm : (l, P) ∈ ob) (U : Put l P ob ob') (H : WX prog w c lo ob' X body Φ) : WX prog w c lo ob X body Φ := fun s Q E R q x pe => H _ _ _ ⟨R.1.same hm U, R.tk⟩ q x pe

theorem cl_number (G : Gt (Mine.hd.heap_39 w.params) p loose mg mb c) (hroom : c.A.depth < recursionLimit) {l : Addr} {ns : List Str} {x : Str} (hm : (l, SeqO "list" (ns.map .str)) ∈ ob) (hn : ns.length ≤ 1000) (U : Put l (SeqO "list" ((addN ns x).map .str)) ob ob') {Φ : PV → Ob → Prop} (hΦ : Φ (.str (tx (numF ns x))) ob') :
    Cl prog w c lo ob (.ref 151) [.val (.ref l), .str x] Φ := by
  refine cl_fn (names := nm_number) (others := ot_number) G (fn_number w.params) (nc_number _) hroom (args2 (bind_number _)) nd_number rfl (lc_number _) fun L gg G' => ?_
  have K' := G'.kind
  show WX _ _ _ [(_, _), (_, _)] _ _ _ _
  have tail : WX prog w (fnCf c (fdOf w.params 151) 151 L gg) [(Str.ofString "names", .val (.ref l)), (Str.ofString "name", .str x)] ob' NoX ((bd 19).drop 1) (RetΦ Φ) := by
    have hmem : x ∈ addN ns x := by
      unfold addN
      split
      · rename_i h; simpa using h
      · simp
    have hlen : (addN ns x).length ≤ 1001 := by
      unfold addN
      split
      · omega
      · simp; omega
    have hix : (addN ns x).idxOf x < (addN ns x).length := List.idxOf_lt_length_iff.mpr hmem
    have hm' : (l, SeqO "list" ((addN ns x).map .str)) ∈ ob' := U.mem2
    refine wx_cons ?_
    refine ws_retx ?_
    apply evx_bin
    · walk_at "my evs"
    · apply evx_callT
      · walk_at "my blt"
      · refine evl_cons1 (v := .int (((addN ns x).idxOf x + 1 : Nat) : Int)) ?_ ?_ ?_
        · apply ev_bin
          · walk_at "my meth"
            · walk_at "my evs"
            · exact gm_index hm'
            · walk_at "my evs"
              exact cl_index hm' hmem (by omega) ⟨rfl, rfl⟩
            all_goals rfl
          · walk_at "my evs"
          · exact op_add_int
        · walk_at "my evs"
          refine cl_str_int (by omega) ⟨.str (tx (numF ns x)), ?_, hΦ⟩
          have e := dollar ((addN ns x).idxOf x + 1)
          push_cast at e
          show Op _ _ _ _ _ _ _ _ (.str (tx (36 :: dig _)))
          rw [← e]
          refine op_add_str ?_
          have := dig_len ((addN ns x).idxOf x + 1) (by omega)
          show 1 + (tx (dig ((addN ns x).idxOf x + 1))).length ≤ _
          rw [tx_len]; omega
        · rfl
      all_goals rfl
  refine wx_cons ?_
  refine ws_if (y := !ns.any (· == x)) ?_ ?_ ?_
  · apply tr_cmp
    · walk_at "my evs"
    · walk_at "my evs"
    · exact op_notin_list hm
    · rfl
  · intro h
    have e : addN ns x = ns ++ [x] := by unfold addN; rw [if_neg (by intro h2; rw [h2] at h; cases h)]
    refine wx_cons ?_
    apply ws_none
    · apply evx_meth1
      · walk_at "my evs"
      · exact gm_append hm
      · walk_at "my evs"
        refine cl_append hm (by simp; omega) (ob' := ob') (by rw [e] at U; simpa using U) ⟨rfl, ?_⟩
        apply wx_nil
        exact tail
      all_goals rfl
    · rfl
    · rfl
  · intro h
    have e : addN ns x = ns := by unfold addN; rw [if_pos (by simpa using h)]
    apply wx_same hm (by rw [e] at U; exact U)
    apply wx_nil
    exact tail
end
end Mine
end
section
open PySem.Calls
set_option maxHeartbeats 4000000
namespace Mine

local macro_rules | `(tactic| walk_at "my has") => `(tactic| with_reducible (repeat (first | exact Has.here | apply Has.there)))
local macro_rules | `(tactic| walk_at "my put") => `(tactic| with_reducible (repeat (first | exact Put.here | apply Put.there)))
local macro_rules | `(tactic| walk_at "my lit") => `(tactic| with_reducible (first | exact lit_sq | exact lit_dq | exact lit_E | exact lit_bs | exact lit_mi | exact lit_dl | exact lit_co | exact lit_eq | exact lit_qm | exact lit_pc | exact lit_lp | exact lit_rp | exact lit_s | exact lit_us | exact lit_nl | exact lit_ce | exact lit_ps | exact lit_rs | exact lit_em | exact rfl))
local macro_rules | `(tactic| walk_at "my op") => `(tactic| with_reducible (first | exact op_eq_int | exact op_ne_int | exact op_lt_int | exact op_gt_int | exact op_le_int | exact op_eq_str | exact op_ne_str | exact op_in_str | exact op_notin_str | exact op_eq_none_str | exact op_ne_none_str | exact op_ne_bool | exact op_is_none | exact op_is_none_str | exact op_add_int | exact op_iadd_int | exact op_sub_int | exact op_eq_opt | exact op_ne_opt | exact op_none_opt))
local macro_rules | `(tactic| walk_at "my nu") => `(tactic| first | (intro h; cases h; done) | exact PVo_ne _)
local macro_rules | `(tactic| walk_at "my ev") => `(tactic| first
  | with_reducible exact ev_int | ((with_reducible refine' ev_str ?h1); (case h1 => walk_at "my lit")) | with_reducible exact ev_none | with_reducible exact ev_bool
  | ((with_reducible refine' ev_nm ?k1 ?h1 ?u1); (case k1 => assumption); (case h1 => walk_at "my has"; done); (case u1 => walk_at "my nu"))
  | with_reducible refine' ev_bin ?_ ?_ ?_ | ((with_reducible refine' ev_cmp ?_ ?_ ?_ ?m1); (case m1 => exact rfl)) | ((with_reducible refine' tr_cmp ?_ ?_ ?_ ?m1); (case m1 => exact rfl)) | with_reducible refine' tr_not ?_ | with_reducible refine' tr_op ?_
  | with_reducible refine' tra_and ?_ ?_ | with_reducible exact tra_and_nil | with_reducible refine' tra_or ?_ ?_ | with_reducible exact tra_or_nil
  | with_reducible refine' ev_neg ?_
  | walk_at "my op" | ((with_reducible refine' evl_cons1 ?_ ?_ ?m1); (case m1 => exact rfl)) | with_reducible refine' evl_nil ?_ | (guard_target =~ (_ = _ → _); intro _))
local macro_rules | `(tactic| walk_at "my evs") => `(tactic| repeat' (walk_at "my ev"))
local macro_rules | `(tactic| walk_at "my blt") => `(tactic| first | exact ev_globB (by assumption) (by kernel_rfl) boot_len (by decide +kernel) (by kernel_rfl) (by decide +kernel) | exact ev_globB (by assumption) (by kernel_rfl) boot_str (by decide +kernel) (by kernel_rfl) (by decide +kernel) | exact ev_globB (by assumption) (by kernel_rfl) boot_range (by decide +kernel) (by kernel_rfl) (by decide +kernel))
local macro_rules | `(tactic| walk_at "my fn") => `(tactic| exact ev_glob (by assumption) (by kernel_rfl) (by kernel_rfl) (by decide +kernel))
local macro_rules | `(tactic| walk_at "my puts") => `(tactic| (repeat (apply Puts.cons; (focus (walk_at "my put"; done)))); exact Puts.nil)
local macro_rules | `(tactic| walk_at "my nils") => `(tactic| repeat (first | with_reducible refine seq_nil ?_ | with_reducible refine wx_nil ?_))
local macro_rules | `(tactic| walk_at "my nnils") => `(tactic| repeat (first | with_reducible refine seqn_nil ?_ | with_reducible refine wxn_nil ?_))
local macro_rules | `(tactic| walk_at "my meth") => `(tactic| (apply ev_of_x; first | with_reducible apply evx_meth1 | with_reducible apply evx_meth0 | apply evx_meth1 | apply evx_meth0))

def nextF (ds : List Int) (k lim : Int) : Int := if k + 1 ≤ ds.length then (ds.getD k.toNat 0).fmod lim else ((k + 1) * 5).fmod lim
section
variable {prog : Program} {w : World} {p : Program} {loose : List Str} {mg mb : Str → Option Value} {c : Cf} {lo : Lo} {ob ob' : Ob} {X : EPost} {Φ : Post}
theorem cl_next (G : Gt (Mine.hd.heap_39 w.params) p loose mg mb c) (hroom : c.A.depth < recursionLimit) {l D : Addr} {ds : List Int} {k lim : Int} (hm : (l, ListW [.val (.ref D), .int k]) ∈ ob) (U : Put l (ListW [.val (.ref D), .int (k + 1)]) ob ob') (hD : (D, SeqO "list" (ds.map .int)) ∈ ob') (hk : 0 ≤ k) (hk2 : k < 2 ^ 30) (hlim : 0 < lim) (hds : ds.length < 2 ^ 29)
    {Φ : PV → Ob → Prop} (hΦ : Φ (.int (nextF ds k lim)) ob') : Cl prog w c lo ob (.ref 123) [.val (.ref l), .int lim] Φ := by
  refine cl_fn (names := nm_next) (others := ot_next) G (fn_next w.params) (nc_next _) hroom (args2 (bind_next _)) nd_next rfl (lc_next _) fun L gg G' => ?_
  have K' := G'.kind
  show WX _ _ _ [(_, _), (_, _)] _ _ _ _
  have hm' := U.mem2
  refine wx_cons ?_
  apply ws_augsub (b := .int 1) (old := .int k) (new := .int (k + 1)) (l := l) (vs := [.val (.ref D), .int k]) (k := 1)
  · walk_at "my evs"
  · walk_at "my evs"
  · walk_at "my evs"
  · exact op_iadd_int
  · exact hm
  · decide
  · show (1 : Int) < 2; decide
  · rfl
  · show 2 < 2 ^ 40; decide
  · exact U
  · have e1 : ∀ {ps : Pos} {e : Expr}, (∃ px pp, e = .Subscript (.Name (Str.ofString "state") px) (.Constant (.int 1) 0 pp) ps) → Ev prog w (fnCf c (fdOf w.params 123) 123 L gg) [(Str.ofString "state", .val (.ref l)), (Str.ofString "limit", .int lim)] ob' e (.int (k + 1)) := by
      rintro ps e ⟨px, pp, rfl⟩
      apply ev_sub
      · walk_at "my evs"
      · walk_at "my evs"
      · exact sb_list (.inl hm') (by decide) (by decide) rfl
    refine wx_cons ?_
    apply ws_ret (v := .int (nextF ds k lim))
    · refine ev_ite (y := decide (k + 1 ≤ ds.length)) ?_ ?_ ?_
      · apply tr_cmp
        · exact e1 ⟨_, _, rfl⟩
        · apply ev_of_x
          apply evx_callB
          · walk_at "my blt"
          · apply evl_cons1
            · apply ev_sub
              · walk_at "my evs"
              · walk_at "my evs"
              · exact sb_list (.inl hm') (by decide) (by decide) rfl
            · walk_at "my evs"
              exact cl_len_list (vs := ds.map .int) (.inr hD) (by simp; omega) ⟨rfl, rfl⟩
            · rfl
          all_goals rfl
        · rw [show ((ds.map PV.int).length : Int) = ds.length by simp]; exact op_le_int
        · rfl
      · intro h
        have hlt : k + 1 ≤ ds.length := by simpa using h
        unfold nextF
        rw [if_pos hlt]
        apply ev_bin
        · apply ev_sub
          · apply ev_sub
            · walk_at "my evs"
            · walk_at "my evs"
            · exact sb_list (v := .val (.ref D)) (.inl hm') (by decide) (by decide) rfl
          · apply ev_bin
            · exact e1 ⟨_, _, rfl⟩
            · walk_at "my evs"
            · exact op_sub_int
          · refine sb_list (v := .int (ds.getD k.toNat 0)) (vs := ds.map .int) (.inr hD) (by omega) (by omega) ?_
            rw [show (k + 1 - 1).toNat = k.toNat by omega, List.getElem?_map, List.getD_eq_getElem?_getD, List.getElem?_eq_getElem (by omega)]; rfl
        · walk_at "my evs"
        · exact op_mod_int (by omega)
      · intro h
        have hlt : ¬ k + 1 ≤ ds.length := by simpa using h
        unfold nextF
        rw [if_neg hlt]
        apply ev_bin
        · apply ev_bin
          · exact e1 ⟨_, _, rfl⟩
          · walk_at "my evs"
          · apply op_mul_int
            exact IntMulOk.of_right (by decide +kernel)
        · walk_at "my evs"
        · exact op_mod_int (by omega)
    · exact hΦ
  · intro ov iv nv; rfl
end
end Mine
end
section
open PySem.Calls
set_option maxHeartbeats 4000000
namespace Mine

local macro_rules | `(tactic| walk_at "my has") => `(tactic| with_reducible (repeat (first | exact Has.here | apply Has.there)))
local macro_rules | `(tactic| walk_at "my put") => `(tactic| with_reducible (repeat (first | exact Put.here | apply Put.there)))
local macro_rules | `(tactic| walk_at "my lit") => `(tactic| with_reducible (first | exact lit_sq | exact lit_dq | exact lit_E | exact lit_bs | exact lit_mi | exact lit_dl | exact lit_co | exact lit_eq | exact lit_qm | exact lit_pc | exact lit_lp | exact lit_rp | exact lit_s | exact lit_us | exact lit_nl | exact lit_ce | exact lit_ps | exact lit_rs | exact lit_em | exact rfl))
local macro_rules | `(tactic| walk_at "my op") => `(tactic| with_reducible (first | exact op_eq_int | exact op_ne_int | exact op_lt_int | exact op_gt_int | exact op_le_int | exact op_eq_str | exact op_ne_str | exact op_in_str | exact op_notin_str | exact op_eq_none_str | exact op_ne_none_str | exact op_ne_bool | exact op_is_none | exact op_is_none_str | exact op_add_int | exact op_iadd_int | exact op_sub_int | exact op_eq_opt | exact op_ne_opt | exact op_none_opt))
local macro_rules | `(tactic| walk_at "my nu") => `(tactic| first | (intro h; cases h; done) | exact PVo_ne _)
local macro_rules | `(tactic| walk_at "my ev") => `(tactic| first
  | with_reducible exact ev_int | ((with_reducible refine' ev_str ?h1); (case h1 => walk_at "my lit")) | with_reducible exact ev_none | with_reducible exact ev_bool
  | ((with_reducible refine' ev_nm ?k1 ?h1 ?u1); (case k1 => assumption); (case h1 => walk_at "my has"; done); (case u1 => walk_at "my nu"))
  | with_reducible refine' ev_bin ?_ ?_ ?_ | ((with_reducible refine' ev_cmp ?_ ?_ ?_ ?m1); (case m1 => exact rfl)) | ((with_reducible refine' tr_cmp ?_ ?_ ?_ ?m1); (case m1 => exact rfl)) | with_reducible refine' tr_not ?_ | with_reducible refine' tr_op ?_
  | with_reducible refine' tra_and ?_ ?_ | with_reducible exact tra_and_nil | with_reducible refine' tra_or ?_ ?_ | with_reducible exact tra_or_nil
  | with_reducible refine' ev_neg ?_
  | walk_at "my op" | ((with_reducible refine' evl_cons1 ?_ ?_ ?m1); (case m1 => exact rfl)) | with_reducible refine' evl_nil ?_ | (guard_target =~ (_ = _ → _); intro _))
local macro_rules | `(tactic| walk_at "my evs") => `(tactic| repeat' (walk_at "my ev"))
local macro_rules | `(tactic| walk_at "my blt") => `(tactic| first | exact ev_globB (by assumption) (by kernel_rfl) boot_len (by decide +kernel) (by kernel_rfl) (by decide +kernel) | exact ev_globB (by assumption) (by kernel_rfl) boot_str (by decide +kernel) (by kernel_rfl) (by decide +kernel) | exact ev_globB (by assumption) (by kernel_rfl) boot_range (by decide +kernel) (by kernel_rfl) (by decide +kernel))
local macro_rules | `(tactic| walk_at "my fn") => `(tactic| exact ev_glob (by assumption) (by kernel_rfl) (by kernel_rfl) (by decide +kernel))
local macro_rules | `(tactic| walk_at "my puts") => `(tactic| (repeat (apply Puts.cons; (focus (walk_at "my put"; done)))); exact Puts.nil)
local macro_rules | `(tactic| walk_at "my nils") => `(tactic| repeat (first | with_reducible refine seq_nil ?_ | with_reducible refine wx_nil ?_))
local macro_rules | `(tactic| walk_at "my nnils") => `(tactic| repeat (first | with_reducible refine seqn_nil ?_ | with_reducible refine wxn_nil ?_))
local macro_rules | `(tactic| walk_at "my meth") => `(tactic| (apply ev_of_x; first | with_reducible apply evx_meth1 | with_reducible apply evx_meth0 | apply evx_meth1 | apply evx_meth0))

structure WSt where
  style : Str
  told : List Nat
  names : List Str
  marks : Nat
  at_ : Nat
abbrev WRes := Option (List Nat × List Str × Str)
inductive WR where
  | go (S : WSt)
  | stop (r : WRes)

def naming : List Str := [sg 69, sg 115, sg 97, sg 49, sg 95, sg 233]
abbrev sQ : Str := Str.ofString "qmark"
abbrev sN : Str := Str.ofString "numeric"
abbrev sD : Str := Str.ofString "named"
abbrev sF : Str := Str.ofString "format"
abbrev sP : Str := Str.ofString "pyformat"

theorem cut_lt {t : List Nat} {e k : Nat} {x : Nat} (h : cut t e k = [x]) : e < t.length := by
  have := congrArg List.length h
  simp [cut] at this
  omega
theorem cut_len (t : List Nat) (a b : Nat) : (cut t a b).length ≤ b - a := by
  simp [cut]; omega
def nameF (t : List Nat) (e : Nat) : Nat := if h : e < t.length then (if naming.any (· == tx (cut t e (e + 1))) then nameF t (e + 1) else e) else e
termination_by t.length - e
theorem nameF_le (t : List Nat) (e : Nat) : e ≤ nameF t e := by
  fun_induction nameF t e <;> omega
theorem psF_le {t : List Nat} {i k : Nat} (h : psF t i = some k) : i ≤ k ∧ k + 1 < t.length := by
  fun_induction psF t i with
  | case1 i h1 h2 => simp at h; omega
  | case2 i h1 h2 ih => have := ih h; omega
  | case3 => simp at h
def noPar (l : List Nat) : List Nat := l.filter fun z => z != 40 && z != 41

def walkStep (t : List Nat) (S : WSt) : WR :=
  let z := t.getD S.at_ 0
  let ah := cut t (S.at_ - 1) S.at_
  let be := cut t (S.at_ + 1) (S.at_ + 2)
  let e := regF t S.at_ ah
  if S.at_ < e then .go { S with told := S.told ++ cut t S.at_ e, at_ := e }
  else if S.style == sQ && (z == 63 && true) then .go { S with told := S.told ++ 36 :: dig (S.marks + 1), marks := S.marks + 1, at_ := S.at_ + 1 }
  else if S.style == sN && (z == 58 && (!([sg 58, sg 61].any (· == tx be)) && ((tx ah != sg 58) && true))) then .go { S with told := S.told ++ [36], at_ := S.at_ + 1 }
  else if S.style == sD && (z == 58 && (!([sg 58, sg 61].any (· == tx be)) && ((tx ah != sg 58) && true))) then
    let x := tx (cut t (S.at_ + 1) (nameF t (S.at_ + 2)))
    .go { S with told := S.told ++ numF S.names x, names := addN S.names x, at_ := nameF t (S.at_ + 2) }
  else if S.style == sP && (z == 37 && ((tx be == sg 40) && true)) then
    match psF t (S.at_ + 1) with
    | none => .stop (some (S.told, S.names ++ [tx (noPar (t.drop (S.at_ + 1)))], S.style))
    | some k =>
      let x := tx (noPar (cut t (S.at_ + 1) k))
      .go { S with told := S.told ++ numF S.names x, names := addN S.names x, at_ := k + 2 }
  else if [sF, sP].any (· == S.style) && (z == 37 && true) then
    if tx be == sg 37 then .go { S with style := sF, told := S.told ++ [37], at_ := S.at_ + 2 }
    else if tx be == sg 115 then .go { S with style := sF, told := S.told ++ 36 :: dig (S.marks + 1), marks := S.marks + 1, at_ := S.at_ + 2 }
    else .stop none
  else .go { S with told := S.told ++ [z], at_ := S.at_ + 1 }

theorem walkStep_lt {t : List Nat} {S S' : WSt} (h : walkStep t S = .go S') : S.at_ < S'.at_ := by
  unfold walkStep at h
  simp only at h
  split at h
  · cases h; assumption
  split at h
  · cases h; simp
  split at h
  · cases h; simp
  split at h
  · cases h; have := nameF_le t (S.at_ + 2); simp only; omega
  split at h
  · split at h
    · cases h
    · cases h; have := psF_le (by assumption); simp only; omega
  split at h
  · split at h
    · cases h; simp
    split at h
    · cases h; simp
    · cases h
  · cases h; simp
structure WInv (S : WSt) : Prop where
  told : S.told.length ≤ 6 * S.at_
  names : S.names.length ≤ S.at_
  marks : S.marks ≤ S.at_
theorem addN_len (ns : List Str) (x : Str) : (addN ns x).length ≤ ns.length + 1 := by
  unfold addN; split
  · omega
  · simp
theorem numF_len {ns : List Str} {x : Str} (h : ns.length ≤ 1000) : (numF ns x).length ≤ 5 := by
  have h1 := addN_len ns x
  have : (addN ns x).idxOf x ≤ (addN ns x).length := List.idxOf_le_length
  have := dig_len ((addN ns x).idxOf x + 1) (by omega)
  simp [numF]; omega
theorem walkStep_inv {t : List Nat} {S S' : WSt} (hl : t.length ≤ 1000) (ha : S.at_ < t.length) (I : WInv S) (h : walkStep t S = .go S') : WInv S' := by
  obtain ⟨i1, i2, i3⟩ := I
  have hd := dig_len (S.marks + 1) (by omega)
  unfold walkStep at h
  simp only at h
  generalize dig (S.marks + 1) = dd at h hd
  split at h
  · cases h; have := cut_len t S.at_ (regF t S.at_ (cut t (S.at_ - 1) S.at_)); exact ⟨by simp; omega, by simp; omega, by simp; omega⟩
  split at h
  · cases h; exact ⟨by simp; omega, by simp; omega, by simp; omega⟩
  split at h
  · cases h; exact ⟨by simp; omega, by simp; omega, by simp; omega⟩
  split at h
  · cases h
    have h1 := nameF_le t (S.at_ + 2)
    have h2 := numF_len (ns := S.names) (x := tx (cut t (S.at_ + 1) (nameF t (S.at_ + 2)))) (by omega)
    have h3 := addN_len S.names (tx (cut t (S.at_ + 1) (nameF t (S.at_ + 2))))
    exact ⟨by simp; omega, by simp; omega, by simp; omega⟩
  split at h
  · split at h
    · cases h
    · cases h
      rename_i k hk
      have h1 := psF_le hk
      have h2 := numF_len (ns := S.names) (x := tx (noPar (cut t (S.at_ + 1) k))) (by omega)
      have h3 := addN_len S.names (tx (noPar (cut t (S.at_ + 1) k)))
      exact ⟨by simp; omega, by simp; omega, by simp; omega⟩
  split at h
  · split at h
    · cases h; exact ⟨by simp; omega, by simp; omega, by simp; omega⟩
    split at h
    · cases h; exact ⟨by simp; omega, by simp; omega, by simp; omega⟩
    · cases h
  · cases h; exact ⟨by simp; omega, by simp; omega, by simp; omega⟩

def walkF (t : List Nat) (S : WSt) : WRes :=
  if h : S.at_ < t.length then (match hs : walkStep t S with | .go S' => walkF t S' | .stop r => r) else some (S.told, S.names, S.style)
termination_by t.length - S.at_
decreasing_by have := walkStep_lt hs; omega
theorem walkF_go {t : List Nat} {S S' : WSt} (h : S.at_ < t.length) (hs : walkStep t S = .go S') : walkF t S = walkF t S' := by
  rw [walkF, dif_pos h]; split
  · rename_i e; rw [hs] at e; cases e; rfl
  · rename_i e; rw [hs] at e; cases e
theorem walkF_stop {t : List Nat} {S : WSt} {r : WRes} (h : S.at_ < t.length) (hs : walkStep t S = .stop r) : walkF t S = r := by
  rw [walkF, dif_pos h]; split
  · rename_i e; rw [hs] at e; cases e
  · rename_i e; rw [hs] at e; cases e; rfl
theorem walkF_end {t : List Nat} {S : WSt} (h : ¬ S.at_ < t.length) : walkF t S = some (S.told, S.names, S.style) := by
  rw [walkF, dif_neg h]
theorem rep_join (c : Nat) : ∀ parts : List Str, (∀ p ∈ parts, c ∉ p.cps.toList) → (Str.join ⟨#[c]⟩ parts).cps.toList.filter (· != c) = (Str.join ⟨#[]⟩ parts).cps.toList
  | [], _ => rfl
  | [p], h => by
    show p.cps.toList.filter _ = p.cps.toList
    rw [List.filter_eq_self]
    intro a ha
    have := h p (List.mem_singleton.mpr rfl)
    simp only [bne_iff_ne]
    exact fun e => this (e ▸ ha)
  | p :: q :: r, h => by
    have ih := rep_join c (q :: r) fun a ha => h a (List.mem_cons_of_mem _ ha)
    show (p ++ ⟨#[c]⟩ ++ Str.join ⟨#[c]⟩ (q :: r)).cps.toList.filter _ = (p ++ ⟨#[]⟩ ++ Str.join ⟨#[]⟩ (q :: r)).cps.toList
    simp only [Str.cps_append, Array.toList_append]
    rw [List.filter_append, List.filter_append, ih]
    have h1 : p.cps.toList.filter (· != c) = p.cps.toList := by
      rw [List.filter_eq_self]
      intro a ha
      have := h p (List.mem_cons_self ..)
      simp only [bne_iff_ne]
      exact fun e => this (e ▸ ha)
    rw [h1]
    show p.cps.toList ++ List.filter _ [c] ++ _ = _
    simp
theorem rep_drop (l : List Nat) (c : Nat) : Txt.replace (tx l) ⟨#[c]⟩ ⟨#[]⟩ = tx (l.filter (· != c)) := by
  have : (Txt.replace (tx l) ⟨#[c]⟩ ⟨#[]⟩).cps.toList = l.filter (· != c) := by
    rw [StrLaws.replace_one, ← rep_join c _ (StrLaws.split_free (tx l) c), StrLaws.join_split]; rfl
  rw [← this]; rfl
theorem rep_par (l : List Nat) : Txt.replace (Txt.replace (tx l) ⟨#[40]⟩ ⟨#[]⟩) ⟨#[41]⟩ ⟨#[]⟩ = tx (noPar l) := by
  rw [rep_drop, rep_drop, List.filter_filter]
  congr 1
  apply List.filter_congr
  intro a _
  rw [Bool.and_comm]
end Mine
end
section
open PySem.Calls
set_option maxHeartbeats 4000000
namespace Mine

local macro_rules | `(tactic| walk_at "my has") => `(tactic| with_reducible (repeat (first | exact Has.here | apply Has.there)))
local macro_rules | `(tactic| walk_at "my put") => `(tactic| with_reducible (repeat (first | exact Put.here | apply Put.there)))
local macro_rules | `(tactic| walk_at "my lit") => `(tactic| with_reducible (first | exact lit_sq | exact lit_dq | exact lit_E | exact lit_bs | exact lit_mi | exact lit_dl | exact lit_co | exact lit_eq | exact lit_qm | exact lit_pc | exact lit_lp | exact lit_rp | exact lit_s | exact lit_us | exact lit_nl | exact lit_ce | exact lit_ps | exact lit_rs | exact lit_em | exact rfl))
local macro_rules | `(tactic| walk_at "my op") => `(tactic| with_reducible (first | exact op_eq_int | exact op_ne_int | exact op_lt_int | exact op_gt_int | exact op_le_int | exact op_eq_str | exact op_ne_str | exact op_in_str | exact op_notin_str | exact op_eq_none_str | exact op_ne_none_str | exact op_ne_bool | exact op_is_none | exact op_is_none_str | exact op_add_int | exact op_iadd_int | exact op_sub_int | exact op_eq_opt | exact op_ne_opt | exact op_none_opt))
local macro_rules | `(tactic| walk_at "my nu") => `(tactic| first | (intro h; cases h; done) | exact PVo_ne _)
local macro_rules | `(tactic| walk_at "my ev") => `(tactic| first
  | with_reducible exact ev_int | ((with_reducible refine' ev_str ?h1); (case h1 => walk_at "my lit")) | with_reducible exact ev_none | with_reducible exact ev_bool
  | ((with_reducible refine' ev_nm ?k1 ?h1 ?u1); (case k1 => assumption); (case h1 => walk_at "my has"; done); (case u1 => walk_at "my nu"))
  | with_reducible refine' ev_bin ?_ ?_ ?_ | ((with_reducible refine' ev_cmp ?_ ?_ ?_ ?m1); (case m1 => exact rfl)) | ((with_reducible refine' tr_cmp ?_ ?_ ?_ ?m1); (case m1 => exact rfl)) | with_reducible refine' tr_not ?_ | with_reducible refine' tr_op ?_
  | with_reducible refine' tra_and ?_ ?_ | with_reducible exact tra_and_nil | with_reducible refine' tra_or ?_ ?_ | with_reducible exact tra_or_nil
  | with_reducible refine' ev_neg ?_
  | walk_at "my op" | ((with_reducible refine' evl_cons1 ?_ ?_ ?m1); (case m1 => exact rfl)) | with_reducible refine' evl_nil ?_ | (guard_target =~ (_ = _ → _); intro _))
local macro_rules | `(tactic| walk_at "my evs") => `(tactic| repeat' (walk_at "my ev"))
local macro_rules | `(tactic| walk_at "my blt") => `(tactic| first | exact ev_globB (by assumption) (by kernel_rfl) boot_len (by decide +kernel) (by kernel_rfl) (by decide +kernel) | exact ev_globB (by assumption) (by kernel_rfl) boot_str (by decide +kernel) (by kernel_rfl) (by decide +kernel) | exact ev_globB (by assumption) (by kernel_rfl) boot_range (by decide +kernel) (by kernel_rfl) (by decide +kernel))
local macro_rules | `(tactic| walk_at "my fn") => `(tactic| exact ev_glob (by assumption) (by kernel_rfl) (by kernel_rfl) (by decide +kernel))
local macro_rules | `(tactic| walk_at "my puts") => `(tactic| (repeat (apply Puts.cons; (focus (walk_at "my put"; done)))); exact Puts.nil)
local macro_rules | `(tactic| walk_at "my nils") => `(tactic| repeat (first | with_reducible refine seq_nil ?_ | with_reducible refine wx_nil ?_))
local macro_rules | `(tactic| walk_at "my nnils") => `(tactic| repeat (first | with_reducible refine seqn_nil ?_ | with_reducible refine wxn_nil ?_))
local macro_rules | `(tactic| walk_at "my meth") => `(tactic| (apply ev_of_x; first | with_reducible apply evx_meth1 | with_reducible apply evx_meth0 | apply evx_meth1 | apply evx_meth0))

def GTup (K : Frag) (l : Addr) (ss : List Str) : Prop := ∃ o us n, (∀ h, K.In h → h.get? l = some o) ∧ o.cls = .type "tuple" ∧ o.data = .seq us.toArray n ∧ StrsAre us ss
theorem gt_naming (P : Params) : GTup (Mine.hd.heap_39 P) 115 naming := ⟨_, _, _, fun h X => X 115 _ rfl, rfl, rfl, .cons _ _ (.cons _ _ (.cons _ _ (.cons _ _ (.cons _ _ (.cons _ _ .nil)))))⟩
section
variable {prog : Program} {w : World} {K : Frag} {p : Program} {loose : List Str} {mg mb : Str → Option Value} {c : Cf} {lo : Lo} {ob ob' : Ob} {X : EPost} {Φ : Post} {pos : Pos}
theorem op_in_g (G : Gt K p loose mg mb c) {l : Addr} {ss : List Str} {x : Str} (ht : GTup K l ss) : Op prog w c lo ob (compareOp .In) (.str x) (.val (.ref l)) (.val (.bool (ss.any (· == x)))) := fun ua ub s Q E ha hb R q => by
  obtain ⟨t, rfl⟩ := ha; cases hb
  obtain ⟨o, us, n, h1, h2, h3, h4⟩ := ht
  obtain ⟨m, F, _⟩ := R.fr
  exact in_tuple_strs ⟨_, F.keep _ _ (h1 _ G.X), h2, n, h3⟩ h4 (q _ _ rfl R.1)
theorem ev_ahead {value lo1 up : Expr} {i : Nat} {sp : Pos} {t : List Nat} (hv : Ev prog w c lo ob value (.str (tx t))) (hi : Ev prog w c lo ob lo1 (.int ((i : Int) - 1))) (hj : Ev prog w c lo ob up (.int i)) (hx : t.length ≤ 2 ^ 24) :
    Ev prog w c lo ob (.Subscript value (.Slice (some lo1) (some up) none sp) pos) (.str (tx (cut t (i - 1) i))) := by
  cases i with
  | zero => exact ev_slice_ss hv hi hj (by rw [tx_len]; exact hx) (slice_m1 t)
  | succ i => exact ev_cut hv hi hj hx (by omega) rfl
end
section
variable {prog : Program} {w : World} {K : Frag} {p : Program} {loose : List Str} {mg mb : Str → Option Value} {c : Cf} {lo : Lo} {ob ob' : Ob} {X : EPost} {Φ : Post} {pos : Pos}
theorem Wk.refl : ∀ l : Lo, Wk l l
  | [] => .nil
  | _ :: r => .same (Wk.refl r)
theorem ws_weak {st : Stmt} {lo' : Lo} (a : Wk lo lo') (b : List.Sublist ob' ob) (h : WS prog w c lo' ob' X st Φ) : WS prog w c lo ob X st Φ := fun s Q E R q x pe => h _ _ _ ⟨R.1.weak a b, R.tk⟩ q x pe
theorem op_add_tx {a b : List Nat} (h : a.length + b.length ≤ 2 ^ 24) : Op prog w c lo ob (binaryOp .Add) (.str (tx a)) (.str (tx b)) (.str (tx (a ++ b))) := by
  rw [← tx_app]; exact op_add_str (by rw [tx_len, tx_len]; exact h)
theorem ev_par {e : Expr} {q : List Nat} {a1 a2 p1 p2 p3 p4 pos1 : Pos} {k1 k2 k3 k4 : Nat} {s1 s2 s3 s4 : Str} {pl1 pl2 : Sem Bool} (h : Ev prog w c lo ob e (.str (tx q))) (hq : q.length ≤ 1000) (h1 : s1 = ⟨#[40]⟩) (h2 : s2 = ⟨#[]⟩) (h3 : s3 = ⟨#[41]⟩) (h4 : s4 = ⟨#[]⟩)
    (hc1 : eval (.Call (.Attribute e (Str.ofString "replace") a1) [.Constant (.str s1) k1 p1, .Constant (.str s2) k2 p2] [] pos1) c.env = (do
      let ov ← eval e c.env
      standAt a1.atName
      let (f, first) ← holding [ov] (getMethod ov (Str.ofString "replace") pl1)
      callWith pos1 f first (backTo pos1 (starEach [.Constant (.str s1) k1 p1, .Constant (.str s2) k2 p2] c.env)) []))
    (hc2 : eval (.Call (.Attribute (.Call (.Attribute e (Str.ofString "replace") a1) [.Constant (.str s1) k1 p1, .Constant (.str s2) k2 p2] [] pos1) (Str.ofString "replace") a2) [.Constant (.str s3) k3 p3, .Constant (.str s4) k4 p4] [] pos) c.env = (do
      let ov ← eval (.Call (.Attribute e (Str.ofString "replace") a1) [.Constant (.str s1) k1 p1, .Constant (.str s2) k2 p2] [] pos1) c.env
      standAt a2.atName
      let (f, first) ← holding [ov] (getMethod ov (Str.ofString "replace") pl2)
      callWith pos f first (backTo pos (starEach [.Constant (.str s3) k3 p3, .Constant (.str s4) k4 p4] c.env)) [])) :
    Ev prog w c lo ob (.Call (.Attribute (.Call (.Attribute e (Str.ofString "replace") a1) [.Constant (.str s1) k1 p1, .Constant (.str s2) k2 p2] [] pos1) (Str.ofString "replace") a2) [.Constant (.str s3) k3 p3, .Constant (.str s4) k4 p4] [] pos) (.str (tx (noPar q))) := by
  subst h1 h2 h3 h4
  refine ev_replace (ev_replace h (by decide) ?_ rfl hc1) (by decide) ?_ (rep_par q) hc2
  · rw [tx_len]; show _ + _ * 0 ≤ _; omega
  · rw [rep_drop, tx_len]
    have := List.length_filter_le (· != 40) q
    show _ + _ * 0 ≤ _; omega
theorem ev_strn {f a : Expr} {n : Nat} {i : Int} (hf : Ev prog w c lo ob f (.val (.type "str"))) (h : Ev prog w c lo ob a (.int i)) (hi : i = n) (hn : n < 2 ^ 59)
    (hc : eval (.Call f [a] [] pos) c.env = (do callWith pos (← eval f c.env) [] (backTo pos (starEach [a] c.env)) (backToKw pos (keywordEach [] c.env))))
    (he : starEach [a] c.env = (false, eval a c.env) :: starEach [] c.env) (hp : (backTo pos (starEach [] c.env)).any (·.1) = false) : Ev prog w c lo ob (.Call f [a] [] pos) (.str (tx (dig n))) := by
  subst hi
  exact ev_of_x (evx_callT hf (evl_cons1 h (evl_nil (cl_str_int (by omega) ⟨rfl, rfl⟩)) he) hc he hp)
end
section
variable {prog : Program} {w : World} {p : Program} {loose : List Str} {mg mb : Str → Option Value} {c : Cf} {lo : Lo} {ob ob' : Ob}
abbrev wst (t : List Nat) (nl : Addr) (S : WSt) (a b d e : PV) : Lo := [(Str.ofString "style", .str S.style), (Str.ofString "text", .str (tx t)), (Str.ofString "told", .str (tx S.told)), (Str.ofString "names", .val (.ref nl)), (Str.ofString "marks", .int S.marks), (Str.ofString "at", .int S.at_), (Str.ofString "sign", a), (Str.ofString "ahead", b), (Str.ofString "behind", d), (Str.ofString "end", e)]
def NmO (nl : Addr) (ns : List Str) (ob : Ob) : Ob := (nl, SeqO "list" (ns.map .str)) :: ob
theorem wst_wk (t : List Nat) (nl : Addr) (S : WSt) (a b d e : PV) : Wk (wst t nl S a b d e) (wst t nl S .un .un .un .un) := .same (.same (.same (.same (.same (.same (.un (.un (.un (.un .nil)))))))))

theorem unp {xs : List Str} {vs : List PV} {lo lo' : Lo} {F : Lo → Prop} (h1 : xs.length = vs.length) (h2 : vs.length ≤ 100) (P : Puts (xs.reverse.zip vs.reverse) lo lo') (h : F lo') : xs.length = vs.length ∧ vs.length ≤ 100 ∧ ∃ lo', Puts (xs.reverse.zip vs.reverse) lo lo' ∧ F lo' := ⟨h1, h2, _, P, h⟩

theorem unp0 {xs : List Str} {vs : List PV} {lo lo' : Lo} {F : Lo → Prop} (h1 : xs.length = vs.length) (h2 : vs.length ≤ 100) (P : Puts (xs.zip vs) lo lo') (h : F lo') : xs.length = vs.length ∧ vs.length ≤ 100 ∧ ∃ lo', Puts (xs.zip vs) lo lo' ∧ F lo' := ⟨h1, h2, _, P, h⟩

/-- how a walk's answer is told -/
def WRet (Φ : PV → Ob → Prop) (ob : Ob) : WRes → Prop
  | none => ∃ ob', List.Sublist ob ob' ∧ Φ (.val .none) ob
  | some (told, ns, sty) => ∀ a nl, Φ (.val (.ref a)) ((a, SeqO "tuple" [.str (tx told), .val (.ref nl), .str sty]) :: NmO nl ns ob)

theorem cl_walk (G : Gt (Mine.hd.heap_39 w.params) p loose mg mb c) (hroom : c.A.depth + 2 < recursionLimit) {t : List Nat} {sty : Str} (hx : t.length ≤ 1000) {Φ : PV → Ob → Prop}
    (hN : walkF t ⟨sty, [], [], 0, 0⟩ = none → Φ (.val .none) ob)
    (hS : ∀ told ns st, walkF t ⟨sty, [], [], 0, 0⟩ = some (told, ns, st) → ∀ a nl, Φ (.val (.ref a)) ((a, SeqO "tuple" [.str (tx told), .val (.ref nl), .str st]) :: NmO nl ns ob)) :
    Cl prog w c lo ob (.ref 165) [.str sty, .str (tx t)] Φ := by
  refine cl_fn (names := nm_walk) (others := ot_walk) G (fn_walk w.params) (nc_walk _) (by omega) (args2 (bind_walk _)) nd_walk rfl (lc_walk _) fun L gg G' => ?_
  have K' := G'.kind
  have hh : (fnCf c (fdOf w.params 165) 165 L gg).A.handled = none := G'.hand
  have hroom' : (fnCf c (fdOf w.params 165) 165 L gg).A.depth + 1 < recursionLimit := room1 (k := 1) (fd := fdOf w.params 165) (a := 165) (L := L) (g := gg) hroom
  have hl : (tx t).length < 2 ^ 30 := by rw [tx_len]; omega
  generalize hw : walkF t ⟨sty, [], [], 0, 0⟩ = r at hN hS
  have key : ∀ nl n S, t.length - S.at_ = n → WInv S → walkF t S = r → Wl prog w (fnCf c (fdOf w.params 165) 165 L gg) (wst t nl S .un .un .un .un) (NmO nl S.names ob) NoX (whTest (bd 21)) (whBody (bd 21)) (fun o lo' ob' => (o = .next ∧ ∃ S, r = some (S.told, S.names, S.style) ∧ lo' = wst t nl S .un .un .un .un ∧ ob' = NmO nl S.names ob) ∨ (∃ v, o = .ret v ∧ Φ v ob')) := by
    intro nl n
    induction n using Nat.strongRecOn with | ind n ih => ?_
    intro S hn I hr
    refine wl_step (b := decide ((S.at_ : Int) < t.length)) ?_ (fun hb => ?_) (fun hb => ?_)
    · apply tr_cmp
      · walk_at "my evs"
      · apply ev_len G'
        · walk_at "my blt"
        · walk_at "my evs"
        · exact hl
        all_goals rfl
      · rw [tx_len]; exact op_lt_int
      · rfl
    · have hlt : S.at_ < t.length := by simpa using hb
      -- what a turn comes to
      have hgo : ∀ S' a b d e, walkStep t S = .go S' → ∀ lo' ob', lo' = wst t nl S' a b d e → ob' = NmO nl S'.names ob → Wl prog w (fnCf c (fdOf w.params 165) 165 L gg) lo' ob' NoX (whTest (bd 21)) (whBody (bd 21)) (fun o lo' ob' => (o = .next ∧ ∃ S, r = some (S.told, S.names, S.style) ∧ lo' = wst t nl S .un .un .un .un ∧ ob' = NmO nl S.names ob) ∨ (∃ v, o = .ret v ∧ Φ v ob')) := by
        rintro S' a b d e hs _ _ rfl rfl
        have h1 := walkStep_lt hs
        refine wl_weak (wst_wk ..) (List.Sublist.refl _) (ih (t.length - S'.at_) (by omega) S' rfl (walkStep_inv hx hlt I hs) ?_)
        rw [← walkF_go hlt hs]; exact hr
      have hstop : ∀ r', walkStep t S = .stop r' → r = r' := fun r' hs => by rw [← hr, walkF_stop hlt hs]
      have hstep := walkStep.eq_def t S
      simp only at hstep
      obtain ⟨style, told, names, marks, at_⟩ := S
      show WX _ _ _ [(_, .str style), (_, .str (tx t)), (_, .str (tx told)), (_, .val (.ref nl)), (_, .int marks), (_, .int at_), (_, .un), (_, .un), (_, .un), (_, .un)] _ _ _ _
      simp only at hlt hstep hgo
      have i1 : told.length ≤ 6 * at_ := I.told
      have i2 : names.length ≤ at_ := I.names
      have i3 : marks ≤ at_ := I.marks
      have hd4 := dig_len (marks + 1) (by omega)
      refine wx_cons ?_
      apply ws_unpackS K' hh (xs := [Str.ofString "sign", Str.ofString "ahead", Str.ofString "behind"])
      · refine evl_cons1 (v := .str (sg (t.getD at_ 0))) ?_ ?_ ?_
        · apply ev_char
          · walk_at "my evs"
          · walk_at "my evs"
          · omega
          · exact getD_get hlt
          · omega
          · intro _ _; rfl
        · refine evl_cons1 (v := .str (tx (cut t (at_ - 1) at_))) ?_ ?_ ?_
          · apply ev_ahead
            · walk_at "my evs"
            · walk_at "my evs"
            · walk_at "my evs"
            · omega
          · refine evl_cons1 (v := .str (tx (cut t (at_ + 1) (at_ + 2)))) ?_ ?_ ?_
            · apply ev_cut
              · walk_at "my evs"
              · walk_at "my evs"
              · walk_at "my evs"
              · omega
              · rfl
              · rfl
            · refine evl_nil ?_
              apply unp
              · rfl
              · exact Nat.le_of_ble_eq_true rfl
              · walk_at "my puts"
              generalize hz : t.getD at_ 0 = z at hstep
              generalize hah : cut t (at_ - 1) at_ = ah at hstep
              generalize hbe : cut t (at_ + 1) (at_ + 2) = be at hstep
              generalize hre : regF t at_ ah = e at hstep
              refine wx_cons ?_
              apply ws_set K' (v := .int e)
              · apply ev_of_x
                apply evx_fn G' (fn_region w.params)
                · walk_at "my fn"
                · walk_at "my evs"
                  refine cl_reg G' hroom' hlt (by omega) ?_
                  rw [hre]; exact ⟨rfl, rfl⟩
                · rfl
                · rfl
              · walk_at "my put"
              refine wx_cons ?_
              refine ws_if (y := decide ((at_ : Int) < e)) ?_ ?_ ?_
              · walk_at "my evs"
              · intro hc
                rw [if_pos (by simpa using hc)] at hstep
                refine wx_cons ?_
                apply ws_unpackS K' hh (xs := [Str.ofString "told", Str.ofString "at"])
                · refine evl_cons1 (v := .str (tx (told ++ cut t at_ e))) ?_ ?_ ?_
                  · apply ev_bin
                    · walk_at "my evs"
                    · apply ev_cut
                      · walk_at "my evs"
                      · walk_at "my evs"
                      · walk_at "my evs"
                      · omega
                      · rfl
                      · rfl
                    · apply op_add_tx
                      have : (cut t at_ e).length ≤ t.length := by simp [cut]; omega
                      omega
                  · walk_at "my evs"
                    apply unp
                    · rfl
                    · exact Nat.le_of_ble_eq_true rfl
                    · walk_at "my puts"
                    walk_at "my nils"
                    exact hgo _ _ _ _ _ hstep _ _ rfl rfl
                  · rfl
                all_goals rfl
              intro hc
              rw [if_neg (by simpa using hc)] at hstep
              refine wx_cons ?_
              refine ws_if (y := style == sQ && (z == 63 && true)) ?_ ?_ ?_
              · rw [← sg_beq]
                walk_at "my evs"
              · intro hc
                rw [if_pos (by simpa using hc)] at hstep
                refine wx_cons ?_
                apply ws_aug K' (Has.mem (by exact .there (.there (.there (.there .here))))) (by intro h; cases h)
                · walk_at "my evs"
                · exact op_iadd_int
                · walk_at "my put"
                refine wx_cons ?_
                apply ws_unpackS K' hh (xs := [Str.ofString "told", Str.ofString "at"])
                · refine evl_cons1 (v := .str (tx (told ++ 36 :: dig (marks + 1)))) ?_ ?_ ?_
                  · rw [show told ++ 36 :: dig (marks + 1) = (told ++ [36]) ++ dig (marks + 1) by simp]
                    apply ev_bin
                    · apply ev_bin
                      · walk_at "my evs"
                      · walk_at "my evs"
                      · refine op_add_tx ?_
                        simp only [List.length_append, List.length_cons, List.length_nil]; omega
                    · apply ev_strn (n := marks + 1)
                      · walk_at "my blt"
                      · walk_at "my evs"
                      · rfl
                      · omega
                      all_goals rfl
                    · refine op_add_tx ?_
                      simp only [List.length_append, List.length_cons, List.length_nil]; omega
                  · walk_at "my evs"
                    apply unp
                    · rfl
                    · exact Nat.le_of_ble_eq_true rfl
                    · walk_at "my puts"
                    walk_at "my nils"
                    exact hgo _ _ _ _ _ hstep _ _ rfl rfl
                  · rfl
                all_goals rfl
              intro hc
              rw [if_neg (by simpa using hc)] at hstep
              -- numeric
              refine wx_cons ?_
              refine ws_if (y := style == sN && (z == 58 && (!([sg 58, sg 61].any (· == tx be)) && ((tx ah != sg 58) && true)))) ?_ ?_ ?_
              · rw [← sg_beq]
                refine tr_op ?_
                apply tra_and
                · walk_at "my evs"
                · intro _
                  apply tra_and
                  · walk_at "my evs"
                  · intro _
                    apply tra_and
                    · apply tr_notin_disp (ss := [sg 58, sg 61])
                      · walk_at "my evs"
                      · walk_at "my evs"
                        exact ⟨rfl, rfl⟩
                      · exact Nat.le_of_ble_eq_true rfl
                    · walk_at "my evs"
              · intro hc
                rw [if_pos hc] at hstep
                refine wx_cons ?_
                apply ws_unpackS K' hh (xs := [Str.ofString "told", Str.ofString "at"])
                · refine evl_cons1 (v := .str (tx (told ++ [36]))) ?_ ?_ ?_
                  · apply ev_bin
                    · walk_at "my evs"
                    · walk_at "my evs"
                    · refine op_add_tx ?_
                      simp only [List.length_append, List.length_cons, List.length_nil]; omega
                  · walk_at "my evs"
                    apply unp
                    · rfl
                    · exact Nat.le_of_ble_eq_true rfl
                    · walk_at "my puts"
                    walk_at "my nils"
                    exact hgo _ _ _ _ _ hstep _ _ rfl rfl
                  · rfl
                all_goals rfl
              intro hc
              rw [if_neg (by rw [hc]; exact Bool.false_ne_true)] at hstep
              -- named
              refine wx_cons ?_
              refine ws_if (y := style == sD && (z == 58 && (!([sg 58, sg 61].any (· == tx be)) && ((tx ah != sg 58) && true)))) ?_ ?_ ?_
              · rw [← sg_beq]
                refine tr_op ?_
                apply tra_and
                · walk_at "my evs"
                · intro _
                  apply tra_and
                  · walk_at "my evs"
                  · intro _
                    apply tra_and
                    · apply tr_notin_disp (ss := [sg 58, sg 61])
                      · walk_at "my evs"
                      · walk_at "my evs"
                        exact ⟨rfl, rfl⟩
                      · exact Nat.le_of_ble_eq_true rfl
                    · walk_at "my evs"
              · intro hc
                rw [if_pos hc] at hstep
                refine wx_cons ?_
                apply ws_set K' (v := .int ((at_ : Int) + 2))
                · walk_at "my evs"
                · walk_at "my put"
                refine wx_cons ?_
                apply ws_while
                refine wl_mono (?_ : Wl _ _ _ (_ :: _ :: _ :: _ :: _ :: _ :: _ :: _ :: _ :: [(_, .int ((at_ + 2 : Nat) : Int))]) _ _ _ _ (fun o lo' ob' => o = .next ∧ ob' = NmO nl names ob ∧ lo' = [(Str.ofString "style", .str style), (Str.ofString "text", .str (tx t)), (Str.ofString "told", .str (tx told)), (Str.ofString "names", .val (.ref nl)), (Str.ofString "marks", .int marks), (Str.ofString "at", .int at_), (Str.ofString "sign", .str (sg z)), (Str.ofString "ahead", .str (tx ah)), (Str.ofString "behind", .str (tx be)), (Str.ofString "end", .int (nameF t (at_ + 2) : Nat))])) ?_
                · generalize at_ + 2 = q
                  generalize hm : t.length - q = m
                  induction m using Nat.strongRecOn generalizing q with | ind m ihm => ?_
                  have hq := nameF.eq_def t q
                  refine wl_step (b := naming.any (· == tx (cut t q (q + 1)))) ?_ (fun hb => ?_) (fun hb => ?_)
                  · apply tr_cmp (b := .val (.ref 115))
                    · apply ev_cut
                      · walk_at "my evs"
                      · walk_at "my evs"
                      · walk_at "my evs"
                      · omega
                      · rfl
                      · rfl
                    · walk_at "my fn"
                    · exact op_in_g G' (gt_naming _)
                    · rfl
                  · have hlq : q < t.length := by
                      simp only [naming, List.any_cons, List.any_nil, Bool.or_false, Bool.or_eq_true, beq_iff_eq] at hb
                      rcases hb with h | h | h | h | h | h <;> exact cut_lt (tx_inj.mp h.symm)
                    rw [dif_pos hlq, if_pos hb] at hq
                    rw [hq]
                    refine wx_cons ?_
                    apply ws_aug K' (Has.mem (by exact .there (.there (.there (.there (.there (.there (.there (.there (.there .here)))))))))) (by intro h; cases h)
                    · walk_at "my evs"
                    · exact op_iadd_int
                    · walk_at "my put"
                    · walk_at "my nils"
                      exact ihm (t.length - (q + 1)) (by omega) (q + 1) rfl
                  · have : nameF t q = q := by
                      rw [hq]
                      split
                      · rw [if_neg (by rw [hb]; exact Bool.false_ne_true)]
                      · rfl
                    rw [this]
                    exact ⟨rfl, rfl, rfl⟩
                · rintro o lo' ob' ⟨rfl, rfl, rfl⟩
                  show WX _ _ _ _ _ _ _ _
                  refine wx_cons ?_
                  apply ws_unpackS K' hh (xs := [Str.ofString "told", Str.ofString "at"])
                  · refine evl_cons ?_ ?_
                    · apply evx_bin
                      · walk_at "my evs"
                      · apply evx_fn G' (fn_number w.params)
                        · walk_at "my fn"
                        · apply evl_cons1
                          · walk_at "my evs"
                          · refine evl_cons1 (v := .str (tx (cut t (at_ + 1) (nameF t (at_ + 2))))) ?_ ?_ ?_
                            · apply ev_cut
                              · walk_at "my evs"
                              · walk_at "my evs"
                              · walk_at "my evs"
                              · omega
                              · rfl
                              · rfl
                            · walk_at "my evs"
                              apply cl_number G' (by omega) (List.Mem.head _) (by omega) Put.here
                              refine ⟨_, op_add_tx ?_, ?_⟩
                              · have := numF_len (ns := names) (x := tx (cut t (at_ + 1) (nameF t (at_ + 2)))) (by omega)
                                omega
                              · walk_at "my evs"
                                apply unp
                                · rfl
                                · exact Nat.le_of_ble_eq_true rfl
                                · walk_at "my puts"
                                walk_at "my nils"
                                exact hgo _ _ _ _ _ hstep _ _ rfl rfl
                            · rfl
                          · rfl
                        · rfl
                        · rfl
                    · rfl
                  all_goals rfl
              intro hc
              rw [if_neg (by rw [hc]; exact Bool.false_ne_true)] at hstep
              -- pyformat
              refine wx_cons ?_
              refine ws_if (y := style == sP && (z == 37 && ((tx be == sg 40) && true))) ?_ ?_ ?_
              · rw [← sg_beq]
                walk_at "my evs"
                all_goals exact op_eq_str
              · intro hc
                rw [if_pos hc] at hstep
                refine wx_cons ?_
                apply ws_set K' (v := .int (Txt.find3 (tx t) ⟨#[41, 115]⟩ ((at_ + 1 : Nat) : Int)))
                · walk_at "my meth"
                  · walk_at "my evs"
                  · exact gm_find
                  · walk_at "my evs"
                    exact cl_find3 ⟨rfl, rfl⟩
                  all_goals rfl
                · walk_at "my put"
                rw [find_ps]
                cases hps : psF t (at_ + 1) with
                | none =>
                  rw [hps] at hstep
                  have hres := hstop _ hstep
                  refine wx_cons ?_
                  refine ws_if (y := true) ?_ ?_ ?_
                  · apply tr_cmp
                    · walk_at "my evs"
                    · walk_at "my evs"
                    · exact op_lt_int
                    · rfl
                  · intro _
                    refine wx_cons ?_
                    apply ws_none
                    · apply evx_meth1
                      · walk_at "my evs"
                      · exact gm_append (List.Mem.head _)
                      · refine evl_cons1 (v := .str (tx (noPar (t.drop (at_ + 1))))) ?_ ?_ ?_
                        · apply ev_par
                          · apply ev_tail
                            · walk_at "my evs"
                            · walk_at "my evs"
                            · omega
                            · rfl
                          · simp only [List.length_drop]; omega
                          · exact lit_lp
                          · exact lit_em
                          · exact lit_rp
                          · exact lit_em
                          all_goals rfl
                        · walk_at "my evs"
                          apply cl_append (List.Mem.head _) (by simp only [List.length_map]; omega) Put.here
                          refine ⟨rfl, ?_⟩
                          show WX _ _ _ _ _ _ _ _
                          refine wx_cons ?_
                          refine ws_retx ?_
                          refine evx_tuple ?_
                          walk_at "my evs"
                          refine ⟨Nat.le_of_ble_eq_true rfl, fun a => .inr ⟨_, rfl, ?_⟩⟩
                          have := hS _ _ _ hres a nl
                          rw [NmO, List.map_append] at this
                          exact this
                        · rfl
                      all_goals rfl
                    · rfl
                    · rfl
                  · intro h; cases h
                | some k =>
                  rw [hps] at hstep
                  have hk := psF_le hps
                  refine wx_cons ?_
                  refine ws_if (y := false) ?_ ?_ ?_
                  · apply tr_cmp (a := .int (k : Int)) (b := .int 0)
                    · walk_at "my evs"
                    · walk_at "my evs"
                    · rw [show (Value.bool false) = .bool (decide ((k : Int) < 0)) by rw [decide_eq_false (by omega)]]; exact op_lt_int
                    · rfl
                  · intro h; cases h
                  · intro _
                    apply wx_nil
                    show WX _ _ _ _ _ _ _ _
                    refine wx_cons ?_
                    apply ws_unpackS K' hh (xs := [Str.ofString "told", Str.ofString "at"])
                    · refine evl_cons ?_ ?_
                      · apply evx_bin
                        · walk_at "my evs"
                        · apply evx_fn G' (fn_number w.params)
                          · walk_at "my fn"
                          · apply evl_cons1
                            · walk_at "my evs"
                            · refine evl_cons1 (v := .str (tx (noPar (cut t (at_ + 1) k)))) ?_ ?_ ?_
                              · apply ev_par
                                · apply ev_cut
                                  · walk_at "my evs"
                                  · walk_at "my evs"
                                  · walk_at "my evs"
                                  · omega
                                  · rfl
                                  · rfl
                                · have := cut_len t (at_ + 1) k; omega
                                · exact lit_lp
                                · exact lit_em
                                · exact lit_rp
                                · exact lit_em
                                all_goals rfl
                              · walk_at "my evs"
                                apply cl_number (ns := names) G' (by omega) (List.Mem.head _) (by omega) Put.here
                                refine ⟨_, op_add_tx ?_, ?_⟩
                                · have := numF_len (ns := names) (x := tx (noPar (cut t (at_ + 1) k))) (by omega)
                                  omega
                                · walk_at "my evs"
                                  apply unp
                                  · rfl
                                  · exact Nat.le_of_ble_eq_true rfl
                                  · walk_at "my puts"
                                  walk_at "my nils"
                                  exact hgo _ _ _ _ _ hstep _ _ rfl rfl
                              · rfl
                            · rfl
                          · rfl
                          · rfl
                      · rfl
                    all_goals rfl
              intro hc
              rw [if_neg (by rw [hc]; exact Bool.false_ne_true)] at hstep
              -- format
              refine wx_cons ?_
              refine ws_if (y := [sF, sP].any (· == style) && (z == 37 && true)) ?_ ?_ ?_
              · rw [← sg_beq]
                refine tr_op ?_
                apply tra_and
                · apply tr_in_disp (ss := [sF, sP])
                  · walk_at "my evs"
                  · walk_at "my evs"
                    exact ⟨rfl, rfl⟩
                  · exact Nat.le_of_ble_eq_true rfl
                · walk_at "my evs"
              · intro hc
                rw [if_pos hc] at hstep
                refine wx_cons ?_
                apply ws_set K' (v := .str sF)
                · walk_at "my evs"
                · walk_at "my put"
                refine wx_cons ?_
                refine ws_if (y := tx be == sg 37) ?_ ?_ ?_
                · walk_at "my evs"
                  all_goals exact op_eq_str
                · intro hc
                  rw [if_pos hc] at hstep
                  refine wx_cons ?_
                  apply ws_unpackS K' hh (xs := [Str.ofString "told", Str.ofString "at"])
                  · refine evl_cons1 (v := .str (tx (told ++ [37]))) ?_ ?_ ?_
                    · apply ev_bin
                      · walk_at "my evs"
                      · walk_at "my evs"
                      · refine op_add_tx ?_
                        simp only [List.length_append, List.length_cons, List.length_nil]; omega
                    · walk_at "my evs"
                      apply unp
                      · rfl
                      · exact Nat.le_of_ble_eq_true rfl
                      · walk_at "my puts"
                      walk_at "my nils"
                      exact hgo _ _ _ _ _ hstep _ _ rfl rfl
                    · rfl
                  all_goals rfl
                intro hc
                rw [if_neg (by rw [hc]; exact Bool.false_ne_true)] at hstep
                refine wx_cons ?_
                refine ws_if (y := tx be == sg 115) ?_ ?_ ?_
                · walk_at "my evs"
                  all_goals exact op_eq_str
                · intro hc
                  rw [if_pos hc] at hstep
                  refine wx_cons ?_
                  apply ws_aug K' (Has.mem (by exact .there (.there (.there (.there .here))))) (by intro h; cases h)
                  · walk_at "my evs"
                  · exact op_iadd_int
                  · walk_at "my put"
                  refine wx_cons ?_
                  apply ws_unpackS K' hh (xs := [Str.ofString "told", Str.ofString "at"])
                  · refine evl_cons1 (v := .str (tx (told ++ 36 :: dig (marks + 1)))) ?_ ?_ ?_
                    · rw [show told ++ 36 :: dig (marks + 1) = (told ++ [36]) ++ dig (marks + 1) by simp]
                      apply ev_bin
                      · apply ev_bin
                        · walk_at "my evs"
                        · walk_at "my evs"
                        · refine op_add_tx ?_
                          simp only [List.length_append, List.length_cons, List.length_nil]; omega
                      · apply ev_strn (n := marks + 1)
                        · walk_at "my blt"
                        · walk_at "my evs"
                        · rfl
                        · omega
                        all_goals rfl
                      · refine op_add_tx ?_
                        simp only [List.length_append, List.length_cons, List.length_nil]; omega
                    · walk_at "my evs"
                      apply unp
                      · rfl
                      · exact Nat.le_of_ble_eq_true rfl
                      · walk_at "my puts"
                      walk_at "my nils"
                      exact hgo _ _ _ _ _ hstep _ _ rfl rfl
                    · rfl
                  all_goals rfl
                intro hc
                rw [if_neg (by rw [hc]; exact Bool.false_ne_true)] at hstep
                refine wx_cons ?_
                apply ws_weak (Wk.refl _) (List.sublist_cons_self ..)
                apply ws_ret (v := .val .none)
                · walk_at "my evs"
                · exact .inr ⟨_, rfl, hN (hstop _ hstep)⟩
              intro hc
              rw [if_neg (by rw [hc]; exact Bool.false_ne_true)] at hstep
              -- a plain sign
              refine wx_cons ?_
              apply ws_unpackS K' hh (xs := [Str.ofString "told", Str.ofString "at"])
              · refine evl_cons1 (v := .str (tx (told ++ [z]))) ?_ ?_ ?_
                · apply ev_bin
                  · walk_at "my evs"
                  · walk_at "my evs"
                  · refine op_add_tx ?_
                    simp only [List.length_append, List.length_cons, List.length_nil]; omega
                · walk_at "my evs"
                  apply unp
                  · rfl
                  · exact Nat.le_of_ble_eq_true rfl
                  · walk_at "my puts"
                  walk_at "my nils"
                  exact hgo _ _ _ _ _ hstep _ _ rfl rfl
                · rfl
              all_goals rfl
            · rfl
          · rfl
        · rfl
      all_goals rfl
    · refine .inl ⟨rfl, S, ?_, rfl, rfl⟩
      rw [← hr]
      exact walkF_end (by simpa using hb)
  show WX _ _ _ [(_, .str sty), (_, .str (tx t)), (_, .un), (_, .un), (_, .un), (_, .un), (_, .un), (_, .un), (_, .un), (_, .un)] _ _ _ _
  refine wx_cons ?_
  apply ws_unpack K' hh (xs := [Str.ofString "told", Str.ofString "names", Str.ofString "marks", Str.ofString "at"])
  · exact .cons (.cons (.cons (.cons .nil)))
  · rfl
  · rfl
  · refine evl_cons1 (v := .str ⟨#[]⟩) ?_ ?_ ?_
    · walk_at "my evs"
    · refine evl_cons ?_ ?_
      · refine evx_list ?_
        refine evl_nil ?_
        refine ⟨Nat.le_of_ble_eq_true rfl, fun nl => ?_⟩
        walk_at "my evs"
        apply unp0
        · rfl
        · exact Nat.le_of_ble_eq_true rfl
        · walk_at "my puts"
        show WX _ _ _ _ _ _ _ _
        refine wx_cons ?_
        apply ws_while
        refine wl_mono (key nl _ ⟨sty, [], [], 0, 0⟩ rfl ⟨by simp, by simp, by simp⟩ hw) ?_
        rintro o lo' ob' (⟨rfl, S, hS', rfl, rfl⟩ | ⟨v, rfl, h⟩)
        · show WX _ _ _ [(_, .str S.style), (_, .str (tx t)), (_, .str (tx S.told)), (_, .val (.ref nl)), (_, .int S.marks), (_, .int S.at_), (_, .un), (_, .un), (_, .un), (_, .un)] _ _ _ _
          refine wx_cons ?_
          refine ws_retx ?_
          refine evx_tuple ?_
          walk_at "my evs"
          exact ⟨Nat.le_of_ble_eq_true rfl, fun a => hS _ _ _ hS' a nl⟩
        · exact h
      · rfl
    · rfl
  all_goals rfl
end
end Mine
end
section
open PySem.Calls
set_option maxHeartbeats 4000000
namespace Mine

local macro_rules | `(tactic| walk_at "my has") => `(tactic| with_reducible (repeat (first | exact Has.here | apply Has.there)))
local macro_rules | `(tactic| walk_at "my put") => `(tactic| with_reducible (repeat (first | exact Put.here | apply Put.there)))
local macro_rules | `(tactic| walk_at "my lit") => `(tactic| with_reducible (first | exact lit_sq | exact lit_dq | exact lit_E | exact lit_bs | exact lit_mi | exact lit_dl | exact lit_co | exact lit_eq | exact lit_qm | exact lit_pc | exact lit_lp | exact lit_rp | exact lit_s | exact lit_us | exact lit_nl | exact lit_ce | exact lit_ps | exact lit_rs | exact lit_em | exact rfl))
local macro_rules | `(tactic| walk_at "my op") => `(tactic| with_reducible (first | exact op_eq_int | exact op_ne_int | exact op_lt_int | exact op_gt_int | exact op_le_int | exact op_eq_str | exact op_ne_str | exact op_in_str | exact op_notin_str | exact op_eq_none_str | exact op_ne_none_str | exact op_ne_bool | exact op_is_none | exact op_is_none_str | exact op_add_int | exact op_iadd_int | exact op_sub_int | exact op_eq_opt | exact op_ne_opt | exact op_none_opt))
local macro_rules | `(tactic| walk_at "my nu") => `(tactic| first | (intro h; cases h; done) | exact PVo_ne _)
local macro_rules | `(tactic| walk_at "my ev") => `(tactic| first
  | with_reducible exact ev_int | ((with_reducible refine' ev_str ?h1); (case h1 => walk_at "my lit")) | with_reducible exact ev_none | with_reducible exact ev_bool
  | ((with_reducible refine' ev_nm ?k1 ?h1 ?u1); (case k1 => assumption); (case h1 => walk_at "my has"; done); (case u1 => walk_at "my nu"))
  | with_reducible refine' ev_bin ?_ ?_ ?_ | ((with_reducible refine' ev_cmp ?_ ?_ ?_ ?m1); (case m1 => exact rfl)) | ((with_reducible refine' tr_cmp ?_ ?_ ?_ ?m1); (case m1 => exact rfl)) | with_reducible refine' tr_not ?_ | with_reducible refine' tr_op ?_
  | with_reducible refine' tra_and ?_ ?_ | with_reducible exact tra_and_nil | with_reducible refine' tra_or ?_ ?_ | with_reducible exact tra_or_nil
  | with_reducible refine' ev_neg ?_
  | walk_at "my op" | ((with_reducible refine' evl_cons1 ?_ ?_ ?m1); (case m1 => exact rfl)) | with_reducible refine' evl_nil ?_ | (guard_target =~ (_ = _ → _); intro _))
local macro_rules | `(tactic| walk_at "my evs") => `(tactic| repeat' (walk_at "my ev"))
local macro_rules | `(tactic| walk_at "my blt") => `(tactic| first | exact ev_globB (by assumption) (by kernel_rfl) boot_len (by decide +kernel) (by kernel_rfl) (by decide +kernel) | exact ev_globB (by assumption) (by kernel_rfl) boot_str (by decide +kernel) (by kernel_rfl) (by decide +kernel) | exact ev_globB (by assumption) (by kernel_rfl) boot_range (by decide +kernel) (by kernel_rfl) (by decide +kernel))
local macro_rules | `(tactic| walk_at "my fn") => `(tactic| exact ev_glob (by assumption) (by kernel_rfl) (by kernel_rfl) (by decide +kernel))
local macro_rules | `(tactic| walk_at "my puts") => `(tactic| (repeat (apply Puts.cons; (focus (walk_at "my put"; done)))); exact Puts.nil)
local macro_rules | `(tactic| walk_at "my nils") => `(tactic| repeat (first | with_reducible refine seq_nil ?_ | with_reducible refine wx_nil ?_))
local macro_rules | `(tactic| walk_at "my nnils") => `(tactic| repeat (first | with_reducible refine seqn_nil ?_ | with_reducible refine wxn_nil ?_))
local macro_rules | `(tactic| walk_at "my meth") => `(tactic| (apply ev_of_x; first | with_reducible apply evx_meth1 | with_reducible apply evx_meth0 | apply evx_meth1 | apply evx_meth0))

section
variable {prog : Program} {w : World} {K : Frag} {p : Program} {loose : List Str} {mg mb : Str → Option Value} {c : Cf} {lo : Lo} {ob : Ob} {pos : Pos} {x : Str}

/-- a call of a def without cells, told of any surroundings that have the frame on top -/
theorem code_fn (G : Gt K p loose mg mb c) {A' : Around} {a : Addr} {fd : FuncData} {body : List Stmt} {vs : List PV} {names others : List Str} {Φ : PV → Ob → Prop} {us0 us : List Value} {s : Shared} {R : Result → Shared → Prop} (F : Fn0 K a fd body) (nocell : ∀ x ∈ fd.scope.names, x.2 ≠ .cell)
    (hfr : A'.frames = c.A.frames) (hhd : A'.handled = none) (hroom : A'.depth < recursionLimit)
    (hbind : BindsTo s fd ⟨us0, []⟩ (names.zip us)) (hnd : (names ++ others).Nodup) (hlen : names.length = vs.length) (hloc : ∀ y ∈ names ++ others, fd.scope.names.lookup y = some .local ∧ (y == ("__debug__" : Str)) = false)
    (H : ∀ L g, Gt K p loose mg mb (fnCf ⟨A', c.env, c.h₀, c.os⟩ fd a L g) → WX prog w (fnCf ⟨A', c.env, c.h₀, c.os⟩ fd a L g) (names.zip vs ++ others.map fun y => (y, .un)) ob NoX body (RetΦ Φ))
    (hu : All2 PV.is vs us) (R0 : Rep c lo ob s) (q : ∀ v u ob' s', Φ v ob' → v.is u → Rep0 c lo ob' s' → R (.ok (.ret u)) s') : codeAny (model prog w) A' (.call (.ref a) ⟨us0, []⟩) R s := by
  obtain ⟨A₀, base, outer, B, hA⟩ := G.bel
  obtain ⟨m, Fr0, hlo⟩ := R0.fr
  obtain ⟨nx, N, kn, rn⟩ := R0.obs.news
  obtain ⟨o, ho, hd⟩ := gt_fn F G.X
  have hX := G.X
  have hcode : (c.h₀).CodeRec fd.code fd.qualname := codeRec_of G.X F.code
  obtain ⟨name, qual, params, fbody, scope, globals, closure, defaults, kwdefaults, doc, pyModule, annotations, code, closureTuple, builtins⟩ := fd
  obtain ⟨h1, h2, h3, h4, h5, h6, h7, h8, h9⟩ := F
  simp only at h2 h3 h4 h5 h6 h7 h8 h9
  subst h2 h3 h4 h5
  have hul := hu.length
  have nmap : (names.zip us).map (·.1) = names := by
    rw [List.map_fst_zip]; omega
  have hm : ∀ y ∈ names.zip us, scope.names.lookup y.1 = some .local := fun y hy => by
    refine (hloc y.1 (List.mem_append_left _ ?_)).1
    rw [← nmap]; exact List.mem_map.mpr ⟨y, hy, rfl⟩
  have nd1 : names.Nodup := (List.nodup_append.mp hnd).1
  have keys : (names.zip vs ++ others.map fun y => (y, PV.un)).map (·.1) = names ++ others := by
    rw [List.map_append, List.map_map, List.map_fst_zip (by omega)]
    simp [Function.comp_def]
  refine callX_plain B Fr0 N G.T.nolimit (hfr.trans hA) G.frame G.kind (Fr0.keep _ _ ho) hd (hcode.keeps Fr0.keep) hroom hbind hm (fun g L' h₁ FG F' N' B' st _ => ?_) nocell h8 h9 h7
  have Gc : Gt K p loose mg mb ⟨A'.deeper (envX qual scope L' a code []), envX qual scope L' a code [], g, c.os⟩ :=
    ⟨fun b ob e => st _ _ (hX b ob e), G.T.keeps st, hhd, h7, rfl, rfl, rfl, ⟨_, _, _, B', by show (A'.deeper _).frames = _; rw [Around.frames_deeper (hfr.trans hA)]⟩⟩
  have R' : Rep ⟨A'.deeper (envX qual scope L' a code []), envX qual scope L' a code [], g, c.os⟩ (names.zip vs ++ others.map fun y => (y, .un)) ob { s with heap := h₁, toks := s.toks + (names.zip us).length } := by
    refine ⟨⟨⟨_, F', fun q hq => ?_⟩, ?_, ?_, fun q hq => ?_, R0.os, R0.gens⟩, ?_⟩
    · rcases List.mem_append.mp hq with hq | hq
      · obtain ⟨i, hi, e⟩ := List.mem_iff_getElem.mp hq
        have hi' : i < names.length ∧ i < vs.length := by
          rw [List.length_zip] at hi; omega
        rw [List.getElem_zip] at e
        subst e
        obtain ⟨u, hu1, hu2⟩ := hu.get (i := i) (a := vs[i]) (List.getElem?_eq_getElem _)
        have hi2 : i < us.length := by omega
        have lk : (names.zip us).reverse.lookup names[i] = some u := by
          refine lookup_mem ?_ ?_
          · rw [List.map_reverse, nmap]; exact List.pairwise_reverse.mpr (nd1.imp Ne.symm)
          · refine List.mem_reverse.mpr (List.mem_iff_getElem.mpr ⟨i, by rw [List.length_zip]; omega, ?_⟩)
            rw [List.getElem_zip]
            rw [List.getElem?_eq_getElem hi2] at hu1
            rw [Option.some.inj hu1]
        show vs[i].at ((names.zip us).reverse.lookup names[i])
        rw [lk]; exact PV.at_of hu2
      · obtain ⟨y, _, rfl⟩ := List.mem_map.mp hq
        trivial
    · exact Obs.of_news R0.obs.1 N' rn
    · rw [keys]; exact hnd
    · have : q.1 ∈ names ++ others := by rw [← keys]; exact List.mem_map.mpr ⟨q, hq, rfl⟩
      exact hloc _ this
    · have := R0.tk; show 1 ≤ s.toks + _; omega
  refine wpAny_mono ((H _ _ Gc).use (E := fun _ _ => False) (Q := fun fl s' => LeaveK c.h₀ c.env.locals m g R (match fl with | .ret v => v | _ => .none) s') R' (fun o f lo' ob' s' hΦ hf R'' => ?_) (fun e s' x => x.elim) PassesOwn.never) (fun _ _ x => x) (fun _ _ x => x.elim)
  have fin : ∀ (v : PV) (u : Value), Φ v ob' → v.is u → LeaveK c.h₀ c.env.locals m g R u s' := fun v u hv hvu => by
    obtain ⟨m2, F2, _⟩ := R''.fr
    obtain ⟨nx2, N2, kn2, rn2⟩ := R''.obs.news
    refine leaveK_ F2 N2 fun F3 N3 => ?_
    exact q v u ob' s' hv hvu ⟨⟨m, F3, hlo⟩, Obs.of_news R''.obs.1 N3 rn2, R0.nd, R0.loc, R''.os, R''.gens⟩
  cases o with
  | next => cases hf; exact fin _ _ hΦ rfl
  | cont => exact hΦ.elim
  | brk => exact hΦ.elim
  | ret v => obtain ⟨u, rfl, hu2⟩ := hf; exact fin v u hΦ hu2

/-- a cell -/
def CellO (v : PV) : OP := fun o => ∃ u, o.data = .cell (some u) ∧ v.is u
theorem ev_cell (K : c.env.scope.kind = .function) {cell : Addr} {v : PV} (hc : c.env.cells.lookup x = some cell) (hm : (cell, CellO v) ∈ ob) (hx : c.env.kindOf x = some .cell) (hd : (x == ("__debug__" : Str)) = false) : Ev prog w c lo ob (.Name x pos) v := fun s Q E R q => by
  obtain ⟨o, h1, u, h2, h3⟩ := R.1.get hm
  exact wpAny_Name (wpAny_loadName_cell K hx hc ⟨o, h1, h2⟩ (q _ _ h3 R.1)) hd
theorem ev_free (K : c.env.scope.kind = .function) {cell : Addr} {v : PV} (hc : c.env.cells.lookup x = some cell) (hm : (cell, CellO v) ∈ ob) (hx : c.env.kindOf x = some .free) (hd : (x == ("__debug__" : Str)) = false) (hn : (x == ("__classdict__" : Str)) = false) : Ev prog w c lo ob (.Name x pos) v := fun s Q E R q => by
  obtain ⟨o, h1, u, h2, h3⟩ := R.1.get hm
  exact wpAny_Name (wpAny_loadName_free K hx hc ⟨o, h1, h2⟩ (q _ _ h3 R.1) hn) hd

/-- an object that stands joins the ledger -/
theorem Rep0.reg {s : Shared} (R : Rep0 c lo ob s) {a : Addr} {o : Obj} {P : OP} (ho : s.heap.get? a = some o) (hP : P o) (hf : a ∉ ob.map (·.1) ∧ a ≠ c.env.locals ∧ c.h₀.get? a = none) : Rep0 c lo ((a, P) :: ob) s :=
  ⟨R.fr, ⟨List.nodup_cons.mpr ⟨hf.1, R.obs.1⟩, fun p hp => by
    rcases List.mem_cons.mp hp with rfl | hp
    · exact ⟨o, ho, hf.2.1, hf.2.2, hP⟩
    · exact R.obs.2 p hp⟩, R.nd, R.loc, R.os, R.gens⟩

-- a lambda
def TabO (ps : Array Value) : OP := fun o => o = tabObj ps
def CodeO (qual : Str) : OP := fun o => ∃ vs t, o.data = .fields vs ∧ vs[1]? = some (.str qual t)
def LamO (qual : Str) (params : Arguments) (body : Expr) (scope : Scope) (c' : Addr) : OP := fun o => ∃ pm ct, o = kla_obj "<lambda>" qual params body scope [] pm c' ct

theorem builtinsAt {mean : ExcName → Option Value} (T : Top p loose mean mg mb c.h₀) {P : Addr} {ps : Array Value} {s : Shared} {m : Str → Option Value} (F : Fr c.h₀ c.env.locals s.heap m) (hP : s.heap.get? P = some (tabObj ps)) : mainGlobals ≠ P ∧ s.heap.BuiltinsAt mg P := by
  have hgs := T.g.keeps F.keep
  obtain ⟨bm, ob, b1, b2, b3, b4, b5, b6⟩ := T.bmain
  have hgP : mainGlobals ≠ P := fun q => by
    obtain ⟨o, es, ep, e, hd, _⟩ := hgs
    rw [q, hP] at e; cases e; cases hd
  have hbP : bm ≠ P := fun q => by
    have e := F.keep _ _ b3
    rw [q, hP] at e; cases e; cases b4
  have hbG : bm ≠ mainGlobals := fun q => by
    obtain ⟨o, es, ep, e, hd, _⟩ := T.g
    rw [q, e] at b3; cases b3; rw [hd] at b6; cases b6
  exact ⟨hgP, bm, ob, b1, b2, hbG, hbP, F.keep _ _ b3, b4, b5, b6⟩

theorem evx_lam {mean : ExcName → Option Value} (G : Gt K p loose mg mb c) (T : Top p loose mean mg mb c.h₀) {cc P : Addr} (C : CodeHd c.h₀ cc P) (hcd : c.env.code = .ref cc) {ps : Array Value} (hm : (P, TabO ps) ∈ ob) (ht : TriplesOk ps.toList) (hnf : codeAmong pos ps.toList = none)
    {params : Arguments} {body : Expr} {scope : Scope} (hdef : defaultsOf params c.env = ([], [])) (hcl : closureFor scope c.env = pure []) {ob' : Addr → Ob} (U : ∀ c', Put P (TabO (ps ++ #[rawInt pos.line, rawInt pos.col, .ref c'])) ob (ob' c'))
    {Φ : PV → Ob → Prop} (hΦ : ∀ f c', Φ (.val (.ref f)) ((f, LamO (c.env.qual ++ "<lambda>") params body scope c') :: (c', CodeO (c.env.qual ++ "<lambda>")) :: ob' c')) : EvX prog w c lo ob (.Lambda params body scope pos) Φ := fun s Q E R q => by
  obtain ⟨m, F, hlo⟩ := R.fr
  obtain ⟨o, ho, rfl⟩ := R.1.get hm
  obtain ⟨hgP, hb⟩ := builtinsAt T F ho
  refine kla_eval hdef (kla_makeFunction (mg := mg) hcl G.glob (G.T.g.keeps F.keep) hcd (C.keeps F.keep) ho ht hnf hgP hb fun c' ctv h' tk hx hge hlt hrec htb => ?_)
  obtain ⟨c₂, oc, vs, t, e2, hoc, hd, hv⟩ := hrec
  cases e2
  have R1 : Rep0 c lo (ob' c') { s with heap := h', toks := tk } := R.1.upd (U c') (fun b o hb e => hx b o hb e) htb rfl tk
  have hn : s.heap.get? c' = none := Heap.get?_none_of_le hge
  have hfr := Obs.fresh F R.obs hn
  rw [← (U c').keys] at hfr
  have R2 := R1.reg (P := CodeO (c.env.qual ++ "<lambda>")) hoc ⟨vs, t, hd, hv⟩ hfr
  have R3 := R2.new (a := h'.objs.size) (o := kla_obj "<lambda>" (c.env.qual ++ "<lambda>") params body scope [] ((mg "__name__").getD .none) c' ctv) (P := LamO (c.env.qual ++ "<lambda>") params body scope c') (h' := h'.push _) (by show h'.get? _ = none; simp [Heap.get?]) (fun b o e => Heap.get?_push_of_some _ e) (Heap.get?_push_size _ rfl) ⟨_, _, rfl⟩ tk
  exact q _ _ _ _ (hΦ _ _) rfl R3
theorem evx_lam_hit {mean : ExcName → Option Value} (G : Gt K p loose mg mb c) (T : Top p loose mean mg mb c.h₀) {cc P c' : Addr} (C : CodeHd c.h₀ cc P) (hcd : c.env.code = .ref cc) {ps : Array Value} (hm : (P, TabO ps) ∈ ob) (ht : TriplesOk ps.toList) (hf : codeAmong pos ps.toList = some (.ref c'))
    {params : Arguments} {body : Expr} {scope : Scope} (hdef : defaultsOf params c.env = ([], [])) (hcl : closureFor scope c.env = pure [])
    {Φ : PV → Ob → Prop} (hΦ : ∀ f, Φ (.val (.ref f)) ((f, LamO (c.env.qual ++ "<lambda>") params body scope c') :: ob)) : EvX prog w c lo ob (.Lambda params body scope pos) Φ := fun s Q E R q => by
  obtain ⟨m, F, hlo⟩ := R.fr
  obtain ⟨o, ho, rfl⟩ := R.1.get hm
  obtain ⟨hgP, hb⟩ := builtinsAt T F ho
  refine kla_eval hdef (kla_makeFunctionHit (mg := mg) hcl G.glob (G.T.g.keeps F.keep) hcd (C.keeps F.keep) ho ht hf hb fun ctv h' tk hk hsz => ?_)
  have R1 := R.1.ext hk tk
  have R3 := R1.new (a := h'.objs.size) (o := kla_obj "<lambda>" (c.env.qual ++ "<lambda>") params body scope [] ((mg "__name__").getD .none) c' ctv) (P := LamO (c.env.qual ++ "<lambda>") params body scope c') (h' := h'.push _) (by show h'.get? _ = none; simp [Heap.get?]) (fun b o e => Heap.get?_push_of_some _ e) (Heap.get?_push_size _ rfl) ⟨_, _, rfl⟩ tk
  exact q _ _ _ _ (hΦ _) rfl R3

theorem code_lam (G : Gt K p loose mg mb c) {mean : ExcName → Option Value} (TT : Top p loose mean mg mb c.h₀) {A' : Around} {f c' : Addr} {qual : Str} {params : Arguments} {body : Expr} {scope : Scope} {vs : List PV} {names : List Str} {Φ : PV → Ob → Prop} {us : List Value} {s : Shared} {R : Result → Shared → Prop}
    (hm : (f, LamO qual params body scope c') ∈ ob) (hcm : (c', CodeO qual) ∈ ob) (nocell : ∀ x ∈ scope.names, x.2 ≠ .cell)
    (hfr : A'.frames = c.A.frames) (hhd : A'.handled = none) (hroom : A'.depth < recursionLimit)
    (hbind : ∀ pm ct, bindArgs (kla_fn "<lambda>" qual params body scope [] pm (.ref c') ct) ⟨us, []⟩ = pure (names.zip us)) (hnd : names.Nodup) (hlen : names.length = vs.length) (hloc : ∀ y ∈ names, scope.names.lookup y = some .local ∧ (y == ("__debug__" : Str)) = false)
    (hco : scope.isCoroutine = false) (hgen : scope.isGenerator = false) (hk : scope.kind = .function)
    (H : ∀ L g, Gt K p loose mg mb ⟨A'.deeper (envX qual scope L f (.ref c') []), envX qual scope L f (.ref c') [], g, c.os⟩ → EvX prog w ⟨A'.deeper (envX qual scope L f (.ref c') []), envX qual scope L f (.ref c') [], g, c.os⟩ (names.zip vs) ob body Φ)
    (hu : All2 PV.is vs us) (R0 : Rep c lo ob s) (q : ∀ v u ob' s', Φ v ob' → v.is u → Rep0 c lo ob' s' → R (.ok (.ret u)) s') : codeAny (model prog w) A' (.call (.ref f) ⟨us, []⟩) R s := by
  obtain ⟨A₀, base, outer, B, hA⟩ := G.bel
  obtain ⟨m, Fr0, hlo⟩ := R0.fr
  obtain ⟨nx, N, kn, rn⟩ := R0.obs.news
  obtain ⟨o, ho, pm, ct, rfl⟩ := rn _ hm
  obtain ⟨oc, hoc, vv, t, hd1, hd2⟩ := rn _ hcm
  have hul := hu.length
  have nmap : (names.zip us).map (·.1) = names := by
    rw [List.map_fst_zip]; omega
  have hmn : ∀ y ∈ names.zip us, scope.names.lookup y.1 = some .local := fun y hy => by
    refine (hloc y.1 ?_).1
    rw [← nmap]; exact List.mem_map.mpr ⟨y, hy, rfl⟩
  have keys : (names.zip vs).map (·.1) = names := by rw [List.map_fst_zip (by omega)]
  refine kla_code B Fr0 G.X N TT (hfr.trans hA) G.frame G.kind ho ⟨c', oc, vv, t, rfl, (N _ hoc).1, hd1, hd2⟩ hroom (hbind pm ct) hmn (fun g L' h₁ FG F' N' B' X' T' => ?_) hco hgen hk nocell
  have Gc : Gt K p loose mg mb ⟨A'.deeper (envX qual scope L' f (.ref c') []), envX qual scope L' f (.ref c') [], g, c.os⟩ :=
    ⟨X', topRead_of T', hhd, hk, rfl, rfl, rfl, ⟨_, _, _, B', by show (A'.deeper _).frames = _; rw [Around.frames_deeper (hfr.trans hA)]⟩⟩
  have R' : Rep ⟨A'.deeper (envX qual scope L' f (.ref c') []), envX qual scope L' f (.ref c') [], g, c.os⟩ (names.zip vs) ob { s with heap := h₁, toks := s.toks + (names.zip us).length } := by
    refine ⟨⟨⟨_, F', fun q hq => ?_⟩, ?_, ?_, fun q hq => ?_, R0.os, R0.gens⟩, ?_⟩
    · obtain ⟨i, hi, e⟩ := List.mem_iff_getElem.mp hq
      have hi' : i < names.length ∧ i < vs.length := by
        rw [List.length_zip] at hi; omega
      rw [List.getElem_zip] at e
      subst e
      obtain ⟨u, hu1, hu2⟩ := hu.get (i := i) (a := vs[i]) (List.getElem?_eq_getElem _)
      have hi2 : i < us.length := by omega
      have lk : (names.zip us).reverse.lookup names[i] = some u := by
        refine lookup_mem ?_ ?_
        · rw [List.map_reverse, nmap]; exact List.pairwise_reverse.mpr (hnd.imp Ne.symm)
        · refine List.mem_reverse.mpr (List.mem_iff_getElem.mpr ⟨i, by rw [List.length_zip]; omega, ?_⟩)
          rw [List.getElem_zip]
          rw [List.getElem?_eq_getElem hi2] at hu1
          rw [Option.some.inj hu1]
      show vs[i].at ((names.zip us).reverse.lookup names[i])
      rw [lk]; exact PV.at_of hu2
    · exact Obs.of_news R0.obs.1 N' rn
    · rw [keys]; exact hnd
    · have : q.1 ∈ names := by rw [← keys]; exact List.mem_map.mpr ⟨q, hq, rfl⟩
      exact hloc _ this
    · have := R0.tk; show 1 ≤ s.toks + _; omega
  refine wpAny_mono ((H _ _ Gc).use (E := fun _ _ => False) R' (fun v u ob' s' hΦ hv R'' => ?_)) (fun _ _ x => x) (fun _ _ x => x.elim)
  obtain ⟨m2, F2, _⟩ := R''.fr
  obtain ⟨nx2, N2, kn2, rn2⟩ := R''.obs.news
  refine leaveK_ F2 N2 fun F3 N3 => ?_
  exact q v u ob' s' hΦ hv ⟨⟨m, F3, hlo⟩, Obs.of_news R''.obs.1 N3 rn2, R0.nd, R0.loc, R''.os, R''.gens⟩
end
end Mine
end
section
open PySem.Calls
set_option maxHeartbeats 4000000
namespace Mine

local macro_rules | `(tactic| walk_at "my has") => `(tactic| with_reducible (repeat (first | exact Has.here | apply Has.there)))
local macro_rules | `(tactic| walk_at "my put") => `(tactic| with_reducible (repeat (first | exact Put.here | apply Put.there)))
local macro_rules | `(tactic| walk_at "my lit") => `(tactic| with_reducible (first | exact lit_sq | exact lit_dq | exact lit_E | exact lit_bs | exact lit_mi | exact lit_dl | exact lit_co | exact lit_eq | exact lit_qm | exact lit_pc | exact lit_lp | exact lit_rp | exact lit_s | exact lit_us | exact lit_nl | exact lit_ce | exact lit_ps | exact lit_rs | exact lit_em | exact rfl))
local macro_rules | `(tactic| walk_at "my op") => `(tactic| with_reducible (first | exact op_eq_int | exact op_ne_int | exact op_lt_int | exact op_gt_int | exact op_le_int | exact op_eq_str | exact op_ne_str | exact op_in_str | exact op_notin_str | exact op_eq_none_str | exact op_ne_none_str | exact op_ne_bool | exact op_is_none | exact op_is_none_str | exact op_add_int | exact op_iadd_int | exact op_sub_int | exact op_eq_opt | exact op_ne_opt | exact op_none_opt))
local macro_rules | `(tactic| walk_at "my nu") => `(tactic| first | (intro h; cases h; done) | exact PVo_ne _)
local macro_rules | `(tactic| walk_at "my ev") => `(tactic| first
  | with_reducible exact ev_int | ((with_reducible refine' ev_str ?h1); (case h1 => walk_at "my lit")) | with_reducible exact ev_none | with_reducible exact ev_bool
  | ((with_reducible refine' ev_nm ?k1 ?h1 ?u1); (case k1 => assumption); (case h1 => walk_at "my has"; done); (case u1 => walk_at "my nu"))
  | with_reducible refine' ev_bin ?_ ?_ ?_ | ((with_reducible refine' ev_cmp ?_ ?_ ?_ ?m1); (case m1 => exact rfl)) | ((with_reducible refine' tr_cmp ?_ ?_ ?_ ?m1); (case m1 => exact rfl)) | with_reducible refine' tr_not ?_ | with_reducible refine' tr_op ?_
  | with_reducible refine' tra_and ?_ ?_ | with_reducible exact tra_and_nil | with_reducible refine' tra_or ?_ ?_ | with_reducible exact tra_or_nil
  | with_reducible refine' ev_neg ?_
  | walk_at "my op" | ((with_reducible refine' evl_cons1 ?_ ?_ ?m1); (case m1 => exact rfl)) | with_reducible refine' evl_nil ?_ | (guard_target =~ (_ = _ → _); intro _))
local macro_rules | `(tactic| walk_at "my evs") => `(tactic| repeat' (walk_at "my ev"))
local macro_rules | `(tactic| walk_at "my blt") => `(tactic| first | exact ev_globB (by assumption) (by kernel_rfl) boot_len (by decide +kernel) (by kernel_rfl) (by decide +kernel) | exact ev_globB (by assumption) (by kernel_rfl) boot_str (by decide +kernel) (by kernel_rfl) (by decide +kernel) | exact ev_globB (by assumption) (by kernel_rfl) boot_range (by decide +kernel) (by kernel_rfl) (by decide +kernel))
local macro_rules | `(tactic| walk_at "my fn") => `(tactic| exact ev_glob (by assumption) (by kernel_rfl) (by kernel_rfl) (by decide +kernel))
local macro_rules | `(tactic| walk_at "my puts") => `(tactic| (repeat (apply Puts.cons; (focus (walk_at "my put"; done)))); exact Puts.nil)
local macro_rules | `(tactic| walk_at "my nils") => `(tactic| repeat (first | with_reducible refine seq_nil ?_ | with_reducible refine wx_nil ?_))
local macro_rules | `(tactic| walk_at "my nnils") => `(tactic| repeat (first | with_reducible refine seqn_nil ?_ | with_reducible refine wxn_nil ?_))
local macro_rules | `(tactic| walk_at "my meth") => `(tactic| (apply ev_of_x; first | with_reducible apply evx_meth1 | with_reducible apply evx_meth0 | apply evx_meth1 | apply evx_meth0))

def cBody : Stmt → List Stmt
  | .ClassDef _ _ _ b _ _ _ _ _ _ _ => b
  | _ => []
def cst (i : Nat) : Stmt := (cBody (stAt 8)).getD i (.Pass ⟨0, 0, 0, 0⟩)
theorem fn_init (P : Params) : Fn0 (Mine.hd.heap_39 P) 76 (fdOf P 76) (stBody (cst 1)) := ⟨⟨_, _, _, rfl⟩, rfl, rfl, rfl, rfl, by kernel_rfl, rfl, rfl, rfl⟩
theorem fn_iter (P : Params) : Fn0 (Mine.hd.heap_39 P) 83 (fdOf P 83) (stBody (cst 2)) := ⟨⟨_, _, _, rfl⟩, rfl, rfl, rfl, rfl, by kernel_rfl, rfl, rfl, rfl⟩
theorem fn_cnext (P : Params) : Fn0 (Mine.hd.heap_39 P) 90 (fdOf P 90) (stBody (cst 3)) := ⟨⟨_, _, _, rfl⟩, rfl, rfl, rfl, rfl, by kernel_rfl, rfl, rfl, rfl⟩
theorem sc_init (P : Params) : (fdOf P 76).scope = stScope (cst 1) := rfl
theorem sc_iter (P : Params) : (fdOf P 83).scope = stScope (cst 2) := rfl
theorem sc_cnext (P : Params) : (fdOf P 90).scope = stScope (cst 3) := rfl
abbrev nm_init : List Str := [Str.ofString "self", Str.ofString "start", Str.ofString "step"]
abbrev ot_init : List Str := [Str.ofString "k_start", Str.ofString "k_step", Str.ofString "fast"]
abbrev nm_iter : List Str := [Str.ofString "self"]
abbrev ot_iter : List Str := []
abbrev nm_cnext : List Str := [Str.ofString "self"]
abbrev ot_cnext : List Str := [Str.ofString "value"]
theorem nc_init (P : Params) : ∀ x ∈ (fdOf P 76).scope.names, x.2 ≠ .cell := by rw [sc_init]; decide +kernel
theorem nc_iter (P : Params) : ∀ x ∈ (fdOf P 83).scope.names, x.2 ≠ .cell := by rw [sc_iter]; decide +kernel
theorem nc_cnext (P : Params) : ∀ x ∈ (fdOf P 90).scope.names, x.2 ≠ .cell := by rw [sc_cnext]; decide +kernel
theorem nd_init : (nm_init ++ ot_init).Nodup := by decide +kernel
theorem nd_iter : (nm_iter ++ ot_iter).Nodup := by decide +kernel
theorem nd_cnext : (nm_cnext ++ ot_cnext).Nodup := by decide +kernel
theorem lc_init (P : Params) : ∀ y ∈ nm_init ++ ot_init, (fdOf P 76).scope.names.lookup y = some .local ∧ (y == ("__debug__" : Str)) = false := by rw [sc_init]; decide +kernel
theorem lc_iter (P : Params) : ∀ y ∈ nm_iter ++ ot_iter, (fdOf P 83).scope.names.lookup y = some .local ∧ (y == ("__debug__" : Str)) = false := by rw [sc_iter]; decide +kernel
theorem lc_cnext (P : Params) : ∀ y ∈ nm_cnext ++ ot_cnext, (fdOf P 90).scope.names.lookup y = some .local ∧ (y == ("__debug__" : Str)) = false := by rw [sc_cnext]; decide +kernel
theorem bind_iter (P : Params) (v0 : Value) : bindArgs (fdOf P 83) ⟨[v0], []⟩ = pure [(Str.ofString "self", v0)] := by kernel_rfl
theorem bind_cnext (P : Params) (v0 : Value) : bindArgs (fdOf P 90) ⟨[v0], []⟩ = pure [(Str.ofString "self", v0)] := by kernel_rfl
theorem bind_init (P : Params) (s : Shared) (v0 v1 : Value) (X : (hd.heap_39 P).In s.heap) : BindsTo s (fdOf P 76) ⟨[v0, v1], []⟩ (nm_init.zip [v0, v1, .int 1 269]) := by
  have e : (hd.heap_39 P).lookup 69 = some ⟨_, _, .seq #[Value.int 0 268, Value.int 1 269] _, _⟩ := rfl
  exact @BindsTo.of_defaults _ _ _ _ 69 _ _ _ _ rfl (X _ _ e) rfl rfl rfl
theorem make_cnt (P : Params) : makesIn (hd.heap_39 P) 101 = true := by kernel_rfl

section
variable {prog : Program} {w : World} {K : Frag} {p : Program} {loose : List Str} {mg mb : Str → Option Value} {c : Cf} {lo : Lo} {ob : Ob} {pos : Pos} {x : Str} {X : EPost} {Φ : Post}
theorem cl_type_int {i : Int} {Φ : PV → Ob → Prop} (hΦ : Φ (.val (.type "int")) ob) : Cl prog w c lo ob (.type "type") [.int i] Φ := fun us s Q E hu R q => by
  cases hu with | cons h1 hs => cases hs; obtain ⟨t, rfl⟩ := h1; exact call_type_of (typeIs_int _ _ _) (by decide) (q _ _ _ _ hΦ rfl R.1)
theorem op_is_self {v : Value} (h : plainIs v v = true) : Op prog w c lo ob (compareOp .Is) (.val v) (.val v) (.val (.bool true)) := fun ua ub s Q E ha hb R q => by
  cases ha; cases hb; exact wpAny_is_self h (q _ _ rfl R.1)
theorem ev_toInt {e : Expr} {i : Int} {t : Tok} (h : Ev prog w c lo ob e (.val (.int i t))) : Ev prog w c lo ob e (.int i) := fun s Q E R q => h s Q E R fun u s' hu R' => q u s' ⟨t, hu⟩ R'
theorem ev_and {e1 e2 : Expr} {rest : List Expr} {v : PV} (h : Ev prog w c lo ob e1 (.val (.bool true))) (h2 : Ev prog w c lo ob (.BoolOp .And (e2 :: rest) pos) v) : Ev prog w c lo ob (.BoolOp .And (e1 :: e2 :: rest) pos) v := fun s Q E R q =>
  BoolOp_and (h.use R fun u s₁ hu R₁ => by cases hu; exact wpAny_truthy_bool (h2 _ _ _ R₁ q))
theorem ev_and1 {e1 : Expr} {v : PV} (h : Ev prog w c lo ob e1 v) : Ev prog w c lo ob (.BoolOp .And [e1] pos) v := fun s Q E R q => BoolOp_one (h s Q E R q)

/-- the exact news behind the ledger, with one object free to change -/
theorem Rep0.upnews {s : Shared} (R : Rep0 c lo ob s) {x : Addr} {P : OP} (hm : (x, P) ∈ ob) : ∃ m nx ox, Fr c.h₀ c.env.locals s.heap m ∧ News c.h₀ c.env.locals s.heap nx ∧ s.heap.get? x = some ox ∧ P ox ∧ (x, ox) ∈ nx ∧
    ∀ ox' P' ob', P' ox' → Put x P' ob ob' → ∃ nx', Upd x ox ox' nx nx' ∧ ∀ s', Fr c.h₀ c.env.locals s'.heap m → News c.h₀ c.env.locals s'.heap nx' → s'.os = s.os → s'.gens = s.gens → Rep0 c lo ob' s' := by
  obtain ⟨m, F, hlo⟩ := R.fr
  obtain ⟨nx, N, kn, rn⟩ := R.obs.news
  obtain ⟨ox, hox, hP⟩ := rn _ hm
  have nd : (nx.map (·.1)).Nodup := kn ▸ R.obs.1
  refine ⟨m, nx, ox, F, N, (N _ hox).1, hP, hox, fun ox' P' ob' hP' U => ?_⟩
  have key : ∀ l : List (Addr × Obj), (l.map (·.1)).Nodup → (x, ox) ∈ l → ∃ l', Upd x ox ox' l l' ∧ (x, ox') ∈ l' ∧ ∀ q ∈ l, q.1 ≠ x → q ∈ l' := by
    intro l
    induction l with
    | nil => intro _ h; cases h
    | cons q r ih =>
      intro nd h
      have n1 := List.nodup_cons.mp nd
      by_cases hq : q.1 = x
      · have : q = (x, ox) := by
          rcases List.mem_cons.mp h with h | h
          · exact h.symm
          · exact absurd (List.mem_map.mpr ⟨_, h, hq.symm⟩) n1.1
        subst this
        refine ⟨_, .head fun q hq' e => n1.1 (List.mem_map.mpr ⟨q, hq', e⟩), .head _, fun q' hq' hne => ?_⟩
        rcases List.mem_cons.mp hq' with rfl | hq'
        · exact absurd rfl hne
        · exact .tail _ hq'
      · obtain ⟨l', a, b, d⟩ := ih n1.2 (by
          rcases List.mem_cons.mp h with h | h
          · exact absurd (congrArg Prod.fst h).symm hq
          · exact h)
        refine ⟨_, .tail hq a, .tail _ b, fun q' hq' hne => ?_⟩
        rcases List.mem_cons.mp hq' with rfl | hq'
        · exact .head _
        · exact .tail _ (d _ hq' hne)
  obtain ⟨nx', a, b, d⟩ := key nx nd hox
  refine ⟨nx', a, fun s' F' N' e1 e2 => ⟨⟨m, F', hlo⟩, Obs.of_news (U.keys ▸ R.obs.1) N' fun q hq => ?_, R.nd, R.loc, e1.trans R.os, e2 ▸ R.gens⟩⟩
  rcases U.mem R.obs.1 hq with rfl | ⟨hq, hne⟩
  · exact ⟨ox', b, hP'⟩
  · obtain ⟨o, h1, h2⟩ := rn _ hq
    exact ⟨o, d _ h1 hne, h2⟩

/-- an object of a class with slots and its dict that no one sees -/
def InstO (C dx : Addr) (P : Array (Option Value) → Prop) : OP := fun o => ∃ sl, o = { instObj C dx with slots := sl } ∧ P sl
def EmpO : OP := fun o => o = emptyDict
theorem instAt {s : Shared} (R : Rep0 c lo ob s) {x dx C : Addr} {P : Array (Option Value) → Prop} {ox : Obj} (hx : s.heap.get? x = some ox) (hP : InstO C dx P ox) (hd : (dx, EmpO) ∈ ob) : InstAt s.heap x ox C (some emptyDict) := by
  obtain ⟨sl, rfl, _⟩ := hP
  obtain ⟨o, h1, rfl⟩ := R.get hd
  exact ⟨hx, rfl, rfl, h1⟩

theorem ev_slot (G : Gt K p loose mg mb c) {o : Expr} {name : Str} {x dx C pp : Addr} {P : Array (Option Value) → Prop} {i : Nat} {v : PV} (ho : Ev prog w c lo ob o (.val (.ref x))) (hm : (x, InstO C dx P) ∈ ob) (hd : (dx, EmpO) ∈ ob)
    (hg : plainGet K C name = true) (hc : isClsIn K C = true) (ha : findIn K (.ref C) name = some (some (.ref pp))) (hn : specialIn K (.ref pp) "__get__" = some (some (.builtin "member_descriptor.__get__"))) (ht : takesIn K (.ref pp) = some true) (hp : slotIn K pp C = some i)
    (hv : ∀ sl, P sl → ∃ u, (sl[i]?).join = some u ∧ v.is u ∧ handedIn u = true)
    (he : eval (.Attribute o name pos) c.env = (do
      let ov ← eval o c.env
      standAt pos.atName
      let r ← holding [ov] (getAttr ov name true)
      letTemporaryGo o ov r
      pure r)) : Ev prog w c lo ob (.Attribute o name pos) v := fun s Q E R q => by
  refine Attribute_any_ (ho.use R fun ou s₁ hou R₁ => ?_) he
  cases hou
  obtain ⟨m, F, _⟩ := R₁.fr
  obtain ⟨ox, hx, hP⟩ := R₁.1.get hm
  have I := instAt R₁.1 hx hP hd
  obtain ⟨sl, rfl, hPs⟩ := hP
  obtain ⟨u, h1, h2, h3⟩ := hv sl hPs
  exact get_slot F G.X I hg hc ha hn ht hp h1 h3 (q _ _ h2 (R₁.1.toks _))
theorem ws_slot (G : Gt K p loose mg mb c) {o e : Expr} {name : Str} {p' : Pos} {x dx C pp : Addr} {P P' : Array (Option Value) → Prop} {i : Nat} {v : PV} {ob' : Ob} (he : Ev prog w c lo ob e v) (ho : Ev prog w c lo ob o (.val (.ref x))) (hm : (x, InstO C dx P) ∈ ob) (hd : (dx, EmpO) ∈ ob)
    (hs : findIn K (.ref C) "__setattr__" = some (some (.builtin "object.__setattr__"))) (hp : plainOver K C = true) (ht : takerIn K C name = some (some (.ref pp))) (hT : typeIn K (.ref pp) = some (.type "member_descriptor")) (hi : slotIn K pp C = some i) (hz : i < 1000)
    (hv : ∀ sl u, P sl → v.is u → P' ((sl ++ Array.replicate (i + 1 - sl.size) none).setIfInBounds i (some u))) (U : Put x (InstO C dx P') ob ob') (hΦ : Φ .next lo ob')
    (hsw : swapsWith e (some (.Attribute o name p')) pos.line c.env = pure false) : WS prog w c lo ob X (.Assign [.Attribute o name p'] e pos) Φ := fun s Q E R q _ _ => by
  refine plainObj_wpAny_Assign_Attribute (he.use R fun u s₁ hu R₁ => ho.use R₁ fun ou s₂ hou R₂ => ?_) hsw
  cases hou
  obtain ⟨m, nx, ox, F, N, hx, hP, hxn, back⟩ := R₂.1.upnews hm
  have I := instAt R₂.1 hx hP hd
  obtain ⟨sl, rfl, hPs⟩ := hP
  obtain ⟨nx', U', back⟩ := back { instObj C dx with slots := (sl ++ Array.replicate (i + 1 - sl.size) none).setIfInBounds i (some u) } _ _ ⟨_, rfl, hv sl u hPs hu⟩ U
  exact set_slot F G.X N I hs hp ht hT hi hz rfl rfl U' fun h' F' N' => q _ _ _ _ _ hΦ rfl (back _ F' N' rfl rfl)
end

section
variable {prog : Program} {w : World} {p : Program} {loose : List Str} {mg mb : Str → Option Value} {c : Cf} {lo : Lo} {ob ob' : Ob}
theorem cl_kind (G : Gt (Mine.hd.heap_39 w.params) p loose mg mb c) (hroom : c.A.depth < recursionLimit) {i : Int} {Φ : PV → Ob → Prop} (hΦ : Φ (.int 0) ob) : Cl prog w c lo ob (.ref 60) [.int i] Φ := by
  refine cl_fn (names := nm_kind) (others := ot_kind) G (fn_kind w.params) (nc_kind _) hroom (args1 (bind_kind _)) nd_kind rfl (lc_kind _) fun L gg G' => ?_
  have K' := G'.kind
  show WX _ _ _ [(_, _), (_, _)] _ _ _ _
  refine wx_cons ?_
  apply ws_set K' (v := .val (.type "int"))
  · apply ev_of_x
    apply evx_callT
    · exact ev_globB (by assumption) (by kernel_rfl) boot_type (by decide +kernel) (by kernel_rfl) (by decide +kernel)
    · walk_at "my evs"
      exact cl_type_int ⟨rfl, rfl⟩
    all_goals rfl
  · walk_at "my put"
  refine wx_cons ?_
  refine ws_if (y := true || false) ?_ ?_ ?_
  · refine tr_op ?_
    apply tra_or
    · apply tr_cmp (b := .val (.type "int"))
      · walk_at "my evs"
      · exact ev_globB (by assumption) (by kernel_rfl) boot_int (by decide +kernel) (by kernel_rfl) (by decide +kernel)
      · exact op_is_self rfl
      · rfl
    · intro h; cases h
  · intro _
    refine wx_cons ?_
    apply ws_ret
    · walk_at "my evs"
    · exact hΦ
  · intro h; cases h
end
end Mine
end
section
open PySem.Calls
set_option maxHeartbeats 4000000
namespace Mine

local macro_rules | `(tactic| walk_at "my has") => `(tactic| with_reducible (repeat (first | exact Has.here | apply Has.there)))
local macro_rules | `(tactic| walk_at "my put") => `(tactic| with_reducible (repeat (first | exact Put.here | apply Put.there)))
local macro_rules | `(tactic| walk_at "my lit") => `(tactic| with_reducible (first | exact lit_sq | exact lit_dq | exact lit_E | exact lit_bs | exact lit_mi | exact lit_dl | exact lit_co | exact lit_eq | exact lit_qm | exact lit_pc | exact lit_lp | exact lit_rp | exact lit_s | exact lit_us | exact lit_nl | exact lit_ce | exact lit_ps | exact lit_rs | exact lit_em | exact rfl))
local macro_rules | `(tactic| walk_at "my op") => `(tactic| with_reducible (first | exact op_eq_int | exact op_ne_int | exact op_lt_int | exact op_gt_int | exact op_le_int | exact op_eq_str | exact op_ne_str | exact op_in_str | exact op_notin_str | exact op_eq_none_str | exact op_ne_none_str | exact op_ne_bool | exact op_is_none | exact op_is_none_str | exact op_add_int | exact op_iadd_int | exact op_sub_int | exact op_eq_opt | exact op_ne_opt | exact op_none_opt))
local macro_rules | `(tactic| walk_at "my nu") => `(tactic| first | (intro h; cases h; done) | exact PVo_ne _)
local macro_rules | `(tactic| walk_at "my ev") => `(tactic| first
  | with_reducible exact ev_int | ((with_reducible refine' ev_str ?h1); (case h1 => walk_at "my lit")) | with_reducible exact ev_none | with_reducible exact ev_bool
  | ((with_reducible refine' ev_nm ?k1 ?h1 ?u1); (case k1 => assumption); (case h1 => walk_at "my has"; done); (case u1 => walk_at "my nu"))
  | with_reducible refine' ev_bin ?_ ?_ ?_ | ((with_reducible refine' ev_cmp ?_ ?_ ?_ ?m1); (case m1 => exact rfl)) | ((with_reducible refine' tr_cmp ?_ ?_ ?_ ?m1); (case m1 => exact rfl)) | with_reducible refine' tr_not ?_ | with_reducible refine' tr_op ?_
  | with_reducible refine' tra_and ?_ ?_ | with_reducible exact tra_and_nil | with_reducible refine' tra_or ?_ ?_ | with_reducible exact tra_or_nil
  | with_reducible refine' ev_neg ?_
  | walk_at "my op" | ((with_reducible refine' evl_cons1 ?_ ?_ ?m1); (case m1 => exact rfl)) | with_reducible refine' evl_nil ?_ | (guard_target =~ (_ = _ → _); intro _))
local macro_rules | `(tactic| walk_at "my evs") => `(tactic| repeat' (walk_at "my ev"))
local macro_rules | `(tactic| walk_at "my blt") => `(tactic| first | exact ev_globB (by assumption) (by kernel_rfl) boot_len (by decide +kernel) (by kernel_rfl) (by decide +kernel) | exact ev_globB (by assumption) (by kernel_rfl) boot_str (by decide +kernel) (by kernel_rfl) (by decide +kernel) | exact ev_globB (by assumption) (by kernel_rfl) boot_range (by decide +kernel) (by kernel_rfl) (by decide +kernel))
local macro_rules | `(tactic| walk_at "my fn") => `(tactic| exact ev_glob (by assumption) (by kernel_rfl) (by kernel_rfl) (by decide +kernel))
local macro_rules | `(tactic| walk_at "my puts") => `(tactic| (repeat (apply Puts.cons; (focus (walk_at "my put"; done)))); exact Puts.nil)
local macro_rules | `(tactic| walk_at "my nils") => `(tactic| repeat (first | with_reducible refine seq_nil ?_ | with_reducible refine wx_nil ?_))
local macro_rules | `(tactic| walk_at "my nnils") => `(tactic| repeat (first | with_reducible refine seqn_nil ?_ | with_reducible refine wxn_nil ?_))
local macro_rules | `(tactic| walk_at "my meth") => `(tactic| (apply ev_of_x; first | with_reducible apply evx_meth1 | with_reducible apply evx_meth0 | apply evx_meth1 | apply evx_meth0))

theorem sl_cnt (P : Params) : slotIn (hd.heap_39 P) 102 101 = some 0 := by kernel_rfl
theorem sl_fast (P : Params) : slotIn (hd.heap_39 P) 103 101 = some 1 := by kernel_rfl
theorem sl_step (P : Params) : slotIn (hd.heap_39 P) 104 101 = some 2 := by kernel_rfl
theorem tk_cnt (P : Params) : takerIn (hd.heap_39 P) 101 (Str.ofString "_cnt") = some (some (.ref 102)) := by kernel_rfl
theorem tk_fast (P : Params) : takerIn (hd.heap_39 P) 101 (Str.ofString "_fast") = some (some (.ref 103)) := by kernel_rfl
theorem tk_step (P : Params) : takerIn (hd.heap_39 P) 101 (Str.ofString "_step") = some (some (.ref 104)) := by kernel_rfl
theorem po_cnt (P : Params) : plainOver (hd.heap_39 P) 101 = true := by kernel_rfl
theorem sa_cnt (P : Params) : findIn (hd.heap_39 P) (.ref 101) "__setattr__" = some (some (.builtin "object.__setattr__")) := by kernel_rfl
def Sl0 : Array (Option Value) → Prop := fun sl => sl = #[]
def Sl1 : Array (Option Value) → Prop := fun sl => sl = #[none, some (.bool true)]
def Sl2 : Array (Option Value) → Prop := fun sl => ∃ u, (PV.int 1).is u ∧ sl = #[some u, some (.bool true)]
def SlN (n : Int) : Array (Option Value) → Prop := fun sl => ∃ u v, (PV.int n).is u ∧ (PV.int 1).is v ∧ sl = #[some u, some (.bool true), some v]
section
variable {prog : Program} {w : World} {p : Program} {loose : List Str} {mg mb : Str → Option Value} {c : Cf} {lo : Lo} {ob ob' : Ob}
theorem wx_init (G : Gt (Mine.hd.heap_39 w.params) p loose mg mb c) (hroom : c.A.depth < recursionLimit) {x dx : Addr} {r : Ob} (hm : ob = (x, InstO 101 dx Sl0) :: r) (hd : (dx, EmpO) ∈ r) (he : c.env = fnEnv (fdOf w.params 76) c.env.locals 76) :
    WX prog w c [(Str.ofString "self", .val (.ref x)), (Str.ofString "start", .int 1), (Str.ofString "step", .int 1), (Str.ofString "k_start", .un), (Str.ofString "k_step", .un), (Str.ofString "fast", .un)] ob NoX (stBody (cst 1)) (fun o _ ob' => o = .next ∧ ob' = (x, InstO 101 dx (SlN 1)) :: r) := by
  subst hm
  obtain ⟨A, env, h₀, os⟩ := c
  simp only at he
  generalize env.locals = LL at he
  subst he
  have K' := G.kind
  refine wx_cons ?_
  apply ws_set K' (v := .int 0)
  · apply ev_of_x
    apply evx_fn G (fn_kind w.params)
    · walk_at "my fn"
    · walk_at "my evs"
      exact cl_kind G hroom ⟨rfl, rfl⟩
    · rfl
    · rfl
  · walk_at "my put"
  refine wx_cons ?_
  apply ws_set K' (v := .int 0)
  · apply ev_of_x
    apply evx_fn G (fn_kind w.params)
    · walk_at "my fn"
    · walk_at "my evs"
      exact cl_kind G hroom ⟨rfl, rfl⟩
    · rfl
    · rfl
  · walk_at "my put"
  refine wx_cons ?_
  refine ws_if (y := false) ?_ ?_ ?_
  · show Tr _ _ _ _ _ _ (((0 : Int) == 2) || (((0 : Int) == 2) || false))
    walk_at "my evs"
  · intro h; cases h
  intro _
  apply wx_nil
  refine wx_cons ?_
  apply ws_set K' (v := .val (.bool true))
  · apply ev_and
    · show Ev _ _ _ _ _ _ (.val (.bool ((0 : Int) == 0)))
      walk_at "my evs"
    apply ev_and
    · show Ev _ _ _ _ _ _ (.val (.bool ((0 : Int) == 0)))
      walk_at "my evs"
    apply ev_and
    · show Ev _ _ _ _ _ _ (.val (.bool ((1 : Int) == 1)))
      walk_at "my evs"
    apply ev_and
    · show Ev _ _ _ _ _ _ (.val (.bool (decide ((-9223372036854775807 - 1 : Int) ≤ 1))))
      apply ev_cmp
      · apply ev_bin
        · apply ev_neg
          exact ev_toInt (t := 234) (i := 9223372036854775807) (ev_glob G (by kernel_rfl) (by kernel_rfl) (by decide +kernel))
        · walk_at "my evs"
        · exact op_sub_int
      · walk_at "my evs"
      · exact op_le_int
      · rfl
    apply ev_and1
    show Ev _ _ _ _ _ _ (.val (.bool (decide ((1 : Int) ≤ 9223372036854775807))))
    apply ev_cmp
    · walk_at "my evs"
    · exact ev_toInt (t := 234) (i := 9223372036854775807) (ev_glob G (by kernel_rfl) (by kernel_rfl) (by decide +kernel))
    · exact op_le_int
    · rfl
  · walk_at "my put"
  refine wx_cons ?_
  refine ws_if (y := true) ?_ ?_ ?_
  · apply tr_name K'
    exact Has.mem (by walk_at "my has")
  · intro _
    refine wx_cons ?_
    apply ws_set K' (v := .int 1)
    · show Ev _ _ _ _ _ _ (.int (1 + 0))
      walk_at "my evs"
    · walk_at "my put"
    apply wx_nil
    show WX _ _ _ _ _ _ _ _
    refine wx_cons ?_
    apply ws_slot (v := .val (.bool true)) (P' := Sl1) (i := 1) (pp := 103) (dx := dx) (x := x) G
    · walk_at "my evs"
    · walk_at "my evs"
    · exact .head _
    · exact .tail _ hd
    · exact sa_cnt _
    · exact po_cnt _
    · exact tk_fast _
    · rfl
    · exact sl_fast _
    · decide
    · rintro sl u rfl rfl; rfl
    · exact Put.here
    rotate_left
    · rfl
    refine wx_cons ?_
    apply ws_slot (v := .int 1) (P' := Sl2) (i := 0) (pp := 102) (dx := dx) (x := x) G
    · walk_at "my evs"
    · walk_at "my evs"
    · exact .head _
    · exact .tail _ hd
    · exact sa_cnt _
    · exact po_cnt _
    · exact tk_cnt _
    · rfl
    · exact sl_cnt _
    · decide
    · rintro sl u rfl ⟨t, rfl⟩; exact ⟨_, ⟨t, rfl⟩, rfl⟩
    · exact Put.here
    rotate_left
    · rfl
    refine wx_cons ?_
    apply ws_slot (v := .int 1) (P' := SlN 1) (i := 2) (pp := 104) (dx := dx) (x := x) G
    · walk_at "my evs"
    · walk_at "my evs"
    · exact .head _
    · exact .tail _ hd
    · exact sa_cnt _
    · exact po_cnt _
    · exact tk_step _
    · rfl
    · exact sl_step _
    · decide
    · rintro sl u ⟨u0, h0, rfl⟩ ⟨t, rfl⟩; exact ⟨_, _, h0, ⟨t, rfl⟩, rfl⟩
    · exact Put.here
    rotate_left
    · rfl
    apply wx_nil
    exact ⟨rfl, rfl⟩
  · intro h; cases h
end
end Mine
end
section
open PySem.Calls
set_option maxHeartbeats 4000000
namespace Mine

local macro_rules | `(tactic| walk_at "my has") => `(tactic| with_reducible (repeat (first | exact Has.here | apply Has.there)))
local macro_rules | `(tactic| walk_at "my put") => `(tactic| with_reducible (repeat (first | exact Put.here | apply Put.there)))
local macro_rules | `(tactic| walk_at "my lit") => `(tactic| with_reducible (first | exact lit_sq | exact lit_dq | exact lit_E | exact lit_bs | exact lit_mi | exact lit_dl | exact lit_co | exact lit_eq | exact lit_qm | exact lit_pc | exact lit_lp | exact lit_rp | exact lit_s | exact lit_us | exact lit_nl | exact lit_ce | exact lit_ps | exact lit_rs | exact lit_em | exact rfl))
local macro_rules | `(tactic| walk_at "my op") => `(tactic| with_reducible (first | exact op_eq_int | exact op_ne_int | exact op_lt_int | exact op_gt_int | exact op_le_int | exact op_eq_str | exact op_ne_str | exact op_in_str | exact op_notin_str | exact op_eq_none_str | exact op_ne_none_str | exact op_ne_bool | exact op_is_none | exact op_is_none_str | exact op_add_int | exact op_iadd_int | exact op_sub_int | exact op_eq_opt | exact op_ne_opt | exact op_none_opt))
local macro_rules | `(tactic| walk_at "my nu") => `(tactic| first | (intro h; cases h; done) | exact PVo_ne _)
local macro_rules | `(tactic| walk_at "my ev") => `(tactic| first
  | with_reducible exact ev_int | ((with_reducible refine' ev_str ?h1); (case h1 => walk_at "my lit")) | with_reducible exact ev_none | with_reducible exact ev_bool
  | ((with_reducible refine' ev_nm ?k1 ?h1 ?u1); (case k1 => assumption); (case h1 => walk_at "my has"; done); (case u1 => walk_at "my nu"))
  | with_reducible refine' ev_bin ?_ ?_ ?_ | ((with_reducible refine' ev_cmp ?_ ?_ ?_ ?m1); (case m1 => exact rfl)) | ((with_reducible refine' tr_cmp ?_ ?_ ?_ ?m1); (case m1 => exact rfl)) | with_reducible refine' tr_not ?_ | with_reducible refine' tr_op ?_
  | with_reducible refine' tra_and ?_ ?_ | with_reducible exact tra_and_nil | with_reducible refine' tra_or ?_ ?_ | with_reducible exact tra_or_nil
  | with_reducible refine' ev_neg ?_
  | walk_at "my op" | ((with_reducible refine' evl_cons1 ?_ ?_ ?m1); (case m1 => exact rfl)) | with_reducible refine' evl_nil ?_ | (guard_target =~ (_ = _ → _); intro _))
local macro_rules | `(tactic| walk_at "my evs") => `(tactic| repeat' (walk_at "my ev"))
local macro_rules | `(tactic| walk_at "my blt") => `(tactic| first | exact ev_globB (by assumption) (by kernel_rfl) boot_len (by decide +kernel) (by kernel_rfl) (by decide +kernel) | exact ev_globB (by assumption) (by kernel_rfl) boot_str (by decide +kernel) (by kernel_rfl) (by decide +kernel) | exact ev_globB (by assumption) (by kernel_rfl) boot_range (by decide +kernel) (by kernel_rfl) (by decide +kernel))
local macro_rules | `(tactic| walk_at "my fn") => `(tactic| exact ev_glob (by assumption) (by kernel_rfl) (by kernel_rfl) (by decide +kernel))
local macro_rules | `(tactic| walk_at "my puts") => `(tactic| (repeat (apply Puts.cons; (focus (walk_at "my put"; done)))); exact Puts.nil)
local macro_rules | `(tactic| walk_at "my nils") => `(tactic| repeat (first | with_reducible refine seq_nil ?_ | with_reducible refine wx_nil ?_))
local macro_rules | `(tactic| walk_at "my nnils") => `(tactic| repeat (first | with_reducible refine seqn_nil ?_ | with_reducible refine wxn_nil ?_))
local macro_rules | `(tactic| walk_at "my meth") => `(tactic| (apply ev_of_x; first | with_reducible apply evx_meth1 | with_reducible apply evx_meth0 | apply evx_meth1 | apply evx_meth0))

theorem under_frames (A : Around) (C : Addr) (vals : List Value) (kw : List (Str × Value)) : (A.under (.builtin "type.__call__" ⟨.ref C :: vals, kw⟩)).frames = A.frames := by
  obtain ⟨a, b, f, g, u⟩ := A
  cases f <;> rfl
section
variable {prog : Program} {w : World} {p : Program} {loose : List Str} {mg mb : Str → Option Value} {c : Cf} {lo : Lo} {ob ob' : Ob}
theorem Obs.cons {h₀ h : Heap} {L : Addr} {m : Str → Option Value} {ob : Ob} {nx : List (Addr × Obj)} : True := trivial
theorem cl_count (G : Gt (Mine.hd.heap_39 w.params) p loose mg mb c) (hroom : c.A.depth + 2 < recursionLimit) {Φ : PV → Ob → Prop} (hΦ : ∀ x dx, Φ (.val (.ref x)) ((x, InstO 101 dx (SlN 1)) :: (dx, EmpO) :: ob)) : Cl prog w c lo ob (.ref 101) [.int 1] Φ := fun us s Q E hu R q => by
  cases hu with | cons h1 hs => ?_
  cases hs
  obtain ⟨t, rfl⟩ := h1
  obtain ⟨m, F, hlo⟩ := R.fr
  obtain ⟨nx, N, kn, rn⟩ := R.obs.news
  refine wpAny_call (make_K F N (G.X.keeps F.keep) (make_cnt _) (fI := 76) (by kernel_rfl) (by kernel_rfl) fun x dx h' F' N' hlt hlt2 => ?_)
  have R' : Rep c lo ((x, InstO 101 dx Sl0) :: (dx, EmpO) :: ob) { s with heap := h' } := by
    refine ⟨⟨⟨m, F', hlo⟩, Obs.of_news ?_ N' fun q hq => ?_, R.nd, R.loc, R.os, R.gens⟩, R.tk⟩
    · rw [List.map_cons, List.map_cons, ← kn]
      refine List.nodup_cons.mpr ⟨fun h => ?_, List.nodup_cons.mpr ⟨fun h => ?_, kn ▸ R.obs.1⟩⟩
      · rcases List.mem_cons.mp h with h | h
        · have : x = dx := h
          exact Nat.lt_irrefl _ (this ▸ hlt2)
        · obtain ⟨q, hq, e⟩ := List.mem_map.mp h
          have h3 := hlt q hq
          have e' : q.1 = x := e
          exact Nat.lt_irrefl _ (Nat.lt_trans hlt2 (e' ▸ h3))
      · obtain ⟨q, hq, e⟩ := List.mem_map.mp h
        have h3 := hlt q hq
        have e' : q.1 = dx := e
        exact Nat.lt_irrefl _ (e' ▸ h3)
    · rcases List.mem_cons.mp hq with rfl | hq
      · exact ⟨_, .head _, #[], rfl, rfl⟩
      · rcases List.mem_cons.mp hq with rfl | hq
        · exact ⟨_, .tail _ (.head _), rfl⟩
        · obtain ⟨o, a, b⟩ := rn q hq
          exact ⟨o, .tail _ (.tail _ a), b⟩
  have hdep : (c.A.under (.builtin "type.__call__" ⟨[.ref 101, .int 1 t], []⟩)).depth = c.A.depth + 1 := rfl
  refine code_fn (names := nm_init) (others := ot_init) (us := [.ref x, .int 1 t, .int 1 269]) (vs := [.val (.ref x), .int 1, .int 1]) (Φ := fun v ob' => v = .val .none ∧ ob' = (x, InstO 101 dx (SlN 1)) :: (dx, EmpO) :: ob) G (fn_init w.params) (nc_init _) (under_frames ..) G.hand (by rw [hdep]; omega) (bind_init _ _ _ _ (G.X.keeps F'.keep)) nd_init rfl (lc_init _) (fun L g G' => ?_) (.cons rfl (.cons ⟨t, rfl⟩ (.cons ⟨_, rfl⟩ .nil))) R' fun v u ob' s' hv hu R'' => ?_
  · refine wx_mono (wx_init G' ?_ rfl (.head _) rfl) ?_
    · show ((c.A.under _).deeper _).depth < _
      rw [depth_deeper, hdep]; omega
    · rintro o lo' ob' ⟨rfl, rfl⟩
      exact ⟨rfl, rfl⟩
  · obtain ⟨rfl, rfl⟩ := hv
    cases hu
    exact ⟨rfl, q _ _ _ _ (hΦ _ _) rfl R''⟩
end
end Mine
end
section
open PySem.Calls
set_option maxHeartbeats 4000000
namespace Mine

local macro_rules | `(tactic| walk_at "my has") => `(tactic| with_reducible (repeat (first | exact Has.here | apply Has.there)))
local macro_rules | `(tactic| walk_at "my put") => `(tactic| with_reducible (repeat (first | exact Put.here | apply Put.there)))
local macro_rules | `(tactic| walk_at "my lit") => `(tactic| with_reducible (first | exact lit_sq | exact lit_dq | exact lit_E | exact lit_bs | exact lit_mi | exact lit_dl | exact lit_co | exact lit_eq | exact lit_qm | exact lit_pc | exact lit_lp | exact lit_rp | exact lit_s | exact lit_us | exact lit_nl | exact lit_ce | exact lit_ps | exact lit_rs | exact lit_em | exact rfl))
local macro_rules | `(tactic| walk_at "my op") => `(tactic| with_reducible (first | exact op_eq_int | exact op_ne_int | exact op_lt_int | exact op_gt_int | exact op_le_int | exact op_eq_str | exact op_ne_str | exact op_in_str | exact op_notin_str | exact op_eq_none_str | exact op_ne_none_str | exact op_ne_bool | exact op_is_none | exact op_is_none_str | exact op_add_int | exact op_iadd_int | exact op_sub_int | exact op_eq_opt | exact op_ne_opt | exact op_none_opt))
local macro_rules | `(tactic| walk_at "my nu") => `(tactic| first | (intro h; cases h; done) | exact PVo_ne _)
local macro_rules | `(tactic| walk_at "my ev") => `(tactic| first
  | with_reducible exact ev_int | ((with_reducible refine' ev_str ?h1); (case h1 => walk_at "my lit")) | with_reducible exact ev_none | with_reducible exact ev_bool
  | ((with_reducible refine' ev_nm ?k1 ?h1 ?u1); (case k1 => assumption); (case h1 => walk_at "my has"; done); (case u1 => walk_at "my nu"))
  | with_reducible refine' ev_bin ?_ ?_ ?_ | ((with_reducible refine' ev_cmp ?_ ?_ ?_ ?m1); (case m1 => exact rfl)) | ((with_reducible refine' tr_cmp ?_ ?_ ?_ ?m1); (case m1 => exact rfl)) | with_reducible refine' tr_not ?_ | with_reducible refine' tr_op ?_
  | with_reducible refine' tra_and ?_ ?_ | with_reducible exact tra_and_nil | with_reducible refine' tra_or ?_ ?_ | with_reducible exact tra_or_nil
  | with_reducible refine' ev_neg ?_
  | walk_at "my op" | ((with_reducible refine' evl_cons1 ?_ ?_ ?m1); (case m1 => exact rfl)) | with_reducible refine' evl_nil ?_ | (guard_target =~ (_ = _ → _); intro _))
local macro_rules | `(tactic| walk_at "my evs") => `(tactic| repeat' (walk_at "my ev"))
local macro_rules | `(tactic| walk_at "my blt") => `(tactic| first | exact ev_globB (by assumption) (by kernel_rfl) boot_len (by decide +kernel) (by kernel_rfl) (by decide +kernel) | exact ev_globB (by assumption) (by kernel_rfl) boot_str (by decide +kernel) (by kernel_rfl) (by decide +kernel) | exact ev_globB (by assumption) (by kernel_rfl) boot_range (by decide +kernel) (by kernel_rfl) (by decide +kernel))
local macro_rules | `(tactic| walk_at "my fn") => `(tactic| exact ev_glob (by assumption) (by kernel_rfl) (by kernel_rfl) (by decide +kernel))
local macro_rules | `(tactic| walk_at "my puts") => `(tactic| (repeat (apply Puts.cons; (focus (walk_at "my put"; done)))); exact Puts.nil)
local macro_rules | `(tactic| walk_at "my nils") => `(tactic| repeat (first | with_reducible refine seq_nil ?_ | with_reducible refine wx_nil ?_))
local macro_rules | `(tactic| walk_at "my nnils") => `(tactic| repeat (first | with_reducible refine seqn_nil ?_ | with_reducible refine wxn_nil ?_))
local macro_rules | `(tactic| walk_at "my meth") => `(tactic| (apply ev_of_x; first | with_reducible apply evx_meth1 | with_reducible apply evx_meth0 | apply evx_meth1 | apply evx_meth0))

theorem slot_map_init : Slot "map" "__init__" "object.__init__" :=
  .of (owner := "object") (n := "__init__") (by rw [typeLookup_type, builtinLookup_eq_fast]; kernel_rfl) (by decide +kernel) (by decide +kernel) (by decide +kernel)
    (by first | exact .inl (by decide +kernel) | exact .inr (by decide +kernel)) (by rw [isSubtype_type]; kernel_rfl)
theorem slot_map_next : Slot "map" "__next__" "map.__next__" :=
  .of (owner := "map") (n := "__next__") (by rw [typeLookup_type, builtinLookup_eq_fast]; kernel_rfl) (by decide +kernel) (by decide +kernel) (by decide +kernel)
    (by first | exact .inl (by decide +kernel) | exact .inr (by decide +kernel)) (by rw [isSubtype_type]; kernel_rfl)
theorem mro_map : mroOf (.type "map") = pure [.type "map", .type "object"] := by rw [mroOf_type]; kernel_rfl
theorem lookup_map_new : typeLookup (.type "map") "__new__" = pure (some (.builtin "map.__new__")) := by rw [typeLookup_type, builtinLookup_eq_fast]; kernel_rfl
theorem called_map : TypeCalled "map" "map.__new__" "object.__init__" :=
  ⟨by decide +kernel, by decide +kernel, ⟨_, _, mro_map⟩, madeBy_type mro_map lookup_map_new (by decide +kernel), by decide +kernel, by rw [isSubtype_type]; kernel_rfl, slot_map_init⟩
theorem typeCall_map_2 (a b : Value) : checkTypeCall "map" ⟨[a, b], []⟩ = pure () := by kernel_rfl
theorem newCall_map_2 (a b : Value) : checkBuiltinCall "map.__new__" ⟨[.type "map", a, b], []⟩ = pure () := by kernel_rfl
theorem entry_map_new : entryFor table "map.__new__" = some Builtin.«map.__new__» := entryFor_of_tree (by kernel_rfl)
theorem entry_map_next : entryFor table "map.__next__" = some Builtin.«map.__next__» := entryFor_of_tree (by kernel_rfl)
theorem args_map_next_1 (a : Value) : argsOk "map.__next__" ⟨[a], []⟩ := by unfold argsOk; kernel_rfl
theorem sub_map : isSubtype (.type "map") (.type "map") = pure true := by rw [isSubtype_type]; kernel_rfl
abbrev mapTup (it : Value) : Obj := { cls := .type "tuple", data := .seq #[it] }
abbrev mapObj (mt : Addr) (f : Value) : Obj := { cls := .type "map", data := .fields #[.ref mt, f] }
theorem meets_map_new (f : Value) (x : Addr) : Meets (Builtin.«map.__new__» ⟨[.type "map", f, .ref x], []⟩) (fun A R s => ∀ prog w, wpAny (model prog w) A.in1 (pyIter (.ref x)) (fun it s₁ =>
    R (.ok (.ret (.ref (s₁.heap.push (mapTup it)).objs.size))) { s₁ with heap := (s₁.heap.push (mapTup it)).push (mapObj s₁.heap.objs.size f) }) (fun e s' => R (.error e) s') s) :=
  .of_wp fun prog w A R s h => by
    have hsub := sub_map
    have hp : ∀ (Q : Value → Shared → Prop), (∀ it s₁, R (.ok (.ret (.ref (s₁.heap.push (mapTup it)).objs.size))) { s₁ with heap := (s₁.heap.push (mapTup it)).push (mapObj s₁.heap.objs.size f) } → Q it s₁) → wpAny (model prog w) A.in1 (pyIter (.ref x)) Q (fun e s' => R (.error e) s') s := fun Q hq => wpAny_mono (h prog w) hq fun _ _ e => e
    wp_walk using hp _
    intro it s₁ h₁
    wp_walk
    exact ⟨_, rfl, h₁⟩

section
variable {prog : Program} {w : World} {A : Around} {E : Value → Shared → Prop} {s : Shared}
theorem call_map {f : Value} {x : Addr} {Q : Value → Shared → Prop} (h : ∀ prog w, wpAny (model prog w) A.in1.in1 (pyIter (.ref x)) (fun it s₁ => Q (.ref (s₁.heap.objs.size + 1)) { s₁ with heap := (s₁.heap.push (mapTup it)).push (mapObj s₁.heap.objs.size f) }) E s) :
    wpAny (model prog w) A (call (.type "map") [f, .ref x]) Q E s := by
  refine callType_new called_map (by decide) (typeCall_map_2 _ _) (newCall_map_2 _ _) (fun obj => F.args_object_init_3 obj _ _) entry_map_new (meets_map_new f x) fun prog w => ?_
  refine wpAny_mono (h prog w) (fun it s₁ h₁ => ?_) fun _ _ e => e
  have hz : (s₁.heap.push (mapTup it)).objs.size = s₁.heap.objs.size + 1 := Heap.size_push ..
  have hg := Heap.get?_push_size (s₁.heap.push (mapTup it)) (o := mapObj s₁.heap.objs.size f) rfl
  show _ ∧ _
  rw [hz] at hg ⊢
  exact ⟨⟨_, hg, rfl⟩, h₁⟩
theorem map_next {mt : Addr} {f it : Value} {m : Addr} {Q : Value → Shared → Prop} (hm : s.heap.get? m = some (mapObj mt f)) (ht : s.heap.get? mt = some (mapTup it))
    (h : wpAny (model prog w) A (Builtin.SmallTypes.nextOf it) (fun v s₁ => s₁.heap.get? m = some (mapObj mt f) ∧ wpAny (model prog w) A (call f [v]) Q E s₁) E s) :
    wpAny (model prog w) A (Builtin.«map.__next__» ⟨[.ref m], []⟩) (fun fin s' => ∃ v, fin = .done (.ret v) ∧ Q v s') E s := by
  show wpAny _ _ (field (.ref m) 0 >>= _) _ _ _
  refine wpAny_bind (wpAny_field hm rfl (x := .ref mt) rfl ?_)
  refine wpAny_bind (wpAny_seqItems ht rfl ?_)
  rw [show (#[it] : Array Value) = [it].toArray from rfl]
  simp only [List.forIn_toArray, List.forIn_cons, List.forIn_nil]
  refine wpAny_bind (wpAny_bind (wpAny_bind (wpAny_holding (wpAny_mono h (fun v s₁ h₁ => wpAny_pure (wpAny_pure ?_)) fun _ _ e => e))))
  refine wpAny_bind (wpAny_field h₁.1 rfl (x := f) rfl ?_)
  refine wpAny_bind (wpAny_holding (wpAny_mono h₁.2 (fun r s₂ h₂ => ?_) fun _ _ e => e))
  exact wpAny_bind (wpAny_letGo (wpAny_pure ⟨_, rfl, h₂⟩))

theorem call_next_map {mt m : Addr} {f it : Value} {Q : Value → Shared → Prop} (hm : s.heap.get? m = some (mapObj mt f)) (ht : s.heap.get? mt = some (mapTup it))
    (h : ∀ A' : Around, A'.frames = A.frames → A'.handled = A.handled → A'.depth = A.depth → wpAny (model prog w) A' (Builtin.SmallTypes.nextOf it) (fun v s₁ => s₁.heap.get? m = some (mapObj mt f) ∧ wpAny (model prog w) A' (call f [v]) Q E s₁) E s) :
    wpAny (model prog w) A (call (.builtin "next") [.ref m]) Q E s := by
  have hT : s.TypeIs (.ref m) "map" := ⟨_, hm, rfl⟩
  refine call_function_entry (by decide +kernel) (by decide +kernel) kdk_entry_next (kdk_args_next _) ?_
  unfold Builtin.«next»
  refine wpAny_bind (m := someArgs "next" 1 2 _) (wpAny_of_eq (a := [Value.ref m]) (by first | rfl | kernel_rfl!) ?_)
  dsimp only
  refine wpAny_bind (wpAny_specialOf (name := Str.ofString "__next__") hT slot_map_next.lookup ?_)
  refine wpAny_ite_split (fun hab => absurd hab (by decide)) (fun _ => ?_)
  refine wpAny_bind (wpAny_callSpecial?_slot (name := Str.ofString "__next__") hT slot_map_next (wpAny_call_entry slot_map_next hT entry_map_next (map_next (Q := fun v s' => wpAny (model prog w) _ (pure (Fin.done (Flow.ret v))) _ E s') hm ht ?_) (args_map_next_1 _)))
  exact wpAny_mono (h _ rfl rfl rfl) (fun v s₁ h₁ => ⟨h₁.1, wpAny_mono h₁.2 (fun r s₂ h₂ => wpAny_pure ⟨_, rfl, h₂⟩) fun _ _ e => e⟩) fun _ _ e => e
end
end Mine
end
section
open PySem.Calls
set_option maxHeartbeats 4000000
namespace Mine

local macro_rules | `(tactic| walk_at "my has") => `(tactic| with_reducible (repeat (first | exact Has.here | apply Has.there)))
local macro_rules | `(tactic| walk_at "my put") => `(tactic| with_reducible (repeat (first | exact Put.here | apply Put.there)))
local macro_rules | `(tactic| walk_at "my lit") => `(tactic| with_reducible (first | exact lit_sq | exact lit_dq | exact lit_E | exact lit_bs | exact lit_mi | exact lit_dl | exact lit_co | exact lit_eq | exact lit_qm | exact lit_pc | exact lit_lp | exact lit_rp | exact lit_s | exact lit_us | exact lit_nl | exact lit_ce | exact lit_ps | exact lit_rs | exact lit_em | exact rfl))
local macro_rules | `(tactic| walk_at "my op") => `(tactic| with_reducible (first | exact op_eq_int | exact op_ne_int | exact op_lt_int | exact op_gt_int | exact op_le_int | exact op_eq_str | exact op_ne_str | exact op_in_str | exact op_notin_str | exact op_eq_none_str | exact op_ne_none_str | exact op_ne_bool | exact op_is_none | exact op_is_none_str | exact op_add_int | exact op_iadd_int | exact op_sub_int | exact op_eq_opt | exact op_ne_opt | exact op_none_opt))
local macro_rules | `(tactic| walk_at "my nu") => `(tactic| first | (intro h; cases h; done) | exact PVo_ne _)
local macro_rules | `(tactic| walk_at "my ev") => `(tactic| first
  | with_reducible exact ev_int | ((with_reducible refine' ev_str ?h1); (case h1 => walk_at "my lit")) | with_reducible exact ev_none | with_reducible exact ev_bool
  | ((with_reducible refine' ev_nm ?k1 ?h1 ?u1); (case k1 => assumption); (case h1 => walk_at "my has"; done); (case u1 => walk_at "my nu"))
  | with_reducible refine' ev_bin ?_ ?_ ?_ | ((with_reducible refine' ev_cmp ?_ ?_ ?_ ?m1); (case m1 => exact rfl)) | ((with_reducible refine' tr_cmp ?_ ?_ ?_ ?m1); (case m1 => exact rfl)) | with_reducible refine' tr_not ?_ | with_reducible refine' tr_op ?_
  | with_reducible refine' tra_and ?_ ?_ | with_reducible exact tra_and_nil | with_reducible refine' tra_or ?_ ?_ | with_reducible exact tra_or_nil
  | with_reducible refine' ev_neg ?_
  | walk_at "my op" | ((with_reducible refine' evl_cons1 ?_ ?_ ?m1); (case m1 => exact rfl)) | with_reducible refine' evl_nil ?_ | (guard_target =~ (_ = _ → _); intro _))
local macro_rules | `(tactic| walk_at "my evs") => `(tactic| repeat' (walk_at "my ev"))
local macro_rules | `(tactic| walk_at "my blt") => `(tactic| first | exact ev_globB (by assumption) (by kernel_rfl) boot_len (by decide +kernel) (by kernel_rfl) (by decide +kernel) | exact ev_globB (by assumption) (by kernel_rfl) boot_str (by decide +kernel) (by kernel_rfl) (by decide +kernel) | exact ev_globB (by assumption) (by kernel_rfl) boot_range (by decide +kernel) (by kernel_rfl) (by decide +kernel))
local macro_rules | `(tactic| walk_at "my fn") => `(tactic| exact ev_glob (by assumption) (by kernel_rfl) (by kernel_rfl) (by decide +kernel))
local macro_rules | `(tactic| walk_at "my puts") => `(tactic| (repeat (apply Puts.cons; (focus (walk_at "my put"; done)))); exact Puts.nil)
local macro_rules | `(tactic| walk_at "my nils") => `(tactic| repeat (first | with_reducible refine seq_nil ?_ | with_reducible refine wx_nil ?_))
local macro_rules | `(tactic| walk_at "my nnils") => `(tactic| repeat (first | with_reducible refine seqn_nil ?_ | with_reducible refine wxn_nil ?_))
local macro_rules | `(tactic| walk_at "my meth") => `(tactic| (apply ev_of_x; first | with_reducible apply evx_meth1 | with_reducible apply evx_meth0 | apply evx_meth1 | apply evx_meth0))


def lamE : Expr := match (bd 10).getD 11 (.Pass ⟨0, 0, 0, 0⟩) with
  | .Assign _ (.Call _ (l :: _) _ _) _ => l
  | _ => .Name "" ⟨0, 0, 0, 0⟩
def lamP : Arguments := match lamE with | .Lambda p _ _ _ => p | _ => default
def lamB : Expr := match lamE with | .Lambda _ b _ _ => b | _ => .Name "" ⟨0, 0, 0, 0⟩
def lamS : Scope := match lamE with | .Lambda _ _ s _ => s | _ => default
def lamPos : Pos := match lamE with | .Lambda _ _ _ p => p | _ => default
theorem lam_eq : lamE = .Lambda lamP lamB lamS lamPos := rfl
abbrev lamQ : Str := Str.ofString "convert_paramstyle" ++ Str.ofString ".<locals>." ++ Str.ofString "<lambda>"
theorem bind_lam (pm ct : Value) (c' : Addr) (u : Value) : bindArgs (kla_fn "<lambda>" lamQ lamP lamB lamS [] pm (.ref c') ct) ⟨[u], []⟩ = pure ([Str.ofString "x"].zip [u]) := by kernel_rfl
def MapO (mt f : Addr) : OP := fun o => o = mapObj mt (.ref f)
def TupO (it : Value) : OP := fun o => o = mapTup it

section
variable {prog : Program} {w : World} {p : Program} {loose : List Str} {mg mb : Str → Option Value} {c : Cf} {lo : Lo} {ob ob' : Ob}
/-- the lambda's frame -/
theorem evx_lamB (G : Gt (Mine.hd.heap_39 w.params) p loose mg mb c) {L f c' : Addr} (hc : c.env = envX lamQ lamS L f (.ref c') []) {n : Nat} (hn : n < 1000) : EvX prog w c [(Str.ofString "x", .int n)] ob lamB (fun v ob' => v = .str (tx (36 :: dig n)) ∧ ob' = ob) := by
  obtain ⟨A, env, h₀, os⟩ := c
  simp only at hc
  subst hc
  have K' := G.kind
  have hd := dig_len n (by omega)
  apply ev_x
  show Ev _ _ _ _ _ _ (.str (tx ([36] ++ dig n)))
  apply ev_bin
  · walk_at "my evs"
  · apply ev_strn (n := n)
    · walk_at "my blt"
    · walk_at "my evs"
    · rfl
    · omega
    all_goals rfl
  · apply op_add_tx
    simp only [List.length_cons, List.length_nil]; omega

theorem wx_cnext (G : Gt (Mine.hd.heap_39 w.params) p loose mg mb c) {x dx L : Addr} {n : Int} (he : c.env = fnEnv (fdOf w.params 90) L 90) (hm : (x, InstO 101 dx (SlN n)) ∈ ob) (hd : (dx, EmpO) ∈ ob) (hd' : (dx, EmpO) ∈ ob') (U : Put x (InstO 101 dx (SlN (n + 1))) ob ob') :
    WX prog w c [(Str.ofString "self", .val (.ref x)), (Str.ofString "value", .un)] ob NoX (stBody (cst 3)) (RetΦ fun v ob2 => v = .int n ∧ ob2 = ob') := by
  obtain ⟨A, env, h₀, os⟩ := c
  simp only at he
  subst he
  have K' := G.kind
  refine wx_cons ?_
  apply ws_set K' (v := .int n)
  · apply ev_slot (v := .int n) (P := SlN n) (i := 0) (pp := 102) (dx := dx) (x := x) G
    · walk_at "my evs"
    · exact hm
    · exact hd
    · kernel_rfl
    · kernel_rfl
    · kernel_rfl
    · kernel_rfl
    · kernel_rfl
    · exact sl_cnt _
    · rintro sl ⟨u, v, h1, h2, rfl⟩; exact ⟨u, rfl, h1, by obtain ⟨t, rfl⟩ := h1; rfl⟩
    · rfl
  · walk_at "my put"
  refine wx_cons ?_
  apply ws_slot (v := .int (n + 1)) (P := SlN n) (P' := SlN (n + 1)) (i := 0) (pp := 102) (dx := dx) (x := x) G
  · apply ev_bin
    · walk_at "my evs"
    · apply ev_slot (v := .int 1) (P := SlN n) (i := 2) (pp := 104) (dx := dx) (x := x) G
      · walk_at "my evs"
      · exact hm
      · exact hd
      · kernel_rfl
      · kernel_rfl
      · kernel_rfl
      · kernel_rfl
      · kernel_rfl
      · exact sl_step _
      · rintro sl ⟨u, v, h1, h2, rfl⟩; exact ⟨v, rfl, h2, by obtain ⟨t, rfl⟩ := h2; rfl⟩
      · rfl
    · exact op_add_int
  · walk_at "my evs"
  · exact hm
  · exact hd
  · exact sa_cnt _
  · exact po_cnt _
  · exact tk_cnt _
  · rfl
  · exact sl_cnt _
  · decide
  · rintro sl u ⟨u0, v0, h1, h2, rfl⟩ hu; exact ⟨u, v0, hu, h2, rfl⟩
  · exact U
  rotate_left
  · rfl
  refine wx_cons ?_
  apply ws_ret
  · walk_at "my evs"
  · exact ⟨rfl, rfl⟩
end
end Mine
end
section
open PySem.Calls
set_option maxHeartbeats 4000000
namespace Mine

local macro_rules | `(tactic| walk_at "my has") => `(tactic| with_reducible (repeat (first | exact Has.here | apply Has.there)))
local macro_rules | `(tactic| walk_at "my put") => `(tactic| with_reducible (repeat (first | exact Put.here | apply Put.there)))
local macro_rules | `(tactic| walk_at "my lit") => `(tactic| with_reducible (first | exact lit_sq | exact lit_dq | exact lit_E | exact lit_bs | exact lit_mi | exact lit_dl | exact lit_co | exact lit_eq | exact lit_qm | exact lit_pc | exact lit_lp | exact lit_rp | exact lit_s | exact lit_us | exact lit_nl | exact lit_ce | exact lit_ps | exact lit_rs | exact lit_em | exact rfl))
local macro_rules | `(tactic| walk_at "my op") => `(tactic| with_reducible (first | exact op_eq_int | exact op_ne_int | exact op_lt_int | exact op_gt_int | exact op_le_int | exact op_eq_str | exact op_ne_str | exact op_in_str | exact op_notin_str | exact op_eq_none_str | exact op_ne_none_str | exact op_ne_bool | exact op_is_none | exact op_is_none_str | exact op_add_int | exact op_iadd_int | exact op_sub_int | exact op_eq_opt | exact op_ne_opt | exact op_none_opt))
local macro_rules | `(tactic| walk_at "my nu") => `(tactic| first | (intro h; cases h; done) | exact PVo_ne _)
local macro_rules | `(tactic| walk_at "my ev") => `(tactic| first
  | with_reducible exact ev_int | ((with_reducible refine' ev_str ?h1); (case h1 => walk_at "my lit")) | with_reducible exact ev_none | with_reducible exact ev_bool
  | ((with_reducible refine' ev_nm ?k1 ?h1 ?u1); (case k1 => assumption); (case h1 => walk_at "my has"; done); (case u1 => walk_at "my nu"))
  | with_reducible refine' ev_bin ?_ ?_ ?_ | ((with_reducible refine' ev_cmp ?_ ?_ ?_ ?m1); (case m1 => exact rfl)) | ((with_reducible refine' tr_cmp ?_ ?_ ?_ ?m1); (case m1 => exact rfl)) | with_reducible refine' tr_not ?_ | with_reducible refine' tr_op ?_
  | with_reducible refine' tra_and ?_ ?_ | with_reducible exact tra_and_nil | with_reducible refine' tra_or ?_ ?_ | with_reducible exact tra_or_nil
  | with_reducible refine' ev_neg ?_
  | walk_at "my op" | ((with_reducible refine' evl_cons1 ?_ ?_ ?m1); (case m1 => exact rfl)) | with_reducible refine' evl_nil ?_ | (guard_target =~ (_ = _ → _); intro _))
local macro_rules | `(tactic| walk_at "my evs") => `(tactic| repeat' (walk_at "my ev"))
local macro_rules | `(tactic| walk_at "my blt") => `(tactic| first | exact ev_globB (by assumption) (by kernel_rfl) boot_len (by decide +kernel) (by kernel_rfl) (by decide +kernel) | exact ev_globB (by assumption) (by kernel_rfl) boot_str (by decide +kernel) (by kernel_rfl) (by decide +kernel) | exact ev_globB (by assumption) (by kernel_rfl) boot_range (by decide +kernel) (by kernel_rfl) (by decide +kernel))
local macro_rules | `(tactic| walk_at "my fn") => `(tactic| exact ev_glob (by assumption) (by kernel_rfl) (by kernel_rfl) (by decide +kernel))
local macro_rules | `(tactic| walk_at "my puts") => `(tactic| (repeat (apply Puts.cons; (focus (walk_at "my put"; done)))); exact Puts.nil)
local macro_rules | `(tactic| walk_at "my nils") => `(tactic| repeat (first | with_reducible refine seq_nil ?_ | with_reducible refine wx_nil ?_))
local macro_rules | `(tactic| walk_at "my nnils") => `(tactic| repeat (first | with_reducible refine seqn_nil ?_ | with_reducible refine wxn_nil ?_))
local macro_rules | `(tactic| walk_at "my meth") => `(tactic| (apply ev_of_x; first | with_reducible apply evx_meth1 | with_reducible apply evx_meth0 | apply evx_meth1 | apply evx_meth0))

section
variable {prog : Program} {w : World} {p : Program} {loose : List Str} {mg mb : Str → Option Value} {c : Cf} {lo : Lo} {ob ob' : Ob}
theorem cl_map (G : Gt (Mine.hd.heap_39 w.params) p loose mg mb c) (hroom : c.A.depth < recursionLimit) {f x dx : Addr} {P : Array (Option Value) → Prop} (hm : (x, InstO 101 dx P) ∈ ob) (hd : (dx, EmpO) ∈ ob) {Φ : PV → Ob → Prop} (hΦ : ∀ m mt, Φ (.val (.ref m)) ((m, MapO mt f) :: (mt, TupO (.ref x)) :: ob)) :
    Cl prog w c lo ob (.type "map") [.val (.ref f), .val (.ref x)] Φ := fun us s Q E hu R q => by
  cases hu with | cons h1 hs => ?_
  cases hs with | cons h2 hs => ?_
  cases hs; cases h1; cases h2
  refine call_map fun prog' w' => ?_
  obtain ⟨m, F, hlo⟩ := R.fr
  obtain ⟨ox, hx, hP⟩ := R.1.get hm
  have I := instAt R.1 hx hP hd
  refine owit_iter (f := 83) F G.X I (by kernel_rfl) (by kernel_rfl) (wpAny_call ?_)
  refine code_fn (prog := prog') (w := w') (names := nm_iter) (others := ot_iter) (us := [.ref x]) (vs := [.val (.ref x)]) (Φ := fun v ob' => v = .val (.ref x) ∧ ob' = ob) G (fn_iter w.params) (nc_iter _) rfl G.hand hroom (@BindsTo.of_eq _ _ _ _ (bind_iter _ _)) nd_iter rfl (lc_iter _) (fun L g G' => ?_) (.cons rfl .nil) R fun v u ob' s' hv hu R'' => ?_
  · have K' := G'.kind
    show WX _ _ _ [(_, _)] _ _ _ _
    refine wx_cons ?_
    apply ws_ret
    · walk_at "my evs"
    · exact ⟨rfl, rfl⟩
  · obtain ⟨rfl, rfl⟩ := hv
    cases hu
    obtain ⟨m, F, hlo⟩ := R''.fr
    obtain ⟨ox, hx, hP⟩ := R''.get hm
    have I := instAt R'' hx hP hd
    refine owit_it (g := .ref 90) F G.X I (by kernel_rfl) ?_
    have hz : (s'.heap.push (mapTup (.ref x))).objs.size = s'.heap.objs.size + 1 := Heap.size_push ..
    have R1 := R''.new (a := s'.heap.objs.size) (o := mapTup (.ref x)) (P := TupO (.ref x)) (h' := s'.heap.push (mapTup (.ref x))) (by simp [Heap.get?]) (fun b o e => Heap.get?_push_of_some _ e) (Heap.get?_push_size _ rfl) rfl s'.toks
    have R2 := R1.new (a := (s'.heap.push (mapTup (.ref x))).objs.size) (o := mapObj s'.heap.objs.size (.ref f)) (P := MapO s'.heap.objs.size f) (h' := (s'.heap.push (mapTup (.ref x))).push _) (by simp [Heap.get?]) (fun b o e => Heap.get?_push_of_some _ e) (Heap.get?_push_size _ rfl) rfl s'.toks
    rw [hz] at R2
    exact q _ _ _ _ (hΦ _ _) rfl R2
theorem cl_nextp (G : Gt (Mine.hd.heap_39 w.params) p loose mg mb c) {mean : ExcName → Option Value} (TT : Top p loose mean mg mb c.h₀) (hroom : c.A.depth < recursionLimit) {m mt f c' x dx : Addr} {n : Nat} (hn : n < 1000)
    (h1 : (m, MapO mt f) ∈ ob) (h2 : (mt, TupO (.ref x)) ∈ ob) (h3 : (x, InstO 101 dx (SlN n)) ∈ ob) (h4 : (dx, EmpO) ∈ ob) (h4' : (dx, EmpO) ∈ ob') (h5 : (f, LamO lamQ lamP lamB lamS c') ∈ ob') (h6 : (c', CodeO lamQ) ∈ ob') (h1' : (m, MapO mt f) ∈ ob')
    (U : Put x (InstO 101 dx (SlN (n + 1 : Nat))) ob ob') {Φ : PV → Ob → Prop} (hΦ : Φ (.str (tx (36 :: dig n))) ob') : Cl prog w c lo ob (.builtin "next") [.val (.ref m)] Φ := fun us s Q E hu R q => by
  cases hu with | cons g1 hs => ?_
  cases hs; cases g1
  obtain ⟨o1, e1, rfl⟩ := R.1.get h1
  obtain ⟨o2, e2, rfl⟩ := R.1.get h2
  refine call_next_map e1 e2 fun A' a1 a2 a3 => ?_
  unfold Builtin.SmallTypes.nextOf
  obtain ⟨mm, F, hlo⟩ := R.fr
  obtain ⟨ox, hx, hP⟩ := R.1.get h3
  have I := instAt R.1 hx hP h4
  refine wpAny_bind (special_fn (f := 90) (args := []) (G.X.keeps F.keep) I (by kernel_rfl) (by kernel_rfl) (wpAny_with_toks R.tk (wpAny_call ?_)))
  refine code_fn (names := nm_cnext) (others := ot_cnext) (us := [.ref x]) (vs := [.val (.ref x)]) (Φ := fun v ob2 => v = .int n ∧ ob2 = ob') G (fn_cnext w.params) (nc_cnext _) a1 (a2.trans G.hand) (by omega) (@BindsTo.of_eq _ _ _ _ (bind_cnext _ _)) nd_cnext rfl (lc_cnext _) (fun L g G' => ?_) (.cons rfl .nil) R fun v u ob2 s' hv hu R'' ht => ?_
  · exact wx_cnext G' rfl h3 h4 h4' U
  · obtain ⟨rfl, he⟩ := hv
    rw [he] at R''
    have R3 : Rep c lo ob' s' := ⟨R'', ht⟩
    refine wpAny_pure ⟨?_, ?_⟩
    · obtain ⟨o1, e1, rfl⟩ := R''.get h1'
      exact e1
    refine wpAny_call ?_
    refine code_lam (us := [u]) (vs := [.int n]) (names := [Str.ofString "x"]) (Φ := fun v ob2 => v = .str (tx (36 :: dig n)) ∧ ob2 = ob') G TT h5 h6 (by decide +kernel) a1 (a2.trans G.hand) (by omega) (fun pm ct => bind_lam pm ct c' u) (by decide +kernel) rfl (by decide +kernel) (by rfl) (by rfl) (by rfl) (fun L g G' => ?_) (.cons hu .nil) R3 fun v u ob2 s' hv hu R4 => ?_
    · exact evx_lamB G' rfl hn
    · obtain ⟨rfl, he⟩ := hv
      rw [he] at R4
      exact q _ _ _ _ hΦ hu R4
end
end Mine
end
section
open PySem.Calls
set_option maxHeartbeats 4000000
namespace Mine

local macro_rules | `(tactic| walk_at "my has") => `(tactic| with_reducible (repeat (first | exact Has.here | apply Has.there)))
local macro_rules | `(tactic| walk_at "my put") => `(tactic| with_reducible (repeat (first | exact Put.here | apply Put.there)))
local macro_rules | `(tactic| walk_at "my lit") => `(tactic| with_reducible (first | exact lit_sq | exact lit_dq | exact lit_E | exact lit_bs | exact lit_mi | exact lit_dl | exact lit_co | exact lit_eq | exact lit_qm | exact lit_pc | exact lit_lp | exact lit_rp | exact lit_s | exact lit_us | exact lit_nl | exact lit_ce | exact lit_ps | exact lit_rs | exact lit_em | exact rfl))
local macro_rules | `(tactic| walk_at "my op") => `(tactic| with_reducible (first | exact op_eq_int | exact op_ne_int | exact op_lt_int | exact op_gt_int | exact op_le_int | exact op_eq_str | exact op_ne_str | exact op_in_str | exact op_notin_str | exact op_eq_none_str | exact op_ne_none_str | exact op_ne_bool | exact op_is_none | exact op_is_none_str | exact op_add_int | exact op_iadd_int | exact op_sub_int | exact op_eq_opt | exact op_ne_opt | exact op_none_opt))
local macro_rules | `(tactic| walk_at "my nu") => `(tactic| first | (intro h; cases h; done) | exact PVo_ne _)
local macro_rules | `(tactic| walk_at "my ev") => `(tactic| first
  | with_reducible exact ev_int | ((with_reducible refine' ev_str ?h1); (case h1 => walk_at "my lit")) | with_reducible exact ev_none | with_reducible exact ev_bool
  | ((with_reducible refine' ev_nm ?k1 ?h1 ?u1); (case k1 => assumption); (case h1 => walk_at "my has"; done); (case u1 => walk_at "my nu"))
  | with_reducible refine' ev_bin ?_ ?_ ?_ | ((with_reducible refine' ev_cmp ?_ ?_ ?_ ?m1); (case m1 => exact rfl)) | ((with_reducible refine' tr_cmp ?_ ?_ ?_ ?m1); (case m1 => exact rfl)) | with_reducible refine' tr_not ?_ | with_reducible refine' tr_op ?_
  | with_reducible refine' tra_and ?_ ?_ | with_reducible exact tra_and_nil | with_reducible refine' tra_or ?_ ?_ | with_reducible exact tra_or_nil
  | with_reducible refine' ev_neg ?_
  | walk_at "my op" | ((with_reducible refine' evl_cons1 ?_ ?_ ?m1); (case m1 => exact rfl)) | with_reducible refine' evl_nil ?_ | (guard_target =~ (_ = _ → _); intro _))
local macro_rules | `(tactic| walk_at "my evs") => `(tactic| repeat' (walk_at "my ev"))
local macro_rules | `(tactic| walk_at "my blt") => `(tactic| first | exact ev_globB (by assumption) (by kernel_rfl) boot_len (by decide +kernel) (by kernel_rfl) (by decide +kernel) | exact ev_globB (by assumption) (by kernel_rfl) boot_str (by decide +kernel) (by kernel_rfl) (by decide +kernel) | exact ev_globB (by assumption) (by kernel_rfl) boot_range (by decide +kernel) (by kernel_rfl) (by decide +kernel))
local macro_rules | `(tactic| walk_at "my fn") => `(tactic| exact ev_glob (by assumption) (by kernel_rfl) (by kernel_rfl) (by decide +kernel))
local macro_rules | `(tactic| walk_at "my puts") => `(tactic| (repeat (apply Puts.cons; (focus (walk_at "my put"; done)))); exact Puts.nil)
local macro_rules | `(tactic| walk_at "my nils") => `(tactic| repeat (first | with_reducible refine seq_nil ?_ | with_reducible refine wx_nil ?_))
local macro_rules | `(tactic| walk_at "my nnils") => `(tactic| repeat (first | with_reducible refine seqn_nil ?_ | with_reducible refine wxn_nil ?_))
local macro_rules | `(tactic| walk_at "my meth") => `(tactic| (apply ev_of_x; first | with_reducible apply evx_meth1 | with_reducible apply evx_meth0 | apply evx_meth1 | apply evx_meth0))

def forTgt : List Stmt → Expr
  | .For t _ _ _ _ :: _ => t
  | _ :: r => forTgt r
  | [] => .Name "" ⟨0, 0, 0, 0⟩
def forBody : List Stmt → List Stmt
  | .For _ _ b _ _ :: _ => b
  | _ :: r => forBody r
  | [] => []
section
variable (prog : Program) (w : World) (c : Cf) (lo : Lo) (ob : Ob)
/-- a for loop over the iterator at e, about to draw -/
def Lp (X : EPost) (tgt : Expr) (e : Addr) (body : List Stmt) (Φ : Post) : Prop := ∀ (s : Shared) (Q : Flow → Shared → Prop) (E : Value → Shared → Prop), Rep c lo ob s → (∀ o f lo' ob' s', Φ o lo' ob' → o.is f → Rep0 c lo' ob' s' → Q f s') → (∀ e s', X e s' → E e s') → PassesOwn (model prog w) c.A c.env E →
  codeAny (model prog w) c.A (.forLoop tgt (.ref e) body [] c.env) (fun r s' => match r with | .ok f => Q f s' | .error e => cameBackBy (model prog w) c.A c.env E e s') s
def LTurn (X : EPost) (tgt : Expr) (e : Addr) (body : List Stmt) (Φ : Post) : Post
  | .next, lo, ob => Lp prog w c lo ob X tgt e body Φ
  | .cont, lo, ob => Lp prog w c lo ob X tgt e body Φ
  | .brk, lo, ob => Φ .next lo ob
  | .ret v, lo, ob => Φ (.ret v) lo ob
end
section
variable {prog : Program} {w : World} {c : Cf} {lo lo' : Lo} {ob ob1 ob2 : Ob} {pos : Pos} {x : Str} {X : EPost} {Φ : Post}
theorem order_two (K : c.env.scope.kind = .function) : True := trivial

theorem walksT_str {A : Around} (hh : A.handled = none) (e it : Addr) (hei : e ≠ it) (y : Str) (t : Tok) : ∃ kind, (kind = strIterType y) ∧ WalksT prog w A e [e, it] [e, it] y.cps.size (fun i vals => ∃ tk ch u, y.cps[i]? = some ch ∧ vals = #[.int i tk, .str ⟨#[ch]⟩ u])
      (fun i h => (∃ old, IsEnum h e it i old) ∧ h.IsStrIter it kind y t i) (fun i T h => (∃ x, IsEnumOut h e it ((i : Int) + 1) x T) ∧ h.IsStrIter it kind y t (i + 1) ∧ T ≠ e ∧ T ≠ it) := by
  refine ⟨_, rfl, ?_⟩
  unfold strIterType
  split
  · have W := WalksT.enumerateD (A := A) (Draws.strAscii (prog := prog) (w := w) (A := A.in1) hh it y t) e hei (by simp [hei]) (by simp)
    exact { W with item := fun i s Q E hi hst hQ => W.item i s Q E hi hst fun T vals h' tk hv => hQ T vals h' tk (by obtain ⟨t, x, ⟨ch, u, h1, rfl⟩, rfl⟩ := hv; exact ⟨_, _, _, h1, rfl⟩) }
  · have W := WalksT.enumerateD (A := A) (Draws.strWide (prog := prog) (w := w) (A := A.in1) hh it y t) e hei (by simp [hei]) (by simp)
    exact { W with item := fun i s Q E hi hst hQ => W.item i s Q E hi hst fun T vals h' tk hv => hQ T vals h' tk (by obtain ⟨t, x, ⟨ch, u, h1, rfl⟩, rfl⟩ := hv; exact ⟨_, _, _, h1, rfl⟩) }

theorem Rep0.upd2 {s : Shared} (R : Rep0 c lo ob s) {a1 a2 : Addr} {P1 P2 : OP} {o1 o2 : Obj} {h' : Heap} (U1 : Put a1 P1 ob ob1) (U2 : Put a2 P2 ob1 ob2) (hne : a1 ≠ a2) (hs : ∀ b o, b ≠ a1 → b ≠ a2 → s.heap.get? b = some o → h'.get? b = some o) (h1 : h'.get? a1 = some o1) (hP1 : P1 o1) (h2 : h'.get? a2 = some o2) (hP2 : P2 o2) (t : Nat) : Rep0 c lo ob2 { s with heap := h', toks := t } := by
  obtain ⟨m, F, hm⟩ := R.fr
  have g1 : ∃ o, s.heap.get? a1 = some o ∧ a1 ≠ c.env.locals ∧ c.h₀.get? a1 = none := by
    obtain ⟨q, hq, e⟩ := List.mem_map.mp U1.has
    obtain ⟨o, x1, x2, x3, _⟩ := R.obs.2 q hq
    rw [e] at x1 x2 x3; exact ⟨o, x1, x2, x3⟩
  have g2 : ∃ o, s.heap.get? a2 = some o ∧ a2 ≠ c.env.locals ∧ c.h₀.get? a2 = none := by
    have := U2.has
    rw [U1.keys] at this
    obtain ⟨q, hq, e⟩ := List.mem_map.mp this
    obtain ⟨o, x1, x2, x3, _⟩ := R.obs.2 q hq
    rw [e] at x1 x2 x3; exact ⟨o, x1, x2, x3⟩
  obtain ⟨_, _, x2, x3⟩ := g1
  obtain ⟨_, _, y2, y3⟩ := g2
  refine ⟨⟨m, ⟨F.ns.at' fun o e => hs _ o (Ne.symm x2) (Ne.symm y2) e, fun b o e => hs b o (fun q => by rw [q, x3] at e; cases e) (fun q => by rw [q, y3] at e; cases e) (F.keep b o e), F.above⟩, hm⟩, ⟨U2.keys ▸ U1.keys ▸ R.obs.1, fun p hp => ?_⟩, R.nd, R.loc, R.os, R.gens⟩
  have nd1 : (ob1.map (·.1)).Nodup := U1.keys ▸ R.obs.1
  rcases U2.mem nd1 hp with rfl | ⟨hp, hne2⟩
  · exact ⟨o2, h2, y2, y3, hP2⟩
  · rcases U1.mem R.obs.1 hp with rfl | ⟨hp, hne1⟩
    · exact ⟨o1, h1, x2, x3, hP1⟩
    · obtain ⟨o, g1, g2⟩ := R.obs.2 p hp
      exact ⟨o, hs _ _ hne1 hne2 g1, g2⟩

theorem lp_step (K : c.env.scope.kind = .function) (hh : c.A.handled = none) {tgt : Expr} {n1 n2 : Str} {p1 p2 p3 : Pos} {k0 : Nat} (htg : tgt = .Tuple [.Name n1 p1, .Name n2 p2] k0 p3) {e it : Addr} {y : Str} {k ch : Nat} {body : List Stmt} (hne : e ≠ it) (hm1 : (e, EnumO it k) ∈ ob) (hm2 : (it, StrItO y k) ∈ ob) (hch : y.cps[k]? = some ch)
    (U1 : Put e (EnumO it (k + 1)) ob ob1) (U2 : Put it (StrItO y (k + 1)) ob1 ob2) (P : Puts [(n1, .int k), (n2, .str ⟨#[ch]⟩)] lo lo') (hb : WX prog w c lo' ob2 X body (LTurn prog w c X tgt e body Φ)) : Lp prog w c lo ob X tgt e body Φ := fun s Q E R q x pe => by
  subst htg
  refine codeAny_of_tree ?_
  show wpAny _ c.A ((forTurn _ (.ref e) body [] c.env).onRaise (fun x => do noteFrame x c.env; theTreesLotGoes x)) _ _ s
  refine wpAny_noted ?_
  simp only [forTurn]
  obtain ⟨oe, he, old, rfl⟩ := R.1.get hm1
  obtain ⟨oi, hi, t, hi1, hi2⟩ := R.1.get hm2
  obtain ⟨kind, hk, W⟩ := walksT_str (prog := prog) (w := w) (A := c.A) hh e it hne y t
  have hlt : k < y.cps.size := by
    rcases Nat.lt_or_ge k y.cps.size with h | h
    · exact h
    · rw [Array.getElem?_eq_none h] at hch; cases hch
  refine wpAny_bind (wpAny_standAt (wpAny_bind (wpAny_onRaise (wpAny_with_toks R.tk (W.item k _ _ _ hlt ⟨⟨old, he⟩, oi, hi, hk ▸ hi1, hi2⟩ fun T vals h' tk hv hT hTv hmid hkeep ht => ?_)))))
  obtain ⟨tk2, ch', u, hc', rfl⟩ := hv
  have : ch' = ch := by rw [hch] at hc'; exact (Option.some.inj hc').symm
  subst this
  refine wpAny_bind (W.go _ _ _ k T _ _ _ hmid fun h2 hst hkeep2 => ?_)
  have hTw := W.apart k T h' hmid
  obtain ⟨⟨old2, he2⟩, oi2, hi', hic, hid⟩ := hst
  have R2 : Rep0 c lo ob2 { s with heap := h2, toks := tk } := R.1.upd2 U1 U2 hne (fun b o hb1 hb2 eo => hkeep2 b o (by simp [hb1, hb2]) (hkeep b o (by simp [hb1, hb2]) eo)) he2 ⟨old2, rfl⟩ hi' ⟨t, hk ▸ hic, hid⟩ tk
  have hT2 : h2.IsTuple T #[.int k tk2, .str ⟨#[ch']⟩ u] := by
    obtain ⟨o, a, b⟩ := hTv
    exact ⟨o, hkeep2 T o hTw a, b⟩
  refine wpAny_bind (wpAny_passesOwn pe (wpAny_with_toks (n := 1) ht (wpAny_assign_Tuple hh hT2 ?_ ?_ fun h3 hx => ?_)))
  · rfl
  · rfl
  refine order_names (lo := lo) (lo' := lo') (xs := [n1, n2]) (vs := [.int k, .str ⟨#[ch']⟩]) K (.cons (.cons .nil)) (.cons ⟨_, rfl⟩ (.cons ⟨_, rfl⟩ .nil)) P rfl (R2.extBut (Nat.le_refl _) hx tk) fun s3 R3 ht3 => ?_
  refine wpAny_bind (wpAny_passesOwn pe (hb.use (E := E) ⟨R3, ht3⟩ (fun o f lo' ob' s' hΦ hf R' => ?_) x pe))
  cases o with
  | next => cases hf; exact wpAny_pure ⟨rfl, hΦ _ _ _ R' q x pe⟩
  | cont => cases hf; exact wpAny_pure ⟨rfl, hΦ _ _ _ R' q x pe⟩
  | brk => cases hf; exact wpAny_pure (q _ _ _ _ _ hΦ rfl R'.1)
  | ret v => obtain ⟨u, rfl, hu⟩ := hf; exact wpAny_pure (q _ _ _ _ _ hΦ ⟨u, rfl, hu⟩ R'.1)
theorem lp_end (hh : c.A.handled = none) {tgt : Expr} {e it : Addr} {y : Str} {r : Ob} {body : List Stmt} (hne : e ≠ it) (h : Φ .next lo r) : Lp prog w c lo ((e, EnumO it y.cps.size) :: (it, StrItO y y.cps.size) :: r) X tgt e body Φ := fun s Q E R q x pe => by
  refine codeAny_of_tree ?_
  show wpAny _ c.A ((forTurn _ (.ref e) body [] c.env).onRaise (fun x => do noteFrame x c.env; theTreesLotGoes x)) _ _ s
  refine wpAny_noted ?_
  simp only [forTurn]
  obtain ⟨oe, he, old, rfl⟩ := R.1.get (.head _)
  obtain ⟨oi, hi, t, hi1, hi2⟩ := R.1.get (.tail _ (.head _))
  obtain ⟨kind, hk, W⟩ := walksT_str (prog := prog) (w := w) (A := c.A) hh e it hne y t
  refine wpAny_bind (wpAny_standAt (wpAny_bind (wpAny_onRaise (W.done _ _ _ ⟨⟨old, he⟩, oi, hi, hk ▸ hi1, hi2⟩ fun h' tk hkeep => ?_))))
  refine wpAny_pure ⟨rfl, codeAny_block (wpAny_execs_nil ?_)⟩
  refine q _ _ _ _ _ h rfl ?_
  obtain ⟨m, F, hm⟩ := R.fr
  obtain ⟨oe, _, x2, x3, _⟩ := R.obs.2 _ (.head _)
  obtain ⟨oi, _, y2, y3, _⟩ := R.obs.2 _ (.tail _ (.head _))
  have hw : ∀ b, b ≠ e → b ≠ it → b ∉ [e, it] := fun b h1 h2 => by simp [h1, h2]
  have nd := R.obs.1
  have n1 := List.nodup_cons.mp nd
  have n2 := List.nodup_cons.mp n1.2
  refine ⟨⟨m, ⟨F.ns.at' fun o eo => hkeep _ o (hw _ (Ne.symm x2) (Ne.symm y2)) eo, fun b o eo => hkeep b o (hw _ (fun q => by rw [q, x3] at eo; cases eo) (fun q => by rw [q, y3] at eo; cases eo)) (F.keep b o eo), F.above⟩, hm⟩, ⟨n2.2, fun p hp => ?_⟩, R.nd, R.loc, R.os, R.gens⟩
  obtain ⟨o, g1, g2⟩ := R.obs.2 p (.tail _ (.tail _ hp))
  exact ⟨o, hkeep _ _ (hw _ (fun q => n1.1 (q ▸ List.mem_cons_of_mem _ (List.mem_map.mpr ⟨p, hp, rfl⟩))) (fun q => n2.1 (q ▸ List.mem_map.mpr ⟨p, hp, rfl⟩))) g1, g2⟩
theorem ws_for {tgt iter : Expr} {body : List Stmt} {y : Str} (he : EvX prog w c lo ob iter (fun v ob' => ∃ e it, v = .val (.ref e) ∧ (e, EnumO it 0) ∈ ob' ∧ Lp prog w c lo ob' X tgt e body Φ)) (hs : ∀ x, foldedSetIterable iter c.env x = pure x) : WS prog w c lo ob X (.For tgt iter body [] pos) Φ := fun s Q E R q x pe => by
  refine wpAny_For (he.use R fun v u ob' s1 hv hu R1 => ?_) hs
  obtain ⟨e, it, rfl, hm, hl⟩ := hv
  cases hu
  obtain ⟨oe, h1, old, rfl⟩ := R1.1.get hm
  exact wpAny_pyIter_enum h1 (hl _ _ _ R1 q x pe)
end
end Mine
end
section
open PySem.Calls
set_option maxHeartbeats 4000000
namespace Mine

local macro_rules | `(tactic| walk_at "my has") => `(tactic| with_reducible (repeat (first | exact Has.here | apply Has.there)))
local macro_rules | `(tactic| walk_at "my put") => `(tactic| with_reducible (repeat (first | exact Put.here | apply Put.there)))
local macro_rules | `(tactic| walk_at "my lit") => `(tactic| with_reducible (first | exact lit_sq | exact lit_dq | exact lit_E | exact lit_bs | exact lit_mi | exact lit_dl | exact lit_co | exact lit_eq | exact lit_qm | exact lit_pc | exact lit_lp | exact lit_rp | exact lit_s | exact lit_us | exact lit_nl | exact lit_ce | exact lit_ps | exact lit_rs | exact lit_em | exact rfl))
local macro_rules | `(tactic| walk_at "my op") => `(tactic| with_reducible (first | exact op_eq_int | exact op_ne_int | exact op_lt_int | exact op_gt_int | exact op_le_int | exact op_eq_str | exact op_ne_str | exact op_in_str | exact op_notin_str | exact op_eq_none_str | exact op_ne_none_str | exact op_ne_bool | exact op_is_none | exact op_is_none_str | exact op_add_int | exact op_iadd_int | exact op_sub_int | exact op_eq_opt | exact op_ne_opt | exact op_none_opt))
local macro_rules | `(tactic| walk_at "my nu") => `(tactic| first | (intro h; cases h; done) | exact PVo_ne _)
local macro_rules | `(tactic| walk_at "my ev") => `(tactic| first
  | with_reducible exact ev_int | ((with_reducible refine' ev_str ?h1); (case h1 => walk_at "my lit")) | with_reducible exact ev_none | with_reducible exact ev_bool
  | ((with_reducible refine' ev_nm ?k1 ?h1 ?u1); (case k1 => assumption); (case h1 => walk_at "my has"; done); (case u1 => walk_at "my nu"))
  | with_reducible refine' ev_bin ?_ ?_ ?_ | ((with_reducible refine' ev_cmp ?_ ?_ ?_ ?m1); (case m1 => exact rfl)) | ((with_reducible refine' tr_cmp ?_ ?_ ?_ ?m1); (case m1 => exact rfl)) | with_reducible refine' tr_not ?_ | with_reducible refine' tr_op ?_
  | with_reducible refine' tra_and ?_ ?_ | with_reducible exact tra_and_nil | with_reducible refine' tra_or ?_ ?_ | with_reducible exact tra_or_nil
  | with_reducible refine' ev_neg ?_
  | walk_at "my op" | ((with_reducible refine' evl_cons1 ?_ ?_ ?m1); (case m1 => exact rfl)) | with_reducible refine' evl_nil ?_ | (guard_target =~ (_ = _ → _); intro _))
local macro_rules | `(tactic| walk_at "my evs") => `(tactic| repeat' (walk_at "my ev"))
local macro_rules | `(tactic| walk_at "my blt") => `(tactic| first | exact ev_globB (by assumption) (by kernel_rfl) boot_len (by decide +kernel) (by kernel_rfl) (by decide +kernel) | exact ev_globB (by assumption) (by kernel_rfl) boot_str (by decide +kernel) (by kernel_rfl) (by decide +kernel) | exact ev_globB (by assumption) (by kernel_rfl) boot_range (by decide +kernel) (by kernel_rfl) (by decide +kernel))
local macro_rules | `(tactic| walk_at "my fn") => `(tactic| exact ev_glob (by assumption) (by kernel_rfl) (by kernel_rfl) (by decide +kernel))
local macro_rules | `(tactic| walk_at "my puts") => `(tactic| (repeat (apply Puts.cons; (focus (walk_at "my put"; done)))); exact Puts.nil)
local macro_rules | `(tactic| walk_at "my nils") => `(tactic| repeat (first | with_reducible refine seq_nil ?_ | with_reducible refine wx_nil ?_))
local macro_rules | `(tactic| walk_at "my nnils") => `(tactic| repeat (first | with_reducible refine seqn_nil ?_ | with_reducible refine wxn_nil ?_))
local macro_rules | `(tactic| walk_at "my meth") => `(tactic| (apply ev_of_x; first | with_reducible apply evx_meth1 | with_reducible apply evx_meth0 | apply evx_meth1 | apply evx_meth0))

def fsOf (c : Cf) : List Addr := match c.A.frames with
  | some (_ :: outer) => outer.filterMap (·.frame)
  | _ => []
def Tn (c : Cf) (g : Heap) : Prop := KtsTurn (fsOf c) c.h₀ g
abbrev Cf.at (c : Cf) (g : Heap) : Cf := { c with h₀ := g }
theorem Tn.refl {c : Cf} : Tn c c.h₀ := KtsTurn.refl
theorem Tn.trans {c : Cf} {g g' : Heap} (x : Tn c g) (y : Tn (c.at g) g') : Tn c g' := KtsTurn.trans x y

/-- the ground of a frame in which exceptions may be caught -/
structure Gu (K : Frag) (p : Program) (loose : List Str) (mean : ExcName → Option Value) (mg mb : Str → Option Value) (c : Cf) : Prop where
  hand : c.A.handled = none
  kind : c.env.scope.kind = .function
  glob : c.env.globals = mainGlobals
  blt : c.env.builtins = builtinsNs
  frame : c.env.frame = some c.env.locals
  bel : ∃ A₀ base outer, Below A₀ base outer c.h₀ ∧ c.A.frames = some (c.env :: outer) ∧ K.In base ∧ Top p loose mean mg mb base ∧ KtsDicts (outer.filterMap (·.frame)) c.h₀

section
variable {K : Frag} {p : Program} {loose : List Str} {mean : ExcName → Option Value} {mg mb : Str → Option Value} {c : Cf}
theorem Gu.gt (G : Gu K p loose mean mg mb c) : Gt K p loose mg mb c := by
  obtain ⟨A₀, base, outer, B, hA, XB, TB, D⟩ := G.bel
  exact ⟨XB.keeps B.stays, topRead_of (TB.keeps B.stays), G.hand, G.kind, G.glob, G.blt, G.frame, A₀, base, outer, B, hA⟩
theorem Gu.top (G : Gu K p loose mean mg mb c) : Top p loose mean mg mb c.h₀ := by
  obtain ⟨A₀, base, outer, B, hA, XB, TB, D⟩ := G.bel
  exact TB.keeps B.stays
theorem Below.turn {A₀ : Around} {base g g' : Heap} {outer : List Env} (K : Below A₀ base outer g) (T : KtsTurn (outer.filterMap (·.frame)) g g') : Below A₀ base outer g' :=
  ⟨K.stack, fun b o e => T.other b o (K.stays b o e) (fun hm => by rw [(K.frames.mem hm).1] at e; cases e), K.frames.of_keeps fun b o e _ => by obtain ⟨sl, hs⟩ := T.up e; exact ⟨_, hs, rfl⟩⟩
theorem Gu.turn (G : Gu K p loose mean mg mb c) {g : Heap} (T : Tn c g) : Gu K p loose mean mg mb (c.at g) := by
  obtain ⟨A₀, base, outer, B, hA, XB, TB, D⟩ := G.bel
  have T' : KtsTurn (outer.filterMap (·.frame)) c.h₀ g := by
    have := T; unfold Tn fsOf at this; rw [hA] at this; exact this
  exact ⟨G.hand, G.kind, G.glob, G.blt, G.frame, A₀, base, outer, Below.turn B T', hA, XB, TB, D.turn T'⟩
end

section
variable (prog : Program) (w : World) (c : Cf) (lo : Lo) (ob : Ob)
def WXn (X : EPost) (body : List Stmt) (Φ : Post) : Prop := ∀ g, Tn c g → ∀ (s : Shared) (Q : Flow → Shared → Prop) (E : Value → Shared → Prop), Rep (c.at g) lo ob s → (∀ o f lo' ob' s' g', Tn c g' → Φ o lo' ob' → o.is f → Rep0 (c.at g') lo' ob' s' → Q f s') → (∀ e s', X e s' → E e s') → PassesOwn (model prog w) c.A c.env E → wpAny (model prog w) c.A (execs body c.env) Q E s
def WSn (X : EPost) (st : Stmt) (Φ : Post) : Prop := ∀ g, Tn c g → ∀ (s : Shared) (Q : Flow → Shared → Prop) (E : Value → Shared → Prop), Rep (c.at g) lo ob s → (∀ o f lo' ob' s' g', Tn c g' → Φ o lo' ob' → o.is f → Rep0 (c.at g') lo' ob' s' → Q f s') → (∀ e s', X e s' → E e s') → PassesOwn (model prog w) c.A c.env E → wpAny (model prog w) c.A (exec st c.env) Q E s
def SeqN (X : EPost) (rest : List Stmt) (Φ : Post) : Post
  | .next, lo, ob => WXn prog w c lo ob X rest Φ
  | o, lo, ob => Φ o lo ob
def Lpn (X : EPost) (tgt : Expr) (e : Addr) (body : List Stmt) (Φ : Post) : Prop := ∀ g, Tn c g → ∀ (s : Shared) (Q : Flow → Shared → Prop) (E : Value → Shared → Prop), Rep (c.at g) lo ob s → (∀ o f lo' ob' s' g', Tn c g' → Φ o lo' ob' → o.is f → Rep0 (c.at g') lo' ob' s' → Q f s') → (∀ e s', X e s' → E e s') → PassesOwn (model prog w) c.A c.env E →
  codeAny (model prog w) c.A (.forLoop tgt (.ref e) body [] c.env) (fun r s' => match r with | .ok f => Q f s' | .error e => cameBackBy (model prog w) c.A c.env E e s') s
def LTurnN (X : EPost) (tgt : Expr) (e : Addr) (body : List Stmt) (Φ : Post) : Post
  | .next, lo, ob => Lpn prog w c lo ob X tgt e body Φ
  | .cont, lo, ob => Lpn prog w c lo ob X tgt e body Φ
  | .brk, lo, ob => Φ .next lo ob
  | .ret v, lo, ob => Φ (.ret v) lo ob
end
section
variable {prog : Program} {w : World} {c : Cf} {lo lo' : Lo} {ob ob1 ob2 : Ob} {pos : Pos} {x : Str} {X : EPost} {Φ : Post} {st : Stmt} {rest : List Stmt}
theorem WXn.use {body : List Stmt} (h : WXn prog w c lo ob X body Φ) {g : Heap} (T : Tn c g) {s : Shared} {E : Value → Shared → Prop} {Q : Flow → Shared → Prop} (R : Rep (c.at g) lo ob s) (q : ∀ o f lo' ob' s' g', Tn c g' → Φ o lo' ob' → o.is f → Rep (c.at g') lo' ob' s' → Q f s') (x : ∀ e s', X e s' → E e s') (pe : PassesOwn (model prog w) c.A c.env E) : wpAny (model prog w) c.A (execs body c.env) Q E s :=
  wpAny_mono (wpAny_toks_of R.tk (h g T _ (fun f s' => ∃ o lo' ob' g', Tn c g' ∧ Φ o lo' ob' ∧ o.is f ∧ Rep0 (c.at g') lo' ob' s') E R (fun o f lo' ob' s' g' T' hΦ hf R' => ⟨o, lo', ob', g', T', hΦ, hf, R'⟩) x pe)) (fun f s' ⟨ht, o, lo', ob', g', T', hΦ, hf, R'⟩ => q o f lo' ob' s' g' T' hΦ hf ⟨R', ht⟩) fun _ _ e => e.2
theorem WSn.use (h : WSn prog w c lo ob X st Φ) {g : Heap} (T : Tn c g) {s : Shared} {E : Value → Shared → Prop} {Q : Flow → Shared → Prop} (R : Rep (c.at g) lo ob s) (q : ∀ o f lo' ob' s' g', Tn c g' → Φ o lo' ob' → o.is f → Rep (c.at g') lo' ob' s' → Q f s') (x : ∀ e s', X e s' → E e s') (pe : PassesOwn (model prog w) c.A c.env E) : wpAny (model prog w) c.A (exec st c.env) Q E s :=
  wpAny_mono (wpAny_toks_of R.tk (h g T _ (fun f s' => ∃ o lo' ob' g', Tn c g' ∧ Φ o lo' ob' ∧ o.is f ∧ Rep0 (c.at g') lo' ob' s') E R (fun o f lo' ob' s' g' T' hΦ hf R' => ⟨o, lo', ob', g', T', hΦ, hf, R'⟩) x pe)) (fun f s' ⟨ht, o, lo', ob', g', T', hΦ, hf, R'⟩ => q o f lo' ob' s' g' T' hΦ hf ⟨R', ht⟩) fun _ _ e => e.2
theorem wxn_nil (h : Φ .next lo ob) : WXn prog w c lo ob X [] Φ := fun g T s Q E R q _ _ => wpAny_execs_nil (q _ _ _ _ _ _ T h rfl R.1)
theorem seqn_nil (h : Φ .next lo ob) : SeqN prog w c X [] Φ .next lo ob := wxn_nil h
theorem wsn_old (h : ∀ g, Tn c g → WS prog w (c.at g) lo ob X st Φ) : WSn prog w c lo ob X st Φ := fun g T s Q E R q x pe => h g T s Q E R (fun o f lo' ob' s' hΦ hf R' => q o f lo' ob' s' g T hΦ hf R') x pe
theorem wxn_cons (h : WSn prog w c lo ob X st (SeqN prog w c X rest Φ)) : WXn prog w c lo ob X (st :: rest) Φ := fun g T s Q E R q x pe => by
  refine wpAny_execs_cons (h.use T R (fun o f lo' ob' s' g' T' hΦ hf R' => ?_) x pe)
  cases o with
  | next => cases hf; exact hΦ g' T' _ _ _ R' q x pe
  | cont => cases hf; exact q _ _ _ _ _ _ T' hΦ rfl R'.1
  | brk => cases hf; exact q _ _ _ _ _ _ T' hΦ rfl R'.1
  | ret v => obtain ⟨u, rfl, hu⟩ := hf; exact q _ _ _ _ _ _ T' hΦ ⟨u, rfl, hu⟩ R'.1
theorem wxn_old (h : ∀ g, Tn c g → WS prog w (c.at g) lo ob X st (SeqN prog w c X rest Φ)) : WXn prog w c lo ob X (st :: rest) Φ := wxn_cons (wsn_old h)
theorem wxn_mono {body : List Stmt} {Ψ : Post} (h : WXn prog w c lo ob X body Ψ) (k : ∀ o lo' ob', Ψ o lo' ob' → Φ o lo' ob') : WXn prog w c lo ob X body Φ := fun g T s Q E R q x pe => h g T _ _ _ R (fun o f lo' ob' s' g' T' a => q o f lo' ob' s' g' T' (k _ _ _ a)) x pe
theorem wsn_if {t : Expr} {a b : List Stmt} {y : Bool} (ht : ∀ g, Tn c g → Tr prog w (c.at g) lo ob t y) (ha : y = true → WXn prog w c lo ob X a Φ) (hb : y = false → WXn prog w c lo ob X b Φ) : WSn prog w c lo ob X (.If t a b pos) Φ := fun g T s Q E R q x pe => by
  refine wpAny_If ((ht g T).use R fun s' R' => ?_)
  cases y with
  | true => exact ha rfl g T _ _ _ R' q x pe
  | false => exact hb rfl g T _ _ _ R' q x pe
theorem wxn_weak {body : List Stmt} (a : Wk lo lo') (b : List.Sublist ob1 ob) (h : WXn prog w c lo' ob1 X body Φ) : WXn prog w c lo ob X body Φ := fun g T s Q E R q x pe => h g T _ _ _ ⟨R.1.weak a b, R.tk⟩ q x pe
theorem lpn_weak {tgt : Expr} {e : Addr} {body : List Stmt} (a : Wk lo lo') (b : List.Sublist ob1 ob) (h : Lpn prog w c lo' ob1 X tgt e body Φ) : Lpn prog w c lo ob X tgt e body Φ := fun g T s Q E R q x pe => h g T _ _ _ ⟨R.1.weak a b, R.tk⟩ q x pe
theorem lpn_step (K : c.env.scope.kind = .function) (hh : c.A.handled = none) {tgt : Expr} {n1 n2 : Str} {p1 p2 p3 : Pos} {k0 : Nat} (htg : tgt = .Tuple [.Name n1 p1, .Name n2 p2] k0 p3) {e it : Addr} {y : Str} {k ch : Nat} {body : List Stmt} (hne : e ≠ it) (hm1 : (e, EnumO it k) ∈ ob) (hm2 : (it, StrItO y k) ∈ ob) (hch : y.cps[k]? = some ch)
    (U1 : Put e (EnumO it (k + 1)) ob ob1) (U2 : Put it (StrItO y (k + 1)) ob1 ob2) (P : Puts [(n1, .int k), (n2, .str ⟨#[ch]⟩)] lo lo') (hb : WXn prog w c lo' ob2 X body (LTurnN prog w c X tgt e body Φ)) : Lpn prog w c lo ob X tgt e body Φ := fun g T s Q E R q x pe => by
  subst htg
  refine codeAny_of_tree ?_
  show wpAny _ c.A ((forTurn _ (.ref e) body [] c.env).onRaise (fun x => do noteFrame x c.env; theTreesLotGoes x)) _ _ s
  refine wpAny_noted ?_
  simp only [forTurn]
  obtain ⟨oe, he, old, rfl⟩ := R.1.get hm1
  obtain ⟨oi, hi, t, hi1, hi2⟩ := R.1.get hm2
  obtain ⟨kind, hk, W⟩ := walksT_str (prog := prog) (w := w) (A := c.A) hh e it hne y t
  have hlt : k < y.cps.size := by
    rcases Nat.lt_or_ge k y.cps.size with h | h
    · exact h
    · rw [Array.getElem?_eq_none h] at hch; cases hch
  refine wpAny_bind (wpAny_standAt (wpAny_bind (wpAny_onRaise (wpAny_with_toks R.tk (W.item k _ _ _ hlt ⟨⟨old, he⟩, oi, hi, hk ▸ hi1, hi2⟩ fun TT vals h' tk hv hT hTv hmid hkeep ht => ?_)))))
  obtain ⟨tk2, ch', u, hc', rfl⟩ := hv
  have : ch' = ch := by rw [hch] at hc'; exact (Option.some.inj hc').symm
  subst this
  refine wpAny_bind (W.go _ _ _ k TT _ _ _ hmid fun h2 hst hkeep2 => ?_)
  have hTw := W.apart k TT h' hmid
  obtain ⟨⟨old2, he2⟩, oi2, hi', hic, hid⟩ := hst
  have R2 : Rep0 (c.at g) lo ob2 { s with heap := h2, toks := tk } := R.1.upd2 U1 U2 hne (fun b o hb1 hb2 eo => hkeep2 b o (by simp [hb1, hb2]) (hkeep b o (by simp [hb1, hb2]) eo)) he2 ⟨old2, rfl⟩ hi' ⟨t, hk ▸ hic, hid⟩ tk
  have hT2 : h2.IsTuple TT #[.int k tk2, .str ⟨#[ch']⟩ u] := by
    obtain ⟨o, a, b⟩ := hTv
    exact ⟨o, hkeep2 TT o hTw a, b⟩
  refine wpAny_bind (wpAny_passesOwn pe (wpAny_with_toks (n := 1) ht (wpAny_assign_Tuple hh hT2 ?_ ?_ fun h3 hx => ?_)))
  · rfl
  · rfl
  refine order_names (c := c.at g) (lo := lo) (lo' := lo') (xs := [n1, n2]) (vs := [.int k, .str ⟨#[ch']⟩]) K (.cons (.cons .nil)) (.cons ⟨_, rfl⟩ (.cons ⟨_, rfl⟩ .nil)) P rfl (R2.extBut (Nat.le_refl _) hx tk) fun s3 R3 ht3 => ?_
  refine wpAny_bind (wpAny_passesOwn pe (hb.use (E := E) T ⟨R3, ht3⟩ (fun o f lo' ob' s' g' T' hΦ hf R' => ?_) x pe))
  cases o with
  | next => cases hf; exact wpAny_pure ⟨rfl, hΦ g' T' _ _ _ R' q x pe⟩
  | cont => cases hf; exact wpAny_pure ⟨rfl, hΦ g' T' _ _ _ R' q x pe⟩
  | brk => cases hf; exact wpAny_pure (q _ _ _ _ _ _ T' hΦ rfl R'.1)
  | ret v => obtain ⟨u, rfl, hu⟩ := hf; exact wpAny_pure (q _ _ _ _ _ _ T' hΦ ⟨u, rfl, hu⟩ R'.1)
theorem lpn_end (hh : c.A.handled = none) {tgt : Expr} {e it : Addr} {y : Str} {r : Ob} {body : List Stmt} (hne : e ≠ it) (h : Φ .next lo r) : Lpn prog w c lo ((e, EnumO it y.cps.size) :: (it, StrItO y y.cps.size) :: r) X tgt e body Φ := fun g T s Q E R q x pe =>
  lp_end (c := c.at g) (Φ := Φ) hh hne h s Q E R (fun o f lo' ob' s' hΦ hf R' => q o f lo' ob' s' g T hΦ hf R') x pe
theorem wsn_for {tgt iter : Expr} {body : List Stmt} (he : ∀ g, Tn c g → EvX prog w (c.at g) lo ob iter (fun v ob' => ∃ e it, v = .val (.ref e) ∧ (e, EnumO it 0) ∈ ob' ∧ Lpn prog w c lo ob' X tgt e body Φ)) (hs : ∀ x, foldedSetIterable iter c.env x = pure x) : WSn prog w c lo ob X (.For tgt iter body [] pos) Φ := fun g T s Q E R q x pe => by
  refine wpAny_For ((he g T).use R fun v u ob' s1 hv hu R1 => ?_) hs
  obtain ⟨e, it, rfl, hm, hl⟩ := hv
  cases hu
  obtain ⟨oe, h1, old, rfl⟩ := R1.1.get hm
  exact wpAny_pyIter_enum h1 (hl g T _ _ _ R1 q x pe)
end
end Mine
end
section
open PySem.Calls
set_option maxHeartbeats 4000000
namespace Mine

local macro_rules | `(tactic| walk_at "my has") => `(tactic| with_reducible (repeat (first | exact Has.here | apply Has.there)))
local macro_rules | `(tactic| walk_at "my put") => `(tactic| with_reducible (repeat (first | exact Put.here | apply Put.there)))
local macro_rules | `(tactic| walk_at "my lit") => `(tactic| with_reducible (first | exact lit_sq | exact lit_dq | exact lit_E | exact lit_bs | exact lit_mi | exact lit_dl | exact lit_co | exact lit_eq | exact lit_qm | exact lit_pc | exact lit_lp | exact lit_rp | exact lit_s | exact lit_us | exact lit_nl | exact lit_ce | exact lit_ps | exact lit_rs | exact lit_em | exact rfl))
local macro_rules | `(tactic| walk_at "my op") => `(tactic| with_reducible (first | exact op_eq_int | exact op_ne_int | exact op_lt_int | exact op_gt_int | exact op_le_int | exact op_eq_str | exact op_ne_str | exact op_in_str | exact op_notin_str | exact op_eq_none_str | exact op_ne_none_str | exact op_ne_bool | exact op_is_none | exact op_is_none_str | exact op_add_int | exact op_iadd_int | exact op_sub_int | exact op_eq_opt | exact op_ne_opt | exact op_none_opt))
local macro_rules | `(tactic| walk_at "my nu") => `(tactic| first | (intro h; cases h; done) | exact PVo_ne _)
local macro_rules | `(tactic| walk_at "my ev") => `(tactic| first
  | with_reducible exact ev_int | ((with_reducible refine' ev_str ?h1); (case h1 => walk_at "my lit")) | with_reducible exact ev_none | with_reducible exact ev_bool
  | ((with_reducible refine' ev_nm ?k1 ?h1 ?u1); (case k1 => assumption); (case h1 => walk_at "my has"; done); (case u1 => walk_at "my nu"))
  | with_reducible refine' ev_bin ?_ ?_ ?_ | ((with_reducible refine' ev_cmp ?_ ?_ ?_ ?m1); (case m1 => exact rfl)) | ((with_reducible refine' tr_cmp ?_ ?_ ?_ ?m1); (case m1 => exact rfl)) | with_reducible refine' tr_not ?_ | with_reducible refine' tr_op ?_
  | with_reducible refine' tra_and ?_ ?_ | with_reducible exact tra_and_nil | with_reducible refine' tra_or ?_ ?_ | with_reducible exact tra_or_nil
  | with_reducible refine' ev_neg ?_
  | walk_at "my op" | ((with_reducible refine' evl_cons1 ?_ ?_ ?m1); (case m1 => exact rfl)) | with_reducible refine' evl_nil ?_ | (guard_target =~ (_ = _ → _); intro _))
local macro_rules | `(tactic| walk_at "my evs") => `(tactic| repeat' (walk_at "my ev"))
local macro_rules | `(tactic| walk_at "my blt") => `(tactic| first | exact ev_globB (by assumption) (by kernel_rfl) boot_len (by decide +kernel) (by kernel_rfl) (by decide +kernel) | exact ev_globB (by assumption) (by kernel_rfl) boot_str (by decide +kernel) (by kernel_rfl) (by decide +kernel) | exact ev_globB (by assumption) (by kernel_rfl) boot_range (by decide +kernel) (by kernel_rfl) (by decide +kernel))
local macro_rules | `(tactic| walk_at "my fn") => `(tactic| exact ev_glob (by assumption) (by kernel_rfl) (by kernel_rfl) (by decide +kernel))
local macro_rules | `(tactic| walk_at "my puts") => `(tactic| (repeat (apply Puts.cons; (focus (walk_at "my put"; done)))); exact Puts.nil)
local macro_rules | `(tactic| walk_at "my nils") => `(tactic| repeat (first | with_reducible refine seq_nil ?_ | with_reducible refine wx_nil ?_))
local macro_rules | `(tactic| walk_at "my nnils") => `(tactic| repeat (first | with_reducible refine seqn_nil ?_ | with_reducible refine wxn_nil ?_))
local macro_rules | `(tactic| walk_at "my meth") => `(tactic| (apply ev_of_x; first | with_reducible apply evx_meth1 | with_reducible apply evx_meth0 | apply evx_meth1 | apply evx_meth0))

section
variable {K : Frag} {p : Program} {loose : List Str} {mean : ExcName → Option Value} {mg mb : Str → Option Value} {c : Cf} {lo : Lo} {ob : Ob}
variable {A₀ : Around} {base g G B h₅ : Heap} {outer : List Env} {L : Addr} {m : Str → Option Value} {env : Env}
theorem fs_mem {b : Addr} (hf : env.frame = some L) (hm : b ∈ (env :: outer).filterMap (·.frame)) : b = L ∨ b ∈ outer.filterMap (·.frame) := by
  obtain ⟨en, he, hff⟩ := List.mem_filterMap.mp hm
  rcases List.mem_cons.mp he with rfl | he
  · rw [hf] at hff; exact .inl (Option.some.inj hff).symm
  · exact .inr (List.mem_filterMap.mpr ⟨en, he, hff⟩)
theorem ground_up (hf : env.frame = some L) (K : Below A₀ base outer g) (F : Fr g L G m) (hBG : ∀ b o, G.get? b = some o → b ∉ (env :: outer).filterMap (·.frame) → B.get? b = some o) (hBh : B.StaysIn h₅) (hsm : G.UpToSlots h₅) :
    ∃ g', KtsTurn (outer.filterMap (·.frame)) g g' ∧ Fr g' L h₅ m := by
  have self : ∀ o, g.get? L = some o → False := fun o e => by rw [kts_self F] at e; cases e
  obtain ⟨T, S⟩ := kts_turn_at (h := h₅) (fs := outer.filterMap (·.frame)) (g := g)
    (fun b hb => by obtain ⟨_, o, ho, _⟩ := K.frames.mem hb; exact ⟨o, ho⟩)
    (fun b o e nm => hBh b o (hBG b o (F.keep b o e) (fun hm => by
      rcases fs_mem hf hm with z | z
      · exact self o (z ▸ e)
      · exact nm z)))
    (fun b o e hm => by
      obtain ⟨_, o', ho', hd⟩ := K.frames.mem hm
      rw [e] at ho'; cases ho'
      exact hsm b o (F.keep b o e) hd)
  exact ⟨_, T, hsm.ns F.ns, S, by rw [T.size]; exact F.above⟩

/-- all but the frames stands; the frames but for their slots: the state still fits the ledger, over a turned ground -/
theorem Rep0.turned {s s' : Shared} (hf : c.env.frame = some c.env.locals) (Bl : Below A₀ base outer c.h₀) (hA : c.A.frames = some (c.env :: outer)) (R : Rep0 c lo ob s)
    (hBh : (hideAll s.heap ((c.env :: outer).filterMap (·.frame))).StaysIn s'.heap) (hsm : s.heap.UpToSlots s'.heap) (hos : s'.os = s.os) (hg : s'.gens = s.gens) : ∃ g', Tn c g' ∧ Rep0 (c.at g') lo ob s' := by
  obtain ⟨m, F, hlo⟩ := R.fr
  obtain ⟨g', T, F'⟩ := ground_up (env := c.env) hf Bl F (fun b o e nm => hideAll_get _ e nm) hBh hsm
  refine ⟨g', by unfold Tn fsOf; rw [hA]; exact T, ⟨m, F', hlo⟩, ⟨R.obs.1, fun q hq => ?_⟩, R.nd, R.loc, hos.trans R.os, hg ▸ R.gens⟩
  obtain ⟨o, h1, h2, h3, h4⟩ := R.obs.2 q hq
  refine ⟨o, hBh _ _ (hideAll_get _ h1 fun hm => ?_), h2, T.none_ _ h3, h4⟩
  rcases fs_mem hf hm with z | z
  · exact h2 z
  · obtain ⟨_, o', ho', _⟩ := Bl.frames.mem z
    rw [h3] at ho'; cases ho'
end
section
variable {prog : Program} {w : World} {K : Frag} {p : Program} {loose : List Str} {mean : ExcName → Option Value} {mg mb : Str → Option Value} {c : Cf} {lo : Lo} {ob : Ob} {pos np : Pos}
/-- an exception that a built-in has raised in this frame is caught here by its own class -/
theorem catch_new (G : Gu K p loose mean mg mb c) {s s' : Shared} {e : Addr} {X : String} {x : Str} {b₀ : Stmt} {suite : List Stmt} {rest : List ExceptHandler} {Q : Flow → Shared → Prop} {E : Value → Shared → Prop} (R : Rep0 c lo ob s) (hx : Heap.NewExc s.heap s'.heap e X) (hos : s'.os = s.os) (hg : s'.gens = s.gens)
    (ex : nsIn K mainGlobals x = some none) (hv : bootBuiltins x = some (.type X)) (hn' : x ≠ "__name__") (hxk : c.env.kindOf x = some .globalImplicit) (hd : (x == ("__debug__" : Str)) = false)
    (hexc : isSubtype (.type X) (.type "BaseException") = pure true) (hnt : isSubtype (.type ((Manifest.find? X).elim "type" fun y => y.metatype)) (.type "tuple") = pure false) (hsub : isSubtype (.type X) (.type X) = pure true)
    (k : ∀ g' h', Tn c g' → Rep0 (c.at g') lo ob { s' with heap := h' } → wpAny (model prog w) (c.A.mark (some (.ref e))) (execs (b₀ :: suite) c.env) Q (fun _ _ => False) { s' with heap := h' }) :
    wpAny (model prog w) c.A (noteFrame (.ref e) c.env) (fun _ s₂ => wpAny (model prog w) c.A (setFlight (.ref e) none) (fun _ s₃ => wpAny (model prog w) c.A (handleBy (.ref e) c.env (.ExceptHandler (some (.Name x np)) none (b₀ :: suite) pos :: rest)) Q E s₃) E s₂) E s' := by
  obtain ⟨A₀, base, outer, Bl, hA, XB, TB, D⟩ := G.bel
  have hf := G.frame
  obtain ⟨m, F, hlo⟩ := R.fr
  have K' := pushX (env := c.env) Bl F hf G.kind
  have hin : ∀ en ∈ (c.env :: outer), ∀ b, en.frame = some b → b ∈ (c.env :: outer).filterMap (·.frame) := fun en he b hb => List.mem_filterMap.mpr ⟨en, he, hb⟩
  have fr1 : s'.heap.FunFrames (hideAll s.heap ((c.env :: outer).filterMap (·.frame))) (c.env :: outer) := (funFrames_hide K'.frames hin).of_keeps fun b o eo _ => ⟨o, hx.keeps b o eo, rfl⟩
  have st1 : (hideAll s.heap ((c.env :: outer).filterMap (·.frame))).StaysIn s'.heap := fun b o eo => hx.keeps b o (of_hideAll _ eo)
  have en1 : (hideAll s.heap ((c.env :: outer).filterMap (·.frame))).get? e = none := by
    cases q : (hideAll s.heap ((c.env :: outer).filterMap (·.frame))).get? e with
    | none => rfl
    | some o => have := of_hideAll _ q; rw [hx.new] at this; cases this
  obtain ⟨oe, tp, he, hcls, hdat⟩ := hx.there
  have up1 : s.heap.UpToSlots s'.heap := Heap.UpToSlots.of_keeps hx.keeps
  unfold noteFrame
  simp only [hf]
  refine wpAny_bind (wpAny_field he hdat (x := .none) rfl ?_)
  rw [if_neg (by decide)]
  refine wpAny_entryW (a0 := tp) hA fr1 hf he st1 en1 hdat (by show 1 < 6; decide) rfl fun h4 hN => ?_
  obtain ⟨k1, k2, k3, k4⟩ := hN
  refine wpAny_landsW (e := e) (L := c.env.locals) ⟨k1, en1, k2, k3⟩ fun h5 hheld up5 => ?_
  have upA := (up1.trans k4).trans up5
  obtain ⟨g5, T5, R5⟩ := Rep0.turned (s' := { s' with heap := h5 }) hf Bl hA R hheld.1 upA hos hg
  obtain ⟨ob', hob, hobc⟩ := hheld.there
  have G5 := (G.turn T5).gt
  refine wpAny_handleBy_builtin (X := X) (T := X) (b := true) hexc hnt hsub ?_
  obtain ⟨m5, F5, _⟩ := R5.fr
  refine Calls.Name_function_global G.kind hxk (Calls.loadGlobal_builtin (mg := mg) (mb := mb) (v := .type X) ?_ ?_ ?_ ?_ ⟨rfl, ⟨ob', hob, hobc.trans hcls⟩, ?_⟩) hd
  · rw [G.glob]; exact G5.T.g.keeps F5.keep
  · exact mg_none_of G5.X G5.T.g ex
  · rw [G.blt]; exact G5.T.b.keeps F5.keep
  · exact (G5.T.builtins x hn').trans hv
  · refine lands_againW hheld fun h6 hfl6 up6 => ?_
    obtain ⟨g6, T6, R6⟩ := Rep0.turned (s' := { s' with heap := h6 }) hf Bl hA R hfl6.1 (upA.trans up6) hos hg
    exact wpAny_mono (k g6 h6 T6 R6) (fun _ _ z => z) fun _ _ z => z.elim
end
end Mine
end
section
open PySem.Calls
set_option maxHeartbeats 4000000
namespace Mine

local macro_rules | `(tactic| walk_at "my has") => `(tactic| with_reducible (repeat (first | exact Has.here | apply Has.there)))
local macro_rules | `(tactic| walk_at "my put") => `(tactic| with_reducible (repeat (first | exact Put.here | apply Put.there)))
local macro_rules | `(tactic| walk_at "my lit") => `(tactic| with_reducible (first | exact lit_sq | exact lit_dq | exact lit_E | exact lit_bs | exact lit_mi | exact lit_dl | exact lit_co | exact lit_eq | exact lit_qm | exact lit_pc | exact lit_lp | exact lit_rp | exact lit_s | exact lit_us | exact lit_nl | exact lit_ce | exact lit_ps | exact lit_rs | exact lit_em | exact rfl))
local macro_rules | `(tactic| walk_at "my op") => `(tactic| with_reducible (first | exact op_eq_int | exact op_ne_int | exact op_lt_int | exact op_gt_int | exact op_le_int | exact op_eq_str | exact op_ne_str | exact op_in_str | exact op_notin_str | exact op_eq_none_str | exact op_ne_none_str | exact op_ne_bool | exact op_is_none | exact op_is_none_str | exact op_add_int | exact op_iadd_int | exact op_sub_int | exact op_eq_opt | exact op_ne_opt | exact op_none_opt))
local macro_rules | `(tactic| walk_at "my nu") => `(tactic| first | (intro h; cases h; done) | exact PVo_ne _)
local macro_rules | `(tactic| walk_at "my ev") => `(tactic| first
  | with_reducible exact ev_int | ((with_reducible refine' ev_str ?h1); (case h1 => walk_at "my lit")) | with_reducible exact ev_none | with_reducible exact ev_bool
  | ((with_reducible refine' ev_nm ?k1 ?h1 ?u1); (case k1 => assumption); (case h1 => walk_at "my has"; done); (case u1 => walk_at "my nu"))
  | with_reducible refine' ev_bin ?_ ?_ ?_ | ((with_reducible refine' ev_cmp ?_ ?_ ?_ ?m1); (case m1 => exact rfl)) | ((with_reducible refine' tr_cmp ?_ ?_ ?_ ?m1); (case m1 => exact rfl)) | with_reducible refine' tr_not ?_ | with_reducible refine' tr_op ?_
  | with_reducible refine' tra_and ?_ ?_ | with_reducible exact tra_and_nil | with_reducible refine' tra_or ?_ ?_ | with_reducible exact tra_or_nil
  | with_reducible refine' ev_neg ?_
  | walk_at "my op" | ((with_reducible refine' evl_cons1 ?_ ?_ ?m1); (case m1 => exact rfl)) | with_reducible refine' evl_nil ?_ | (guard_target =~ (_ = _ → _); intro _))
local macro_rules | `(tactic| walk_at "my evs") => `(tactic| repeat' (walk_at "my ev"))
local macro_rules | `(tactic| walk_at "my blt") => `(tactic| first | exact ev_globB (by assumption) (by kernel_rfl) boot_len (by decide +kernel) (by kernel_rfl) (by decide +kernel) | exact ev_globB (by assumption) (by kernel_rfl) boot_str (by decide +kernel) (by kernel_rfl) (by decide +kernel) | exact ev_globB (by assumption) (by kernel_rfl) boot_range (by decide +kernel) (by kernel_rfl) (by decide +kernel))
local macro_rules | `(tactic| walk_at "my fn") => `(tactic| exact ev_glob (by assumption) (by kernel_rfl) (by kernel_rfl) (by decide +kernel))
local macro_rules | `(tactic| walk_at "my puts") => `(tactic| (repeat (apply Puts.cons; (focus (walk_at "my put"; done)))); exact Puts.nil)
local macro_rules | `(tactic| walk_at "my nils") => `(tactic| repeat (first | with_reducible refine seq_nil ?_ | with_reducible refine wx_nil ?_))
local macro_rules | `(tactic| walk_at "my nnils") => `(tactic| repeat (first | with_reducible refine seqn_nil ?_ | with_reducible refine wxn_nil ?_))
local macro_rules | `(tactic| walk_at "my meth") => `(tactic| (apply ev_of_x; first | with_reducible apply evx_meth1 | with_reducible apply evx_meth0 | apply evx_meth1 | apply evx_meth0))

theorem wpAny_listRaise {α : Type} {M : Model} {A : Around} {E : Value → Shared → Prop} {s : Shared} {cls : String} {msg : Str} {Q : α → Shared → Prop} (hp : PlainExc cls) (hh : A.handled = none)
    (h : ∀ h' tk e, Heap.NewExc s.heap h' e cls → E (.ref e) { s with heap := h', toks := tk }) (hm : msg.length ≤ sizeLine) : wpAny M A (Builtin.List.listRaiseStr cls msg : Sem α) Q E s := by
  unfold Builtin.List.listRaiseStr
  exact wpAny_bind (wpAny_mkStr (wpAny_bind (wpAny_newExc_plain hp fun h' ex hx => wpAny_raiseNew_none hh (h _ _ _ hx.newExc))) hm)
open PySem.SeqAt PySem.MeetsSeq PySem.MeetsSeq2 PySem.MeetsSeq3 in
open PySem.AutoSeq1 (wpAny_loadPart') in
theorem index_loop_miss (l : Addr) (items : Array Value) (n : Nat) (dd : Option Addr) (sl : Array (Option Value)) (y : Str) (t : Tok) (e : Value → Bool) (upto : Int) (hz : (reprText y).length ≤ 1000000) (k : Nat) :
    ∀ i : Nat, items.size - i = k → (∀ m (hm : m < items.size), e items[m] = false) → Meets (Builtin.«list.index.loop» ⟨[.ref l, .str y t, rawInt i, rawInt upto], []⟩)
      (fun A R s => s.heap.get? l = some { cls := .type "list", dict := dd, data := .seq items n, slots := sl } ∧ (∀ z, z ∈ items → EqAt A.in1 s z (.str y t) (e z)) ∧ A.handled = none ∧ ∀ h' tk ex, Heap.NewExc s.heap h' ex "ValueError" → R (.error (.ref ex)) { s with heap := h', toks := tk }) := by
  have fin : ∀ i : Nat, (if (i : Int) < upto then items[i]? else none) = none → Meets (Builtin.«list.index.loop» ⟨[.ref l, .str y t, rawInt i, rawInt upto], []⟩)
      (fun A R s => s.heap.get? l = some { cls := .type "list", dict := dd, data := .seq items n, slots := sl } ∧ (∀ z, z ∈ items → EqAt A.in1 s z (.str y t) (e z)) ∧ A.handled = none ∧ ∀ h' tk ex, Heap.NewExc s.heap h' ex "ValueError" → R (.error (.ref ex)) { s with heap := h', toks := tk }) := by
    intro i hi prog w A R s h
    obtain ⟨hp, g, d, tk, os⟩ := s; obtain ⟨hl, he, hh, h⟩ := h
    wp_walk using wpAny_loadPart' hl
    have hi' : (if (i : Int) < upto then items[((i : Nat) : Int).toNat]? else none) = none := by simpa using hi
    rw [hi']
    refine wpAny_bind (wpAny_rule (wpAny_bind (wpAny_pyRepr_str (hsz := by rw [sizeLine_eq]; omega) ?_)))
    have hlen : (reprText y ++ Str.ofString " is not in list").length ≤ sizeLine := by
      rw [sizeLine_eq, Str.length_append]
      have : (Str.ofString " is not in list").length ≤ 100 := by decide +kernel
      omega
    generalize reprText y ++ Str.ofString " is not in list" = msg at hlen
    exact wpAny_listRaise plainExc_ValueError hh (fun h' tk' ex hm => h h' tk' ex hm) hlen
  induction k with
  | zero =>
    intro i hk hno
    refine fin i ?_
    split
    · exact Array.getElem?_eq_none (by omega)
    · rfl
  | succ k ih =>
    intro i hk hno
    by_cases hup : (i : Int) < upto
    · intro prog w A R s h
      obtain ⟨hp, g, d, tk, os⟩ := s; obtain ⟨hl, he, hh, h⟩ := h
      have hlt : i < items.size := by omega
      wp_walk using wpAny_loadPart' hl
      have hi : (if (i : Int) < upto then items[((i : Nat) : Int).toNat]? else none) = some items[i] := by simp [hup, hlt]
      have hc : ((i : Int) + 1) = ((i + 1 : Nat) : Int) := by push_cast; rfl
      rw [hi]
      refine wpAny_bind (he _ (Array.getElem_mem hlt) prog w _ _ ?_)
      rw [hno i hlt]
      wp_walk
      rw [hc]
      exact ⟨plainId_quiet plain_index_loop _, codeAny_builtin entry_index_loop (by
        rw [Around.under_plainId plain_index_loop _]
        exact ih (i + 1) (by omega) hno prog w A R _ ⟨hl, he, hh, h⟩)⟩
    · exact fin i (by rw [if_neg hup])

open PySem.SeqAt PySem.MeetsSeq PySem.MeetsSeq2 PySem.MeetsSeq3 in
open PySem.AutoSeq1 (wpAny_loadPart') in
theorem index_miss (l : Addr) (items : Array Value) (n : Nat) (dd : Option Addr) (sl : Array (Option Value)) (y : Str) (t : Tok) (e : Value → Bool) (hz : (reprText y).length ≤ 1000000) (hno : ∀ m (hm : m < items.size), e items[m] = false) :
    Meets (Builtin.«list.index» ⟨[.ref l, .str y t], []⟩)
      (fun A R s => s.heap.get? l = some { cls := .type "list", dict := dd, data := .seq items n, slots := sl } ∧ (∀ z, z ∈ items → EqAt A.in1 s z (.str y t) (e z)) ∧ A.handled = none ∧ ∀ h' tk ex, Heap.NewExc s.heap h' ex "ValueError" → R (.error (.ref ex)) { s with heap := h', toks := tk }) := by
  intro prog w A R s h
  obtain ⟨hp, g, d, tk, os⟩ := s; obtain ⟨hl, he, hh, h⟩ := h
  wp_walk using wpAny_loadPart' hl
  have a1 : ((fun i : Int => if i < 0 then max 0 (i + (items.size : Int)) else i) ((none : Option Int).getD 0)) = ((0 : Nat) : Int) := by simp
  have a2 : ((fun i : Int => if i < 0 then max 0 (i + (items.size : Int)) else i) ((none : Option Int).getD (2 ^ 63 - 1))) = 2 ^ 63 - 1 := by simp
  rw [a1, a2]
  exact ⟨plainId_quiet plain_index_loop _, codeAny_builtin entry_index_loop (by
    rw [Around.under_plainId plain_index_loop _]
    exact index_loop_miss l items n dd sl y t e (2 ^ 63 - 1) hz _ 0 rfl hno prog w A R _ ⟨hl, he, hh, h⟩)⟩
end Mine
end
section
open PySem.Calls
set_option maxHeartbeats 4000000
namespace Mine

local macro_rules | `(tactic| walk_at "my has") => `(tactic| with_reducible (repeat (first | exact Has.here | apply Has.there)))
local macro_rules | `(tactic| walk_at "my put") => `(tactic| with_reducible (repeat (first | exact Put.here | apply Put.there)))
local macro_rules | `(tactic| walk_at "my lit") => `(tactic| with_reducible (first | exact lit_sq | exact lit_dq | exact lit_E | exact lit_bs | exact lit_mi | exact lit_dl | exact lit_co | exact lit_eq | exact lit_qm | exact lit_pc | exact lit_lp | exact lit_rp | exact lit_s | exact lit_us | exact lit_nl | exact lit_ce | exact lit_ps | exact lit_rs | exact lit_em | exact rfl))
local macro_rules | `(tactic| walk_at "my op") => `(tactic| with_reducible (first | exact op_eq_int | exact op_ne_int | exact op_lt_int | exact op_gt_int | exact op_le_int | exact op_eq_str | exact op_ne_str | exact op_in_str | exact op_notin_str | exact op_eq_none_str | exact op_ne_none_str | exact op_ne_bool | exact op_is_none | exact op_is_none_str | exact op_add_int | exact op_iadd_int | exact op_sub_int | exact op_eq_opt | exact op_ne_opt | exact op_none_opt))
local macro_rules | `(tactic| walk_at "my nu") => `(tactic| first | (intro h; cases h; done) | exact PVo_ne _)
local macro_rules | `(tactic| walk_at "my ev") => `(tactic| first
  | with_reducible exact ev_int | ((with_reducible refine' ev_str ?h1); (case h1 => walk_at "my lit")) | with_reducible exact ev_none | with_reducible exact ev_bool
  | ((with_reducible refine' ev_nm ?k1 ?h1 ?u1); (case k1 => assumption); (case h1 => walk_at "my has"; done); (case u1 => walk_at "my nu"))
  | with_reducible refine' ev_bin ?_ ?_ ?_ | ((with_reducible refine' ev_cmp ?_ ?_ ?_ ?m1); (case m1 => exact rfl)) | ((with_reducible refine' tr_cmp ?_ ?_ ?_ ?m1); (case m1 => exact rfl)) | with_reducible refine' tr_not ?_ | with_reducible refine' tr_op ?_
  | with_reducible refine' tra_and ?_ ?_ | with_reducible exact tra_and_nil | with_reducible refine' tra_or ?_ ?_ | with_reducible exact tra_or_nil
  | with_reducible refine' ev_neg ?_
  | walk_at "my op" | ((with_reducible refine' evl_cons1 ?_ ?_ ?m1); (case m1 => exact rfl)) | with_reducible refine' evl_nil ?_ | (guard_target =~ (_ = _ → _); intro _))
local macro_rules | `(tactic| walk_at "my evs") => `(tactic| repeat' (walk_at "my ev"))
local macro_rules | `(tactic| walk_at "my blt") => `(tactic| first | exact ev_globB (by assumption) (by kernel_rfl) boot_len (by decide +kernel) (by kernel_rfl) (by decide +kernel) | exact ev_globB (by assumption) (by kernel_rfl) boot_str (by decide +kernel) (by kernel_rfl) (by decide +kernel) | exact ev_globB (by assumption) (by kernel_rfl) boot_range (by decide +kernel) (by kernel_rfl) (by decide +kernel))
local macro_rules | `(tactic| walk_at "my fn") => `(tactic| exact ev_glob (by assumption) (by kernel_rfl) (by kernel_rfl) (by decide +kernel))
local macro_rules | `(tactic| walk_at "my puts") => `(tactic| (repeat (apply Puts.cons; (focus (walk_at "my put"; done)))); exact Puts.nil)
local macro_rules | `(tactic| walk_at "my nils") => `(tactic| repeat (first | with_reducible refine seq_nil ?_ | with_reducible refine wx_nil ?_))
local macro_rules | `(tactic| walk_at "my nnils") => `(tactic| repeat (first | with_reducible refine seqn_nil ?_ | with_reducible refine wxn_nil ?_))
local macro_rules | `(tactic| walk_at "my meth") => `(tactic| (apply ev_of_x; first | with_reducible apply evx_meth1 | with_reducible apply evx_meth0 | apply evx_meth1 | apply evx_meth0))

section
variable {prog : Program} {w : World} {A : Around} {E : Value → Shared → Prop} {s : Shared}
theorem setItem_last {l : Addr} {items : Array Value} {t : Tok} {v : Value} {Q : Unit → Shared → Prop} (hl : s.heap.PlainList l items) (hn : 0 < items.size)
    (hQ : ∀ h', h'.PlainList l (items.setIfInBounds (items.size - 1) v) → Heap.SameBut l s.heap h' → Q () { s with heap := h' }) :
    wpAny (model prog w) A (setItem (.ref l) (.int (-1) t) v) Q E s := by
  obtain ⟨n, ho⟩ := hl
  have hl' : s.heap.IsList l items := ⟨_, ho, rfl, n, rfl⟩
  have hd : ({ cls := .type "list", data := .seq items n } : Obj).data = .seq items n := rfl
  unfold setItem
  try with_reducible refine wpAny_holding ?_
  first | refine wpAny_bind (wpAny_pure ?_) | skip
  refine wpAny_bind (wpAny_sequenceKey hl'.typeIs (by decide) ?_)
  refine wpAny_bind (wpAny_callSpecial?_slot (name := Str.ofString "__setitem__") hl'.typeIs slot_list_setitem
    (wpAny_call_entry slot_list_setitem hl'.typeIs entry_list_setitem ?_ (args_list_setitem _ _ _)))
  show wpAny _ _ (Builtin.List.listSubscript? (.int (-1) t) >>= _) _ _ s
  refine wpAny_bind (wpAny_listSubscript_int (by decide +kernel) ?_)
  have hidx : seqIndex? (-1) items.size = some (items.size - 1) := by
    rw [seqIndex_neg (by decide) (by omega)]
    congr 1; omega
  have hx : items[items.size - 1]? = some items[items.size - 1] := Array.getElem?_eq_getElem (by omega)
  show wpAny _ _ ((Builtin.List.listItems (.ref l) >>= fun xs => pure ((seqIndex? (Int.negSucc 0) xs.size).bind fun i => xs[i]?.map (i, ·))) >>= _) _ _ s
  refine wpAny_bind (wpAny_bind ?_)
  show wpAny _ _ (seqItems? (.ref l) >>= _) _ _ s
  refine wpAny_bind (wpAny_seqItems ho hd (wpAny_pure (wpAny_pure ?_)))
  rw [show seqIndex? (Int.negSucc 0) items.size = some (items.size - 1) from hidx]
  simp only [Option.bind_some, hx, Option.map_some]
  refine wpAny_bind (wpAny_setSeqItemAt ho hd ?_)
  obtain ⟨n', hd'⟩ := Obj.data_mapSeq hd (·.setIfInBounds (items.size - 1) v)
  have hfin : (s.heap.update l (Obj.mapSeq (·.setIfInBounds (items.size - 1) v))).PlainList l (items.setIfInBounds (items.size - 1) v) :=
    ⟨_, IsL.update (n := n) ho _⟩
  first
    | exact wpAny_bind (wpAny_pure (wpAny_pure ⟨.none, rfl, wpAny_pure (hQ _ hfin (Heap.SameBut.update ..))⟩))
    | exact wpAny_pure ⟨.none, rfl, wpAny_pure (hQ _ hfin (Heap.SameBut.update ..))⟩
end
section
variable {prog : Program} {w : World} {c : Cf} {lo lo' : Lo} {ob ob' : Ob} {pos : Pos} {x : Str} {X : EPost} {Φ : Post}
theorem All2.snoc_inv {α β : Type} {R : α → β → Prop} {as : List α} {a : α} {bs : List β} (h : All2 R (as ++ [a]) bs) : ∃ bs' b, bs = bs' ++ [b] ∧ All2 R as bs' ∧ R a b := by
  induction as generalizing bs with
  | nil => cases h with | cons h hs => cases hs; exact ⟨[], _, rfl, .nil, h⟩
  | cons a' as ih =>
    cases h with | cons h hs => ?_
    obtain ⟨bs', b, rfl, h1, h2⟩ := ih hs
    exact ⟨_ :: bs', b, rfl, .cons h h1, h2⟩
/-- x[-1] += e on a list of the ledger -/
theorem ws_auglast {o i e : Expr} {op : Operator} {sp : Pos} {l : Addr} {vs : List PV} {old b new : PV} (ho : Ev prog w c lo ob o (.val (.ref l))) (hi : Ev prog w c lo ob i (.int (-1))) (he : Ev prog w c lo ob e b) (hop : Op prog w c lo ob (inplaceOp op) old b new)
    (hm : (l, SeqO "list" (vs ++ [old])) ∈ ob) (hv : vs.length < 2 ^ 40) (U : Put l (SeqO "list" (vs ++ [new])) ob ob') (hΦ : Φ .next lo ob')
    (hx : ∀ ov iv nv, augStore i ov iv nv = (do holding [nv, ov, iv] (setItem ov iv nv); release [nv, ov, iv] []; pure .next)) : WS prog w c lo ob X (.AugAssign (.Subscript o i sp) op e pos) Φ := fun s Q E R q x pe => by
  show wpAny (model prog w) c.A (do
    standAt pos
    let ov ← eval o c.env
    let iv ← holding [ov] (eval i c.env)
    let new ← holding [ov, iv] do
      standAt sp
      let old ← getItem ov iv
      let v ← holding [old] (eval e c.env)
      standAt pos
      operate [old, v] (inplaceOp op old v)
    standAt sp
    augStore i ov iv new) Q E s
  refine wpAny_bind (wpAny_standAt (wpAny_bind (ho.use R fun ou s₁ hou R₁ => wpAny_bind (wpAny_holding (hi.use R₁ fun iu s₂ hiu R₂ => wpAny_bind (wpAny_holding (wpAny_bind (wpAny_standAt (wpAny_bind ?_)))))))))
  cases hou; obtain ⟨t, rfl⟩ := hiu
  obtain ⟨o1, g1, us, n, rfl, hu⟩ := R₂.1.get hm
  obtain ⟨us', u, rfl, hu', hold⟩ := All2.snoc_inv hu
  have hl : s₂.heap.IsList l (us' ++ [u]).toArray := ⟨_, g1, rfl, n, rfl⟩
  refine wpAny_getItem_list_neg hl (by decide) (by simp; omega) (by decide) (x := u) ?_ ?_
  · have : ((-1 : Int) + ((us' ++ [u]).toArray.size : Int)).toNat = us'.length := by simp; omega
    rw [this]; simp
  refine wpAny_bind (wpAny_holding (he.use R₂ fun ub s₃ hub R₃ => wpAny_bind (wpAny_standAt (wpAny_operating (hop.use hold hub R₃ fun un s₄ hun R₄ => wpAny_bind (wpAny_standAt ?_))))))
  rw [hx]
  obtain ⟨o1, g1, us, n, rfl, hu⟩ := R₄.1.get hm
  obtain ⟨us', u, rfl, hu', hold⟩ := All2.snoc_inv hu
  refine wpAny_bind (wpAny_holding (setItem_last ⟨n, g1⟩ (by simp) fun h' hl' hs' => wpAny_bind ?_))
  refine fun Γ pp hΓ => ?_
  rw [Sem.wp_release]
  obtain ⟨n', gd⟩ := hl'
  refine wpAny_pure ?_
  refine q _ _ _ _ _ hΦ rfl (R₄.1.upd U (fun b o hne eo => (hs'.2 b hne).trans eo) gd ⟨us' ++ [un], n', ?_, hu'.append (.cons hun .nil)⟩ s₄.toks)
  simp
/-- del x[-1] -/
theorem ws_dellast {o i : Expr} {sp : Pos} {l : Addr} {vs : List PV} {v : PV} (ho : Ev prog w c lo ob o (.val (.ref l))) (hi : Ev prog w c lo ob i (.int (-1))) (hm : (l, SeqO "list" (vs ++ [v])) ∈ ob) (hv : vs.length ≤ 2 ^ 20) (U : Put l (SeqO "list" vs) ob ob') (hΦ : Φ .next lo ob') :
    WS prog w c lo ob X (.Delete [.Subscript o i sp] pos) Φ := fun s Q E R q x pe => by
  refine wpAny_Delete (wpAny_deleteEach_cons (wpAny_delete_Subscript (ho.use R fun ou s₁ hou R₁ => hi.use R₁ fun iu s₂ hiu R₂ => ?_)))
  cases hou; obtain ⟨t, rfl⟩ := hiu
  obtain ⟨o1, g1, us, n, rfl, hu⟩ := R₂.1.get hm
  obtain ⟨us', u, rfl, hu', hold⟩ := All2.snoc_inv hu
  have hln := hu'.length
  refine wpAny_delItem_plain (k := us'.length) ⟨n, g1⟩ (by decide +kernel) ?_ (fun h' hl' hs' => ?_) (by rw [sizeLine_eq]; simp; omega)
  · rw [seqIndex_neg (by decide) (by simp; omega)]
    congr 1; simp; omega
  · obtain ⟨n', gd⟩ := hl'
    refine wpAny_deleteEach_nil (q _ _ _ _ _ hΦ rfl (R₂.1.upd U (fun b o hne eo => (hs'.2 b hne).trans eo) gd ⟨us', n', ?_, hu'⟩ s₂.toks))
    simp [List.eraseIdx_append_of_length_le]
end
end Mine
end
section
open PySem.Calls
set_option maxHeartbeats 4000000
namespace Mine

local macro_rules | `(tactic| walk_at "my has") => `(tactic| with_reducible (repeat (first | exact Has.here | apply Has.there)))
local macro_rules | `(tactic| walk_at "my put") => `(tactic| with_reducible (repeat (first | exact Put.here | apply Put.there)))
local macro_rules | `(tactic| walk_at "my lit") => `(tactic| with_reducible (first | exact lit_sq | exact lit_dq | exact lit_E | exact lit_bs | exact lit_mi | exact lit_dl | exact lit_co | exact lit_eq | exact lit_qm | exact lit_pc | exact lit_lp | exact lit_rp | exact lit_s | exact lit_us | exact lit_nl | exact lit_ce | exact lit_ps | exact lit_rs | exact lit_em | exact rfl))
local macro_rules | `(tactic| walk_at "my op") => `(tactic| with_reducible (first | exact op_eq_int | exact op_ne_int | exact op_lt_int | exact op_gt_int | exact op_le_int | exact op_eq_str | exact op_ne_str | exact op_in_str | exact op_notin_str | exact op_eq_none_str | exact op_ne_none_str | exact op_ne_bool | exact op_is_none | exact op_is_none_str | exact op_add_int | exact op_iadd_int | exact op_sub_int | exact op_eq_opt | exact op_ne_opt | exact op_none_opt))
local macro_rules | `(tactic| walk_at "my nu") => `(tactic| first | (intro h; cases h; done) | exact PVo_ne _)
local macro_rules | `(tactic| walk_at "my ev") => `(tactic| first
  | with_reducible exact ev_int | ((with_reducible refine' ev_str ?h1); (case h1 => walk_at "my lit")) | with_reducible exact ev_none | with_reducible exact ev_bool
  | ((with_reducible refine' ev_nm ?k1 ?h1 ?u1); (case k1 => assumption); (case h1 => walk_at "my has"; done); (case u1 => walk_at "my nu"))
  | with_reducible refine' ev_bin ?_ ?_ ?_ | ((with_reducible refine' ev_cmp ?_ ?_ ?_ ?m1); (case m1 => exact rfl)) | ((with_reducible refine' tr_cmp ?_ ?_ ?_ ?m1); (case m1 => exact rfl)) | with_reducible refine' tr_not ?_ | with_reducible refine' tr_op ?_
  | with_reducible refine' tra_and ?_ ?_ | with_reducible exact tra_and_nil | with_reducible refine' tra_or ?_ ?_ | with_reducible exact tra_or_nil
  | with_reducible refine' ev_neg ?_
  | walk_at "my op" | ((with_reducible refine' evl_cons1 ?_ ?_ ?m1); (case m1 => exact rfl)) | with_reducible refine' evl_nil ?_ | (guard_target =~ (_ = _ → _); intro _))
local macro_rules | `(tactic| walk_at "my evs") => `(tactic| repeat' (walk_at "my ev"))
local macro_rules | `(tactic| walk_at "my blt") => `(tactic| first | exact ev_globB (by assumption) (by kernel_rfl) boot_len (by decide +kernel) (by kernel_rfl) (by decide +kernel) | exact ev_globB (by assumption) (by kernel_rfl) boot_str (by decide +kernel) (by kernel_rfl) (by decide +kernel) | exact ev_globB (by assumption) (by kernel_rfl) boot_range (by decide +kernel) (by kernel_rfl) (by decide +kernel))
local macro_rules | `(tactic| walk_at "my fn") => `(tactic| exact ev_glob (by assumption) (by kernel_rfl) (by kernel_rfl) (by decide +kernel))
local macro_rules | `(tactic| walk_at "my puts") => `(tactic| (repeat (apply Puts.cons; (focus (walk_at "my put"; done)))); exact Puts.nil)
local macro_rules | `(tactic| walk_at "my nils") => `(tactic| repeat (first | with_reducible refine seq_nil ?_ | with_reducible refine wx_nil ?_))
local macro_rules | `(tactic| walk_at "my nnils") => `(tactic| repeat (first | with_reducible refine seqn_nil ?_ | with_reducible refine wxn_nil ?_))
local macro_rules | `(tactic| walk_at "my meth") => `(tactic| (apply ev_of_x; first | with_reducible apply evx_meth1 | with_reducible apply evx_meth0 | apply evx_meth1 | apply evx_meth0))

section
variable {prog : Program} {w : World} {K : Frag} {p : Program} {loose : List Str} {mean : ExcName → Option Value} {mg mb : Str → Option Value} {c : Cf} {lo lo' : Lo} {ob ob' : Ob} {pos np hpos : Pos} {x : Str} {X : EPost} {Φ : Post}
/-- a try whose suite raises nothing -/
theorem wsn_try_ok {body : List Stmt} {h₀ : ExceptHandler} {hs : List ExceptHandler} (h : WXn prog w c lo ob NoX body (fun o lo' ob' => o = .next ∧ Φ .next lo' ob')) : WSn prog w c lo ob X (.Try body (h₀ :: hs) [] [] pos) Φ := fun g T s Q E R q _ _ => by
  refine wpAny_Try_except (wpAny_mono (h g T s (fun f s' => f = .next ∧ Q .next s') (fun _ _ => False) R (fun o f lo' ob' s' g' T' hΦ hf R' => ?_) (fun _ _ z => z.elim) PassesOwn.never) (fun f s' hq => ?_) fun _ _ z => z.elim)
  · obtain ⟨rfl, hΦ⟩ := hΦ
    cases hf
    exact ⟨rfl, q _ _ _ _ _ _ T' hΦ rfl R'⟩
  · obtain ⟨rfl, hq⟩ := hq
    exact wpAny_execs_nil hq
/-- a statement that raises -/
def Th (prog : Program) (w : World) (c : Cf) (lo : Lo) (ob : Ob) (cls : String) (st : Stmt) : Prop := ∀ (s : Shared) (Q : Flow → Shared → Prop) (E : Value → Shared → Prop), Rep c lo ob s → (∀ s1 h' tk ex, Rep0 c lo ob s1 → Heap.NewExc s1.heap h' ex cls → E (.ref ex) { s1 with heap := h', toks := tk }) → wpAny (model prog w) c.A (exec st c.env) Q E s
theorem wsn_try_miss (G : Gu K p loose mean mg mb c) {st : Stmt} {rest : List Stmt} {cls : String} {b₀ : Stmt} {suite : List Stmt} {hs : List ExceptHandler}
    (ex : nsIn K mainGlobals x = some none) (hv : bootBuiltins x = some (.type cls)) (hn' : x ≠ "__name__") (hxk : c.env.kindOf x = some .globalImplicit) (hd : (x == ("__debug__" : Str)) = false)
    (hexc : isSubtype (.type cls) (.type "BaseException") = pure true) (hnt : isSubtype (.type ((Manifest.find? cls).elim "type" fun y => y.metatype)) (.type "tuple") = pure false) (hsub : isSubtype (.type cls) (.type cls) = pure true)
    (hth : ∀ g, Tn c g → Th prog w (c.at g) lo ob cls st) (hb : ∀ g, Tn c g → ∀ e, WX prog w { c.at g with A := c.A.mark (some (.ref e)) } lo ob NoX (b₀ :: suite) Φ) :
    WSn prog w c lo ob X (.Try (st :: rest) (.ExceptHandler (some (.Name x np)) none (b₀ :: suite) hpos :: hs) [] [] pos) Φ := fun g T s Q E R q _ _ => by
  refine wpAny_Try_except (wpAny_execs_cons ?_)
  refine wpAny_mono (wpAny_toks_of R.tk (hth g T s (fun _ _ => False) (fun e s' => ∃ s1 h' tk ex, e = .ref ex ∧ s' = { s1 with heap := h', toks := tk } ∧ Rep0 (c.at g) lo ob s1 ∧ Heap.NewExc s1.heap h' ex cls) R fun s1 h' tk ex R1 hx => ⟨s1, h', tk, ex, rfl, rfl, R1, hx⟩)) (fun _ _ z => z.2.elim) fun e s' hz => ?_
  obtain ⟨ht, s1, h', tk, exa, rfl, rfl, R1, hx'⟩ := hz
  refine catch_new (G.turn T) (s := s1) (s' := { s1 with heap := h', toks := tk }) R1 hx' rfl rfl ex hv hn' hxk hd hexc hnt hsub fun g' h2 T' R2 => ?_
  refine hb g' (T.trans T') exa _ _ _ ⟨⟨R2.fr, R2.obs, R2.nd, R2.loc, R2.os, R2.gens⟩, ht⟩ (fun o f lo' ob' s' hΦ hf R' => ?_) (fun _ _ z => z.elim) PassesOwn.never
  exact q _ _ _ _ _ _ (T.trans T') hΦ hf ⟨R'.fr, R'.obs, R'.nd, R'.loc, R'.os, R'.gens⟩

theorem part_n {A : Around} {env : Env} {s : Shared} {Q : Value → Shared → Prop} {E : Value → Shared → Prop} (h : ∀ u, IsPart u none → Q u s) : wpAny (model prog w) A (evalPart none env) Q E s := wpAny_pure (h _ .none)
theorem part_i {e : Expr} {i : Int} (h : Ev prog w c lo ob e (.int i)) {s : Shared} {Q E : Value → Shared → Prop} (R : Rep c lo ob s) (q : ∀ u s', IsPart u (some i) → Rep c lo ob s' → Q u s') : wpAny (model prog w) c.A (evalPart (some e) c.env) Q E s :=
  h.use R fun u s' hu R' => by obtain ⟨t, rfl⟩ := hu; exact q _ _ (.int i t) R'
theorem evx_butlast {xn : Str} {p1 p2 : Pos} {l : Addr} {vs : List PV} {v : PV} {up : Expr} {sp : Pos} {Φ : PV → Ob → Prop} (hv : Ev prog w c lo ob (.Name xn np) (.val (.ref l))) (hm : (l, SeqO "list" (vs ++ [v])) ∈ ob) (hu : Ev prog w c lo ob up (.int (-1))) (hx : vs.length < 2 ^ 20) (h : ∀ a, Φ (.val (.ref a)) ((a, SeqO "list" vs) :: ob)) :
    EvX prog w c lo ob (.Subscript (.Name xn np) (.Slice none (some up) none sp) pos) Φ := by
  refine evx_slice_list (i := none) (j := some (-1)) hv hm (fun s Q E R q => part_n fun u hu => q _ _ hu R) (fun s Q E R q => part_i hu R q) (by simp; omega) (zs := vs) (fun us hu => ?_) h
  obtain ⟨us', u, rfl, h1, h2⟩ := All2.snoc_inv hu
  refine ⟨us', ?_, h1⟩
  have := slicePick_butLast (us' ++ [u]).toArray 1 (Nat.le_refl 1)
  refine Eq.trans this ?_
  simp
/-- xs[:-1].index(xs[-1]) where it stands nowhere ahead -/
theorem th_index {xn y : Str} {p1 p2 p3 p4 p5 p6 : Pos} {l : Addr} {ns : List Str} {z : Str} {up ix : Expr} {pl : Sem Bool} (hv : Ev prog w c lo ob (.Name xn p1) (.val (.ref l))) (hv2 : ∀ a, Ev prog w c lo ((a, SeqO "list" (ns.map .str)) :: ob) (.Name xn p2) (.val (.ref l))) (hm : (l, SeqO "list" ((ns ++ [z]).map .str)) ∈ ob)
    (hu : Ev prog w c lo ob up (.int (-1))) (hix : ∀ a, Ev prog w c lo ((a, SeqO "list" (ns.map .str)) :: ob) ix (.int (-1))) (hx : ns.length < 2 ^ 20) (hz : z ∉ ns) (hlen : (reprText z).length ≤ 1000000) (hh : c.A.handled = none)
    (hc : eval (.Call (.Attribute (.Subscript (.Name xn p1) (.Slice none (some up) none p3) p4) (Str.ofString "index") p5) [.Subscript (.Name xn p2) ix p6] [] pos) c.env = (do
      let ov ← eval (.Subscript (.Name xn p1) (.Slice none (some up) none p3) p4) c.env
      standAt p5.atName
      let (f, first) ← holding [ov] (getMethod ov (Str.ofString "index") pl)
      callWith pos f first (backTo pos (starEach [.Subscript (.Name xn p2) ix p6] c.env)) []))
    (he : starEach [.Subscript (.Name xn p2) ix p6] c.env = (false, eval (.Subscript (.Name xn p2) ix p6) c.env) :: starEach [] c.env) (hp : (backTo pos (starEach [] c.env)).any (·.1) = false)
    (hsw : swapsWith (.Call (.Attribute (.Subscript (.Name xn p1) (.Slice none (some up) none p3) p4) (Str.ofString "index") p5) [.Subscript (.Name xn p2) ix p6] [] pos) (some (.Name y hpos)) np.line c.env = pure false)
    (hsub : ∀ o i, subscripted ix false o i = operate [o, i] (getItem o i)) :
    Th prog w c lo ob "ValueError" (.Assign [.Name y hpos] (.Call (.Attribute (.Subscript (.Name xn p1) (.Slice none (some up) none p3) p4) (Str.ofString "index") p5) [.Subscript (.Name xn p2) ix p6] [] pos) np) := fun s Q E R q => by
  rw [List.map_append] at hm
  refine wpAny_Assign_Name ?_ hsw
  refine MethodCall_ (pl := pl) ((evx_butlast (p1 := p1) (p2 := p1) (Φ := fun v ob' => ∃ a, v = .val (.ref a) ∧ ob' = (a, SeqO "list" (ns.map .str)) :: ob) hv hm hu (by simpa using hx) fun a => ⟨a, rfl, rfl⟩).use R fun v u ob' s1 hΦ hu1 R1 => ?_) hc
  obtain ⟨a, rfl, rfl⟩ := hΦ
  cases hu1
  refine gm_index (.head _) _ _ _ _ _ rfl R1 (callWith_method1 ((evl_cons1 (Φ := fun vs ob' => vs = [.str z] ∧ ob' = (a, SeqO "list" (ns.map .str)) :: ob) (ev_sub (hv2 a) (hix a) (sb_list_last (vs := ns.map .str) (.tail _ hm) (by simp; omega) hsub)) (evl_nil ⟨rfl, rfl⟩) he).use R1 fun vs us ob' s2 hΦ hus R2 => ?_) he hp)
  obtain ⟨rfl, rfl⟩ := hΦ
  cases hus with | cons h1 h2 => ?_
  cases h2
  obtain ⟨t, rfl⟩ := h1
  obtain ⟨o, h1, us, n, rfl, hu⟩ := R2.1.get (.head _)
  have hi := All2.strs hu
  have hlen' := StrsAre.len hi
  refine call_meets PySem.F.slot_list_index ⟨_, h1, rfl⟩ PySem.F.entry_list_index (PySem.F.args_list_index_2 _ _)
    (index_miss a us.toArray n none #[] z t (isStrOf z) hlen ?_) ⟨h1, fun y hy => (eq_isStrOf z t hi y (by simpa using hy)).at _ _, hh, fun h' tk ex hx => ?_⟩
  · intro m hm
    show isStrOf z us[m] = false
    rw [isStrOf_at hi m (by simpa using hm) (by rw [← hlen']; simpa using hm)]
    have : ns[m]'(by rw [← hlen']; simpa using hm) ≠ z := fun e => hz (e ▸ List.getElem_mem _)
    simpa using this
  · exact q s2 h' tk ex (R2.1.sub (List.sublist_cons_self ..)) hx
end
end Mine
end
section
open PySem.Calls
set_option maxHeartbeats 4000000
namespace Mine

local macro_rules | `(tactic| walk_at "my has") => `(tactic| with_reducible (repeat (first | exact Has.here | apply Has.there)))
local macro_rules | `(tactic| walk_at "my put") => `(tactic| with_reducible (repeat (first | exact Put.here | apply Put.there)))
local macro_rules | `(tactic| walk_at "my lit") => `(tactic| with_reducible (first | exact lit_sq | exact lit_dq | exact lit_E | exact lit_bs | exact lit_mi | exact lit_dl | exact lit_co | exact lit_eq | exact lit_qm | exact lit_pc | exact lit_lp | exact lit_rp | exact lit_s | exact lit_us | exact lit_nl | exact lit_ce | exact lit_ps | exact lit_rs | exact lit_em | exact rfl))
local macro_rules | `(tactic| walk_at "my op") => `(tactic| with_reducible (first | exact op_eq_int | exact op_ne_int | exact op_lt_int | exact op_gt_int | exact op_le_int | exact op_eq_str | exact op_ne_str | exact op_in_str | exact op_notin_str | exact op_eq_none_str | exact op_ne_none_str | exact op_ne_bool | exact op_is_none | exact op_is_none_str | exact op_add_int | exact op_iadd_int | exact op_sub_int | exact op_eq_opt | exact op_ne_opt | exact op_none_opt))
local macro_rules | `(tactic| walk_at "my nu") => `(tactic| first | (intro h; cases h; done) | exact PVo_ne _)
local macro_rules | `(tactic| walk_at "my ev") => `(tactic| first
  | with_reducible exact ev_int | ((with_reducible refine' ev_str ?h1); (case h1 => walk_at "my lit")) | with_reducible exact ev_none | with_reducible exact ev_bool
  | ((with_reducible refine' ev_nm ?k1 ?h1 ?u1); (case k1 => assumption); (case h1 => walk_at "my has"; done); (case u1 => walk_at "my nu"))
  | with_reducible refine' ev_bin ?_ ?_ ?_ | ((with_reducible refine' ev_cmp ?_ ?_ ?_ ?m1); (case m1 => exact rfl)) | ((with_reducible refine' tr_cmp ?_ ?_ ?_ ?m1); (case m1 => exact rfl)) | with_reducible refine' tr_not ?_ | with_reducible refine' tr_op ?_
  | with_reducible refine' tra_and ?_ ?_ | with_reducible exact tra_and_nil | with_reducible refine' tra_or ?_ ?_ | with_reducible exact tra_or_nil
  | with_reducible refine' ev_neg ?_
  | walk_at "my op" | ((with_reducible refine' evl_cons1 ?_ ?_ ?m1); (case m1 => exact rfl)) | with_reducible refine' evl_nil ?_ | (guard_target =~ (_ = _ → _); intro _))
local macro_rules | `(tactic| walk_at "my evs") => `(tactic| repeat' (walk_at "my ev"))
local macro_rules | `(tactic| walk_at "my blt") => `(tactic| first | exact ev_globB (by assumption) (by kernel_rfl) boot_len (by decide +kernel) (by kernel_rfl) (by decide +kernel) | exact ev_globB (by assumption) (by kernel_rfl) boot_str (by decide +kernel) (by kernel_rfl) (by decide +kernel) | exact ev_globB (by assumption) (by kernel_rfl) boot_range (by decide +kernel) (by kernel_rfl) (by decide +kernel))
local macro_rules | `(tactic| walk_at "my fn") => `(tactic| exact ev_glob (by assumption) (by kernel_rfl) (by kernel_rfl) (by decide +kernel))
local macro_rules | `(tactic| walk_at "my puts") => `(tactic| (repeat (apply Puts.cons; (focus (walk_at "my put"; done)))); exact Puts.nil)
local macro_rules | `(tactic| walk_at "my nils") => `(tactic| repeat (first | with_reducible refine seq_nil ?_ | with_reducible refine wx_nil ?_))
local macro_rules | `(tactic| walk_at "my nnils") => `(tactic| repeat (first | with_reducible refine seqn_nil ?_ | with_reducible refine wxn_nil ?_))
local macro_rules | `(tactic| walk_at "my meth") => `(tactic| (apply ev_of_x; first | with_reducible apply evx_meth1 | with_reducible apply evx_meth0 | apply evx_meth1 | apply evx_meth0))

/-- the machine's state between two characters -/
structure MS where
  st : Nat
  iq : Bool
  ip : Bool
  phs : List Str
  out : List Str
  style : Str
  prev : Option Nat
  cnt : Nat

/-- what stands behind a name that has just ended: its number, and the names -/
def endN (phs : List Str) : List Str × List Nat :=
  let ns := phs.dropLast
  let z := phs.getLastD ⟨#[]⟩
  if ns.any (· == z) then (ns, 36 :: dig (ns.idxOf z + 1)) else (phs, 36 :: dig phs.length)
def addL (phs : List Str) (c : Nat) : List Str := phs.dropLast ++ [phs.getLastD ⟨#[]⟩ ++ sg c]

def outS (S : MS) (l : List Nat) : MS := { S with out := S.out ++ [tx l] }
def tOut (S : MS) (c : Nat) (nx : Option Nat) : Option MS :=
  if c == 39 then some { outS S [c] with st := if S.prev == some 69 then 3 else 1 }
  else if c == 34 then some { outS S [c] with st := 2 }
  else if c == 45 then some { outS S [c] with st := if S.prev == some 45 then 5 else 0 }
  else if c == 36 then some { outS S [c] with st := if S.prev == some 36 then 6 else 0 }
  else if S.style == sQ && (c == 63 && true) then some { outS S (36 :: dig S.cnt) with cnt := S.cnt + 1 }
  else if S.style == sN && (c == 58 && (!decide (nx.getD 0 ∈ [58, 61]) && ((S.prev != some 58) && true))) then some (outS S [36])
  else if S.style == sD && (c == 58 && (!decide (nx.getD 0 ∈ [58, 61]) && ((S.prev != some 58) && true))) then some { S with st := 4, phs := S.phs ++ [⟨#[]⟩] }
  else if S.style == sP && (c == 37 && ((nx == some 40) && true)) then some { S with st := 4, phs := S.phs ++ [⟨#[]⟩] }
  else if [sF, sP].any (· == S.style) && (c == 37 && true) then
    if S.ip then some { outS { S with style := sF } [c] with ip := false }
    else if nx == some 37 then some { S with style := sF, ip := true }
    else if nx == some 115 then some { outS { S with style := sF } (36 :: dig S.cnt) with cnt := S.cnt + 1, st := 4 }
    else none
  else some (outS S [c])
def tPN (S : MS) (c : Nat) (nx : Option Nat) : MS :=
  if S.style == sD then
    let S1 := { S with phs := addL S.phs c }
    if nx == none || (!Txt.isalnum (sg (nx.getD 0)) && (nx != some 95)) then { outS S1 (endN S1.phs).2 with st := 0, phs := (endN S1.phs).1 } else S1
  else if S.style == sP then
    if S.prev == some 41 && (c == 115 && true) then { outS S (endN S.phs).2 with st := 0, phs := (endN S.phs).1 }
    else if decide (c ∈ [40, 41]) then S
    else { S with phs := addL S.phs c }
  else if S.style == sF then { S with st := 0 } else S
/-- a turn, but for the last character's record -/
def turn0 (S : MS) (c : Nat) (nx : Option Nat) : Option MS :=
  if S.st == 0 then tOut S c nx
  else if S.st == 1 then some (outS (if c == 39 then (if S.iq then { S with iq := false } else if nx == some 39 then { S with iq := true } else { S with st := 0 }) else S) [c])
  else if S.st == 2 then some (outS (if c == 34 then { S with st := 0 } else S) [c])
  else if S.st == 3 then some (outS (if c == 39 && ((S.prev != some 92) && true) then { S with st := 0 } else S) [c])
  else if S.st == 6 then some (outS (if c == 36 && ((S.prev == some 36) && true) then { S with st := 0 } else S) [c])
  else if S.st == 4 then some (tPN S c nx)
  else if S.st == 5 then some (let S1 := outS S [c]; if c == 10 then { S1 with st := 0 } else S1)
  else some S
def turn (S : MS) (c : Nat) (nx : Option Nat) : Option MS := (turn0 S c nx).map fun S' => { S' with prev := some c }
/-- the machine over the rest of a text -/
def runM (S : MS) : List Nat → Option MS
  | [] => some S
  | c :: r => (turn S c r.head?).bind fun S' => runM S' r

def PVo : Option Nat → PV
  | none => .val .none
  | some z => .str (sg z)
theorem PVo_ne (o : Option Nat) : PVo o ≠ .un := by cases o <;> (intro h; cases h)
section
variable {prog : Program} {w : World} {c : Cf} {lo : Lo} {ob : Ob}
theorem op_eq_opt {o : Option Nat} {z : Nat} : Op prog w c lo ob (compareOp .Eq) (PVo o) (.str (sg z)) (.val (.bool (o == some z))) := by
  cases o with
  | none => exact op_eq_none_str
  | some y =>
    have : (some y == some z) = ((sg y : Str) == sg z) := by rw [sg_beq]; rfl
    rw [this]; exact op_eq_str
theorem op_ne_opt {o : Option Nat} {z : Nat} : Op prog w c lo ob (compareOp .NotEq) (PVo o) (.str (sg z)) (.val (.bool (o != some z))) := by
  cases o with
  | none => exact op_ne_none_str
  | some y =>
    have : (some y != some z) = ((sg y : Str) != sg z) := by rw [sg_bne]; rfl
    rw [this]; exact op_ne_str
theorem op_none_opt {o : Option Nat} : Op prog w c lo ob (compareOp .Is) (PVo o) (.val .none) (.val (.bool (o == none))) := by
  cases o with
  | none => exact op_is_none
  | some y => exact op_is_none_str
end
end Mine
end
section
open PySem.Calls
set_option maxHeartbeats 4000000
namespace Mine

local macro_rules | `(tactic| walk_at "my has") => `(tactic| with_reducible (repeat (first | exact Has.here | apply Has.there)))
local macro_rules | `(tactic| walk_at "my put") => `(tactic| with_reducible (repeat (first | exact Put.here | apply Put.there)))
local macro_rules | `(tactic| walk_at "my lit") => `(tactic| with_reducible (first | exact lit_sq | exact lit_dq | exact lit_E | exact lit_bs | exact lit_mi | exact lit_dl | exact lit_co | exact lit_eq | exact lit_qm | exact lit_pc | exact lit_lp | exact lit_rp | exact lit_s | exact lit_us | exact lit_nl | exact lit_ce | exact lit_ps | exact lit_rs | exact lit_em | exact rfl))
local macro_rules | `(tactic| walk_at "my op") => `(tactic| with_reducible (first | exact op_eq_int | exact op_ne_int | exact op_lt_int | exact op_gt_int | exact op_le_int | exact op_eq_str | exact op_ne_str | exact op_in_str | exact op_notin_str | exact op_eq_none_str | exact op_ne_none_str | exact op_ne_bool | exact op_is_none | exact op_is_none_str | exact op_add_int | exact op_iadd_int | exact op_sub_int | exact op_eq_opt | exact op_ne_opt | exact op_none_opt))
local macro_rules | `(tactic| walk_at "my nu") => `(tactic| first | (intro h; cases h; done) | exact PVo_ne _)
local macro_rules | `(tactic| walk_at "my ev") => `(tactic| first
  | with_reducible exact ev_int | ((with_reducible refine' ev_str ?h1); (case h1 => walk_at "my lit")) | with_reducible exact ev_none | with_reducible exact ev_bool
  | ((with_reducible refine' ev_nm ?k1 ?h1 ?u1); (case k1 => assumption); (case h1 => walk_at "my has"; done); (case u1 => walk_at "my nu"))
  | with_reducible refine' ev_bin ?_ ?_ ?_ | ((with_reducible refine' ev_cmp ?_ ?_ ?_ ?m1); (case m1 => exact rfl)) | ((with_reducible refine' tr_cmp ?_ ?_ ?_ ?m1); (case m1 => exact rfl)) | with_reducible refine' tr_not ?_ | with_reducible refine' tr_op ?_
  | with_reducible refine' tra_and ?_ ?_ | with_reducible exact tra_and_nil | with_reducible refine' tra_or ?_ ?_ | with_reducible exact tra_or_nil
  | with_reducible refine' ev_neg ?_
  | walk_at "my op" | ((with_reducible refine' evl_cons1 ?_ ?_ ?m1); (case m1 => exact rfl)) | with_reducible refine' evl_nil ?_ | (guard_target =~ (_ = _ → _); intro _))
local macro_rules | `(tactic| walk_at "my evs") => `(tactic| repeat' (walk_at "my ev"))
local macro_rules | `(tactic| walk_at "my blt") => `(tactic| first | exact ev_globB (by assumption) (by kernel_rfl) boot_len (by decide +kernel) (by kernel_rfl) (by decide +kernel) | exact ev_globB (by assumption) (by kernel_rfl) boot_str (by decide +kernel) (by kernel_rfl) (by decide +kernel) | exact ev_globB (by assumption) (by kernel_rfl) boot_range (by decide +kernel) (by kernel_rfl) (by decide +kernel))
local macro_rules | `(tactic| walk_at "my fn") => `(tactic| exact ev_glob (by assumption) (by kernel_rfl) (by kernel_rfl) (by decide +kernel))
local macro_rules | `(tactic| walk_at "my puts") => `(tactic| (repeat (apply Puts.cons; (focus (walk_at "my put"; done)))); exact Puts.nil)
local macro_rules | `(tactic| walk_at "my nils") => `(tactic| repeat (first | with_reducible refine seq_nil ?_ | with_reducible refine wx_nil ?_))
local macro_rules | `(tactic| walk_at "my nnils") => `(tactic| repeat (first | with_reducible refine seqn_nil ?_ | with_reducible refine wxn_nil ?_))
local macro_rules | `(tactic| walk_at "my meth") => `(tactic| (apply ev_of_x; first | with_reducible apply evx_meth1 | with_reducible apply evx_meth0 | apply evx_meth1 | apply evx_meth0))

noncomputable def cvEnv (P : Params) (L : Addr) : Env := envOfC (fdOf P 113).qualname (fdOf P 113).scope L 113 (fdOf P 113).code
/-- the names of the machine's frame -/
abbrev mlo (t : List Nat) (ph oq pi : Addr) (S : MS) (i cc nc pidx : PV) : Lo := [(Str.ofString "style", .str S.style), (Str.ofString "query", .str (tx t)),
  (Str.ofString "OUTSIDE", .int 0), (Str.ofString "INSIDE_SQ", .int 1), (Str.ofString "INSIDE_QI", .int 2), (Str.ofString "INSIDE_ES", .int 3), (Str.ofString "INSIDE_PN", .int 4), (Str.ofString "INSIDE_CO", .int 5), (Str.ofString "INSIDE_DQ", .int 6),
  (Str.ofString "in_quote_escape", .val (.bool S.iq)), (Str.ofString "in_param_escape", .val (.bool S.ip)), (Str.ofString "placeholders", .val (.ref ph)), (Str.ofString "output_query", .val (.ref oq)), (Str.ofString "param_idx", .val (.ref pi)),
  (Str.ofString "state", .int S.st), (Str.ofString "prev_c", PVo S.prev), (Str.ofString "i", i), (Str.ofString "c", cc), (Str.ofString "next_c", nc), (Str.ofString "pidx", pidx), (Str.ofString "vals", .un)]
abbrev mob (x dx ph oq : Addr) (S : MS) (r : Ob) : Ob := (x, InstO 101 dx (SlN (S.cnt : Nat))) :: (ph, SeqO "list" (S.phs.map .str)) :: (oq, SeqO "list" (S.out.map .str)) :: r
def fb : List Stmt := forBody (bd 10)
section
variable {prog : Program} {w : World} {p : Program} {loose : List Str} {mean : ExcName → Option Value} {mg mb : Str → Option Value} {c : Cf} {lo lo' : Lo} {ob ob' : Ob} {X : EPost} {Φ : Post} {pos apos : Pos}
theorem ws_append {o e : Expr} {l : Addr} {pl : Sem Bool} (ho : Ev prog w c lo ob o (.val (.ref l))) {vs : List PV} (hm0 : (l, SeqO "list" vs) ∈ ob) (he : EvX prog w c lo ob e (fun v ob1 => (l, SeqO "list" vs) ∈ ob1 ∧ ∃ ob2, Put l (SeqO "list" (vs ++ [v])) ob1 ob2 ∧ Φ .next lo ob2)) (hb : vs.length ≤ 2 ^ 20)
    (hc : eval (.Call (.Attribute o (Str.ofString "append") apos) [e] [] pos) c.env = (do
      let ov ← eval o c.env
      standAt apos.atName
      let (f, first) ← holding [ov] (getMethod ov (Str.ofString "append") pl)
      callWith pos f first (backTo pos (starEach [e] c.env)) []))
    (hst : starEach [e] c.env = (false, eval e c.env) :: starEach [] c.env) (hp : (backTo pos (starEach [] c.env)).any (·.1) = false) (hi : interactive c.env = false) (hs : swapsWith (.Call (.Attribute o (Str.ofString "append") apos) [e] [] pos) none pos.line c.env = pure false) :
    WS prog w c lo ob X (.Expr (.Call (.Attribute o (Str.ofString "append") apos) [e] [] pos) pos) Φ := by
  refine ws_none (evx_meth1 ho (gm_append hm0) (evl_cons (evx_mono he fun v ob1 h => evl_nil ?_) hst) hc hst hp) hi hs
  obtain ⟨h1, ob2, U, h2⟩ := h
  exact cl_append h1 hb U ⟨rfl, h2⟩
theorem cv_next (G : Gu (Mine.hd.heap_39 w.params) p loose mean mg mb c) {L : Addr} (he : c.env = cvEnv w.params L) {t : List Nat} {ph oq pi : Addr} {S : MS} {k : Nat} {cc nc pidx : PV} (hl : t.length < 2 ^ 29) (hΦ : Φ .next (mlo t ph oq pi S (.int k) cc (PVo t[k + 1]?) pidx) ob) :
    WS prog w c (mlo t ph oq pi S (.int k) cc nc pidx) ob X (fb.getD 0 (.Pass ⟨0, 0, 0, 0⟩)) Φ := by
  obtain ⟨A, env, h₀, os⟩ := c
  simp only at he
  subst he
  have K' := G.kind
  have G' := G.gt
  apply ws_set K' (v := PVo t[k + 1]?)
  · refine ev_ite (y := decide ((k : Int) + 1 < t.length)) ?_ ?_ ?_
    · apply tr_cmp
      · walk_at "my evs"
      · apply ev_len G'
        · walk_at "my blt"
        · walk_at "my evs"
        · rw [tx_len]; omega
        all_goals rfl
      · rw [tx_len]; exact op_lt_int
      · rfl
    · intro h
      have hlt : k + 1 < t.length := by have := of_decide_eq_true h; omega
      rw [List.getElem?_eq_getElem hlt]
      apply ev_char
      · walk_at "my evs"
      · walk_at "my evs"
      · omega
      · rw [show ((k : Int) + 1).toNat = k + 1 by omega]; exact List.getElem?_eq_getElem hlt
      · omega
      · intro _ _; rfl
    · intro h
      have hlt : ¬ k + 1 < t.length := by have := of_decide_eq_false h; omega
      rw [List.getElem?_eq_none (by omega)]
      exact ev_none
  · walk_at "my put"
  · exact hΦ

/-- append to a list of texts -/
theorem ws_app {o e : Expr} {l : Addr} {ss : List Str} {pl : Sem Bool} (ho : Ev prog w c lo ob o (.val (.ref l))) (hm0 : (l, SeqO "list" (ss.map .str)) ∈ ob) (he : EvX prog w c lo ob e (fun v ob1 => ∃ z, v = .str z ∧ (l, SeqO "list" (ss.map .str)) ∈ ob1 ∧ ∃ ob2, Put l (SeqO "list" ((ss ++ [z]).map .str)) ob1 ob2 ∧ Φ .next lo ob2)) (hb : ss.length ≤ 2 ^ 20)
    (hc : eval (.Call (.Attribute o (Str.ofString "append") apos) [e] [] pos) c.env = (do
      let ov ← eval o c.env
      standAt apos.atName
      let (f, first) ← holding [ov] (getMethod ov (Str.ofString "append") pl)
      callWith pos f first (backTo pos (starEach [e] c.env)) []))
    (hst : starEach [e] c.env = (false, eval e c.env) :: starEach [] c.env) (hp : (backTo pos (starEach [] c.env)).any (·.1) = false) (hi : interactive c.env = false) (hs : swapsWith (.Call (.Attribute o (Str.ofString "append") apos) [e] [] pos) none pos.line c.env = pure false) :
    WS prog w c lo ob X (.Expr (.Call (.Attribute o (Str.ofString "append") apos) [e] [] pos) pos) Φ := by
  refine ws_append ho hm0 (evx_mono he fun v ob1 h => ?_) (by simpa using hb) hc hst hp hi hs
  obtain ⟨z, rfl, h1, ob2, U, h2⟩ := h
  rw [List.map_append] at U
  exact ⟨h1, ob2, U, h2⟩
theorem st_eq0 (st : Nat) : (st == 0) = ((st : Int) == 0) := by rw [Bool.eq_iff_iff]; simp
theorem st_eq1 (st : Nat) : (st == 1) = ((st : Int) == 1) := by rw [Bool.eq_iff_iff]; simp; omega
theorem st_eq2 (st : Nat) : (st == 2) = ((st : Int) == 2) := by rw [Bool.eq_iff_iff]; simp; omega
theorem st_eq3 (st : Nat) : (st == 3) = ((st : Int) == 3) := by rw [Bool.eq_iff_iff]; simp; omega
theorem st_eq4 (st : Nat) : (st == 4) = ((st : Int) == 4) := by rw [Bool.eq_iff_iff]; simp; omega
theorem st_eq5 (st : Nat) : (st == 5) = ((st : Int) == 5) := by rw [Bool.eq_iff_iff]; simp; omega
theorem st_eq6 (st : Nat) : (st == 6) = ((st : Int) == 6) := by rw [Bool.eq_iff_iff]; simp; omega
end
end Mine
end
section
open PySem.Calls
set_option maxHeartbeats 4000000
namespace Mine

local macro_rules | `(tactic| walk_at "my has") => `(tactic| with_reducible (repeat (first | exact Has.here | apply Has.there)))
local macro_rules | `(tactic| walk_at "my put") => `(tactic| with_reducible (repeat (first | exact Put.here | apply Put.there)))
local macro_rules | `(tactic| walk_at "my lit") => `(tactic| with_reducible (first | exact lit_sq | exact lit_dq | exact lit_E | exact lit_bs | exact lit_mi | exact lit_dl | exact lit_co | exact lit_eq | exact lit_qm | exact lit_pc | exact lit_lp | exact lit_rp | exact lit_s | exact lit_us | exact lit_nl | exact lit_ce | exact lit_ps | exact lit_rs | exact lit_em | exact rfl))
local macro_rules | `(tactic| walk_at "my op") => `(tactic| with_reducible (first | exact op_eq_int | exact op_ne_int | exact op_lt_int | exact op_gt_int | exact op_le_int | exact op_eq_str | exact op_ne_str | exact op_in_str | exact op_notin_str | exact op_eq_none_str | exact op_ne_none_str | exact op_ne_bool | exact op_is_none | exact op_is_none_str | exact op_add_int | exact op_iadd_int | exact op_sub_int | exact op_eq_opt | exact op_ne_opt | exact op_none_opt))
local macro_rules | `(tactic| walk_at "my nu") => `(tactic| first | (intro h; cases h; done) | exact PVo_ne _)
local macro_rules | `(tactic| walk_at "my ev") => `(tactic| first
  | with_reducible exact ev_int | ((with_reducible refine' ev_str ?h1); (case h1 => walk_at "my lit")) | with_reducible exact ev_none | with_reducible exact ev_bool
  | ((with_reducible refine' ev_nm ?k1 ?h1 ?u1); (case k1 => assumption); (case h1 => walk_at "my has"; done); (case u1 => walk_at "my nu"))
  | with_reducible refine' ev_bin ?_ ?_ ?_ | ((with_reducible refine' ev_cmp ?_ ?_ ?_ ?m1); (case m1 => exact rfl)) | ((with_reducible refine' tr_cmp ?_ ?_ ?_ ?m1); (case m1 => exact rfl)) | with_reducible refine' tr_not ?_ | with_reducible refine' tr_op ?_
  | with_reducible refine' tra_and ?_ ?_ | with_reducible exact tra_and_nil | with_reducible refine' tra_or ?_ ?_ | with_reducible exact tra_or_nil
  | with_reducible refine' ev_neg ?_
  | walk_at "my op" | ((with_reducible refine' evl_cons1 ?_ ?_ ?m1); (case m1 => exact rfl)) | with_reducible refine' evl_nil ?_ | (guard_target =~ (_ = _ → _); intro _))
local macro_rules | `(tactic| walk_at "my evs") => `(tactic| repeat' (walk_at "my ev"))
local macro_rules | `(tactic| walk_at "my blt") => `(tactic| first | exact ev_globB (by assumption) (by kernel_rfl) boot_len (by decide +kernel) (by kernel_rfl) (by decide +kernel) | exact ev_globB (by assumption) (by kernel_rfl) boot_str (by decide +kernel) (by kernel_rfl) (by decide +kernel) | exact ev_globB (by assumption) (by kernel_rfl) boot_range (by decide +kernel) (by kernel_rfl) (by decide +kernel))
local macro_rules | `(tactic| walk_at "my fn") => `(tactic| exact ev_glob (by assumption) (by kernel_rfl) (by kernel_rfl) (by decide +kernel))
local macro_rules | `(tactic| walk_at "my puts") => `(tactic| (repeat (apply Puts.cons; (focus (walk_at "my put"; done)))); exact Puts.nil)
local macro_rules | `(tactic| walk_at "my nils") => `(tactic| repeat (first | with_reducible refine seq_nil ?_ | with_reducible refine wx_nil ?_))
local macro_rules | `(tactic| walk_at "my nnils") => `(tactic| repeat (first | with_reducible refine seqn_nil ?_ | with_reducible refine wxn_nil ?_))
local macro_rules | `(tactic| walk_at "my meth") => `(tactic| (apply ev_of_x; first | with_reducible apply evx_meth1 | with_reducible apply evx_meth0 | apply evx_meth1 | apply evx_meth0))

def pnOf : List Stmt → List Stmt
  | [.If _ _ [.If _ _ [.If _ _ [.If _ _ [.If _ _ [.If _ b _ _] _] _] _] _] _] => b
  | _ => []
/-- the suite of the machine's INSIDE_PN -/
def pnBody : List Stmt := pnOf [fb.getD 1 (.Pass ⟨0, 0, 0, 0⟩)]
section
variable {prog : Program} {w : World} {p : Program} {loose : List Str} {mean : ExcName → Option Value} {mg mb : Str → Option Value} {c : Cf} {lo lo' : Lo} {X : EPost} {Φ : Post}
abbrev lob (e it x dx ph oq : Addr) (t : List Nat) (k : Nat) (S : MS) (r : Ob) : Ob := (e, EnumO it (k + 1)) :: (it, StrItO (tx t) (k + 1)) :: mob x dx ph oq S r
theorem cv_turn (G : Gu (Mine.hd.heap_39 w.params) p loose mean mg mb c) {L : Addr} (he : c.env = cvEnv w.params L) (hroom : c.A.depth < recursionLimit) {t : List Nat} {e it x dx ph oq pi mt f c' : Addr} {S : MS} {k ch : Nat} {nx : Option Nat} {pidx : PV} {r : Ob} (hl : t.length < 1000)
    (hK : ∀ S' pidx', turn0 S ch nx = some S' → S'.prev = S.prev → WXn prog w c (mlo t ph oq pi S' (.int k) (.str (sg ch)) (PVo nx) pidx') (lob e it x dx ph oq t k S' r) X (fb.drop 2) Φ)
    (hR : turn0 S ch nx = none → ∀ lo' Φ' msg k0 p1 p2 p3 p4, WXn prog w c lo' (lob e it x dx ph oq t k S r) X [.Raise (some (.Call (.Name (Str.ofString "InterfaceError") p1) [.Constant (.str msg) k0 p2] [] p3)) none p4] Φ')
    (hPN : S.st = 4 → WXn prog w c (mlo t ph oq pi S (.int k) (.str (sg ch)) (PVo nx) pidx) (lob e it x dx ph oq t k S r) X pnBody (SeqN prog w c X [] (SeqN prog w c X [] (SeqN prog w c X [] (SeqN prog w c X [] (SeqN prog w c X [] (SeqN prog w c X (fb.drop 2) Φ)))))))
    (hout : S.out.length ≤ 1000) (hphs : S.phs.length ≤ 1000) (hcnt : S.cnt < 1000) (hnx : nx = none → ch ≠ 58)
    (hr1 : (pi, MapO mt f) ∈ r) (hr2 : (mt, TupO (.ref x)) ∈ r) (hr4 : (dx, EmpO) ∈ r) (hr5 : (f, LamO lamQ lamP lamB lamS c') ∈ r) (hr6 : (c', CodeO lamQ) ∈ r) :
    WXn prog w c (mlo t ph oq pi S (.int k) (.str (sg ch)) (PVo nx) pidx) (lob e it x dx ph oq t k S r) X (fb.drop 1) Φ := by
  obtain ⟨A, env, h₀, os⟩ := c
  simp only at he
  subst he
  have K' := G.kind
  have Kg : ∀ g, (Cf.at ⟨A, cvEnv w.params L, h₀, os⟩ g).env.scope.kind = .function := fun _ => K'
  obtain ⟨st, iq, ip, phs, out, style, prev, cnt⟩ := S
  have hstep := turn0.eq_def ⟨st, iq, ip, phs, out, style, prev, cnt⟩ ch nx
  simp only at hstep hout hphs hcnt hPN
  show WXn _ _ _ [(_, .str style), (_, .str (tx t)), (_, _), (_, _), (_, _), (_, _), (_, _), (_, _), (_, _), (_, .val (.bool iq)), (_, .val (.bool ip)), (_, _), (_, _), (_, _), (_, .int st), (_, PVo prev), (_, _), (_, .str (sg ch)), (_, PVo nx), (_, _), (_, _)] _ _ _ _
  refine wxn_cons ?_
  refine wsn_if (y := st == 0) ?_ ?_ ?_
  · intro g T
    have K1 := Kg g
    rw [st_eq0]
    walk_at "my evs"
  · intro hc
    obtain rfl : st = 0 := by simpa using hc
    rw [if_pos (show ((0 : Nat) == 0) = true from rfl)] at hstep
    unfold tOut at hstep
    simp only at hstep
    refine wxn_cons ?_
    refine wsn_if (y := ch == 39) ?_ ?_ ?_
    · intro g T
      have K1 := Kg g
      rw [← sg_beq]
      walk_at "my evs"
    · intro hc
      rw [if_pos hc] at hstep
      refine wxn_old ?_
      intro g T
      have K1 := Kg g
      apply ws_app (l := oq) (ss := out)
      · walk_at "my evs"
      · exact .tail _ (.tail _ (.tail _ (.tail _ (.head _))))
      · apply evx_of
        · walk_at "my evs"
        · refine ⟨_, rfl, .tail _ (.tail _ (.tail _ (.tail _ (.head _)))), _, .there (.there (.there (.there .here))), ?_⟩
          walk_at "my nnils"
          refine wxn_cons ?_
          refine wsn_if (y := prev == some 69) ?_ ?_ ?_
          · intro g T
            have K1 := Kg g
            walk_at "my evs"
          · intro hc
            rw [if_pos hc] at hstep
            refine wxn_old ?_
            intro g T
            have K1 := Kg g
            apply ws_set K1 (v := .int 3)
            · walk_at "my evs"
            · walk_at "my put"
            walk_at "my nnils"
            walk_at "my nnils"
            exact hK _ _ hstep rfl
          · intro hc
            rw [if_neg (by rw [hc]; exact Bool.false_ne_true)] at hstep
            refine wxn_old ?_
            intro g T
            have K1 := Kg g
            apply ws_set K1 (v := .int 1)
            · walk_at "my evs"
            · walk_at "my put"
            walk_at "my nnils"
            walk_at "my nnils"
            exact hK _ _ hstep rfl
      · omega
      all_goals rfl
    intro hc
    rw [if_neg (by rw [hc]; exact Bool.false_ne_true)] at hstep
    walk_at "my nnils"
    refine wxn_cons ?_
    refine wsn_if (y := ch == 34) ?_ ?_ ?_
    · intro g T
      have K1 := Kg g
      rw [← sg_beq]
      walk_at "my evs"
    · intro hc
      rw [if_pos hc] at hstep
      refine wxn_old ?_
      intro g T
      have K1 := Kg g
      apply ws_app (l := oq) (ss := out)
      · walk_at "my evs"
      · exact .tail _ (.tail _ (.tail _ (.tail _ (.head _))))
      · apply evx_of
        · walk_at "my evs"
        · refine ⟨_, rfl, .tail _ (.tail _ (.tail _ (.tail _ (.head _)))), _, .there (.there (.there (.there .here))), ?_⟩
          walk_at "my nnils"
          refine wxn_old ?_
          intro g T
          have K1 := Kg g
          apply ws_set K1 (v := .int 2)
          · walk_at "my evs"
          · walk_at "my put"
          walk_at "my nnils"
          walk_at "my nnils"
          exact hK _ _ hstep rfl
      · omega
      all_goals rfl
    intro hc
    rw [if_neg (by rw [hc]; exact Bool.false_ne_true)] at hstep
    walk_at "my nnils"
    refine wxn_cons ?_
    refine wsn_if (y := ch == 45) ?_ ?_ ?_
    · intro g T
      have K1 := Kg g
      rw [← sg_beq]
      walk_at "my evs"
    · intro hc
      rw [if_pos hc] at hstep
      refine wxn_old ?_
      intro g T
      have K1 := Kg g
      apply ws_app (l := oq) (ss := out)
      · walk_at "my evs"
      · exact .tail _ (.tail _ (.tail _ (.tail _ (.head _))))
      · apply evx_of
        · walk_at "my evs"
        · refine ⟨_, rfl, .tail _ (.tail _ (.tail _ (.tail _ (.head _)))), _, .there (.there (.there (.there .here))), ?_⟩
          walk_at "my nnils"
          refine wxn_cons ?_
          refine wsn_if (y := prev == some 45) ?_ ?_ ?_
          · intro g T
            have K1 := Kg g
            walk_at "my evs"
          · intro hc
            rw [if_pos hc] at hstep
            refine wxn_old ?_
            intro g T
            have K1 := Kg g
            apply ws_set K1 (v := .int 5)
            · walk_at "my evs"
            · walk_at "my put"
            walk_at "my nnils"
            walk_at "my nnils"
            exact hK _ _ hstep rfl
          · intro hc
            rw [if_neg (by rw [hc]; exact Bool.false_ne_true)] at hstep
            walk_at "my nnils"
            exact hK _ _ hstep rfl
      · omega
      all_goals rfl
    intro hc
    rw [if_neg (by rw [hc]; exact Bool.false_ne_true)] at hstep
    walk_at "my nnils"
    refine wxn_cons ?_
    refine wsn_if (y := ch == 36) ?_ ?_ ?_
    · intro g T
      have K1 := Kg g
      rw [← sg_beq]
      walk_at "my evs"
    · intro hc
      rw [if_pos hc] at hstep
      refine wxn_old ?_
      intro g T
      have K1 := Kg g
      apply ws_app (l := oq) (ss := out)
      · walk_at "my evs"
      · exact .tail _ (.tail _ (.tail _ (.tail _ (.head _))))
      · apply evx_of
        · walk_at "my evs"
        · refine ⟨_, rfl, .tail _ (.tail _ (.tail _ (.tail _ (.head _)))), _, .there (.there (.there (.there .here))), ?_⟩
          walk_at "my nnils"
          refine wxn_cons ?_
          refine wsn_if (y := prev == some 36) ?_ ?_ ?_
          · intro g T
            have K1 := Kg g
            walk_at "my evs"
          · intro hc
            rw [if_pos hc] at hstep
            refine wxn_old ?_
            intro g T
            have K1 := Kg g
            apply ws_set K1 (v := .int 6)
            · walk_at "my evs"
            · walk_at "my put"
            walk_at "my nnils"
            walk_at "my nnils"
            exact hK _ _ hstep rfl
          · intro hc
            rw [if_neg (by rw [hc]; exact Bool.false_ne_true)] at hstep
            walk_at "my nnils"
            exact hK _ _ hstep rfl
      · omega
      all_goals rfl
    intro hc
    rw [if_neg (by rw [hc]; exact Bool.false_ne_true)] at hstep
    walk_at "my nnils"
    refine wxn_cons ?_
    refine wsn_if (y := style == sQ && (ch == 63 && true)) ?_ ?_ ?_
    · intro g T
      have K1 := Kg g
      rw [← sg_beq]
      walk_at "my evs"
    · intro hc
      rw [if_pos hc] at hstep
      refine wxn_old ?_
      intro g T
      have K1 := Kg g
      apply ws_app (l := oq) (ss := out)
      · walk_at "my evs"
      · exact .tail _ (.tail _ (.tail _ (.tail _ (.head _))))
      · apply evx_callB
        · exact ev_globB (G.turn T).gt (by kernel_rfl) boot_next (by decide +kernel) (by kernel_rfl) (by decide +kernel)
        · walk_at "my evs"
          refine cl_nextp (G.turn T).gt (G.turn T).top hroom hcnt (.tail _ (.tail _ (.tail _ (.tail _ (.tail _ hr1))))) (.tail _ (.tail _ (.tail _ (.tail _ (.tail _ hr2))))) (.tail _ (.tail _ (.head _))) (.tail _ (.tail _ (.tail _ (.tail _ (.tail _ hr4))))) (.tail _ (.tail _ (.tail _ (.tail _ (.tail _ hr4))))) (.tail _ (.tail _ (.tail _ (.tail _ (.tail _ hr5))))) (.tail _ (.tail _ (.tail _ (.tail _ (.tail _ hr6))))) (.tail _ (.tail _ (.tail _ (.tail _ (.tail _ hr1))))) (.there (.there .here)) ?_
          refine ⟨_, rfl, .tail _ (.tail _ (.tail _ (.tail _ (.head _)))), _, .there (.there (.there (.there .here))), ?_⟩
          walk_at "my nnils"
          exact hK _ _ hstep rfl
        all_goals rfl
      · omega
      all_goals rfl
    intro hc
    rw [if_neg (by rw [hc]; exact Bool.false_ne_true)] at hstep
    walk_at "my nnils"
    refine wxn_cons ?_
    refine wsn_if (y := style == sN && (ch == 58 && (!decide (nx.getD 0 ∈ [58, 61]) && ((prev != some 58) && true)))) ?_ ?_ ?_
    · intro g T
      have K1 := Kg g
      rw [← sg_beq]
      refine tr_op ?_
      apply tra_and
      · walk_at "my evs"
      · intro _
        apply tra_and
        · walk_at "my evs"
        · intro h58
          apply tra_and
          · cases nx with
            | none => rw [sg_beq] at h58; exact absurd (by simpa using h58) (hnx rfl)
            | some z =>
              apply tr_cmp (a := PVo (some z)) (b := .str ⟨#[58, 61]⟩)
              · walk_at "my evs"
              · walk_at "my evs"
              · exact op_notin_str
              · rfl
          · walk_at "my evs"
    · intro hc
      rw [if_pos hc] at hstep
      refine wxn_old ?_
      intro g T
      have K1 := Kg g
      apply ws_app (l := oq) (ss := out)
      · walk_at "my evs"
      · exact .tail _ (.tail _ (.tail _ (.tail _ (.head _))))
      · apply evx_of
        · walk_at "my evs"
        · refine ⟨_, rfl, .tail _ (.tail _ (.tail _ (.tail _ (.head _)))), _, .there (.there (.there (.there .here))), ?_⟩
          walk_at "my nnils"
          exact hK _ _ hstep rfl
      · omega
      all_goals rfl
    intro hc
    rw [if_neg (by rw [hc]; exact Bool.false_ne_true)] at hstep
    walk_at "my nnils"
    refine wxn_cons ?_
    refine wsn_if (y := style == sD && (ch == 58 && (!decide (nx.getD 0 ∈ [58, 61]) && ((prev != some 58) && true)))) ?_ ?_ ?_
    · intro g T
      have K1 := Kg g
      rw [← sg_beq]
      refine tr_op ?_
      apply tra_and
      · walk_at "my evs"
      · intro _
        apply tra_and
        · walk_at "my evs"
        · intro h58
          apply tra_and
          · cases nx with
            | none => rw [sg_beq] at h58; exact absurd (by simpa using h58) (hnx rfl)
            | some z =>
              apply tr_cmp (a := PVo (some z)) (b := .str ⟨#[58, 61]⟩)
              · walk_at "my evs"
              · walk_at "my evs"
              · exact op_notin_str
              · rfl
          · walk_at "my evs"
    · intro hc
      rw [if_pos hc] at hstep
      refine wxn_old ?_
      intro g T
      have K1 := Kg g
      apply ws_set K1 (v := .int 4)
      · walk_at "my evs"
      · walk_at "my put"
      walk_at "my nnils"
      refine wxn_old ?_
      intro g T
      have K1 := Kg g
      apply ws_app (l := ph) (ss := phs)
      · walk_at "my evs"
      · exact .tail _ (.tail _ (.tail _ (.head _)))
      · apply evx_of
        · walk_at "my evs"
        · refine ⟨_, rfl, .tail _ (.tail _ (.tail _ (.head _))), _, .there (.there (.there .here)), ?_⟩
          walk_at "my nnils"
          exact hK _ _ hstep rfl
      · omega
      all_goals rfl
    intro hc
    rw [if_neg (by rw [hc]; exact Bool.false_ne_true)] at hstep
    walk_at "my nnils"
    refine wxn_cons ?_
    refine wsn_if (y := style == sP && (ch == 37 && ((nx == some 40) && true))) ?_ ?_ ?_
    · intro g T
      have K1 := Kg g
      rw [← sg_beq]
      walk_at "my evs"
    · intro hc
      rw [if_pos hc] at hstep
      refine wxn_old ?_
      intro g T
      have K1 := Kg g
      apply ws_set K1 (v := .int 4)
      · walk_at "my evs"
      · walk_at "my put"
      walk_at "my nnils"
      refine wxn_old ?_
      intro g T
      have K1 := Kg g
      apply ws_app (l := ph) (ss := phs)
      · walk_at "my evs"
      · exact .tail _ (.tail _ (.tail _ (.head _)))
      · apply evx_of
        · walk_at "my evs"
        · refine ⟨_, rfl, .tail _ (.tail _ (.tail _ (.head _))), _, .there (.there (.there .here)), ?_⟩
          walk_at "my nnils"
          exact hK _ _ hstep rfl
      · omega
      all_goals rfl
    intro hc
    rw [if_neg (by rw [hc]; exact Bool.false_ne_true)] at hstep
    walk_at "my nnils"
    refine wxn_cons ?_
    refine wsn_if (y := [sF, sP].any (· == style) && (ch == 37 && true)) ?_ ?_ ?_
    · intro g T
      have K1 := Kg g
      rw [← sg_beq]
      refine tr_op ?_
      apply tra_and
      · apply tr_in_disp (ss := [sF, sP])
        · walk_at "my evs"
        · walk_at "my evs"
          exact ⟨rfl, rfl⟩
        · exact Nat.le_of_ble_eq_true rfl
      · walk_at "my evs"
    · intro hc
      rw [if_pos hc] at hstep
      refine wxn_old ?_
      intro g T
      have K1 := Kg g
      apply ws_set K1 (v := .str sF)
      · walk_at "my evs"
      · walk_at "my put"
      walk_at "my nnils"
      refine wxn_cons ?_
      refine wsn_if (y := ip) ?_ ?_ ?_
      · intro g T
        have K1 := Kg g
        apply tr_name K1
        exact Has.mem (by walk_at "my has")
      · intro hc
        rw [if_pos hc] at hstep
        refine wxn_old ?_
        intro g T
        have K1 := Kg g
        apply ws_set K1 (v := .val (.bool false))
        · walk_at "my evs"
        · walk_at "my put"
        walk_at "my nnils"
        refine wxn_old ?_
        intro g T
        have K1 := Kg g
        apply ws_app (l := oq) (ss := out)
        · walk_at "my evs"
        · exact .tail _ (.tail _ (.tail _ (.tail _ (.head _))))
        · apply evx_of
          · walk_at "my evs"
          · refine ⟨_, rfl, .tail _ (.tail _ (.tail _ (.tail _ (.head _)))), _, .there (.there (.there (.there .here))), ?_⟩
            walk_at "my nnils"
            exact hK _ _ hstep rfl
        · omega
        all_goals rfl
      intro hc
      rw [if_neg (by rw [hc]; exact Bool.false_ne_true)] at hstep
      walk_at "my nnils"
      refine wxn_cons ?_
      refine wsn_if (y := nx == some 37) ?_ ?_ ?_
      · intro g T
        have K1 := Kg g
        walk_at "my evs"
      · intro hc
        rw [if_pos hc] at hstep
        refine wxn_old ?_
        intro g T
        have K1 := Kg g
        apply ws_set K1 (v := .val (.bool true))
        · walk_at "my evs"
        · walk_at "my put"
        walk_at "my nnils"
        walk_at "my nnils"
        exact hK _ _ hstep rfl
      intro hc
      rw [if_neg (by rw [hc]; exact Bool.false_ne_true)] at hstep
      walk_at "my nnils"
      refine wxn_cons ?_
      refine wsn_if (y := nx == some 115) ?_ ?_ ?_
      · intro g T
        have K1 := Kg g
        walk_at "my evs"
      · intro hc
        rw [if_pos hc] at hstep
        refine wxn_old ?_
        intro g T
        have K1 := Kg g
        apply ws_set K1 (v := .int 4)
        · walk_at "my evs"
        · walk_at "my put"
        walk_at "my nnils"
        refine wxn_old ?_
        intro g T
        have K1 := Kg g
        apply ws_app (l := oq) (ss := out)
        · walk_at "my evs"
        · exact .tail _ (.tail _ (.tail _ (.tail _ (.head _))))
        · apply evx_callB
          · exact ev_globB (G.turn T).gt (by kernel_rfl) boot_next (by decide +kernel) (by kernel_rfl) (by decide +kernel)
          · walk_at "my evs"
            refine cl_nextp (G.turn T).gt (G.turn T).top hroom hcnt (.tail _ (.tail _ (.tail _ (.tail _ (.tail _ hr1))))) (.tail _ (.tail _ (.tail _ (.tail _ (.tail _ hr2))))) (.tail _ (.tail _ (.head _))) (.tail _ (.tail _ (.tail _ (.tail _ (.tail _ hr4))))) (.tail _ (.tail _ (.tail _ (.tail _ (.tail _ hr4))))) (.tail _ (.tail _ (.tail _ (.tail _ (.tail _ hr5))))) (.tail _ (.tail _ (.tail _ (.tail _ (.tail _ hr6))))) (.tail _ (.tail _ (.tail _ (.tail _ (.tail _ hr1))))) (.there (.there .here)) ?_
            refine ⟨_, rfl, .tail _ (.tail _ (.tail _ (.tail _ (.head _)))), _, .there (.there (.there (.there .here))), ?_⟩
            walk_at "my nnils"
            exact hK _ _ hstep rfl
          all_goals rfl
        · omega
        all_goals rfl
      intro hc
      rw [if_neg (by rw [hc]; exact Bool.false_ne_true)] at hstep
      walk_at "my nnils"
      exact hR hstep _ _ _ _ _ _ _ _
    intro hc
    rw [if_neg (by rw [hc]; exact Bool.false_ne_true)] at hstep
    walk_at "my nnils"
    refine wxn_old ?_
    intro g T
    have K1 := Kg g
    apply ws_app (l := oq) (ss := out)
    · walk_at "my evs"
    · exact .tail _ (.tail _ (.tail _ (.tail _ (.head _))))
    · apply evx_of
      · walk_at "my evs"
      · refine ⟨_, rfl, .tail _ (.tail _ (.tail _ (.tail _ (.head _)))), _, .there (.there (.there (.there .here))), ?_⟩
        walk_at "my nnils"
        exact hK _ _ hstep rfl
    · omega
    all_goals rfl
  intro hc
  rw [if_neg (by rw [hc]; exact Bool.false_ne_true)] at hstep
  walk_at "my nnils"
  refine wxn_cons ?_
  refine wsn_if (y := st == 1) ?_ ?_ ?_
  · intro g T
    have K1 := Kg g
    rw [st_eq1]
    walk_at "my evs"
  · intro hc
    rw [if_pos hc] at hstep
    refine wxn_cons ?_
    refine wsn_if (y := ch == 39) ?_ ?_ ?_
    · intro g T
      have K1 := Kg g
      rw [← sg_beq]
      walk_at "my evs"
    · intro hc
      rw [if_pos hc] at hstep
      refine wxn_cons ?_
      refine wsn_if (y := iq) ?_ ?_ ?_
      · intro g T
        have K1 := Kg g
        apply tr_name K1
        exact Has.mem (by walk_at "my has")
      · intro hc
        rw [if_pos hc] at hstep
        refine wxn_old ?_
        intro g T
        have K1 := Kg g
        apply ws_set K1 (v := .val (.bool false))
        · walk_at "my evs"
        · walk_at "my put"
        walk_at "my nnils"
        refine wxn_old ?_
        intro g T
        have K1 := Kg g
        apply ws_app (l := oq) (ss := out)
        · walk_at "my evs"
        · exact .tail _ (.tail _ (.tail _ (.tail _ (.head _))))
        · apply evx_of
          · walk_at "my evs"
          · refine ⟨_, rfl, .tail _ (.tail _ (.tail _ (.tail _ (.head _)))), _, .there (.there (.there (.there .here))), ?_⟩
            walk_at "my nnils"
            exact hK _ _ hstep rfl
        · omega
        all_goals rfl
      intro hc
      rw [if_neg (by rw [hc]; exact Bool.false_ne_true)] at hstep
      walk_at "my nnils"
      refine wxn_cons ?_
      refine wsn_if (y := nx == some 39) ?_ ?_ ?_
      · intro g T
        have K1 := Kg g
        walk_at "my evs"
      · intro hc
        rw [if_pos hc] at hstep
        refine wxn_old ?_
        intro g T
        have K1 := Kg g
        apply ws_set K1 (v := .val (.bool true))
        · walk_at "my evs"
        · walk_at "my put"
        walk_at "my nnils"
        refine wxn_old ?_
        intro g T
        have K1 := Kg g
        apply ws_app (l := oq) (ss := out)
        · walk_at "my evs"
        · exact .tail _ (.tail _ (.tail _ (.tail _ (.head _))))
        · apply evx_of
          · walk_at "my evs"
          · refine ⟨_, rfl, .tail _ (.tail _ (.tail _ (.tail _ (.head _)))), _, .there (.there (.there (.there .here))), ?_⟩
            walk_at "my nnils"
            exact hK _ _ hstep rfl
        · omega
        all_goals rfl
      intro hc
      rw [if_neg (by rw [hc]; exact Bool.false_ne_true)] at hstep
      walk_at "my nnils"
      refine wxn_old ?_
      intro g T
      have K1 := Kg g
      apply ws_set K1 (v := .int 0)
      · walk_at "my evs"
      · walk_at "my put"
      walk_at "my nnils"
      refine wxn_old ?_
      intro g T
      have K1 := Kg g
      apply ws_app (l := oq) (ss := out)
      · walk_at "my evs"
      · exact .tail _ (.tail _ (.tail _ (.tail _ (.head _))))
      · apply evx_of
        · walk_at "my evs"
        · refine ⟨_, rfl, .tail _ (.tail _ (.tail _ (.tail _ (.head _)))), _, .there (.there (.there (.there .here))), ?_⟩
          walk_at "my nnils"
          exact hK _ _ hstep rfl
      · omega
      all_goals rfl
    intro hc
    rw [if_neg (by rw [hc]; exact Bool.false_ne_true)] at hstep
    walk_at "my nnils"
    refine wxn_old ?_
    intro g T
    have K1 := Kg g
    apply ws_app (l := oq) (ss := out)
    · walk_at "my evs"
    · exact .tail _ (.tail _ (.tail _ (.tail _ (.head _))))
    · apply evx_of
      · walk_at "my evs"
      · refine ⟨_, rfl, .tail _ (.tail _ (.tail _ (.tail _ (.head _)))), _, .there (.there (.there (.there .here))), ?_⟩
        walk_at "my nnils"
        exact hK _ _ hstep rfl
    · omega
    all_goals rfl
  intro hc
  rw [if_neg (by rw [hc]; exact Bool.false_ne_true)] at hstep
  walk_at "my nnils"
  refine wxn_cons ?_
  refine wsn_if (y := st == 2) ?_ ?_ ?_
  · intro g T
    have K1 := Kg g
    rw [st_eq2]
    walk_at "my evs"
  · intro hc
    rw [if_pos hc] at hstep
    refine wxn_cons ?_
    refine wsn_if (y := ch == 34) ?_ ?_ ?_
    · intro g T
      have K1 := Kg g
      rw [← sg_beq]
      walk_at "my evs"
    · intro hc
      rw [if_pos hc] at hstep
      refine wxn_old ?_
      intro g T
      have K1 := Kg g
      apply ws_set K1 (v := .int 0)
      · walk_at "my evs"
      · walk_at "my put"
      walk_at "my nnils"
      refine wxn_old ?_
      intro g T
      have K1 := Kg g
      apply ws_app (l := oq) (ss := out)
      · walk_at "my evs"
      · exact .tail _ (.tail _ (.tail _ (.tail _ (.head _))))
      · apply evx_of
        · walk_at "my evs"
        · refine ⟨_, rfl, .tail _ (.tail _ (.tail _ (.tail _ (.head _)))), _, .there (.there (.there (.there .here))), ?_⟩
          walk_at "my nnils"
          exact hK _ _ hstep rfl
      · omega
      all_goals rfl
    intro hc
    rw [if_neg (by rw [hc]; exact Bool.false_ne_true)] at hstep
    walk_at "my nnils"
    refine wxn_old ?_
    intro g T
    have K1 := Kg g
    apply ws_app (l := oq) (ss := out)
    · walk_at "my evs"
    · exact .tail _ (.tail _ (.tail _ (.tail _ (.head _))))
    · apply evx_of
      · walk_at "my evs"
      · refine ⟨_, rfl, .tail _ (.tail _ (.tail _ (.tail _ (.head _)))), _, .there (.there (.there (.there .here))), ?_⟩
        walk_at "my nnils"
        exact hK _ _ hstep rfl
    · omega
    all_goals rfl
  intro hc
  rw [if_neg (by rw [hc]; exact Bool.false_ne_true)] at hstep
  walk_at "my nnils"
  refine wxn_cons ?_
  refine wsn_if (y := st == 3) ?_ ?_ ?_
  · intro g T
    have K1 := Kg g
    rw [st_eq3]
    walk_at "my evs"
  · intro hc
    rw [if_pos hc] at hstep
    refine wxn_cons ?_
    refine wsn_if (y := ch == 39 && ((prev != some 92) && true)) ?_ ?_ ?_
    · intro g T
      have K1 := Kg g
      rw [← sg_beq]
      walk_at "my evs"
    · intro hc
      rw [if_pos hc] at hstep
      refine wxn_old ?_
      intro g T
      have K1 := Kg g
      apply ws_set K1 (v := .int 0)
      · walk_at "my evs"
      · walk_at "my put"
      walk_at "my nnils"
      refine wxn_old ?_
      intro g T
      have K1 := Kg g
      apply ws_app (l := oq) (ss := out)
      · walk_at "my evs"
      · exact .tail _ (.tail _ (.tail _ (.tail _ (.head _))))
      · apply evx_of
        · walk_at "my evs"
        · refine ⟨_, rfl, .tail _ (.tail _ (.tail _ (.tail _ (.head _)))), _, .there (.there (.there (.there .here))), ?_⟩
          walk_at "my nnils"
          exact hK _ _ hstep rfl
      · omega
      all_goals rfl
    intro hc
    rw [if_neg (by rw [hc]; exact Bool.false_ne_true)] at hstep
    walk_at "my nnils"
    refine wxn_old ?_
    intro g T
    have K1 := Kg g
    apply ws_app (l := oq) (ss := out)
    · walk_at "my evs"
    · exact .tail _ (.tail _ (.tail _ (.tail _ (.head _))))
    · apply evx_of
      · walk_at "my evs"
      · refine ⟨_, rfl, .tail _ (.tail _ (.tail _ (.tail _ (.head _)))), _, .there (.there (.there (.there .here))), ?_⟩
        walk_at "my nnils"
        exact hK _ _ hstep rfl
    · omega
    all_goals rfl
  intro hc
  rw [if_neg (by rw [hc]; exact Bool.false_ne_true)] at hstep
  walk_at "my nnils"
  refine wxn_cons ?_
  refine wsn_if (y := st == 6) ?_ ?_ ?_
  · intro g T
    have K1 := Kg g
    rw [st_eq6]
    walk_at "my evs"
  · intro hc
    rw [if_pos hc] at hstep
    refine wxn_cons ?_
    refine wsn_if (y := ch == 36 && ((prev == some 36) && true)) ?_ ?_ ?_
    · intro g T
      have K1 := Kg g
      rw [← sg_beq]
      walk_at "my evs"
    · intro hc
      rw [if_pos hc] at hstep
      refine wxn_old ?_
      intro g T
      have K1 := Kg g
      apply ws_set K1 (v := .int 0)
      · walk_at "my evs"
      · walk_at "my put"
      walk_at "my nnils"
      refine wxn_old ?_
      intro g T
      have K1 := Kg g
      apply ws_app (l := oq) (ss := out)
      · walk_at "my evs"
      · exact .tail _ (.tail _ (.tail _ (.tail _ (.head _))))
      · apply evx_of
        · walk_at "my evs"
        · refine ⟨_, rfl, .tail _ (.tail _ (.tail _ (.tail _ (.head _)))), _, .there (.there (.there (.there .here))), ?_⟩
          walk_at "my nnils"
          exact hK _ _ hstep rfl
      · omega
      all_goals rfl
    intro hc
    rw [if_neg (by rw [hc]; exact Bool.false_ne_true)] at hstep
    walk_at "my nnils"
    refine wxn_old ?_
    intro g T
    have K1 := Kg g
    apply ws_app (l := oq) (ss := out)
    · walk_at "my evs"
    · exact .tail _ (.tail _ (.tail _ (.tail _ (.head _))))
    · apply evx_of
      · walk_at "my evs"
      · refine ⟨_, rfl, .tail _ (.tail _ (.tail _ (.tail _ (.head _)))), _, .there (.there (.there (.there .here))), ?_⟩
        walk_at "my nnils"
        exact hK _ _ hstep rfl
    · omega
    all_goals rfl
  intro hc
  rw [if_neg (by rw [hc]; exact Bool.false_ne_true)] at hstep
  walk_at "my nnils"
  refine wxn_cons ?_
  refine wsn_if (y := st == 4) ?_ ?_ ?_
  · intro g T
    have K1 := Kg g
    rw [st_eq4]
    walk_at "my evs"
  · intro hc
    exact hPN (by simpa using hc)
  intro hc
  rw [if_neg (by rw [hc]; exact Bool.false_ne_true)] at hstep
  walk_at "my nnils"
  refine wxn_cons ?_
  refine wsn_if (y := st == 5) ?_ ?_ ?_
  · intro g T
    have K1 := Kg g
    rw [st_eq5]
    walk_at "my evs"
  · intro hc
    rw [if_pos hc] at hstep
    refine wxn_old ?_
    intro g T
    have K1 := Kg g
    apply ws_app (l := oq) (ss := out)
    · walk_at "my evs"
    · exact .tail _ (.tail _ (.tail _ (.tail _ (.head _))))
    · apply evx_of
      · walk_at "my evs"
      · refine ⟨_, rfl, .tail _ (.tail _ (.tail _ (.tail _ (.head _)))), _, .there (.there (.there (.there .here))), ?_⟩
        walk_at "my nnils"
        refine wxn_cons ?_
        refine wsn_if (y := ch == 10) ?_ ?_ ?_
        · intro g T
          have K1 := Kg g
          rw [← sg_beq]
          walk_at "my evs"
        · intro hc
          rw [if_pos hc] at hstep
          refine wxn_old ?_
          intro g T
          have K1 := Kg g
          apply ws_set K1 (v := .int 0)
          · walk_at "my evs"
          · walk_at "my put"
          walk_at "my nnils"
          walk_at "my nnils"
          exact hK _ _ hstep rfl
        · intro hc
          rw [if_neg (by rw [hc]; exact Bool.false_ne_true)] at hstep
          walk_at "my nnils"
          exact hK _ _ hstep rfl
    · omega
    all_goals rfl
  · intro hc
    rw [if_neg (by rw [hc]; exact Bool.false_ne_true)] at hstep
    walk_at "my nnils"
    exact hK _ _ hstep rfl
end
end Mine
end
section
open PySem.Calls
set_option maxHeartbeats 4000000
namespace Mine

local macro_rules | `(tactic| walk_at "my has") => `(tactic| with_reducible (repeat (first | exact Has.here | apply Has.there)))
local macro_rules | `(tactic| walk_at "my put") => `(tactic| with_reducible (repeat (first | exact Put.here | apply Put.there)))
local macro_rules | `(tactic| walk_at "my lit") => `(tactic| with_reducible (first | exact lit_sq | exact lit_dq | exact lit_E | exact lit_bs | exact lit_mi | exact lit_dl | exact lit_co | exact lit_eq | exact lit_qm | exact lit_pc | exact lit_lp | exact lit_rp | exact lit_s | exact lit_us | exact lit_nl | exact lit_ce | exact lit_ps | exact lit_rs | exact lit_em | exact rfl))
local macro_rules | `(tactic| walk_at "my op") => `(tactic| with_reducible (first | exact op_eq_int | exact op_ne_int | exact op_lt_int | exact op_gt_int | exact op_le_int | exact op_eq_str | exact op_ne_str | exact op_in_str | exact op_notin_str | exact op_eq_none_str | exact op_ne_none_str | exact op_ne_bool | exact op_is_none | exact op_is_none_str | exact op_add_int | exact op_iadd_int | exact op_sub_int | exact op_eq_opt | exact op_ne_opt | exact op_none_opt))
local macro_rules | `(tactic| walk_at "my nu") => `(tactic| first | (intro h; cases h; done) | exact PVo_ne _)
local macro_rules | `(tactic| walk_at "my ev") => `(tactic| first
  | with_reducible exact ev_int | ((with_reducible refine' ev_str ?h1); (case h1 => walk_at "my lit")) | with_reducible exact ev_none | with_reducible exact ev_bool
  | ((with_reducible refine' ev_nm ?k1 ?h1 ?u1); (case k1 => assumption); (case h1 => walk_at "my has"; done); (case u1 => walk_at "my nu"))
  | with_reducible refine' ev_bin ?_ ?_ ?_ | ((with_reducible refine' ev_cmp ?_ ?_ ?_ ?m1); (case m1 => exact rfl)) | ((with_reducible refine' tr_cmp ?_ ?_ ?_ ?m1); (case m1 => exact rfl)) | with_reducible refine' tr_not ?_ | with_reducible refine' tr_op ?_
  | with_reducible refine' tra_and ?_ ?_ | with_reducible exact tra_and_nil | with_reducible refine' tra_or ?_ ?_ | with_reducible exact tra_or_nil
  | with_reducible refine' ev_neg ?_
  | walk_at "my op" | ((with_reducible refine' evl_cons1 ?_ ?_ ?m1); (case m1 => exact rfl)) | with_reducible refine' evl_nil ?_ | (guard_target =~ (_ = _ → _); intro _))
local macro_rules | `(tactic| walk_at "my evs") => `(tactic| repeat' (walk_at "my ev"))
local macro_rules | `(tactic| walk_at "my blt") => `(tactic| first | exact ev_globB (by assumption) (by kernel_rfl) boot_len (by decide +kernel) (by kernel_rfl) (by decide +kernel) | exact ev_globB (by assumption) (by kernel_rfl) boot_str (by decide +kernel) (by kernel_rfl) (by decide +kernel) | exact ev_globB (by assumption) (by kernel_rfl) boot_range (by decide +kernel) (by kernel_rfl) (by decide +kernel))
local macro_rules | `(tactic| walk_at "my fn") => `(tactic| exact ev_glob (by assumption) (by kernel_rfl) (by kernel_rfl) (by decide +kernel))
local macro_rules | `(tactic| walk_at "my puts") => `(tactic| (repeat (apply Puts.cons; (focus (walk_at "my put"; done)))); exact Puts.nil)
local macro_rules | `(tactic| walk_at "my nils") => `(tactic| repeat (first | with_reducible refine seq_nil ?_ | with_reducible refine wx_nil ?_))
local macro_rules | `(tactic| walk_at "my nnils") => `(tactic| repeat (first | with_reducible refine seqn_nil ?_ | with_reducible refine wxn_nil ?_))
local macro_rules | `(tactic| walk_at "my meth") => `(tactic| (apply ev_of_x; first | with_reducible apply evx_meth1 | with_reducible apply evx_meth0 | apply evx_meth1 | apply evx_meth0))

section
variable {prog : Program} {w : World} {K : Frag} {p : Program} {loose : List Str} {mean : ExcName → Option Value} {mg mb : Str → Option Value} {c : Cf} {lo lo' : Lo} {ob ob' : Ob} {pos : Pos} {x : Str} {X : EPost}
theorem ev_globBm (G : Gt K p loose mg mb c) {A' : Around} {v : Value} (e : nsIn K mainGlobals x = some none) (hv : bootBuiltins x = some v) (hn : x ≠ "__name__") (hx : c.env.kindOf x = some .globalImplicit) (hd : (x == ("__debug__" : Str)) = false) : Ev prog w { c with A := A' } lo ob (.Name x pos) (.val v) := fun s Q E R q => by
  obtain ⟨m, F, _⟩ := R.fr
  refine Calls.Name_function_global G.kind hx (Calls.loadGlobal_builtin (mg := mg) (mb := mb) (v := v) ?_ ?_ ?_ ?_ (q _ _ rfl R.1)) hd
  · show s.heap.Ns c.env.globals mg
    rw [G.glob]; exact G.T.g.keeps F.keep
  · exact mg_none_of G.X G.T.g e
  · show s.heap.Ns c.env.builtins mb
    rw [G.blt]; exact G.T.b.keeps F.keep
  · exact (G.T.builtins x hn).trans hv
/-- xs[:-1].index(xs[-1]) where it stands ahead -/
theorem evx_index_hit {xn : Str} {p1 p2 p3 p4 p5 p6 : Pos} {l : Addr} {ns : List Str} {z : Str} {up ix : Expr} {pl : Sem Bool} {Φ : PV → Ob → Prop} (hv : Ev prog w c lo ob (.Name xn p1) (.val (.ref l))) (hv2 : ∀ a, Ev prog w c lo ((a, SeqO "list" (ns.map .str)) :: ob) (.Name xn p2) (.val (.ref l))) (hm : (l, SeqO "list" ((ns ++ [z]).map .str)) ∈ ob)
    (hu : Ev prog w c lo ob up (.int (-1))) (hix : ∀ a, Ev prog w c lo ((a, SeqO "list" (ns.map .str)) :: ob) ix (.int (-1))) (hx : ns.length < 2 ^ 20) (hz : z ∈ ns) (hΦ : Φ (.int (ns.idxOf z : Nat)) ob)
    (hc : eval (.Call (.Attribute (.Subscript (.Name xn p1) (.Slice none (some up) none p3) p4) (Str.ofString "index") p5) [.Subscript (.Name xn p2) ix p6] [] pos) c.env = (do
      let ov ← eval (.Subscript (.Name xn p1) (.Slice none (some up) none p3) p4) c.env
      standAt p5.atName
      let (f, first) ← holding [ov] (getMethod ov (Str.ofString "index") pl)
      callWith pos f first (backTo pos (starEach [.Subscript (.Name xn p2) ix p6] c.env)) []))
    (he : starEach [.Subscript (.Name xn p2) ix p6] c.env = (false, eval (.Subscript (.Name xn p2) ix p6) c.env) :: starEach [] c.env) (hp : (backTo pos (starEach [] c.env)).any (·.1) = false)
    (hsub : ∀ o i, subscripted ix false o i = operate [o, i] (getItem o i)) :
    EvX prog w c lo ob (.Call (.Attribute (.Subscript (.Name xn p1) (.Slice none (some up) none p3) p4) (Str.ofString "index") p5) [.Subscript (.Name xn p2) ix p6] [] pos) Φ := fun s Q E R q => by
  rw [List.map_append] at hm
  refine MethodCall_ (pl := pl) ((evx_butlast (p1 := p1) (p2 := p1) (Φ := fun v ob' => ∃ a, v = .val (.ref a) ∧ ob' = (a, SeqO "list" (ns.map .str)) :: ob) hv hm hu (by simpa using hx) fun a => ⟨a, rfl, rfl⟩).use R fun v u ob' s1 hΦ1 hu1 R1 => ?_) hc
  obtain ⟨a, rfl, rfl⟩ := hΦ1
  cases hu1
  refine gm_index (.head _) _ _ _ _ _ rfl R1 (callWith_method1 ((evl_cons1 (Φ := fun vs ob' => vs = [.str z] ∧ ob' = (a, SeqO "list" (ns.map .str)) :: ob) (ev_sub (hv2 a) (hix a) (sb_list_last (vs := ns.map .str) (.tail _ hm) (by simp; omega) hsub)) (evl_nil ⟨rfl, rfl⟩) he).use R1 fun vs us ob' s2 hΦ2 hus R2 => ?_) he hp)
  obtain ⟨rfl, rfl⟩ := hΦ2
  refine (cl_index (ss := ns) (x := z) (Φ := fun v ob' => v = .int (ns.idxOf z : Nat) ∧ ob' = (a, SeqO "list" (ns.map .str)) :: ob) (.head _) hz (by omega) ⟨rfl, rfl⟩).use (.cons rfl hus) R2 fun v u ob' s3 hΦ3 hu3 R3 => ?_
  obtain ⟨rfl, rfl⟩ := hΦ3
  exact q _ _ _ _ hΦ hu3 (R3.1.sub (List.sublist_cons_self ..))
end
end Mine
end
section
open PySem.Calls
set_option maxHeartbeats 4000000
namespace Mine

local macro_rules | `(tactic| walk_at "my has") => `(tactic| with_reducible (repeat (first | exact Has.here | apply Has.there)))
local macro_rules | `(tactic| walk_at "my put") => `(tactic| with_reducible (repeat (first | exact Put.here | apply Put.there)))
local macro_rules | `(tactic| walk_at "my lit") => `(tactic| with_reducible (first | exact lit_sq | exact lit_dq | exact lit_E | exact lit_bs | exact lit_mi | exact lit_dl | exact lit_co | exact lit_eq | exact lit_qm | exact lit_pc | exact lit_lp | exact lit_rp | exact lit_s | exact lit_us | exact lit_nl | exact lit_ce | exact lit_ps | exact lit_rs | exact lit_em | exact rfl))
local macro_rules | `(tactic| walk_at "my op") => `(tactic| with_reducible (first | exact op_eq_int | exact op_ne_int | exact op_lt_int | exact op_gt_int | exact op_le_int | exact op_eq_str | exact op_ne_str | exact op_in_str | exact op_notin_str | exact op_eq_none_str | exact op_ne_none_str | exact op_ne_bool | exact op_is_none | exact op_is_none_str | exact op_add_int | exact op_iadd_int | exact op_sub_int | exact op_eq_opt | exact op_ne_opt | exact op_none_opt))
local macro_rules | `(tactic| walk_at "my nu") => `(tactic| first | (intro h; cases h; done) | exact PVo_ne _)
local macro_rules | `(tactic| walk_at "my ev") => `(tactic| first
  | with_reducible exact ev_int | ((with_reducible refine' ev_str ?h1); (case h1 => walk_at "my lit")) | with_reducible exact ev_none | with_reducible exact ev_bool
  | ((with_reducible refine' ev_nm ?k1 ?h1 ?u1); (case k1 => assumption); (case h1 => walk_at "my has"; done); (case u1 => walk_at "my nu"))
  | with_reducible refine' ev_bin ?_ ?_ ?_ | ((with_reducible refine' ev_cmp ?_ ?_ ?_ ?m1); (case m1 => exact rfl)) | ((with_reducible refine' tr_cmp ?_ ?_ ?_ ?m1); (case m1 => exact rfl)) | with_reducible refine' tr_not ?_ | with_reducible refine' tr_op ?_
  | with_reducible refine' tra_and ?_ ?_ | with_reducible exact tra_and_nil | with_reducible refine' tra_or ?_ ?_ | with_reducible exact tra_or_nil
  | with_reducible refine' ev_neg ?_
  | walk_at "my op" | ((with_reducible refine' evl_cons1 ?_ ?_ ?m1); (case m1 => exact rfl)) | with_reducible refine' evl_nil ?_ | (guard_target =~ (_ = _ → _); intro _))
local macro_rules | `(tactic| walk_at "my evs") => `(tactic| repeat' (walk_at "my ev"))
local macro_rules | `(tactic| walk_at "my blt") => `(tactic| first | exact ev_globB (by assumption) (by kernel_rfl) boot_len (by decide +kernel) (by kernel_rfl) (by decide +kernel) | exact ev_globB (by assumption) (by kernel_rfl) boot_str (by decide +kernel) (by kernel_rfl) (by decide +kernel) | exact ev_globB (by assumption) (by kernel_rfl) boot_range (by decide +kernel) (by kernel_rfl) (by decide +kernel))
local macro_rules | `(tactic| walk_at "my fn") => `(tactic| exact ev_glob (by assumption) (by kernel_rfl) (by kernel_rfl) (by decide +kernel))
local macro_rules | `(tactic| walk_at "my puts") => `(tactic| (repeat (apply Puts.cons; (focus (walk_at "my put"; done)))); exact Puts.nil)
local macro_rules | `(tactic| walk_at "my nils") => `(tactic| repeat (first | with_reducible refine seq_nil ?_ | with_reducible refine wx_nil ?_))
local macro_rules | `(tactic| walk_at "my nnils") => `(tactic| repeat (first | with_reducible refine seqn_nil ?_ | with_reducible refine wxn_nil ?_))
local macro_rules | `(tactic| walk_at "my meth") => `(tactic| (apply ev_of_x; first | with_reducible apply evx_meth1 | with_reducible apply evx_meth0 | apply evx_meth1 | apply evx_meth0))

theorem exPut {x : Str} {v : PV} {lo lo' : Lo} {F : Lo → Prop} (U : Put x v lo lo') (h : F lo') : ∃ lo', Put x v lo lo' ∧ F lo' := ⟨_, U, h⟩
theorem addL_snoc (ns : List Str) (z : Str) (c : Nat) : addL (ns ++ [z]) c = ns ++ [z ++ sg c] := by simp [addL]
theorem endN_hit {ns : List Str} {z : Str} (h : z ∈ ns) : endN (ns ++ [z]) = (ns, 36 :: dig (ns.idxOf z + 1)) := by
  have : ns.any (· == z) = true := by simpa using h
  simp [endN, h]
theorem endN_miss {ns : List Str} {z : Str} (h : z ∉ ns) : endN (ns ++ [z]) = (ns ++ [z], 36 :: dig (ns ++ [z]).length) := by
  simp [endN, h]
section
variable {prog : Program} {w : World} {p : Program} {loose : List Str} {mean : ExcName → Option Value} {mg mb : Str → Option Value} {c : Cf} {lo lo' : Lo} {ob ob' : Ob} {X : EPost} {Φ : Post} {pos : Pos}
theorem ws_del_s {o i : Expr} {sp : Pos} {l : Addr} {ns : List Str} {z : Str} (ho : Ev prog w c lo ob o (.val (.ref l))) (hi : Ev prog w c lo ob i (.int (-1))) (hm : (l, SeqO "list" ((ns ++ [z]).map .str)) ∈ ob) (hv : ns.length ≤ 2 ^ 20) (U : Put l (SeqO "list" (ns.map .str)) ob ob') (hΦ : Φ .next lo ob') :
    WS prog w c lo ob X (.Delete [.Subscript o i sp] pos) Φ := by
  rw [List.map_append] at hm
  exact ws_dellast ho hi hm (by simpa using hv) U hΦ
theorem ws_auglast_s {o i e : Expr} {sp : Pos} {l : Addr} {ns : List Str} {z y : Str} (ho : Ev prog w c lo ob o (.val (.ref l))) (hi : Ev prog w c lo ob i (.int (-1))) (he : Ev prog w c lo ob e (.str y)) (hz : z.length + y.length ≤ 2 ^ 24)
    (hm : (l, SeqO "list" ((ns ++ [z]).map .str)) ∈ ob) (hv : ns.length < 2 ^ 20) (U : Put l (SeqO "list" ((ns ++ [z ++ y]).map .str)) ob ob') (hΦ : Φ .next lo ob')
    (hx : ∀ ov iv nv, augStore i ov iv nv = (do holding [nv, ov, iv] (setItem ov iv nv); release [nv, ov, iv] []; pure .next)) : WS prog w c lo ob X (.AugAssign (.Subscript o i sp) .Add e pos) Φ := by
  rw [List.map_append] at hm U
  exact ws_auglast ho hi he (op_iadd_str hz) hm (by simp; omega) U hΦ hx
theorem cv_pn (G : Gu (Mine.hd.heap_39 w.params) p loose mean mg mb c) {L : Addr} (he : c.env = cvEnv w.params L) {t : List Nat} {e it x dx ph oq pi : Addr} {iq ip : Bool} {ns : List Str} {z : Str} {out : List Str} {style : Str} {prev : Option Nat} {cnt : Nat} {k ch : Nat} {nx : Option Nat} {pidx : PV} {r : Ob}
    (hK : ∀ S' pidx', S' = tPN ⟨4, iq, ip, ns ++ [z], out, style, prev, cnt⟩ ch nx → WXn prog w c (mlo t ph oq pi S' (.int k) (.str (sg ch)) (PVo nx) pidx') (lob e it x dx ph oq t k S' r) X (fb.drop 2) Φ)
    (hout : out.length ≤ 1000) (hns : ns.length ≤ 1000) (hzl : z.length ≤ 1000) (hrep1 : (reprText z).length ≤ 1000000) (hrep2 : (reprText (z ++ sg ch)).length ≤ 1000000) :
    WXn prog w c (mlo t ph oq pi ⟨4, iq, ip, ns ++ [z], out, style, prev, cnt⟩ (.int k) (.str (sg ch)) (PVo nx) pidx) (lob e it x dx ph oq t k ⟨4, iq, ip, ns ++ [z], out, style, prev, cnt⟩ r) X pnBody (SeqN prog w c X [] (SeqN prog w c X [] (SeqN prog w c X [] (SeqN prog w c X [] (SeqN prog w c X [] (SeqN prog w c X (fb.drop 2) Φ)))))) := by
  obtain ⟨A, env, h₀, os⟩ := c
  simp only at he
  subst he
  have K' := G.kind
  have Kg : ∀ g, (Cf.at ⟨A, cvEnv w.params L, h₀, os⟩ g).env.scope.kind = .function := fun _ => K'
  have hstep := tPN.eq_def ⟨4, iq, ip, ns ++ [z], out, style, prev, cnt⟩ ch nx
  simp only [addL_snoc] at hstep
  have hzs : (z ++ sg ch).length ≤ 1001 := by rw [Str.length_append]; show z.length + 1 ≤ _; omega
  show WXn _ _ _ [(_, .str style), (_, .str (tx t)), (_, _), (_, _), (_, _), (_, _), (_, _), (_, _), (_, _), (_, .val (.bool iq)), (_, .val (.bool ip)), (_, _), (_, _), (_, _), (_, .int 4), (_, PVo prev), (_, _), (_, .str (sg ch)), (_, PVo nx), (_, _), (_, _)] _ _ _ _
  refine wxn_cons ?_
  refine wsn_if (y := style == sD) ?_ ?_ ?_
  · intro g T
    have K1 := Kg g
    walk_at "my evs"
  · intro hc
    rw [if_pos hc] at hstep
    refine wxn_old ?_
    intro g T
    have K1 := Kg g
    have G1 := (G.turn T).gt
    apply ws_auglast_s (l := ph) (ns := ns) (z := z)
    · walk_at "my evs"
    · walk_at "my evs"
    · walk_at "my evs"
    · show z.length + 1 ≤ _; omega
    · exact .tail _ (.tail _ (.tail _ (.head _)))
    · omega
    · exact .there (.there (.there .here))
    · refine wxn_cons ?_
      refine wsn_if (y := nx == none || ((!Txt.isalnum (sg (nx.getD 0)) && ((nx != some 95) && true)) || false)) ?_ ?_ ?_
      · intro g T
        have K1 := Kg g
        refine tr_op ?_
        apply tra_or
        · walk_at "my evs"
        · intro hno
          cases nx with
          | none => exact absurd hno (by decide)
          | some zz =>
            apply tra_or
            · refine tr_op ?_
              apply tra_and
              · apply tr_not
                apply tr_call
                walk_at "my meth"
                · exact ev_nm (v := .str (sg zz)) K1 (by show Has _ (PVo (some zz)) _; walk_at "my has") (by intro h; cases h)
                · exact gm_isalnum
                · exact cl_isalnum ⟨rfl, rfl⟩
                all_goals rfl
              · intro _
                apply tra_and
                · walk_at "my evs"
                · intro _; exact tra_and_nil
            · intro _; exact tra_or_nil
      · intro hc2
        simp only [Bool.and_true, Bool.or_false] at hc2
        rw [if_pos hc2] at hstep
        refine wxn_old ?_
        intro g T
        have K1 := Kg g
        have G1 := (G.turn T).gt
        apply ws_set K1 (v := .int 0)
        · walk_at "my evs"
        · walk_at "my put"
        walk_at "my nnils"
        refine wxn_cons ?_
        by_cases hz : z ++ sg ch ∈ ns
        · have hidx : ns.idxOf (z ++ sg ch) < ns.length := List.idxOf_lt_length_iff.mpr hz
          apply wsn_try_ok
          refine wxn_old ?_
          intro g T
          have K1 := Kg g
          have G1 := (G.turn T).gt
          refine ws_setx K1 ?_
          apply evx_index_hit (l := ph) (ns := ns) (z := z ++ sg ch)
          · walk_at "my evs"
          · intro a; walk_at "my evs"
          · exact .tail _ (.tail _ (.tail _ (.head _)))
          · walk_at "my evs"
          · intro a; walk_at "my evs"
          · omega
          · exact hz
          · apply exPut
            · walk_at "my put"
            refine wxn_old ?_
            intro g T
            have K1 := Kg g
            have G1 := (G.turn T).gt
            apply ws_app (l := oq) (ss := out)
            · walk_at "my evs"
            · exact .tail _ (.tail _ (.tail _ (.tail _ (.head _))))
            · apply evx_of (v := .str (tx (36 :: dig (ns.idxOf (z ++ sg ch) + 1))))
              · show Ev _ _ _ _ _ _ (.str (tx ([36] ++ dig (ns.idxOf (z ++ sg ch) + 1))))
                apply ev_bin
                · walk_at "my evs"
                · apply ev_strn (n := ns.idxOf (z ++ sg ch) + 1)
                  · walk_at "my blt"
                  · walk_at "my evs"
                  · first | rfl | (simp only [List.length_map, List.length_append]; done)
                  · first | omega | (simp only [List.length_append, List.length_cons, List.length_nil]; omega)
                  all_goals rfl
                · apply op_add_tx
                  have := dig_len (ns.idxOf (z ++ sg ch) + 1) (by first | omega | (simp only [List.length_append, List.length_cons, List.length_nil]; omega))
                  show 1 + _ ≤ _
                  omega
              · refine ⟨_, rfl, .tail _ (.tail _ (.tail _ (.tail _ (.head _)))), _, .there (.there (.there (.there .here))), ?_⟩
                refine wxn_old ?_
                intro g T
                have K1 := Kg g
                have G1 := (G.turn T).gt
                apply ws_del_s (l := ph) (ns := ns) (z := z ++ sg ch)
                · walk_at "my evs"
                · walk_at "my evs"
                · exact .tail _ (.tail _ (.tail _ (.head _)))
                · omega
                · exact .there (.there (.there .here))
                · show WXn _ _ _ _ _ _ [] _
                  apply wxn_nil
                  refine ⟨rfl, ?_⟩
                  walk_at "my nnils"
                  have hK2 := hK (tPN ⟨4, iq, ip, ns ++ [z], out, style, prev, cnt⟩ ch nx)
                  rw [hstep, endN_hit hz] at hK2
                  exact hK2 _ rfl
            · omega
            all_goals rfl
          · rfl
          · rfl
          · rfl
          · intro _ _; rfl
        · apply wsn_try_miss (cls := "ValueError") G
          · kernel_rfl
          · decide +kernel
          · decide +kernel
          · kernel_rfl
          · decide +kernel
          · rw [isSubtype_type]; kernel_rfl
          · rw [isSubtype_type]; kernel_rfl
          · rw [isSubtype_type]; kernel_rfl
          · intro g T
            have K1 := Kg g
            apply th_index (l := ph) (ns := ns) (z := z ++ sg ch)
            · walk_at "my evs"
            · intro a; walk_at "my evs"
            · exact .tail _ (.tail _ (.tail _ (.head _)))
            · walk_at "my evs"
            · intro a; walk_at "my evs"
            · omega
            · exact hz
            · exact hrep2
            · exact G.hand
            · rfl
            · rfl
            · rfl
            · rfl
            · intro _ _; rfl
          · intro g T ee
            have K1 : (Cf.mk (A.mark (some (.ref ee))) (cvEnv w.params L) g os).env.scope.kind = .function := K'
            refine wx_cons ?_
            apply ws_app (l := oq) (ss := out)
            · walk_at "my evs"
            · exact .tail _ (.tail _ (.tail _ (.tail _ (.head _))))
            · apply evx_of (v := .str (tx (36 :: dig (ns ++ [z ++ sg ch]).length)))
              · show Ev _ _ _ _ _ _ (.str (tx ([36] ++ dig ((ns ++ [z ++ sg ch]).length))))
                apply ev_bin
                · walk_at "my evs"
                · apply ev_strn (n := (ns ++ [z ++ sg ch]).length)
                  · exact ev_globBm (G.turn T).gt (by kernel_rfl) boot_str (by decide +kernel) (by kernel_rfl) (by decide +kernel)
                  · apply ev_of_x
                    apply evx_callB
                    · exact ev_globBm (G.turn T).gt (by kernel_rfl) boot_len (by decide +kernel) (by kernel_rfl) (by decide +kernel)
                    · walk_at "my evs"
                      exact cl_len_list (vs := (ns ++ [z ++ sg ch]).map .str) (.inr (.tail _ (.tail _ (.tail _ (.head _))))) (by simp only [List.length_map, List.length_append, List.length_cons, List.length_nil]; omega) ⟨rfl, rfl⟩
                    all_goals rfl
                  · first | rfl | (simp only [List.length_map, List.length_append]; done)
                  · first | omega | (simp only [List.length_append, List.length_cons, List.length_nil]; omega)
                  all_goals rfl
                · apply op_add_tx
                  have := dig_len ((ns ++ [z ++ sg ch]).length) (by first | omega | (simp only [List.length_append, List.length_cons, List.length_nil]; omega))
                  show 1 + _ ≤ _
                  omega
              · refine ⟨_, rfl, .tail _ (.tail _ (.tail _ (.tail _ (.head _)))), _, .there (.there (.there (.there .here))), ?_⟩
                show WX _ _ _ _ _ _ [] _
                apply wx_nil
                walk_at "my nnils"
                have hK2 := hK (tPN ⟨4, iq, ip, ns ++ [z], out, style, prev, cnt⟩ ch nx)
                rw [hstep, endN_miss hz] at hK2
                exact hK2 _ rfl
            · omega
            all_goals rfl
      · intro hc2
        simp only [Bool.and_true, Bool.or_false] at hc2
        rw [if_neg (by rw [hc2]; exact Bool.false_ne_true)] at hstep
        walk_at "my nnils"
        exact hK _ _ hstep.symm
    · intro _ _ _; rfl
  intro hc
  rw [if_neg (by rw [hc]; exact Bool.false_ne_true)] at hstep
  walk_at "my nnils"
  refine wxn_cons ?_
  refine wsn_if (y := style == sP) ?_ ?_ ?_
  · intro g T
    have K1 := Kg g
    walk_at "my evs"
  · intro hc
    rw [if_pos hc] at hstep
    refine wxn_cons ?_
    refine wsn_if (y := prev == some 41 && (ch == 115 && true)) ?_ ?_ ?_
    · intro g T
      have K1 := Kg g
      rw [← sg_beq]
      walk_at "my evs"
    · intro hc2
      rw [if_pos hc2] at hstep
      refine wxn_old ?_
      intro g T
      have K1 := Kg g
      have G1 := (G.turn T).gt
      apply ws_set K1 (v := .int 0)
      · walk_at "my evs"
      · walk_at "my put"
      walk_at "my nnils"
      refine wxn_cons ?_
      by_cases hz : z ∈ ns
      · have hidx : ns.idxOf (z) < ns.length := List.idxOf_lt_length_iff.mpr hz
        apply wsn_try_ok
        refine wxn_old ?_
        intro g T
        have K1 := Kg g
        have G1 := (G.turn T).gt
        refine ws_setx K1 ?_
        apply evx_index_hit (l := ph) (ns := ns) (z := z)
        · walk_at "my evs"
        · intro a; walk_at "my evs"
        · exact .tail _ (.tail _ (.tail _ (.head _)))
        · walk_at "my evs"
        · intro a; walk_at "my evs"
        · omega
        · exact hz
        · apply exPut
          · walk_at "my put"
          refine wxn_old ?_
          intro g T
          have K1 := Kg g
          have G1 := (G.turn T).gt
          apply ws_app (l := oq) (ss := out)
          · walk_at "my evs"
          · exact .tail _ (.tail _ (.tail _ (.tail _ (.head _))))
          · apply evx_of (v := .str (tx (36 :: dig (ns.idxOf (z) + 1))))
            · show Ev _ _ _ _ _ _ (.str (tx ([36] ++ dig (ns.idxOf (z) + 1))))
              apply ev_bin
              · walk_at "my evs"
              · apply ev_strn (n := ns.idxOf (z) + 1)
                · walk_at "my blt"
                · walk_at "my evs"
                · first | rfl | (simp only [List.length_map, List.length_append]; done)
                · first | omega | (simp only [List.length_append, List.length_cons, List.length_nil]; omega)
                all_goals rfl
              · apply op_add_tx
                have := dig_len (ns.idxOf (z) + 1) (by first | omega | (simp only [List.length_append, List.length_cons, List.length_nil]; omega))
                show 1 + _ ≤ _
                omega
            · refine ⟨_, rfl, .tail _ (.tail _ (.tail _ (.tail _ (.head _)))), _, .there (.there (.there (.there .here))), ?_⟩
              refine wxn_old ?_
              intro g T
              have K1 := Kg g
              have G1 := (G.turn T).gt
              apply ws_del_s (l := ph) (ns := ns) (z := z)
              · walk_at "my evs"
              · walk_at "my evs"
              · exact .tail _ (.tail _ (.tail _ (.head _)))
              · omega
              · exact .there (.there (.there .here))
              · show WXn _ _ _ _ _ _ [] _
                apply wxn_nil
                refine ⟨rfl, ?_⟩
                walk_at "my nnils"
                have hK2 := hK (tPN ⟨4, iq, ip, ns ++ [z], out, style, prev, cnt⟩ ch nx)
                rw [hstep, endN_hit hz] at hK2
                exact hK2 _ rfl
          · omega
          all_goals rfl
        · rfl
        · rfl
        · rfl
        · intro _ _; rfl
      · apply wsn_try_miss (cls := "ValueError") G
        · kernel_rfl
        · decide +kernel
        · decide +kernel
        · kernel_rfl
        · decide +kernel
        · rw [isSubtype_type]; kernel_rfl
        · rw [isSubtype_type]; kernel_rfl
        · rw [isSubtype_type]; kernel_rfl
        · intro g T
          have K1 := Kg g
          apply th_index (l := ph) (ns := ns) (z := z)
          · walk_at "my evs"
          · intro a; walk_at "my evs"
          · exact .tail _ (.tail _ (.tail _ (.head _)))
          · walk_at "my evs"
          · intro a; walk_at "my evs"
          · omega
          · exact hz
          · exact hrep1
          · exact G.hand
          · rfl
          · rfl
          · rfl
          · rfl
          · intro _ _; rfl
        · intro g T ee
          have K1 : (Cf.mk (A.mark (some (.ref ee))) (cvEnv w.params L) g os).env.scope.kind = .function := K'
          refine wx_cons ?_
          apply ws_app (l := oq) (ss := out)
          · walk_at "my evs"
          · exact .tail _ (.tail _ (.tail _ (.tail _ (.head _))))
          · apply evx_of (v := .str (tx (36 :: dig (ns ++ [z]).length)))
            · show Ev _ _ _ _ _ _ (.str (tx ([36] ++ dig ((ns ++ [z]).length))))
              apply ev_bin
              · walk_at "my evs"
              · apply ev_strn (n := (ns ++ [z]).length)
                · exact ev_globBm (G.turn T).gt (by kernel_rfl) boot_str (by decide +kernel) (by kernel_rfl) (by decide +kernel)
                · apply ev_of_x
                  apply evx_callB
                  · exact ev_globBm (G.turn T).gt (by kernel_rfl) boot_len (by decide +kernel) (by kernel_rfl) (by decide +kernel)
                  · walk_at "my evs"
                    exact cl_len_list (vs := (ns ++ [z]).map .str) (.inr (.tail _ (.tail _ (.tail _ (.head _))))) (by simp only [List.length_map, List.length_append, List.length_cons, List.length_nil]; omega) ⟨rfl, rfl⟩
                  all_goals rfl
                · first | rfl | (simp only [List.length_map, List.length_append]; done)
                · first | omega | (simp only [List.length_append, List.length_cons, List.length_nil]; omega)
                all_goals rfl
              · apply op_add_tx
                have := dig_len ((ns ++ [z]).length) (by first | omega | (simp only [List.length_append, List.length_cons, List.length_nil]; omega))
                show 1 + _ ≤ _
                omega
            · refine ⟨_, rfl, .tail _ (.tail _ (.tail _ (.tail _ (.head _)))), _, .there (.there (.there (.there .here))), ?_⟩
              show WX _ _ _ _ _ _ [] _
              apply wx_nil
              walk_at "my nnils"
              have hK2 := hK (tPN ⟨4, iq, ip, ns ++ [z], out, style, prev, cnt⟩ ch nx)
              rw [hstep, endN_miss hz] at hK2
              exact hK2 _ rfl
          · omega
          all_goals rfl
    intro hc2
    rw [if_neg (by rw [hc2]; exact Bool.false_ne_true)] at hstep
    walk_at "my nnils"
    refine wxn_cons ?_
    refine wsn_if (y := decide (ch ∈ [40, 41])) ?_ ?_ ?_
    · intro g T
      have K1 := Kg g
      apply tr_cmp (a := .str ⟨#[ch]⟩) (b := .str ⟨#[40, 41]⟩)
      · walk_at "my evs"
      · walk_at "my evs"
      · exact op_in_str
      · rfl
    · intro hc3
      rw [if_pos hc3] at hstep
      refine wxn_old ?_
      intro g T
      apply ws_pass
      walk_at "my nnils"
      exact hK _ _ hstep.symm
    intro hc3
    rw [if_neg (by rw [hc3]; exact Bool.false_ne_true)] at hstep
    walk_at "my nnils"
    refine wxn_old ?_
    intro g T
    have K1 := Kg g
    have G1 := (G.turn T).gt
    apply ws_auglast_s (l := ph) (ns := ns) (z := z)
    · walk_at "my evs"
    · walk_at "my evs"
    · walk_at "my evs"
    · show z.length + 1 ≤ _; omega
    · exact .tail _ (.tail _ (.tail _ (.head _)))
    · omega
    · exact .there (.there (.there .here))
    · walk_at "my nnils"
      exact hK _ _ hstep.symm
    · intro _ _ _; rfl
  intro hc
  rw [if_neg (by rw [hc]; exact Bool.false_ne_true)] at hstep
  walk_at "my nnils"
  refine wxn_cons ?_
  refine wsn_if (y := style == sF) ?_ ?_ ?_
  · intro g T
    have K1 := Kg g
    walk_at "my evs"
  · intro hc
    rw [if_pos hc] at hstep
    refine wxn_old ?_
    intro g T
    have K1 := Kg g
    have G1 := (G.turn T).gt
    apply ws_set K1 (v := .int 0)
    · walk_at "my evs"
    · walk_at "my put"
    walk_at "my nnils"
    exact hK _ _ hstep.symm
  · intro hc
    rw [if_neg (by rw [hc]; exact Bool.false_ne_true)] at hstep
    walk_at "my nnils"
    exact hK _ _ hstep.symm
end
end Mine
end
section
open PySem.Calls
set_option maxHeartbeats 4000000
namespace Mine

local macro_rules | `(tactic| walk_at "my has") => `(tactic| with_reducible (repeat (first | exact Has.here | apply Has.there)))
local macro_rules | `(tactic| walk_at "my put") => `(tactic| with_reducible (repeat (first | exact Put.here | apply Put.there)))
local macro_rules | `(tactic| walk_at "my lit") => `(tactic| with_reducible (first | exact lit_sq | exact lit_dq | exact lit_E | exact lit_bs | exact lit_mi | exact lit_dl | exact lit_co | exact lit_eq | exact lit_qm | exact lit_pc | exact lit_lp | exact lit_rp | exact lit_s | exact lit_us | exact lit_nl | exact lit_ce | exact lit_ps | exact lit_rs | exact lit_em | exact rfl))
local macro_rules | `(tactic| walk_at "my op") => `(tactic| with_reducible (first | exact op_eq_int | exact op_ne_int | exact op_lt_int | exact op_gt_int | exact op_le_int | exact op_eq_str | exact op_ne_str | exact op_in_str | exact op_notin_str | exact op_eq_none_str | exact op_ne_none_str | exact op_ne_bool | exact op_is_none | exact op_is_none_str | exact op_add_int | exact op_iadd_int | exact op_sub_int | exact op_eq_opt | exact op_ne_opt | exact op_none_opt))
local macro_rules | `(tactic| walk_at "my nu") => `(tactic| first | (intro h; cases h; done) | exact PVo_ne _)
local macro_rules | `(tactic| walk_at "my ev") => `(tactic| first
  | with_reducible exact ev_int | ((with_reducible refine' ev_str ?h1); (case h1 => walk_at "my lit")) | with_reducible exact ev_none | with_reducible exact ev_bool
  | ((with_reducible refine' ev_nm ?k1 ?h1 ?u1); (case k1 => assumption); (case h1 => walk_at "my has"; done); (case u1 => walk_at "my nu"))
  | with_reducible refine' ev_bin ?_ ?_ ?_ | ((with_reducible refine' ev_cmp ?_ ?_ ?_ ?m1); (case m1 => exact rfl)) | ((with_reducible refine' tr_cmp ?_ ?_ ?_ ?m1); (case m1 => exact rfl)) | with_reducible refine' tr_not ?_ | with_reducible refine' tr_op ?_
  | with_reducible refine' tra_and ?_ ?_ | with_reducible exact tra_and_nil | with_reducible refine' tra_or ?_ ?_ | with_reducible exact tra_or_nil
  | with_reducible refine' ev_neg ?_
  | walk_at "my op" | ((with_reducible refine' evl_cons1 ?_ ?_ ?m1); (case m1 => exact rfl)) | with_reducible refine' evl_nil ?_ | (guard_target =~ (_ = _ → _); intro _))
local macro_rules | `(tactic| walk_at "my evs") => `(tactic| repeat' (walk_at "my ev"))
local macro_rules | `(tactic| walk_at "my blt") => `(tactic| first | exact ev_globB (by assumption) (by kernel_rfl) boot_len (by decide +kernel) (by kernel_rfl) (by decide +kernel) | exact ev_globB (by assumption) (by kernel_rfl) boot_str (by decide +kernel) (by kernel_rfl) (by decide +kernel) | exact ev_globB (by assumption) (by kernel_rfl) boot_range (by decide +kernel) (by kernel_rfl) (by decide +kernel))
local macro_rules | `(tactic| walk_at "my fn") => `(tactic| exact ev_glob (by assumption) (by kernel_rfl) (by kernel_rfl) (by decide +kernel))
local macro_rules | `(tactic| walk_at "my puts") => `(tactic| (repeat (apply Puts.cons; (focus (walk_at "my put"; done)))); exact Puts.nil)
local macro_rules | `(tactic| walk_at "my nils") => `(tactic| repeat (first | with_reducible refine seq_nil ?_ | with_reducible refine wx_nil ?_))
local macro_rules | `(tactic| walk_at "my nnils") => `(tactic| repeat (first | with_reducible refine seqn_nil ?_ | with_reducible refine wxn_nil ?_))
local macro_rules | `(tactic| walk_at "my meth") => `(tactic| (apply ev_of_x; first | with_reducible apply evx_meth1 | with_reducible apply evx_meth0 | apply evx_meth1 | apply evx_meth0))

structure MInv (k : Nat) (S : MS) : Prop where
  out : S.out.length ≤ k
  phs : S.phs.length ≤ k
  cnt : S.cnt ≤ k + 1
  len : ∀ z ∈ S.phs, z.length ≤ k ∧ ∀ c ∈ z.cps.toList, c < 16 ^ 8
  pn : S.st = 4 → S.style = sF ∨ S.phs ≠ []
theorem addL_len {phs : List Str} {c k : Nat} (hne : phs ≠ []) (h : phs.length ≤ k) : (addL phs c).length ≤ k := by
  unfold addL
  have : 0 < phs.length := List.length_pos_iff.mpr hne
  simp; omega
theorem addL_ne (phs : List Str) (c : Nat) : addL phs c ≠ [] := by simp [addL]
theorem addL_mem {phs : List Str} {c k : Nat} (hc : c < 16 ^ 8) (h : ∀ z ∈ phs, z.length ≤ k ∧ ∀ c ∈ z.cps.toList, c < 16 ^ 8) : ∀ z ∈ addL phs c, z.length ≤ k + 1 ∧ ∀ c ∈ z.cps.toList, c < 16 ^ 8 := by
  intro z hz
  unfold addL at hz
  rcases List.mem_append.mp hz with hz | hz
  · have := h z (List.dropLast_subset _ hz); exact ⟨by omega, this.2⟩
  · rw [List.mem_singleton.mp hz]
    have hl : (phs.getLastD ⟨#[]⟩).length ≤ k ∧ ∀ c ∈ (phs.getLastD (⟨#[]⟩ : Str)).cps.toList, c < 16 ^ 8 := by
      cases hp : phs with
      | nil => exact ⟨Nat.zero_le _, fun c hc => by simp at hc⟩
      | cons a r =>
        have : (a :: r).getLastD (⟨#[]⟩ : Str) ∈ phs := by
          rw [hp, List.getLastD_eq_getLast?, List.getLast?_eq_some_getLast (by simp)]
          exact List.getLast_mem _
        exact h _ this
    refine ⟨by rw [Str.length_append]; show _ + 1 ≤ _; omega, fun d hd => ?_⟩
    rw [Str.cps_append, Array.toList_append] at hd
    rcases List.mem_append.mp hd with hd | hd
    · exact hl.2 d hd
    · have : d = c := by simpa using hd
      rw [this]; exact hc
theorem endN_len (phs : List Str) : (endN phs).1.length ≤ phs.length := by
  unfold endN; simp only; split
  · simp
  · simp
theorem endN_sub (phs : List Str) : ∀ z ∈ (endN phs).1, z ∈ phs := by
  unfold endN; simp only; split
  · intro z hz; exact List.dropLast_subset _ hz
  · intro z hz; exact hz

theorem turn_inv {k ch : Nat} {nx : Option Nat} {S S' : MS} (hc : ch < 16 ^ 8) (I : MInv k S) (h : turn0 S ch nx = some S') : MInv (k + 1) S' := by
  obtain ⟨st, iq, ip, phs, out, style, prev, cnt⟩ := S
  obtain ⟨i1, i2, i3, i4, i5⟩ := I
  simp only at i1 i2 i3 i4 i5
  have l1 : ∀ z ∈ phs, z.length ≤ k + 1 ∧ ∀ c ∈ z.cps.toList, c < 16 ^ 8 := fun z hz => ⟨Nat.le_succ_of_le (i4 z hz).1, (i4 z hz).2⟩
  have l2 : ∀ z ∈ phs ++ [(⟨#[]⟩ : Str)], z.length ≤ k + 1 ∧ ∀ c ∈ z.cps.toList, c < 16 ^ 8 := fun z hz => by
    rcases List.mem_append.mp hz with hz | hz
    · exact l1 z hz
    · rw [List.mem_singleton.mp hz]; exact ⟨Nat.zero_le _, fun c hc => by simp at hc⟩
  have plain : ∀ (S1 : MS), S1.out.length ≤ k + 1 → S1.phs = phs → S1.cnt ≤ k + 2 → (S1.st = 4 → S1.style = sF ∨ phs ≠ []) → MInv (k + 1) S1 := fun S1 h1 h2 h3 h4 => ⟨h1, by rw [h2]; omega, by omega, by rw [h2]; exact l1, by rw [h2]; exact h4⟩
  unfold turn0 at h
  simp only at h
  split at h
  · rename_i h0
    have h0 : st = 0 := by simpa using h0
    unfold tOut at h
    dsimp only at h
    by_cases hc0 : (ch == 39) = true
    · rw [if_pos hc0] at h; cases h; exact plain _ (by simp [outS]; omega) rfl (by show cnt ≤ _; omega) (fun h9 => by dsimp only at h9; split at h9 <;> cases h9)
    rw [if_neg hc0] at h
    by_cases hc1 : (ch == 34) = true
    · rw [if_pos hc1] at h; cases h; exact plain _ (by simp [outS]; omega) rfl (by show cnt ≤ _; omega) (fun h9 => by cases h9)
    rw [if_neg hc1] at h
    by_cases hc2 : (ch == 45) = true
    · rw [if_pos hc2] at h; cases h; exact plain _ (by simp [outS]; omega) rfl (by show cnt ≤ _; omega) (fun h9 => by dsimp only at h9; split at h9 <;> cases h9)
    rw [if_neg hc2] at h
    by_cases hc3 : (ch == 36) = true
    · rw [if_pos hc3] at h; cases h; exact plain _ (by simp [outS]; omega) rfl (by show cnt ≤ _; omega) (fun h9 => by dsimp only at h9; split at h9 <;> cases h9)
    rw [if_neg hc3] at h
    by_cases hc4 : (style == sQ && (ch == 63 && true)) = true
    · rw [if_pos hc4] at h; cases h; exact plain _ (by simp [outS]; omega) rfl (by show cnt + 1 ≤ _; omega) (fun h9 => by have h9 : st = 4 := h9; omega)
    rw [if_neg hc4] at h
    by_cases hc5 : (style == sN && (ch == 58 && (!decide (nx.getD 0 ∈ [58, 61]) && ((prev != some 58) && true)))) = true
    · rw [if_pos hc5] at h; cases h; exact plain _ (by simp [outS]; omega) rfl (by show cnt ≤ _; omega) (fun h9 => by have h9 : st = 4 := h9; omega)
    rw [if_neg hc5] at h
    by_cases hc6 : (style == sD && (ch == 58 && (!decide (nx.getD 0 ∈ [58, 61]) && ((prev != some 58) && true)))) = true
    · rw [if_pos hc6] at h; cases h; exact ⟨by show out.length ≤ _; omega, by simp; omega, by show cnt ≤ _; omega, l2, fun _ => .inr (by simp)⟩
    rw [if_neg hc6] at h
    by_cases hc7 : (style == sP && (ch == 37 && ((nx == some 40) && true))) = true
    · rw [if_pos hc7] at h; cases h; exact ⟨by show out.length ≤ _; omega, by simp; omega, by show cnt ≤ _; omega, l2, fun _ => .inr (by simp)⟩
    rw [if_neg hc7] at h
    by_cases hc8 : ([sF, sP].any (· == style) && (ch == 37 && true)) = true
    · rw [if_pos hc8] at h
      by_cases hc9 : ip = true
      · rw [if_pos hc9] at h; cases h; exact plain _ (by simp [outS]; omega) rfl (by show cnt ≤ _; omega) (fun h9 => by have h9 : st = 4 := h9; omega)
      rw [if_neg hc9] at h
      by_cases hca : (nx == some 37) = true
      · rw [if_pos hca] at h; cases h; exact plain _ (by show out.length ≤ _; omega) rfl (by show cnt ≤ _; omega) (fun h9 => by have h9 : st = 4 := h9; omega)
      rw [if_neg hca] at h
      by_cases hcb : (nx == some 115) = true
      · rw [if_pos hcb] at h; cases h; exact plain _ (by simp [outS]; omega) rfl (by show cnt + 1 ≤ _; omega) (fun _ => .inl rfl)
      rw [if_neg hcb] at h; cases h
    rw [if_neg hc8] at h; cases h; exact plain _ (by simp [outS]; omega) rfl (by show cnt ≤ _; omega) (fun h9 => by have h9 : st = 4 := h9; omega)
  split at h
  · cases h
    rename_i h1
    have h1 : st = 1 := by simpa using h1
    refine plain _ ?_ ?_ ?_ ?_
    · (repeat' split) <;> simp [outS] <;> omega
    · (repeat' split) <;> rfl
    · (repeat' split) <;> (show cnt ≤ _; omega)
    · (repeat' split) <;> simp [outS, h1]
  split at h
  · cases h
    rename_i h1
    have h1 : st = 2 := by simpa using h1
    refine plain _ ?_ ?_ ?_ ?_
    · (repeat' split) <;> simp [outS] <;> omega
    · (repeat' split) <;> rfl
    · (repeat' split) <;> (show cnt ≤ _; omega)
    · (repeat' split) <;> simp [outS, h1]
  split at h
  · cases h
    rename_i h1
    have h1 : st = 3 := by simpa using h1
    refine plain _ ?_ ?_ ?_ ?_
    · (repeat' split) <;> simp [outS] <;> omega
    · (repeat' split) <;> rfl
    · (repeat' split) <;> (show cnt ≤ _; omega)
    · (repeat' split) <;> simp [outS, h1]
  split at h
  · cases h
    rename_i h1
    have h1 : st = 6 := by simpa using h1
    refine plain _ ?_ ?_ ?_ ?_
    · (repeat' split) <;> simp [outS] <;> omega
    · (repeat' split) <;> rfl
    · (repeat' split) <;> (show cnt ≤ _; omega)
    · (repeat' split) <;> simp [outS, h1]
  split at h
  · rename_i h1
    have h1 : st = 4 := by simpa using h1
    cases h
    have hpn := i5 h1
    unfold tPN
    simp only
    have e1 : sF ≠ sD := by decide +kernel
    have e2 : sF ≠ sP := by decide +kernel
    split
    · rename_i hs
      have hs : style = sD := by simpa using hs
      have hne : phs ≠ [] := hpn.resolve_left (by rw [hs]; exact Ne.symm e1)
      have a1 := addL_len (c := ch) hne i2
      have a2 := addL_mem hc i4
      split
      · have b1 := endN_len (addL phs ch)
        exact ⟨by simp [outS]; omega, by simp [outS]; omega, by show cnt ≤ _; omega, fun z hz => a2 z (endN_sub _ z hz), by simp [outS]⟩
      · exact ⟨by simp; omega, by simp; omega, by show cnt ≤ _; omega, a2, fun _ => .inr (addL_ne _ _)⟩
    split
    · rename_i hs
      have hs : style = sP := by simpa using hs
      have hne : phs ≠ [] := hpn.resolve_left (by rw [hs]; exact Ne.symm e2)
      have a1 := addL_len (c := ch) hne i2
      have a2 := addL_mem hc i4
      split
      · have b1 := endN_len phs
        exact ⟨by simp [outS]; omega, by simp [outS]; omega, by show cnt ≤ _; omega, fun z hz => l1 z (endN_sub _ z hz), by simp [outS]⟩
      split
      · exact plain _ (by simp; omega) rfl (by show cnt ≤ _; omega) (fun _ => .inr hne)
      · exact ⟨by simp; omega, by simp; omega, by show cnt ≤ _; omega, a2, fun _ => .inr (addL_ne _ _)⟩
    split
    · exact plain _ (by simp; omega) rfl (by show cnt ≤ _; omega) (by simp)
    · exact plain _ (by simp; omega) rfl (by show cnt ≤ _; omega) (fun _ => hpn)
  split at h
  · rename_i h1
    have h1 : st = 5 := by simpa using h1
    cases h
    refine plain _ ?_ ?_ ?_ ?_
    · (repeat' split) <;> simp [outS] <;> omega
    · (repeat' split) <;> rfl
    · (repeat' split) <;> (show cnt ≤ _; omega)
    · (repeat' split) <;> simp [outS, h1]
  · cases h
    exact plain _ (by simp; omega) rfl (by show cnt ≤ _; omega) i5
theorem MInv.prev {k : Nat} {S : MS} (I : MInv k S) (o : Option Nat) : MInv k { S with prev := o } := ⟨I.out, I.phs, I.cnt, I.len, I.pn⟩
end Mine
end
section
open PySem.Calls
set_option maxHeartbeats 4000000
namespace Mine

local macro_rules | `(tactic| walk_at "my has") => `(tactic| with_reducible (repeat (first | exact Has.here | apply Has.there)))
local macro_rules | `(tactic| walk_at "my put") => `(tactic| with_reducible (repeat (first | exact Put.here | apply Put.there)))
local macro_rules | `(tactic| walk_at "my lit") => `(tactic| with_reducible (first | exact lit_sq | exact lit_dq | exact lit_E | exact lit_bs | exact lit_mi | exact lit_dl | exact lit_co | exact lit_eq | exact lit_qm | exact lit_pc | exact lit_lp | exact lit_rp | exact lit_s | exact lit_us | exact lit_nl | exact lit_ce | exact lit_ps | exact lit_rs | exact lit_em | exact rfl))
local macro_rules | `(tactic| walk_at "my op") => `(tactic| with_reducible (first | exact op_eq_int | exact op_ne_int | exact op_lt_int | exact op_gt_int | exact op_le_int | exact op_eq_str | exact op_ne_str | exact op_in_str | exact op_notin_str | exact op_eq_none_str | exact op_ne_none_str | exact op_ne_bool | exact op_is_none | exact op_is_none_str | exact op_add_int | exact op_iadd_int | exact op_sub_int | exact op_eq_opt | exact op_ne_opt | exact op_none_opt))
local macro_rules | `(tactic| walk_at "my nu") => `(tactic| first | (intro h; cases h; done) | exact PVo_ne _)
local macro_rules | `(tactic| walk_at "my ev") => `(tactic| first
  | with_reducible exact ev_int | ((with_reducible refine' ev_str ?h1); (case h1 => walk_at "my lit")) | with_reducible exact ev_none | with_reducible exact ev_bool
  | ((with_reducible refine' ev_nm ?k1 ?h1 ?u1); (case k1 => assumption); (case h1 => walk_at "my has"; done); (case u1 => walk_at "my nu"))
  | with_reducible refine' ev_bin ?_ ?_ ?_ | ((with_reducible refine' ev_cmp ?_ ?_ ?_ ?m1); (case m1 => exact rfl)) | ((with_reducible refine' tr_cmp ?_ ?_ ?_ ?m1); (case m1 => exact rfl)) | with_reducible refine' tr_not ?_ | with_reducible refine' tr_op ?_
  | with_reducible refine' tra_and ?_ ?_ | with_reducible exact tra_and_nil | with_reducible refine' tra_or ?_ ?_ | with_reducible exact tra_or_nil
  | with_reducible refine' ev_neg ?_
  | walk_at "my op" | ((with_reducible refine' evl_cons1 ?_ ?_ ?m1); (case m1 => exact rfl)) | with_reducible refine' evl_nil ?_ | (guard_target =~ (_ = _ → _); intro _))
local macro_rules | `(tactic| walk_at "my evs") => `(tactic| repeat' (walk_at "my ev"))
local macro_rules | `(tactic| walk_at "my blt") => `(tactic| first | exact ev_globB (by assumption) (by kernel_rfl) boot_len (by decide +kernel) (by kernel_rfl) (by decide +kernel) | exact ev_globB (by assumption) (by kernel_rfl) boot_str (by decide +kernel) (by kernel_rfl) (by decide +kernel) | exact ev_globB (by assumption) (by kernel_rfl) boot_range (by decide +kernel) (by kernel_rfl) (by decide +kernel))
local macro_rules | `(tactic| walk_at "my fn") => `(tactic| exact ev_glob (by assumption) (by kernel_rfl) (by kernel_rfl) (by decide +kernel))
local macro_rules | `(tactic| walk_at "my puts") => `(tactic| (repeat (apply Puts.cons; (focus (walk_at "my put"; done)))); exact Puts.nil)
local macro_rules | `(tactic| walk_at "my nils") => `(tactic| repeat (first | with_reducible refine seq_nil ?_ | with_reducible refine wx_nil ?_))
local macro_rules | `(tactic| walk_at "my nnils") => `(tactic| repeat (first | with_reducible refine seqn_nil ?_ | with_reducible refine wxn_nil ?_))
local macro_rules | `(tactic| walk_at "my meth") => `(tactic| (apply ev_of_x; first | with_reducible apply evx_meth1 | with_reducible apply evx_meth0 | apply evx_meth1 | apply evx_meth0))

theorem mlo_wk (t : List Nat) (ph oq pi : Addr) (S : MS) (a b d e : PV) : Wk (mlo t ph oq pi S a b d e) (mlo t ph oq pi S .un .un .un .un) :=
  .same (.same (.same (.same (.same (.same (.same (.same (.same (.same (.same (.same (.same (.same (.same (.same (.un (.un (.un (.un (.same .nil))))))))))))))))))))
section
variable {prog : Program} {w : World} {p : Program} {loose : List Str} {mean : ExcName → Option Value} {mg mb : Str → Option Value} {c : Cf} {lo lo' : Lo} {ob ob' : Ob} {X : EPost} {Φ : Post} {pos : Pos}
theorem rep_fits (q : Str) (h : q.length ≤ 1001 ∧ ∀ c ∈ q.cps.toList, c < 16 ^ 8) : (reprText q).length ≤ 1000000 := by
  have := StrLaws.reprText_len q h.2
  omega
theorem cv_pnF (G : Gu (Mine.hd.heap_39 w.params) p loose mean mg mb c) {L : Addr} (he : c.env = cvEnv w.params L) {t : List Nat} {e it x dx ph oq pi : Addr} {iq ip : Bool} {phs out : List Str} {prev : Option Nat} {cnt : Nat} {k ch : Nat} {nx : Option Nat} {pidx : PV} {r : Ob}
    (hK : ∀ S' pidx', S' = tPN ⟨4, iq, ip, phs, out, sF, prev, cnt⟩ ch nx → WXn prog w c (mlo t ph oq pi S' (.int k) (.str (sg ch)) (PVo nx) pidx') (lob e it x dx ph oq t k S' r) X (fb.drop 2) Φ) :
    WXn prog w c (mlo t ph oq pi ⟨4, iq, ip, phs, out, sF, prev, cnt⟩ (.int k) (.str (sg ch)) (PVo nx) pidx) (lob e it x dx ph oq t k ⟨4, iq, ip, phs, out, sF, prev, cnt⟩ r) X pnBody (SeqN prog w c X [] (SeqN prog w c X [] (SeqN prog w c X [] (SeqN prog w c X [] (SeqN prog w c X [] (SeqN prog w c X (fb.drop 2) Φ)))))) := by
  obtain ⟨A, env, h₀, os⟩ := c
  simp only at he
  subst he
  have K' := G.kind
  have Kg : ∀ g, (Cf.at ⟨A, cvEnv w.params L, h₀, os⟩ g).env.scope.kind = .function := fun _ => K'
  have hstep := tPN.eq_def ⟨4, iq, ip, phs, out, sF, prev, cnt⟩ ch nx
  have e1 : (sF == sD) = false := by decide +kernel
  have e2 : (sF == sP) = false := by decide +kernel
  dsimp only at hstep
  rw [if_neg (by rw [e1]; exact Bool.false_ne_true), if_neg (by rw [e2]; exact Bool.false_ne_true), if_pos (by decide +kernel)] at hstep
  show WXn _ _ _ [(_, .str sF), (_, .str (tx t)), (_, _), (_, _), (_, _), (_, _), (_, _), (_, _), (_, _), (_, .val (.bool iq)), (_, .val (.bool ip)), (_, _), (_, _), (_, _), (_, .int 4), (_, PVo prev), (_, _), (_, .str (sg ch)), (_, PVo nx), (_, _), (_, _)] _ _ _ _
  refine wxn_cons ?_
  refine wsn_if (y := sF == sD) ?_ ?_ ?_
  · intro g T
    have K1 := Kg g
    walk_at "my evs"
  · intro h; rw [e1] at h; cases h
  intro _
  walk_at "my nnils"
  refine wxn_cons ?_
  refine wsn_if (y := sF == sP) ?_ ?_ ?_
  · intro g T
    have K1 := Kg g
    walk_at "my evs"
  · intro h; rw [e2] at h; cases h
  intro _
  walk_at "my nnils"
  refine wxn_cons ?_
  refine wsn_if (y := sF == sF) ?_ ?_ ?_
  · intro g T
    have K1 := Kg g
    walk_at "my evs"
  · intro _
    refine wxn_old ?_
    intro g T
    have K1 := Kg g
    apply ws_set K1 (v := .int 0)
    · walk_at "my evs"
    · walk_at "my put"
    walk_at "my nnils"
    exact hK _ _ hstep.symm
  · intro h; exact absurd h (by decide +kernel)
theorem cv_loop (G : Gu (Mine.hd.heap_39 w.params) p loose mean mg mb c) {L : Addr} (he : c.env = cvEnv w.params L) (hroom : c.A.depth < recursionLimit) {t : List Nat} {e it x dx ph oq pi mt f c' : Addr} {r : Ob} {res : Option MS} (hei : e ≠ it) (hl : t.length < 900) (hcp : ∀ z ∈ t, z < 16 ^ 8)
    (hlast : ∀ k ch, t[k]? = some ch → t[k + 1]? = none → ch ≠ 58)
    (hR : res = none → ∀ k S lo' Φ' msg k0 p1 p2 p3 p4, WXn prog w c lo' (lob e it x dx ph oq t k S r) X [.Raise (some (.Call (.Name (Str.ofString "InterfaceError") p1) [.Constant (.str msg) k0 p2] [] p3)) none p4] Φ')
    (hΦ : ∀ S', res = some S' → Φ .next (mlo t ph oq pi S' .un .un .un .un) (mob x dx ph oq S' r))
    (hr1 : (pi, MapO mt f) ∈ r) (hr2 : (mt, TupO (.ref x)) ∈ r) (hr4 : (dx, EmpO) ∈ r) (hr5 : (f, LamO lamQ lamP lamB lamS c') ∈ r) (hr6 : (c', CodeO lamQ) ∈ r) :
    ∀ n k S, t.length - k = n → k ≤ t.length → MInv k S → runM S (t.drop k) = res → Lpn prog w c (mlo t ph oq pi S .un .un .un .un) ((e, EnumO it k) :: (it, StrItO (tx t) k) :: mob x dx ph oq S r) X (forTgt (bd 10)) e fb Φ := by
  intro n
  induction n with
  | zero =>
    intro k S hn hk I hrun
    have hkt : k = t.length := by omega
    subst hkt
    rw [List.drop_length] at hrun
    exact lpn_end (y := tx t) G.hand hei (hΦ S hrun.symm)
  | succ n ih =>
    intro k S hn hk I hrun
    have hlt : k < t.length := by omega
    have hdrop : t.drop k = t[k] :: t.drop (k + 1) := List.drop_eq_getElem_cons hlt
    have hhead : (t.drop (k + 1)).head? = t[k + 1]? := by rw [List.head?_drop]
    rw [hdrop] at hrun
    have hrun2 : (turn S t[k] t[k + 1]?).bind (fun S' => runM S' (t.drop (k + 1))) = res := by rw [← hrun, ← hhead]; rfl
    refine lpn_step (lo' := mlo t ph oq pi S (.int k) (.str (sg t[k])) .un .un) (y := tx t) (k := k) (ch := t[k]) (it := it) G.kind G.hand rfl hei (.head _) (.tail _ (.head _)) (by simp [tx, hlt]) .here (.there .here) ?_ ?_
    · walk_at "my puts"
    show WXn _ _ _ _ _ _ (fb.getD 0 (.Pass ⟨0, 0, 0, 0⟩) :: fb.drop 1) _
    refine wxn_old ?_
    intro g T
    apply cv_next (G.turn T) he (by omega)
    show WXn _ _ _ _ _ _ _ _
    have hI := I
    have hK : ∀ S' pidx', turn0 S t[k] t[k + 1]? = some S' → WXn prog w c (mlo t ph oq pi S' (.int k) (.str (sg t[k])) (PVo t[k + 1]?) pidx') (lob e it x dx ph oq t k S' r) X (fb.drop 2) (LTurnN prog w c X (forTgt (bd 10)) e fb Φ) := by
      intro S' pidx' hs
      have Kg : ∀ g, (c.at g).env.scope.kind = .function := fun _ => G.kind
      have hturn : turn S t[k] t[k + 1]? = some { S' with prev := some t[k] } := by unfold turn; rw [hs]; rfl
      have hnext := ih (k + 1) { S' with prev := some t[k] } (by omega) (by omega) ((turn_inv (hcp _ (List.getElem_mem hlt)) I hs).prev _) (by rw [hturn] at hrun2; exact hrun2)
      obtain ⟨st, iq, ip, phs, out, style, prev, cnt⟩ := S'
      obtain ⟨A, env, h₀, os⟩ := c
      simp only at he
      subst he
      show WXn _ _ _ [(_, .str style), (_, .str (tx t)), (_, _), (_, _), (_, _), (_, _), (_, _), (_, _), (_, _), (_, .val (.bool iq)), (_, .val (.bool ip)), (_, _), (_, _), (_, _), (_, .int st), (_, PVo prev), (_, _), (_, .str (sg t[k])), (_, PVo t[k + 1]?), (_, _), (_, _)] _ _ _ _
      refine wxn_old ?_
      intro g T
      have K1 := Kg g
      apply ws_set K1 (v := .str (sg t[k]))
      · walk_at "my evs"
      · walk_at "my put"
      show WXn _ _ _ _ _ _ [] _
      apply wxn_nil
      show Lpn _ _ _ _ _ _ _ _ _ _
      exact lpn_weak (mlo_wk t ph oq pi ⟨st, iq, ip, phs, out, style, some t[k], cnt⟩ _ _ _ _) (List.Sublist.refl _) hnext
    refine cv_turn G he hroom (by omega) (fun S' pidx' hs _ => hK S' pidx' hs) (fun hs lo' Φ' msg k0 p1 p2 p3 p4 => ?_) (fun h4 => ?_) (by have := I.out; omega) (by have := I.phs; omega) (by have := I.cnt; omega) (fun hnx => hlast k _ (List.getElem?_eq_getElem hlt) hnx) hr1 hr2 hr4 hr5 hr6
    · refine hR ?_ _ _ _ _ _ _ _ _ _ _
      rw [← hrun2]; unfold turn; rw [hs]; rfl
    · have hK4 : ∀ S' pidx', S' = tPN S t[k] t[k + 1]? → WXn prog w c (mlo t ph oq pi S' (.int k) (.str (sg t[k])) (PVo t[k + 1]?) pidx') (lob e it x dx ph oq t k S' r) X (fb.drop 2) (LTurnN prog w c X (forTgt (bd 10)) e fb Φ) := by
        intro S' pidx' hs
        refine hK S' pidx' ?_
        unfold turn0
        rw [h4, hs]; rfl
      have ipn := I.pn h4
      obtain ⟨st, iq, ip, phs, out, style, prev, cnt⟩ := S
      have h4 : st = 4 := h4
      subst h4
      by_cases hphs : phs = []
      · subst hphs
        obtain rfl : style = sF := ipn.resolve_right (by simp)
        exact cv_pnF G he fun S' pidx' hs => hK4 S' pidx' hs
      · obtain ⟨ns, z, rfl⟩ : ∃ ns z, phs = ns ++ [z] := ⟨phs.dropLast, phs.getLast hphs, (List.dropLast_concat_getLast hphs).symm⟩
        have i1 := I.out
        have i2 := I.phs
        have i3 := I.len z (by simp)
        simp only [List.length_append, List.length_singleton] at i1 i2
        refine cv_pn G he hK4 (by omega) (by omega) (by omega) (rep_fits z ⟨by omega, i3.2⟩) (rep_fits (z ++ sg t[k]) ⟨by rw [Str.length_append]; show z.length + 1 ≤ _; omega, fun d hd => ?_⟩)
        rw [Str.cps_append, Array.toList_append] at hd
        rcases List.mem_append.mp hd with hd | hd
        · exact i3.2 d hd
        · have : d = t[k] := by simpa using hd
          rw [this]; exact hcp _ (List.getElem_mem hlt)
end
end Mine
end
section
open PySem.Calls
set_option maxHeartbeats 4000000
namespace Mine

local macro_rules | `(tactic| walk_at "my has") => `(tactic| with_reducible (repeat (first | exact Has.here | apply Has.there)))
local macro_rules | `(tactic| walk_at "my put") => `(tactic| with_reducible (repeat (first | exact Put.here | apply Put.there)))
local macro_rules | `(tactic| walk_at "my lit") => `(tactic| with_reducible (first | exact lit_sq | exact lit_dq | exact lit_E | exact lit_bs | exact lit_mi | exact lit_dl | exact lit_co | exact lit_eq | exact lit_qm | exact lit_pc | exact lit_lp | exact lit_rp | exact lit_s | exact lit_us | exact lit_nl | exact lit_ce | exact lit_ps | exact lit_rs | exact lit_em | exact rfl))
local macro_rules | `(tactic| walk_at "my op") => `(tactic| with_reducible (first | exact op_eq_int | exact op_ne_int | exact op_lt_int | exact op_gt_int | exact op_le_int | exact op_eq_str | exact op_ne_str | exact op_in_str | exact op_notin_str | exact op_eq_none_str | exact op_ne_none_str | exact op_ne_bool | exact op_is_none | exact op_is_none_str | exact op_add_int | exact op_iadd_int | exact op_sub_int | exact op_eq_opt | exact op_ne_opt | exact op_none_opt))
local macro_rules | `(tactic| walk_at "my nu") => `(tactic| first | (intro h; cases h; done) | exact PVo_ne _)
local macro_rules | `(tactic| walk_at "my ev") => `(tactic| first
  | with_reducible exact ev_int | ((with_reducible refine' ev_str ?h1); (case h1 => walk_at "my lit")) | with_reducible exact ev_none | with_reducible exact ev_bool
  | ((with_reducible refine' ev_nm ?k1 ?h1 ?u1); (case k1 => assumption); (case h1 => walk_at "my has"; done); (case u1 => walk_at "my nu"))
  | with_reducible refine' ev_bin ?_ ?_ ?_ | ((with_reducible refine' ev_cmp ?_ ?_ ?_ ?m1); (case m1 => exact rfl)) | ((with_reducible refine' tr_cmp ?_ ?_ ?_ ?m1); (case m1 => exact rfl)) | with_reducible refine' tr_not ?_ | with_reducible refine' tr_op ?_
  | with_reducible refine' tra_and ?_ ?_ | with_reducible exact tra_and_nil | with_reducible refine' tra_or ?_ ?_ | with_reducible exact tra_or_nil
  | with_reducible refine' ev_neg ?_
  | walk_at "my op" | ((with_reducible refine' evl_cons1 ?_ ?_ ?m1); (case m1 => exact rfl)) | with_reducible refine' evl_nil ?_ | (guard_target =~ (_ = _ → _); intro _))
local macro_rules | `(tactic| walk_at "my evs") => `(tactic| repeat' (walk_at "my ev"))
local macro_rules | `(tactic| walk_at "my blt") => `(tactic| first | exact ev_globB (by assumption) (by kernel_rfl) boot_len (by decide +kernel) (by kernel_rfl) (by decide +kernel) | exact ev_globB (by assumption) (by kernel_rfl) boot_str (by decide +kernel) (by kernel_rfl) (by decide +kernel) | exact ev_globB (by assumption) (by kernel_rfl) boot_range (by decide +kernel) (by kernel_rfl) (by decide +kernel))
local macro_rules | `(tactic| walk_at "my fn") => `(tactic| exact ev_glob (by assumption) (by kernel_rfl) (by kernel_rfl) (by decide +kernel))
local macro_rules | `(tactic| walk_at "my puts") => `(tactic| (repeat (apply Puts.cons; (focus (walk_at "my put"; done)))); exact Puts.nil)
local macro_rules | `(tactic| walk_at "my nils") => `(tactic| repeat (first | with_reducible refine seq_nil ?_ | with_reducible refine wx_nil ?_))
local macro_rules | `(tactic| walk_at "my nnils") => `(tactic| repeat (first | with_reducible refine seqn_nil ?_ | with_reducible refine wxn_nil ?_))
local macro_rules | `(tactic| walk_at "my meth") => `(tactic| (apply ev_of_x; first | with_reducible apply evx_meth1 | with_reducible apply evx_meth0 | apply evx_meth1 | apply evx_meth0))

theorem exc44 (P : Params) : excIn (hd.heap_39 P) 44 [.type "Exception", .type "BaseException", .type "object"] "Exception.__new__" = true := by kernel_rfl
section
variable {prog : Program} {w : World} {K : Frag} {p : Program} {loose : List Str} {mean : ExcName → Option Value} {mg mb : Str → Option Value} {c : Cf} {lo lo' : Lo} {ob ob' : Ob} {X : EPost} {Φ : Post} {pos : Pos}
/-- raise C(text) -/
theorem ws_raise (G : Gt K p loose mg mb c) {x msg : Str} {C : Addr} {k0 : Nat} {np p2 cpos : Pos} (ex : nsIn K mainGlobals x = some (some (.ref C))) (q : excIn K C [.type "Exception", .type "BaseException", .type "object"] "Exception.__new__" = true)
    (hxk : c.env.kindOf x = some .globalImplicit) (hd : (x == ("__debug__" : Str)) = false) (he : starEach [.Constant (.str msg) k0 p2] c.env = (false, eval (.Constant (.str msg) k0 p2) c.env) :: starEach [] c.env) (hplain : (backTo cpos (starEach [] c.env)).any (·.1) = false)
    (hX : ∀ s h' e vs, Rep0 c lo ob s → Heap.MadeExcOf s.heap h' e (.ref C) vs → X (.ref e) { s with heap := h' }) :
    WS prog w c lo ob X (.Raise (some (.Call (.Name x np) [.Constant (.str msg) k0 p2] [] cpos)) none pos) Φ := fun s Q E R _ xx _ => by
  obtain ⟨m, F, hlo⟩ := R.fr
  obtain ⟨tl, N, nm, qn, bs, hdct, sn, sub, ab, col, dd, k0', k1, k2, k3, k5, mN, hC, hN, hni, T⟩ := (own_of_in (h₀ := c.h₀) G.X G.T ex q).obj
  refine wpAny_Raise_call_subT (C := C) (nm := nm) (q := qn) (N := N) (bs := bs) (bm := tl) (hdct := hdct) (sn := sn) (sub := sub) (ab := ab) (col := col) (dd := dd) (k0 := k0') (k1 := k1) (k2 := k2) (k3 := k3) (k5 := k5)
    PySem.F.excBase_Exception (mN := mN) (T.hasType PySem.F.excBase_Exception.hasBase) G.hand (by rw [he]; show (false || (backTo cpos (starEach [] c.env)).any (·.1)) = false; rw [hplain]; rfl) hni ?_
  refine ev_glob G ex hxk hd _ _ _ R fun u s1 hu R1 => ?_
  cases hu
  refine ⟨rfl, ?_⟩
  rw [he]
  obtain ⟨m1, F1, _⟩ := R1.fr
  refine Calls.evalArgs_plain (args_cons (pos := cpos) (wpAny_Constant_str (args_nil (pos := cpos) ?_)) he)
  exact ⟨rfl, by show 1 ≤ sizeLine; rw [sizeLine_eq]; omega, F1.keep _ _ hC, hN.keeps F1.keep, T.keeps F1.keep, fun h' e hm => xx _ _ (hX _ h' e _ (R1.toks _) hm)⟩
end
end Mine
end
section
open PySem.Calls
set_option maxHeartbeats 4000000
namespace Mine

local macro_rules | `(tactic| walk_at "my has") => `(tactic| with_reducible (repeat (first | exact Has.here | apply Has.there)))
local macro_rules | `(tactic| walk_at "my put") => `(tactic| with_reducible (repeat (first | exact Put.here | apply Put.there)))
local macro_rules | `(tactic| walk_at "my lit") => `(tactic| with_reducible (first | exact lit_sq | exact lit_dq | exact lit_E | exact lit_bs | exact lit_mi | exact lit_dl | exact lit_co | exact lit_eq | exact lit_qm | exact lit_pc | exact lit_lp | exact lit_rp | exact lit_s | exact lit_us | exact lit_nl | exact lit_ce | exact lit_ps | exact lit_rs | exact lit_em | exact rfl))
local macro_rules | `(tactic| walk_at "my op") => `(tactic| with_reducible (first | exact op_eq_int | exact op_ne_int | exact op_lt_int | exact op_gt_int | exact op_le_int | exact op_eq_str | exact op_ne_str | exact op_in_str | exact op_notin_str | exact op_eq_none_str | exact op_ne_none_str | exact op_ne_bool | exact op_is_none | exact op_is_none_str | exact op_add_int | exact op_iadd_int | exact op_sub_int | exact op_eq_opt | exact op_ne_opt | exact op_none_opt))
local macro_rules | `(tactic| walk_at "my nu") => `(tactic| first | (intro h; cases h; done) | exact PVo_ne _)
local macro_rules | `(tactic| walk_at "my ev") => `(tactic| first
  | with_reducible exact ev_int | ((with_reducible refine' ev_str ?h1); (case h1 => walk_at "my lit")) | with_reducible exact ev_none | with_reducible exact ev_bool
  | ((with_reducible refine' ev_nm ?k1 ?h1 ?u1); (case k1 => assumption); (case h1 => walk_at "my has"; done); (case u1 => walk_at "my nu"))
  | with_reducible refine' ev_bin ?_ ?_ ?_ | ((with_reducible refine' ev_cmp ?_ ?_ ?_ ?m1); (case m1 => exact rfl)) | ((with_reducible refine' tr_cmp ?_ ?_ ?_ ?m1); (case m1 => exact rfl)) | with_reducible refine' tr_not ?_ | with_reducible refine' tr_op ?_
  | with_reducible refine' tra_and ?_ ?_ | with_reducible exact tra_and_nil | with_reducible refine' tra_or ?_ ?_ | with_reducible exact tra_or_nil
  | with_reducible refine' ev_neg ?_
  | walk_at "my op" | ((with_reducible refine' evl_cons1 ?_ ?_ ?m1); (case m1 => exact rfl)) | with_reducible refine' evl_nil ?_ | (guard_target =~ (_ = _ → _); intro _))
local macro_rules | `(tactic| walk_at "my evs") => `(tactic| repeat' (walk_at "my ev"))
local macro_rules | `(tactic| walk_at "my blt") => `(tactic| first | exact ev_globB (by assumption) (by kernel_rfl) boot_len (by decide +kernel) (by kernel_rfl) (by decide +kernel) | exact ev_globB (by assumption) (by kernel_rfl) boot_str (by decide +kernel) (by kernel_rfl) (by decide +kernel) | exact ev_globB (by assumption) (by kernel_rfl) boot_range (by decide +kernel) (by kernel_rfl) (by decide +kernel))
local macro_rules | `(tactic| walk_at "my fn") => `(tactic| exact ev_glob (by assumption) (by kernel_rfl) (by kernel_rfl) (by decide +kernel))
local macro_rules | `(tactic| walk_at "my puts") => `(tactic| (repeat (apply Puts.cons; (focus (walk_at "my put"; done)))); exact Puts.nil)
local macro_rules | `(tactic| walk_at "my nils") => `(tactic| repeat (first | with_reducible refine seq_nil ?_ | with_reducible refine wx_nil ?_))
local macro_rules | `(tactic| walk_at "my nnils") => `(tactic| repeat (first | with_reducible refine seqn_nil ?_ | with_reducible refine wxn_nil ?_))
local macro_rules | `(tactic| walk_at "my meth") => `(tactic| (apply ev_of_x; first | with_reducible apply evx_meth1 | with_reducible apply evx_meth0 | apply evx_meth1 | apply evx_meth0))

section
variable {prog : Program} {w : World} {K : Frag} {p : Program} {loose : List Str} {mean : ExcName → Option Value} {mg mb : Str → Option Value} {c : Cf} {lo lo' : Lo} {ob ob' : Ob} {X : EPost} {Φ : Post} {pos : Pos}
/-- a call of something whose keeper the part knows (a class) -/
theorem evx_callC (G : Gt K p loose mg mb c) {f e : Expr} {es : List Expr} {a : Addr} {Φ : PV → Ob → Prop} (hf : Ev prog w c lo ob f (.val (.ref a))) (hk : keepIn K (.ref a) = true) (h : EvL prog w c lo ob (e :: es) (fun vs ob' => Cl prog w c lo ob' (.ref a) vs Φ))
    (hc : eval (.Call f (e :: es) [] pos) c.env = (do callWith pos (← eval f c.env) [] (backTo pos (starEach (e :: es) c.env)) (backToKw pos (keywordEach [] c.env))))
    (he : starEach (e :: es) c.env = (false, eval e c.env) :: starEach es c.env) (hp : (backTo pos (starEach es c.env)).any (·.1) = false) : EvX prog w c lo ob (.Call f (e :: es) [] pos) Φ := fun s Q E R q =>
  Call_ (hf.use R fun u s₁ hu R₁ => by
    cases hu
    refine callWith_K (f := .ref a) (first := []) (h₀ := c.h₀) G.X hk (h.use R₁ fun vs us ob' s₂ hc hus R₂ => ⟨?_, hc.use hus R₂ fun v u ob' s' a b R' => q v u ob' s' a b R'.1⟩) he hp
    obtain ⟨m, F, _⟩ := R₂.fr
    exact G.X.keeps F.keep) hc
end
section
variable {prog : Program} {w : World} {p : Program} {loose : List Str} {mean : ExcName → Option Value} {mg mb : Str → Option Value} {c : Cf} {lo lo' : Lo} {ob ob' : Ob} {X : EPost} {Φ : Post} {pos : Pos}
theorem keep_cnt (P : Params) : keepIn (hd.heap_39 P) (.ref 101) = true := by kernel_rfl
def pidxE : Expr := match (bd 10).getD 11 (.Pass ⟨0, 0, 0, 0⟩) with | .Assign _ e _ => e | _ => .Name "" ⟨0, 0, 0, 0⟩
/-- map(lambda, count(1)) -/
theorem evx_pidx (G : Gu (Mine.hd.heap_39 w.params) p loose mean mg mb c) {L : Addr} (he : c.env = cvEnv w.params L) (hroom : c.A.depth + 2 < recursionLimit) {H : Addr → Addr → Ob → Prop}
    (hlam : EvX prog w c lo ob lamE (fun v ob' => ∃ f c', v = .val (.ref f) ∧ H f c' ob'))
    {Φ : PV → Ob → Prop} (hΦ : ∀ f c' ob1, H f c' ob1 → ∀ x dx m mt, Φ (.val (.ref m)) ((m, MapO mt f) :: (mt, TupO (.ref x)) :: (x, InstO 101 dx (SlN 1)) :: (dx, EmpO) :: ob1)) :
    EvX prog w c lo ob pidxE Φ := by
  obtain ⟨A, env, h₀, os⟩ := c
  simp only at he
  subst he
  have G1 := G.gt
  show EvX _ _ _ _ _ (.Call _ [lamE, .Call _ [.Constant (.int 1) _ _] [] _] [] _) _
  apply evx_callT
  · exact ev_globB G1 (by kernel_rfl) boot_map (by decide +kernel) (by kernel_rfl) (by decide +kernel)
  · refine evl_cons ?_ ?_
    · refine evx_mono hlam ?_
      rintro v ob' ⟨f, c', rfl, hH⟩
      refine evl_cons ?_ ?_
      · apply evx_callC G1 (a := 101)
        · exact ev_glob G1 (by kernel_rfl) (by kernel_rfl) (by decide +kernel)
        · exact keep_cnt _
        · walk_at "my evs"
          refine cl_count G1 hroom fun x dx => ?_
          refine evl_nil ?_
          exact cl_map G1 (by show A.depth < _; have : A.depth + 2 < recursionLimit := hroom; omega) (.head _) (.tail _ (.head _)) fun m mt => hΦ f c' _ hH x dx m mt
        all_goals rfl
      · rfl
    · rfl
  all_goals rfl
end
end Mine
end
section
open PySem.Calls
set_option maxHeartbeats 4000000
namespace Mine

local macro_rules | `(tactic| walk_at "my has") => `(tactic| with_reducible (repeat (first | exact Has.here | apply Has.there)))
local macro_rules | `(tactic| walk_at "my put") => `(tactic| with_reducible (repeat (first | exact Put.here | apply Put.there)))
local macro_rules | `(tactic| walk_at "my lit") => `(tactic| with_reducible (first | exact lit_sq | exact lit_dq | exact lit_E | exact lit_bs | exact lit_mi | exact lit_dl | exact lit_co | exact lit_eq | exact lit_qm | exact lit_pc | exact lit_lp | exact lit_rp | exact lit_s | exact lit_us | exact lit_nl | exact lit_ce | exact lit_ps | exact lit_rs | exact lit_em | exact rfl))
local macro_rules | `(tactic| walk_at "my op") => `(tactic| with_reducible (first | exact op_eq_int | exact op_ne_int | exact op_lt_int | exact op_gt_int | exact op_le_int | exact op_eq_str | exact op_ne_str | exact op_in_str | exact op_notin_str | exact op_eq_none_str | exact op_ne_none_str | exact op_ne_bool | exact op_is_none | exact op_is_none_str | exact op_add_int | exact op_iadd_int | exact op_sub_int | exact op_eq_opt | exact op_ne_opt | exact op_none_opt))
local macro_rules | `(tactic| walk_at "my nu") => `(tactic| first | (intro h; cases h; done) | exact PVo_ne _)
local macro_rules | `(tactic| walk_at "my ev") => `(tactic| first
  | with_reducible exact ev_int | ((with_reducible refine' ev_str ?h1); (case h1 => walk_at "my lit")) | with_reducible exact ev_none | with_reducible exact ev_bool
  | ((with_reducible refine' ev_nm ?k1 ?h1 ?u1); (case k1 => assumption); (case h1 => walk_at "my has"; done); (case u1 => walk_at "my nu"))
  | with_reducible refine' ev_bin ?_ ?_ ?_ | ((with_reducible refine' ev_cmp ?_ ?_ ?_ ?m1); (case m1 => exact rfl)) | ((with_reducible refine' tr_cmp ?_ ?_ ?_ ?m1); (case m1 => exact rfl)) | with_reducible refine' tr_not ?_ | with_reducible refine' tr_op ?_
  | with_reducible refine' tra_and ?_ ?_ | with_reducible exact tra_and_nil | with_reducible refine' tra_or ?_ ?_ | with_reducible exact tra_or_nil
  | with_reducible refine' ev_neg ?_
  | walk_at "my op" | ((with_reducible refine' evl_cons1 ?_ ?_ ?m1); (case m1 => exact rfl)) | with_reducible refine' evl_nil ?_ | (guard_target =~ (_ = _ → _); intro _))
local macro_rules | `(tactic| walk_at "my evs") => `(tactic| repeat' (walk_at "my ev"))
local macro_rules | `(tactic| walk_at "my blt") => `(tactic| first | exact ev_globB (by assumption) (by kernel_rfl) boot_len (by decide +kernel) (by kernel_rfl) (by decide +kernel) | exact ev_globB (by assumption) (by kernel_rfl) boot_str (by decide +kernel) (by kernel_rfl) (by decide +kernel) | exact ev_globB (by assumption) (by kernel_rfl) boot_range (by decide +kernel) (by kernel_rfl) (by decide +kernel))
local macro_rules | `(tactic| walk_at "my fn") => `(tactic| exact ev_glob (by assumption) (by kernel_rfl) (by kernel_rfl) (by decide +kernel))
local macro_rules | `(tactic| walk_at "my puts") => `(tactic| (repeat (apply Puts.cons; (focus (walk_at "my put"; done)))); exact Puts.nil)
local macro_rules | `(tactic| walk_at "my nils") => `(tactic| repeat (first | with_reducible refine seq_nil ?_ | with_reducible refine wx_nil ?_))
local macro_rules | `(tactic| walk_at "my nnils") => `(tactic| repeat (first | with_reducible refine seqn_nil ?_ | with_reducible refine wxn_nil ?_))
local macro_rules | `(tactic| walk_at "my meth") => `(tactic| (apply ev_of_x; first | with_reducible apply evx_meth1 | with_reducible apply evx_meth0 | apply evx_meth1 | apply evx_meth0))

section
variable {prog : Program} {w : World} {p : Program} {loose : List Str} {mean : ExcName → Option Value} {mg mb : Str → Option Value} {c : Cf} {lo lo' : Lo} {ob ob' : Ob} {X : EPost} {Φ : Post} {pos : Pos}
theorem Rep0.perm {s : Shared} (R : Rep0 c lo ob s) (h : List.Perm ob ob') : Rep0 c lo ob' s := ⟨R.fr, ⟨(h.map _).nodup_iff.mp R.obs.1, fun p hp => R.obs.2 p (h.mem_iff.mpr hp)⟩, R.nd, R.loc, R.os, R.gens⟩
theorem wxn_perm {body : List Stmt} (h : List.Perm ob ob') (H : WXn prog w c lo ob' X body Φ) : WXn prog w c lo ob X body Φ := fun g T s Q E R q x pe => H g T _ _ _ ⟨R.1.perm h, R.tk⟩ q x pe
theorem evx_perm {e : Expr} {Ψ : PV → Ob → Prop} (H : EvX prog w c lo ob e fun v ob1 => ∃ ob2, List.Perm ob1 ob2 ∧ Ψ v ob2) : EvX prog w c lo ob e Ψ := fun s Q E R q => H s Q E R fun v u ob1 s' h hu R' => let ⟨ob2, a, b⟩ := h; q v u ob2 s' b hu (R'.perm a)

theorem perm7 {α : Type} (m mt x dx f oq ph : α) (r : List α) : List.Perm (m :: mt :: x :: dx :: f :: oq :: ph :: r) (x :: ph :: oq :: m :: mt :: dx :: f :: r) :=
  (List.perm_middle (l₁ := [m, mt]) (l₂ := dx :: f :: oq :: ph :: r)).trans (.cons x ((List.perm_middle (l₁ := [m, mt, dx, f, oq]) (l₂ := r)).trans (.cons ph (List.perm_middle (l₁ := [m, mt, dx, f]) (l₂ := r)))))
def cvPre : List Stmt := (bd 10).drop 14
theorem cv_pre (G : Gu (Mine.hd.heap_39 w.params) p loose mean mg mb c) {L : Addr} (he : c.env = cvEnv w.params L) (hroom : c.A.depth + 2 < recursionLimit) {t : List Nat} {sty : Str} {Gd : Addr → Ob → Prop}
    (hlam : ∀ g, Tn c g → ∀ lo oq ph, EvX prog w (c.at g) lo ((oq, SeqO "list" []) :: (ph, SeqO "list" []) :: ob) lamE (fun v ob' => ∃ f c' ob1, v = .val (.ref f) ∧ Gd c' ob1 ∧ ob' = (f, LamO lamQ lamP lamB lamS c') :: (oq, SeqO "list" []) :: (ph, SeqO "list" []) :: ob1))
    (hΦ : ∀ f c' ob1 x dx m mt ph oq, Gd c' ob1 → WXn prog w c (mlo t ph oq m ⟨0, false, false, [], [], sty, none, 1⟩ .un .un .un .un) (mob x dx ph oq ⟨0, false, false, [], [], sty, none, 1⟩ ((m, MapO mt f) :: (mt, TupO (.ref x)) :: (dx, EmpO) :: (f, LamO lamQ lamP lamB lamS c') :: ob1)) X cvPre Φ) :
    WXn prog w c [(Str.ofString "style", .str sty), (Str.ofString "query", .str (tx t)), (Str.ofString "OUTSIDE", .un), (Str.ofString "INSIDE_SQ", .un), (Str.ofString "INSIDE_QI", .un), (Str.ofString "INSIDE_ES", .un), (Str.ofString "INSIDE_PN", .un), (Str.ofString "INSIDE_CO", .un), (Str.ofString "INSIDE_DQ", .un),
      (Str.ofString "in_quote_escape", .un), (Str.ofString "in_param_escape", .un), (Str.ofString "placeholders", .un), (Str.ofString "output_query", .un), (Str.ofString "param_idx", .un), (Str.ofString "state", .un), (Str.ofString "prev_c", .un), (Str.ofString "i", .un), (Str.ofString "c", .un), (Str.ofString "next_c", .un), (Str.ofString "pidx", .un), (Str.ofString "vals", .un)] ob X (bd 10) Φ := by
  obtain ⟨A, env, h₀, os⟩ := c
  simp only at he
  subst he
  have K' := G.kind
  have Kg : ∀ g, (Cf.at ⟨A, cvEnv w.params L, h₀, os⟩ g).env.scope.kind = .function := fun _ => K'
  iterate 7
    refine wxn_old ?_
    intro g T
    have K1 := Kg g
    apply ws_set K1
    · walk_at "my evs"
    · walk_at "my put"
    show WXn _ _ _ _ _ _ _ _
    clear T K1
  iterate 2
    refine wxn_old ?_
    intro g T
    have K1 := Kg g
    apply ws_set K1 (v := .val (.bool false))
    · walk_at "my evs"
    · walk_at "my put"
    show WXn _ _ _ _ _ _ _ _
    clear T K1
  refine wxn_old ?_
  intro g T
  have K1 := Kg g
  refine ws_setx K1 ?_
  · refine evx_list ?_
    refine evl_nil ?_
    refine ⟨Nat.zero_le _, fun ph => ?_⟩
    apply exPut
    · walk_at "my put"
    show WXn _ _ _ _ _ _ _ _
    clear T K1
    refine wxn_old ?_
    intro g T
    have K1 := Kg g
    refine ws_setx K1 ?_
    · refine evx_list ?_
      refine evl_nil ?_
      refine ⟨Nat.zero_le _, fun oq => ?_⟩
      apply exPut
      · walk_at "my put"
      show WXn _ _ _ _ _ _ _ _
      clear T K1
      refine wxn_old ?_
      intro g T
      have K1 := Kg g
      apply ws_setx K1 (e := pidxE)
      · refine evx_pidx (H := fun f c' ob' => ∃ ob1, Gd c' ob1 ∧ ob' = (f, LamO lamQ lamP lamB lamS c') :: (oq, SeqO "list" []) :: (ph, SeqO "list" []) :: ob1) (G.turn T) rfl hroom (evx_mono (hlam g T _ oq ph) fun v ob' h => ?_) ?_
        · obtain ⟨f, c', ob1, rfl, h1, rfl⟩ := h
          exact ⟨f, c', rfl, ob1, h1, rfl⟩
        · rintro f c' _ ⟨ob1, hG, rfl⟩ x dx m mt
          apply exPut
          · walk_at "my put"
          show WXn _ _ _ _ _ _ _ _
          clear T K1
          refine wxn_old ?_
          intro g T
          have K1 := Kg g
          apply ws_set K1 (v := .int 0)
          · walk_at "my evs"
          · walk_at "my put"
          show WXn _ _ _ _ _ _ _ _
          clear T K1
          refine wxn_old ?_
          intro g T
          have K1 := Kg g
          apply ws_set K1 (v := .val .none)
          · walk_at "my evs"
          · walk_at "my put"
          show WXn _ _ _ _ _ _ _ _
          refine wxn_perm (ob' := mob x dx ph oq ⟨0, false, false, [], [], sty, none, 1⟩ ((m, MapO mt f) :: (mt, TupO (.ref x)) :: (dx, EmpO) :: (f, LamO lamQ lamP lamB lamS c') :: ob1)) ?_ (hΦ f c' ob1 x dx m mt ph oq hG)
          exact perm7 _ _ _ _ _ _ _ _
end
end Mine
end
section
open PySem.Calls
set_option maxHeartbeats 4000000
namespace Mine

local macro_rules | `(tactic| walk_at "my has") => `(tactic| with_reducible (repeat (first | exact Has.here | apply Has.there)))
local macro_rules | `(tactic| walk_at "my put") => `(tactic| with_reducible (repeat (first | exact Put.here | apply Put.there)))
local macro_rules | `(tactic| walk_at "my lit") => `(tactic| with_reducible (first | exact lit_sq | exact lit_dq | exact lit_E | exact lit_bs | exact lit_mi | exact lit_dl | exact lit_co | exact lit_eq | exact lit_qm | exact lit_pc | exact lit_lp | exact lit_rp | exact lit_s | exact lit_us | exact lit_nl | exact lit_ce | exact lit_ps | exact lit_rs | exact lit_em | exact rfl))
local macro_rules | `(tactic| walk_at "my op") => `(tactic| with_reducible (first | exact op_eq_int | exact op_ne_int | exact op_lt_int | exact op_gt_int | exact op_le_int | exact op_eq_str | exact op_ne_str | exact op_in_str | exact op_notin_str | exact op_eq_none_str | exact op_ne_none_str | exact op_ne_bool | exact op_is_none | exact op_is_none_str | exact op_add_int | exact op_iadd_int | exact op_sub_int | exact op_eq_opt | exact op_ne_opt | exact op_none_opt))
local macro_rules | `(tactic| walk_at "my nu") => `(tactic| first | (intro h; cases h; done) | exact PVo_ne _)
local macro_rules | `(tactic| walk_at "my ev") => `(tactic| first
  | with_reducible exact ev_int | ((with_reducible refine' ev_str ?h1); (case h1 => walk_at "my lit")) | with_reducible exact ev_none | with_reducible exact ev_bool
  | ((with_reducible refine' ev_nm ?k1 ?h1 ?u1); (case k1 => assumption); (case h1 => walk_at "my has"; done); (case u1 => walk_at "my nu"))
  | with_reducible refine' ev_bin ?_ ?_ ?_ | ((with_reducible refine' ev_cmp ?_ ?_ ?_ ?m1); (case m1 => exact rfl)) | ((with_reducible refine' tr_cmp ?_ ?_ ?_ ?m1); (case m1 => exact rfl)) | with_reducible refine' tr_not ?_ | with_reducible refine' tr_op ?_
  | with_reducible refine' tra_and ?_ ?_ | with_reducible exact tra_and_nil | with_reducible refine' tra_or ?_ ?_ | with_reducible exact tra_or_nil
  | with_reducible refine' ev_neg ?_
  | walk_at "my op" | ((with_reducible refine' evl_cons1 ?_ ?_ ?m1); (case m1 => exact rfl)) | with_reducible refine' evl_nil ?_ | (guard_target =~ (_ = _ → _); intro _))
local macro_rules | `(tactic| walk_at "my evs") => `(tactic| repeat' (walk_at "my ev"))
local macro_rules | `(tactic| walk_at "my blt") => `(tactic| first | exact ev_globB (by assumption) (by kernel_rfl) boot_len (by decide +kernel) (by kernel_rfl) (by decide +kernel) | exact ev_globB (by assumption) (by kernel_rfl) boot_str (by decide +kernel) (by kernel_rfl) (by decide +kernel) | exact ev_globB (by assumption) (by kernel_rfl) boot_range (by decide +kernel) (by kernel_rfl) (by decide +kernel))
local macro_rules | `(tactic| walk_at "my fn") => `(tactic| exact ev_glob (by assumption) (by kernel_rfl) (by kernel_rfl) (by decide +kernel))
local macro_rules | `(tactic| walk_at "my puts") => `(tactic| (repeat (apply Puts.cons; (focus (walk_at "my put"; done)))); exact Puts.nil)
local macro_rules | `(tactic| walk_at "my nils") => `(tactic| repeat (first | with_reducible refine seq_nil ?_ | with_reducible refine wx_nil ?_))
local macro_rules | `(tactic| walk_at "my nnils") => `(tactic| repeat (first | with_reducible refine seqn_nil ?_ | with_reducible refine wxn_nil ?_))
local macro_rules | `(tactic| walk_at "my meth") => `(tactic| (apply ev_of_x; first | with_reducible apply evx_meth1 | with_reducible apply evx_meth0 | apply evx_meth1 | apply evx_meth0))

section
variable {prog : Program} {w : World} {p : Program} {loose : List Str} {mean : ExcName → Option Value} {mg mb : Str → Option Value} {c : Cf} {lo lo' : Lo} {ob ob' : Ob} {X : EPost} {Φ : Post} {pos : Pos}
theorem lpn_ne {tgt : Expr} {e it : Addr} {P P' : OP} {r : Ob} {body : List Stmt} (h : e ≠ it → Lpn prog w c lo ((e, P) :: (it, P') :: r) X tgt e body Φ) : Lpn prog w c lo ((e, P) :: (it, P') :: r) X tgt e body Φ := fun g T s Q E R q x pe =>
  h (fun q => (List.nodup_cons.mp R.1.obs.1).1 (by rw [q]; exact List.mem_cons_self ..)) g T s Q E R q x pe
theorem cv_for (G : Gu (Mine.hd.heap_39 w.params) p loose mean mg mb c) {L : Addr} (he : c.env = cvEnv w.params L) (hroom : c.A.depth < recursionLimit) {t : List Nat} {x dx ph oq pi mt f c' : Addr} {sty : Str} {r : Ob} (hl : t.length < 900) (hcp : ∀ z ∈ t, z < 16 ^ 8)
    (hlast : ∀ k ch, t[k]? = some ch → t[k + 1]? = none → ch ≠ 58)
    (hR : runM ⟨0, false, false, [], [], sty, none, 1⟩ t = none → ∀ e it k S lo' Φ' msg k0 p1 p2 p3 p4, WXn prog w c lo' (lob e it x dx ph oq t k S r) X [.Raise (some (.Call (.Name (Str.ofString "InterfaceError") p1) [.Constant (.str msg) k0 p2] [] p3)) none p4] Φ')
    (hS : ∀ S', runM ⟨0, false, false, [], [], sty, none, 1⟩ t = some S' → WXn prog w c (mlo t ph oq pi S' .un .un .un .un) (mob x dx ph oq S' r) X (cvPre.drop 1) Φ)
    (hr1 : (pi, MapO mt f) ∈ r) (hr2 : (mt, TupO (.ref x)) ∈ r) (hr4 : (dx, EmpO) ∈ r) (hr5 : (f, LamO lamQ lamP lamB lamS c') ∈ r) (hr6 : (c', CodeO lamQ) ∈ r) :
    WXn prog w c (mlo t ph oq pi ⟨0, false, false, [], [], sty, none, 1⟩ .un .un .un .un) (mob x dx ph oq ⟨0, false, false, [], [], sty, none, 1⟩ r) X cvPre Φ := by
  have hI : MInv 0 ⟨0, false, false, [], [], sty, none, 1⟩ := ⟨by simp, by simp, by simp, by simp, fun h => by cases h⟩
  show WXn _ _ _ _ _ _ (_ :: cvPre.drop 1) _
  refine wxn_cons ?_
  apply wsn_for
  · intro g T
    have loop := fun (e it : Addr) (hei : e ≠ it) => cv_loop (Φ := SeqN prog w c X (cvPre.drop 1) Φ) (X := X) (pi := pi) (mt := mt) (f := f) (c' := c') (t := t) (x := x) (dx := dx) (ph := ph) (oq := oq) (r := r) G he hroom hei hl hcp hlast (fun hn k S => hR hn e it k S) (fun S' hs => hS S' hs) hr1 hr2 hr4 hr5 hr6 _ 0 ⟨0, false, false, [], [], sty, none, 1⟩ rfl (Nat.zero_le _) hI rfl
    obtain ⟨A, env, h₀, os⟩ := c
    simp only at he
    subst he
    have K1 : (Cf.at ⟨A, cvEnv w.params L, h₀, os⟩ g).env.scope.kind = .function := G.kind
    have G1 := (G.turn T).gt
    apply evx_callT
    · exact ev_globB G1 (by kernel_rfl) boot_enumerate (by decide +kernel) (by kernel_rfl) (by decide +kernel)
    · walk_at "my evs"
      exact cl_enum fun e it => ⟨e, it, rfl, .head _, lpn_ne fun hei => loop e it hei⟩
    all_goals rfl
  · intro _; rfl
end
end Mine
end
section
open PySem.Calls
set_option maxHeartbeats 4000000
namespace Mine

local macro_rules | `(tactic| walk_at "my has") => `(tactic| with_reducible (repeat (first | exact Has.here | apply Has.there)))
local macro_rules | `(tactic| walk_at "my put") => `(tactic| with_reducible (repeat (first | exact Put.here | apply Put.there)))
local macro_rules | `(tactic| walk_at "my lit") => `(tactic| with_reducible (first | exact lit_sq | exact lit_dq | exact lit_E | exact lit_bs | exact lit_mi | exact lit_dl | exact lit_co | exact lit_eq | exact lit_qm | exact lit_pc | exact lit_lp | exact lit_rp | exact lit_s | exact lit_us | exact lit_nl | exact lit_ce | exact lit_ps | exact lit_rs | exact lit_em | exact rfl))
local macro_rules | `(tactic| walk_at "my op") => `(tactic| with_reducible (first | exact op_eq_int | exact op_ne_int | exact op_lt_int | exact op_gt_int | exact op_le_int | exact op_eq_str | exact op_ne_str | exact op_in_str | exact op_notin_str | exact op_eq_none_str | exact op_ne_none_str | exact op_ne_bool | exact op_is_none | exact op_is_none_str | exact op_add_int | exact op_iadd_int | exact op_sub_int | exact op_eq_opt | exact op_ne_opt | exact op_none_opt))
local macro_rules | `(tactic| walk_at "my nu") => `(tactic| first | (intro h; cases h; done) | exact PVo_ne _)
local macro_rules | `(tactic| walk_at "my ev") => `(tactic| first
  | with_reducible exact ev_int | ((with_reducible refine' ev_str ?h1); (case h1 => walk_at "my lit")) | with_reducible exact ev_none | with_reducible exact ev_bool
  | ((with_reducible refine' ev_nm ?k1 ?h1 ?u1); (case k1 => assumption); (case h1 => walk_at "my has"; done); (case u1 => walk_at "my nu"))
  | with_reducible refine' ev_bin ?_ ?_ ?_ | ((with_reducible refine' ev_cmp ?_ ?_ ?_ ?m1); (case m1 => exact rfl)) | ((with_reducible refine' tr_cmp ?_ ?_ ?_ ?m1); (case m1 => exact rfl)) | with_reducible refine' tr_not ?_ | with_reducible refine' tr_op ?_
  | with_reducible refine' tra_and ?_ ?_ | with_reducible exact tra_and_nil | with_reducible refine' tra_or ?_ ?_ | with_reducible exact tra_or_nil
  | with_reducible refine' ev_neg ?_
  | walk_at "my op" | ((with_reducible refine' evl_cons1 ?_ ?_ ?m1); (case m1 => exact rfl)) | with_reducible refine' evl_nil ?_ | (guard_target =~ (_ = _ → _); intro _))
local macro_rules | `(tactic| walk_at "my evs") => `(tactic| repeat' (walk_at "my ev"))
local macro_rules | `(tactic| walk_at "my blt") => `(tactic| first | exact ev_globB (by assumption) (by kernel_rfl) boot_len (by decide +kernel) (by kernel_rfl) (by decide +kernel) | exact ev_globB (by assumption) (by kernel_rfl) boot_str (by decide +kernel) (by kernel_rfl) (by decide +kernel) | exact ev_globB (by assumption) (by kernel_rfl) boot_range (by decide +kernel) (by kernel_rfl) (by decide +kernel))
local macro_rules | `(tactic| walk_at "my fn") => `(tactic| exact ev_glob (by assumption) (by kernel_rfl) (by kernel_rfl) (by decide +kernel))
local macro_rules | `(tactic| walk_at "my puts") => `(tactic| (repeat (apply Puts.cons; (focus (walk_at "my put"; done)))); exact Puts.nil)
local macro_rules | `(tactic| walk_at "my nils") => `(tactic| repeat (first | with_reducible refine seq_nil ?_ | with_reducible refine wx_nil ?_))
local macro_rules | `(tactic| walk_at "my nnils") => `(tactic| repeat (first | with_reducible refine seqn_nil ?_ | with_reducible refine wxn_nil ?_))
local macro_rules | `(tactic| walk_at "my meth") => `(tactic| (apply ev_of_x; first | with_reducible apply evx_meth1 | with_reducible apply evx_meth0 | apply evx_meth1 | apply evx_meth0))

/-- the state in which a frame raises: what of the ledger still stands -/
def XR (c : Cf) (ob0 : Ob) : EPost := fun ex s' => ∃ g lo s1 h' e vs, Tn c g ∧ Rep0 (c.at g) lo ob0 s1 ∧ Heap.MadeExcOf s1.heap h' e (.ref 44) vs ∧ ex = .ref e ∧ s' = { s1 with heap := h' }
section
variable {prog : Program} {w : World} {p : Program} {loose : List Str} {mean : ExcName → Option Value} {mg mb : Str → Option Value} {c : Cf}
theorem cv_raise (G : Gu (Mine.hd.heap_39 w.params) p loose mean mg mb c) {L : Addr} (he : c.env = cvEnv w.params L) {t : List Nat} {x dx ph oq e it : Addr} {r : Ob} {k : Nat} {S : MS} {lo' : Lo} {Φ' : Post} {msg : Str} {k0 : Nat} {p1 p2 p3 p4 : Pos} :
    WXn prog w c lo' (lob e it x dx ph oq t k S r) (XR c r) [.Raise (some (.Call (.Name (Str.ofString "InterfaceError") p1) [.Constant (.str msg) k0 p2] [] p3)) none p4] Φ' := by
  obtain ⟨A, env, h₀, os⟩ := c
  simp only at he
  subst he
  refine wxn_old ?_
  intro g T
  apply ws_raise (G.turn T).gt (C := 44)
  · kernel_rfl
  · exact exc44 _
  · kernel_rfl
  · decide +kernel
  · rfl
  · rfl
  · intro s h' e' vs R hm
    exact ⟨g, lo', s, h', e', vs, T, R.sub ((List.sublist_cons_self ..).trans ((List.sublist_cons_self ..).trans ((List.sublist_cons_self ..).trans ((List.sublist_cons_self ..).trans (List.sublist_cons_self ..))))), hm, rfl, rfl⟩
end
end Mine
end
section
open PySem.Calls
set_option maxHeartbeats 4000000
namespace Mine

local macro_rules | `(tactic| walk_at "my has") => `(tactic| with_reducible (repeat (first | exact Has.here | apply Has.there)))
local macro_rules | `(tactic| walk_at "my put") => `(tactic| with_reducible (repeat (first | exact Put.here | apply Put.there)))
local macro_rules | `(tactic| walk_at "my lit") => `(tactic| with_reducible (first | exact lit_sq | exact lit_dq | exact lit_E | exact lit_bs | exact lit_mi | exact lit_dl | exact lit_co | exact lit_eq | exact lit_qm | exact lit_pc | exact lit_lp | exact lit_rp | exact lit_s | exact lit_us | exact lit_nl | exact lit_ce | exact lit_ps | exact lit_rs | exact lit_em | exact rfl))
local macro_rules | `(tactic| walk_at "my op") => `(tactic| with_reducible (first | exact op_eq_int | exact op_ne_int | exact op_lt_int | exact op_gt_int | exact op_le_int | exact op_eq_str | exact op_ne_str | exact op_in_str | exact op_notin_str | exact op_eq_none_str | exact op_ne_none_str | exact op_ne_bool | exact op_is_none | exact op_is_none_str | exact op_add_int | exact op_iadd_int | exact op_sub_int | exact op_eq_opt | exact op_ne_opt | exact op_none_opt))
local macro_rules | `(tactic| walk_at "my nu") => `(tactic| first | (intro h; cases h; done) | exact PVo_ne _)
local macro_rules | `(tactic| walk_at "my ev") => `(tactic| first
  | with_reducible exact ev_int | ((with_reducible refine' ev_str ?h1); (case h1 => walk_at "my lit")) | with_reducible exact ev_none | with_reducible exact ev_bool
  | ((with_reducible refine' ev_nm ?k1 ?h1 ?u1); (case k1 => assumption); (case h1 => walk_at "my has"; done); (case u1 => walk_at "my nu"))
  | with_reducible refine' ev_bin ?_ ?_ ?_ | ((with_reducible refine' ev_cmp ?_ ?_ ?_ ?m1); (case m1 => exact rfl)) | ((with_reducible refine' tr_cmp ?_ ?_ ?_ ?m1); (case m1 => exact rfl)) | with_reducible refine' tr_not ?_ | with_reducible refine' tr_op ?_
  | with_reducible refine' tra_and ?_ ?_ | with_reducible exact tra_and_nil | with_reducible refine' tra_or ?_ ?_ | with_reducible exact tra_or_nil
  | with_reducible refine' ev_neg ?_
  | walk_at "my op" | ((with_reducible refine' evl_cons1 ?_ ?_ ?m1); (case m1 => exact rfl)) | with_reducible refine' evl_nil ?_ | (guard_target =~ (_ = _ → _); intro _))
local macro_rules | `(tactic| walk_at "my evs") => `(tactic| repeat' (walk_at "my ev"))
local macro_rules | `(tactic| walk_at "my blt") => `(tactic| first | exact ev_globB (by assumption) (by kernel_rfl) boot_len (by decide +kernel) (by kernel_rfl) (by decide +kernel) | exact ev_globB (by assumption) (by kernel_rfl) boot_str (by decide +kernel) (by kernel_rfl) (by decide +kernel) | exact ev_globB (by assumption) (by kernel_rfl) boot_range (by decide +kernel) (by kernel_rfl) (by decide +kernel))
local macro_rules | `(tactic| walk_at "my fn") => `(tactic| exact ev_glob (by assumption) (by kernel_rfl) (by kernel_rfl) (by decide +kernel))
local macro_rules | `(tactic| walk_at "my puts") => `(tactic| (repeat (apply Puts.cons; (focus (walk_at "my put"; done)))); exact Puts.nil)
local macro_rules | `(tactic| walk_at "my nils") => `(tactic| repeat (first | with_reducible refine seq_nil ?_ | with_reducible refine wx_nil ?_))
local macro_rules | `(tactic| walk_at "my nnils") => `(tactic| repeat (first | with_reducible refine seqn_nil ?_ | with_reducible refine wxn_nil ?_))
local macro_rules | `(tactic| walk_at "my meth") => `(tactic| (apply ev_of_x; first | with_reducible apply evx_meth1 | with_reducible apply evx_meth0 | apply evx_meth1 | apply evx_meth0))

theorem endN_two {phs : List Str} (h : phs.length ≤ 1000) : (endN phs).2.length ≤ 5 := by
  unfold endN
  dsimp only
  by_cases hc : (phs.dropLast.any (· == phs.getLastD ⟨#[]⟩)) = true
  · rw [if_pos hc]
    have h1 : phs.dropLast.idxOf (phs.getLastD ⟨#[]⟩) ≤ phs.dropLast.length := List.idxOf_le_length
    have h2 : phs.dropLast.length ≤ 1000 := by simp; omega
    have := dig_len (phs.dropLast.idxOf (phs.getLastD ⟨#[]⟩) + 1) (by omega)
    show (36 :: dig _).length ≤ 5
    rw [List.length_cons]; omega
  · rw [if_neg hc]
    have := dig_len phs.length (by omega)
    show (36 :: dig _).length ≤ 5
    rw [List.length_cons]; omega
def Grows (S S' : MS) : Prop := S'.out = S.out ∨ ∃ l, S'.out = S.out ++ [tx l] ∧ l.length ≤ 5
theorem turn_out {k ch : Nat} {nx : Option Nat} {S S' : MS} (hk : k ≤ 990) (I : MInv k S) (h : turn0 S ch nx = some S') : Grows S S' := by
  obtain ⟨st, iq, ip, phs, out, style, prev, cnt⟩ := S
  have i2 : phs.length ≤ k := I.phs
  have i3 : cnt ≤ k + 1 := I.cnt
  have hd := dig_len cnt (by omega)
  have one : ∀ (z : Nat) (S1 : MS), S1.out = out ++ [tx [z]] → Grows ⟨st, iq, ip, phs, out, style, prev, cnt⟩ S1 := fun z S1 e => .inr ⟨[z], e, by simp⟩
  have num : ∀ (S1 : MS), S1.out = out ++ [tx (36 :: dig cnt)] → Grows ⟨st, iq, ip, phs, out, style, prev, cnt⟩ S1 := fun S1 e => .inr ⟨_, e, by rw [List.length_cons]; omega⟩
  have en : ∀ (q : List Str) (S1 : MS), q.length ≤ 1000 → S1.out = out ++ [tx (endN q).2] → Grows ⟨st, iq, ip, phs, out, style, prev, cnt⟩ S1 := fun q S1 hq e => .inr ⟨_, e, endN_two hq⟩
  have no : ∀ (S1 : MS), S1.out = out → Grows ⟨st, iq, ip, phs, out, style, prev, cnt⟩ S1 := fun S1 e => .inl e
  unfold turn0 at h
  dsimp only at h
  by_cases h0 : (st == 0) = true
  · rw [if_pos h0] at h
    unfold tOut at h
    dsimp only at h
    by_cases hc0 : (ch == 39) = true
    · rw [if_pos hc0] at h; cases h; exact one _ _ rfl
    rw [if_neg hc0] at h
    by_cases hc1 : (ch == 34) = true
    · rw [if_pos hc1] at h; cases h; exact one _ _ rfl
    rw [if_neg hc1] at h
    by_cases hc2 : (ch == 45) = true
    · rw [if_pos hc2] at h; cases h; exact one _ _ rfl
    rw [if_neg hc2] at h
    by_cases hc3 : (ch == 36) = true
    · rw [if_pos hc3] at h; cases h; exact one _ _ rfl
    rw [if_neg hc3] at h
    by_cases hc4 : (style == sQ && (ch == 63 && true)) = true
    · rw [if_pos hc4] at h; cases h; exact num _ rfl
    rw [if_neg hc4] at h
    by_cases hc5 : (style == sN && (ch == 58 && (!decide (nx.getD 0 ∈ [58, 61]) && ((prev != some 58) && true)))) = true
    · rw [if_pos hc5] at h; cases h; exact one _ _ rfl
    rw [if_neg hc5] at h
    by_cases hc6 : (style == sD && (ch == 58 && (!decide (nx.getD 0 ∈ [58, 61]) && ((prev != some 58) && true)))) = true
    · rw [if_pos hc6] at h; cases h; exact no _ rfl
    rw [if_neg hc6] at h
    by_cases hc7 : (style == sP && (ch == 37 && ((nx == some 40) && true))) = true
    · rw [if_pos hc7] at h; cases h; exact no _ rfl
    rw [if_neg hc7] at h
    by_cases hc8 : ([sF, sP].any (· == style) && (ch == 37 && true)) = true
    · rw [if_pos hc8] at h
      by_cases hc9 : ip = true
      · rw [if_pos hc9] at h; cases h; exact one _ _ rfl
      rw [if_neg hc9] at h
      by_cases hca : (nx == some 37) = true
      · rw [if_pos hca] at h; cases h; exact no _ rfl
      rw [if_neg hca] at h
      by_cases hcb : (nx == some 115) = true
      · rw [if_pos hcb] at h; cases h; exact num _ rfl
      rw [if_neg hcb] at h; cases h
    rw [if_neg hc8] at h; cases h; exact one _ _ rfl
  rw [if_neg h0] at h
  by_cases h1 : (st == 1) = true
  · rw [if_pos h1] at h; cases h
    refine one ch _ ?_
    show (ite _ _ _ : MS).out ++ _ = _
    (repeat' split) <;> rfl
  rw [if_neg h1] at h
  by_cases h2 : (st == 2) = true
  · rw [if_pos h2] at h; cases h
    refine one ch _ ?_
    show (ite _ _ _ : MS).out ++ _ = _
    (repeat' split) <;> rfl
  rw [if_neg h2] at h
  by_cases h3 : (st == 3) = true
  · rw [if_pos h3] at h; cases h
    refine one ch _ ?_
    show (ite _ _ _ : MS).out ++ _ = _
    (repeat' split) <;> rfl
  rw [if_neg h3] at h
  by_cases h6 : (st == 6) = true
  · rw [if_pos h6] at h; cases h
    refine one ch _ ?_
    show (ite _ _ _ : MS).out ++ _ = _
    (repeat' split) <;> rfl
  rw [if_neg h6] at h
  by_cases h4 : (st == 4) = true
  · rw [if_pos h4] at h; cases h
    have ipn := I.pn (by simpa using h4)
    have e1 : sF ≠ sD := by decide +kernel
    unfold tPN
    dsimp only
    by_cases hs : (style == sD) = true
    · rw [if_pos hs]
      have hne : phs ≠ [] := ipn.resolve_left (fun e => by have e : style = sF := e; have hs2 : style = sD := (by simpa using hs); exact e1 (Eq.trans (Eq.symm e) hs2))
      have a1 := addL_len (c := ch) hne i2
      split
      · exact en _ _ (by omega) rfl
      · exact no _ rfl
    rw [if_neg hs]
    by_cases hs : (style == sP) = true
    · rw [if_pos hs]
      split
      · exact en _ _ (by omega) rfl
      split
      · exact no _ rfl
      · exact no _ rfl
    rw [if_neg hs]
    split
    · exact no _ rfl
    · exact no _ rfl
  rw [if_neg h4] at h
  by_cases h5 : (st == 5) = true
  · rw [if_pos h5] at h; cases h
    refine one ch _ ?_
    show (ite _ _ _ : MS).out = _
    split <;> rfl
  rw [if_neg h5] at h; cases h; exact no _ rfl
theorem runM_out : ∀ (l : List Nat) (k : Nat) (S S' : MS), k + l.length ≤ 990 → (∀ z ∈ l, z < 16 ^ 8) → MInv k S → (∀ z ∈ S.out, z.length ≤ 5) → runM S l = some S' → MInv (k + l.length) S' ∧ ∀ z ∈ S'.out, z.length ≤ 5
  | [], k, S, S', hk, hc, I, ho, h => by cases h; exact ⟨I, ho⟩
  | ch :: r, k, S, S', hk, hc, I, ho, h => by
    have h : (turn S ch r.head?).bind (fun S1 => runM S1 r) = some S' := h
    unfold turn at h
    cases ht : turn0 S ch r.head? with
    | none => rw [ht] at h; cases h
    | some S1 =>
      rw [ht] at h
      have h : runM { S1 with prev := some ch } r = some S' := h
      simp only [List.length_cons] at hk
      have I1 := (turn_inv (hc ch (by simp)) I ht).prev (some ch)
      have g := turn_out (by omega) I ht
      have ho1 : ∀ z ∈ S1.out, z.length ≤ 5 := by
        intro z hz
        rcases g with e | ⟨l, e, hl⟩
        · rw [e] at hz; exact ho z hz
        · rw [e] at hz
          rcases List.mem_append.mp hz with hz | hz
          · exact ho z hz
          · rw [List.mem_singleton.mp hz, tx_len]; exact hl
      have := runM_out r (k + 1) { S1 with prev := some ch } S' (by omega) (fun z hz => hc z (by simp [hz])) I1 ho1 h
      refine ⟨?_, this.2⟩
      have e : k + 1 + r.length = k + (ch :: r).length := by simp; omega
      rw [← e]; exact this.1
end Mine
end
section
open PySem.Calls
set_option maxHeartbeats 4000000
namespace Mine

local macro_rules | `(tactic| walk_at "my has") => `(tactic| with_reducible (repeat (first | exact Has.here | apply Has.there)))
local macro_rules | `(tactic| walk_at "my put") => `(tactic| with_reducible (repeat (first | exact Put.here | apply Put.there)))
local macro_rules | `(tactic| walk_at "my lit") => `(tactic| with_reducible (first | exact lit_sq | exact lit_dq | exact lit_E | exact lit_bs | exact lit_mi | exact lit_dl | exact lit_co | exact lit_eq | exact lit_qm | exact lit_pc | exact lit_lp | exact lit_rp | exact lit_s | exact lit_us | exact lit_nl | exact lit_ce | exact lit_ps | exact lit_rs | exact lit_em | exact rfl))
local macro_rules | `(tactic| walk_at "my op") => `(tactic| with_reducible (first | exact op_eq_int | exact op_ne_int | exact op_lt_int | exact op_gt_int | exact op_le_int | exact op_eq_str | exact op_ne_str | exact op_in_str | exact op_notin_str | exact op_eq_none_str | exact op_ne_none_str | exact op_ne_bool | exact op_is_none | exact op_is_none_str | exact op_add_int | exact op_iadd_int | exact op_sub_int | exact op_eq_opt | exact op_ne_opt | exact op_none_opt))
local macro_rules | `(tactic| walk_at "my nu") => `(tactic| first | (intro h; cases h; done) | exact PVo_ne _)
local macro_rules | `(tactic| walk_at "my ev") => `(tactic| first
  | with_reducible exact ev_int | ((with_reducible refine' ev_str ?h1); (case h1 => walk_at "my lit")) | with_reducible exact ev_none | with_reducible exact ev_bool
  | ((with_reducible refine' ev_nm ?k1 ?h1 ?u1); (case k1 => assumption); (case h1 => walk_at "my has"; done); (case u1 => walk_at "my nu"))
  | with_reducible refine' ev_bin ?_ ?_ ?_ | ((with_reducible refine' ev_cmp ?_ ?_ ?_ ?m1); (case m1 => exact rfl)) | ((with_reducible refine' tr_cmp ?_ ?_ ?_ ?m1); (case m1 => exact rfl)) | with_reducible refine' tr_not ?_ | with_reducible refine' tr_op ?_
  | with_reducible refine' tra_and ?_ ?_ | with_reducible exact tra_and_nil | with_reducible refine' tra_or ?_ ?_ | with_reducible exact tra_or_nil
  | with_reducible refine' ev_neg ?_
  | walk_at "my op" | ((with_reducible refine' evl_cons1 ?_ ?_ ?m1); (case m1 => exact rfl)) | with_reducible refine' evl_nil ?_ | (guard_target =~ (_ = _ → _); intro _))
local macro_rules | `(tactic| walk_at "my evs") => `(tactic| repeat' (walk_at "my ev"))
local macro_rules | `(tactic| walk_at "my blt") => `(tactic| first | exact ev_globB (by assumption) (by kernel_rfl) boot_len (by decide +kernel) (by kernel_rfl) (by decide +kernel) | exact ev_globB (by assumption) (by kernel_rfl) boot_str (by decide +kernel) (by kernel_rfl) (by decide +kernel) | exact ev_globB (by assumption) (by kernel_rfl) boot_range (by decide +kernel) (by kernel_rfl) (by decide +kernel))
local macro_rules | `(tactic| walk_at "my fn") => `(tactic| exact ev_glob (by assumption) (by kernel_rfl) (by kernel_rfl) (by decide +kernel))
local macro_rules | `(tactic| walk_at "my puts") => `(tactic| (repeat (apply Puts.cons; (focus (walk_at "my put"; done)))); exact Puts.nil)
local macro_rules | `(tactic| walk_at "my nils") => `(tactic| repeat (first | with_reducible refine seq_nil ?_ | with_reducible refine wx_nil ?_))
local macro_rules | `(tactic| walk_at "my nnils") => `(tactic| repeat (first | with_reducible refine seqn_nil ?_ | with_reducible refine wxn_nil ?_))
local macro_rules | `(tactic| walk_at "my meth") => `(tactic| (apply ev_of_x; first | with_reducible apply evx_meth1 | with_reducible apply evx_meth0 | apply evx_meth1 | apply evx_meth0))

def J (l : List Str) : List Nat := l.flatMap fun z => z.cps.toList
theorem J_snoc (o : List Str) (l : List Nat) : J (o ++ [tx l]) = J o ++ l := by simp [J, tx]
theorem run_step {t : List Nat} {k : Nat} (hk : k < t.length) (S : MS) : runM S (t.drop k) = (turn S t[k] t[k + 1]?).bind fun S' => runM S' (t.drop (k + 1)) := by
  rw [List.drop_eq_getElem_cons hk]
  show (turn S t[k] (t.drop (k + 1)).head?).bind _ = _
  rw [List.head?_drop]
theorem run_step0 {t : List Nat} {k : Nat} (hk : k < t.length) {S S' : MS} (h : turn0 S t[k] t[k + 1]? = some S') : runM S (t.drop k) = runM { S' with prev := some t[k] } (t.drop (k + 1)) := by
  rw [run_step hk]; unfold turn; rw [h]; rfl
theorem cut_cons {t : List Nat} {i e : Nat} (hi : i < t.length) (he : i < e) : cut t i e = t[i] :: cut t (i + 1) e := by
  unfold cut
  rw [List.drop_eq_getElem_cons (by simp; omega)]
  simp
theorem cut_self (t : List Nat) (i : Nat) : cut t i i = [] := by simp [cut]
theorem cut_over {t : List Nat} {i e : Nat} (h : t.length ≤ i) : cut t i e = [] := by
  unfold cut; apply List.drop_eq_nil_of_le; simp; omega
/-- what a region leaves as it was -/
structure Keep (S S' : MS) : Prop where
  ip : S'.ip = S.ip
  phs : S'.phs = S.phs
  style : S'.style = S.style
  cnt : S'.cnt = S.cnt
theorem Keep.refl (S : MS) : Keep S S := ⟨rfl, rfl, rfl, rfl⟩
theorem Keep.trans {S S1 S2 : MS} (a : Keep S S1) (b : Keep S1 S2) : Keep S S2 := ⟨b.ip.trans a.ip, b.phs.trans a.phs, b.style.trans a.style, b.cnt.trans a.cnt⟩
/-- the machine stands behind a region that ends at e -/
structure Past (t : List Nat) (i e : Nat) (S S' : MS) : Prop where
  run : runM S (t.drop i) = runM S' (t.drop e)
  out : J S'.out = J S.out ++ cut t i e
  keep : Keep S S'
  back : e < t.length → S'.st = 0 ∧ S'.iq = false ∧ S'.prev = t[e - 1]?
theorem Past.cons {t : List Nat} {i e : Nat} (hi : i < t.length) (he : i < e) {S S1 S' : MS} (h : turn0 S t[i] t[i + 1]? = some S1) (ho : S1.out = S.out ++ [tx [t[i]]]) (hk : Keep S S1) (P : Past t (i + 1) e { S1 with prev := some t[i] } S') : Past t i e S S' :=
  ⟨by rw [run_step0 hi h]; exact P.run, by rw [P.out, cut_cons hi he]; show J S1.out ++ _ = _; rw [ho, J_snoc]; simp, hk.trans ⟨P.keep.ip, P.keep.phs, P.keep.style, P.keep.cnt⟩, P.back⟩
theorem Past.nil {t : List Nat} {i : Nat} {S : MS} (h : i < t.length → S.st = 0 ∧ S.iq = false ∧ S.prev = t[i - 1]?) : Past t i i S S := ⟨rfl, by rw [cut_self]; simp, Keep.refl S, h⟩
theorem upF_le (t : List Nat) (c i : Nat) (h : i ≤ t.length) : i ≤ upF t c i := by
  fun_induction upF t c i with
  | case1 i h1 h2 => omega
  | case2 i h1 h2 ih => have := ih (by omega); omega
  | case3 i h1 => omega
/-- a quoted name or a comment -/
theorem past_up {t : List Nat} {c s : Nat} (hs : (s = 2 ∧ c = 34) ∨ (s = 5 ∧ c = 10)) : ∀ n i S, t.length - i = n → i ≤ t.length → S.st = s → S.iq = false → ∃ S', Past t i (upF t c i) S S' := by
  intro n
  induction n with
  | zero =>
    intro i S hn hi hst hiq
    rw [upF, dif_neg (by omega)]
    have : i = t.length := by omega
    subst this
    exact ⟨S, Past.nil (by omega)⟩
  | succ n ih =>
    intro i S hn hi hst hiq
    have hlt : i < t.length := by omega
    obtain ⟨st, iq, ip, phs, out, style, prev, cnt⟩ := S
    simp only at hst hiq
    subst hst hiq
    by_cases hc : (t[i] == c) = true
    · have hu : upF t c i = i + 1 := by rw [upF, dif_pos hlt, if_pos hc]
      rw [hu]
      refine ⟨_, Past.cons (S1 := ⟨0, false, ip, phs, out ++ [tx [t[i]]], style, prev, cnt⟩) hlt (by omega) ?_ rfl ⟨rfl, rfl, rfl, rfl⟩ (Past.nil fun _ => ⟨rfl, rfl, by simp [hlt]⟩)⟩
      rcases hs with ⟨rfl, rfl⟩ | ⟨rfl, rfl⟩ <;> simp [turn0, outS, hc]
    · have hu : upF t c i = upF t c (i + 1) := by rw [upF, dif_pos hlt, if_neg hc]
      rw [hu]
      have hge := upF_le t c (i + 1) (by omega)
      obtain ⟨S', P⟩ := ih (i + 1) ⟨st, false, ip, phs, out ++ [tx [t[i]]], style, some t[i], cnt⟩ (by omega) (by omega) rfl rfl
      refine ⟨S', Past.cons (S1 := ⟨st, false, ip, phs, out ++ [tx [t[i]]], style, prev, cnt⟩) hlt (by omega) ?_ rfl ⟨rfl, rfl, rfl, rfl⟩ P⟩
      rcases hs with ⟨rfl, rfl⟩ | ⟨rfl, rfl⟩ <;> simp [turn0, outS, hc]
theorem pairF_stop (t : List Nat) (s g : Nat) (ia : Bool) (i : Nat) (h : i ≤ t.length) : pairF t s g ia i ≤ t.length := by
  fun_induction pairF t s g ia i with
  | case1 i h1 h2 ih => exact ih (by omega)
  | case2 i h1 h2 => omega
  | case3 i h1 => omega
theorem getD_prev {t : List Nat} {i : Nat} (h1 : 1 ≤ i) (h : i ≤ t.length) : t[i - 1]? = some (t.getD (i - 1) 0) := getD_get (by omega)
/-- a text with escapes, or one between double dollars -/
theorem past_pair {t : List Nat} {s c g : Nat} {ia : Bool} (hs : (s = 3 ∧ c = 39 ∧ g = 92 ∧ ia = false) ∨ (s = 6 ∧ c = 36 ∧ g = 36 ∧ ia = true)) : ∀ n i S, t.length - i = n → 1 ≤ i → i ≤ t.length → S.st = s → S.iq = false → S.prev = t[i - 1]? → ∃ S', Past t i (pairF t c g ia i + 1) S S' := by
  intro n
  induction n with
  | zero =>
    intro i S hn h1 hi hst hiq hp
    rw [pairF, dif_neg (by omega)]
    have : i = t.length := by omega
    subst this
    refine ⟨S, ?_, ?_, Keep.refl S, fun h => by omega⟩
    · rw [List.drop_eq_nil_of_le (by omega), List.drop_eq_nil_of_le (by omega)]
    · rw [cut_over (Nat.le_refl _)]; simp
  | succ n ih =>
    intro i S hn h1 hi hst hiq hp
    have hlt : i < t.length := by omega
    obtain ⟨st, iq, ip, phs, out, style, prev, cnt⟩ := S
    simp only at hst hiq hp
    subst hst hiq
    rw [getD_prev h1 hi] at hp
    subst hp
    by_cases hc : (t[i] != c || ((t.getD (i - 1) 0 == g) != ia)) = true
    · have hu : pairF t c g ia i = pairF t c g ia (i + 1) := by rw [pairF, dif_pos hlt, if_pos hc]
      rw [hu]
      have hge := pairF_le t c g ia (i + 1)
      obtain ⟨S', P⟩ := ih (i + 1) ⟨st, false, ip, phs, out ++ [tx [t[i]]], style, some t[i], cnt⟩ (by omega) (by omega) (by omega) rfl rfl (by simp [hlt])
      refine ⟨S', Past.cons (S1 := ⟨st, false, ip, phs, out ++ [tx [t[i]]], style, some (t.getD (i - 1) 0), cnt⟩) hlt (by omega) ?_ rfl ⟨rfl, rfl, rfl, rfl⟩ P⟩
      rcases hs with ⟨rfl, rfl, rfl, rfl⟩ | ⟨rfl, rfl, rfl, rfl⟩
      · have hc' : ¬ (t[i] = 39 ∧ ¬ t.getD (i - 1) 0 = 92) := by simp at hc ⊢; intro h; simpa [h] using hc
        unfold turn0
        simp only [show ((3 : Nat) == 0) = false from rfl, show ((3 : Nat) == 1) = false from rfl, show ((3 : Nat) == 2) = false from rfl, show ((3 : Nat) == 3) = true from rfl, Bool.false_eq_true, if_false, if_true]
        rw [if_neg (by simpa using hc')]
        rfl
      · have hc' : ¬ (t[i] = 36 ∧ t.getD (i - 1) 0 = 36) := by simp at hc ⊢; intro h; simpa [h] using hc
        unfold turn0
        simp only [show ((6 : Nat) == 0) = false from rfl, show ((6 : Nat) == 1) = false from rfl, show ((6 : Nat) == 2) = false from rfl, show ((6 : Nat) == 3) = false from rfl, show ((6 : Nat) == 6) = true from rfl, Bool.false_eq_true, if_false, if_true]
        rw [if_neg (by simpa using hc')]
        rfl
    · have hu : pairF t c g ia i = i := by rw [pairF, dif_pos hlt, if_neg hc]
      rw [hu]
      refine ⟨_, Past.cons (S1 := ⟨0, false, ip, phs, out ++ [tx [t[i]]], style, some (t.getD (i - 1) 0), cnt⟩) hlt (by omega) ?_ rfl ⟨rfl, rfl, rfl, rfl⟩ (Past.nil fun _ => ⟨rfl, rfl, by simp [hlt]⟩)⟩
      rcases hs with ⟨rfl, rfl, rfl, rfl⟩ | ⟨rfl, rfl, rfl, rfl⟩
      · have hc' : t[i] = 39 ∧ ¬ t.getD (i - 1) 0 = 92 := by simp at hc; simpa using hc
        unfold turn0
        simp only [show ((3 : Nat) == 0) = false from rfl, show ((3 : Nat) == 1) = false from rfl, show ((3 : Nat) == 2) = false from rfl, show ((3 : Nat) == 3) = true from rfl, Bool.false_eq_true, if_false, if_true]
        rw [if_pos (by simpa using hc')]
        rfl
      · have hc' : t[i] = 36 ∧ t.getD (i - 1) 0 = 36 := by simp at hc; simpa using hc
        unfold turn0
        simp only [show ((6 : Nat) == 0) = false from rfl, show ((6 : Nat) == 1) = false from rfl, show ((6 : Nat) == 2) = false from rfl, show ((6 : Nat) == 3) = false from rfl, show ((6 : Nat) == 6) = true from rfl, Bool.false_eq_true, if_false, if_true]
        rw [if_pos (by simpa using hc')]
        rfl
theorem plainF_le (t : List Nat) (i : Nat) : i ≤ plainF t i := by
  fun_induction plainF t i <;> omega
theorem cut_one {t : List Nat} {i z : Nat} : cut t i (i + 1) = [z] ↔ t[i]? = some z := by
  by_cases h : i < t.length
  · rw [cut_cons h (by omega), cut_self, List.getElem?_eq_getElem h]; simp
  · rw [cut_over (by omega), List.getElem?_eq_none (by omega)]; simp
/-- a plain text -/
theorem past_plain {t : List Nat} : ∀ n i S, t.length - i = n → S.st = 1 → S.iq = false → ∃ S', Past t i (plainF t i) S S' := by
  intro n
  induction n using Nat.strongRecOn with | ind n ih => ?_
  intro i S hn hst hiq
  obtain ⟨st, iq, ip, phs, out, style, prev, cnt⟩ := S
  simp only at hst hiq
  subst hst hiq
  by_cases hlt : i < t.length
  · by_cases hc : (t[i] != 39) = true
    · have hu : plainF t i = plainF t (i + 1) := by rw [plainF, dif_pos hlt, if_pos hc]
      rw [hu]
      have hge := plainF_le t (i + 1)
      obtain ⟨S', P⟩ := ih (t.length - (i + 1)) (by omega) (i + 1) ⟨1, false, ip, phs, out ++ [tx [t[i]]], style, some t[i], cnt⟩ rfl rfl rfl
      refine ⟨S', Past.cons (S1 := ⟨1, false, ip, phs, out ++ [tx [t[i]]], style, prev, cnt⟩) hlt (by omega) ?_ rfl ⟨rfl, rfl, rfl, rfl⟩ P⟩
      have : ¬ t[i] = 39 := by simpa using hc
      simp [turn0, outS, this]
    · have h39 : t[i] = 39 := by simpa using hc
      by_cases h2 : (cut t (i + 1) (i + 2) == [39]) = true
      · have hu : plainF t i = plainF t (i + 2) := by rw [plainF, dif_pos hlt, if_neg hc, if_pos h2]
        rw [hu]
        have hge := plainF_le t (i + 2)
        have hnx : t[i + 1]? = some 39 := cut_one.mp (by simpa using h2)
        have hlt1 : i + 1 < t.length := by
          rcases Nat.lt_or_ge (i + 1) t.length with h | h
          · exact h
          · rw [List.getElem?_eq_none h] at hnx; cases hnx
        have h39b : t[i + 1] = 39 := by rw [List.getElem?_eq_getElem hlt1] at hnx; exact Option.some.inj hnx
        obtain ⟨S', P⟩ := ih (t.length - (i + 2)) (by omega) (i + 2) ⟨1, false, ip, phs, out ++ [tx [t[i]]] ++ [tx [t[i + 1]]], style, some t[i + 1], cnt⟩ rfl rfl rfl
        refine ⟨S', Past.cons (S1 := ⟨1, true, ip, phs, out ++ [tx [t[i]]], style, prev, cnt⟩) hlt (by omega) ?_ rfl ⟨rfl, rfl, rfl, rfl⟩ (Past.cons (S1 := ⟨1, false, ip, phs, out ++ [tx [t[i]]] ++ [tx [t[i + 1]]], style, some t[i], cnt⟩) hlt1 (by omega) ?_ rfl ⟨rfl, rfl, rfl, rfl⟩ P)⟩
        · simp [turn0, outS, h39, hnx]
        · simp [turn0, outS, h39b]
      · have hu : plainF t i = i + 1 := by rw [plainF, dif_pos hlt, if_neg hc, if_neg h2]
        rw [hu]
        have hnx : ¬ t[i + 1]? = some 39 := fun h => h2 (by simpa using cut_one.mpr h)
        refine ⟨_, Past.cons (S1 := ⟨0, false, ip, phs, out ++ [tx [t[i]]], style, prev, cnt⟩) hlt (by omega) ?_ rfl ⟨rfl, rfl, rfl, rfl⟩ (Past.nil fun _ => ⟨rfl, rfl, by simp [hlt]⟩)⟩
        simp [turn0, outS, h39, hnx]
  · rw [plainF, dif_neg hlt]
    exact ⟨_, Past.nil (by omega)⟩
end Mine
end
section
open PySem.Calls
set_option maxHeartbeats 4000000
namespace Mine

local macro_rules | `(tactic| walk_at "my has") => `(tactic| with_reducible (repeat (first | exact Has.here | apply Has.there)))
local macro_rules | `(tactic| walk_at "my put") => `(tactic| with_reducible (repeat (first | exact Put.here | apply Put.there)))
local macro_rules | `(tactic| walk_at "my lit") => `(tactic| with_reducible (first | exact lit_sq | exact lit_dq | exact lit_E | exact lit_bs | exact lit_mi | exact lit_dl | exact lit_co | exact lit_eq | exact lit_qm | exact lit_pc | exact lit_lp | exact lit_rp | exact lit_s | exact lit_us | exact lit_nl | exact lit_ce | exact lit_ps | exact lit_rs | exact lit_em | exact rfl))
local macro_rules | `(tactic| walk_at "my op") => `(tactic| with_reducible (first | exact op_eq_int | exact op_ne_int | exact op_lt_int | exact op_gt_int | exact op_le_int | exact op_eq_str | exact op_ne_str | exact op_in_str | exact op_notin_str | exact op_eq_none_str | exact op_ne_none_str | exact op_ne_bool | exact op_is_none | exact op_is_none_str | exact op_add_int | exact op_iadd_int | exact op_sub_int | exact op_eq_opt | exact op_ne_opt | exact op_none_opt))
local macro_rules | `(tactic| walk_at "my nu") => `(tactic| first | (intro h; cases h; done) | exact PVo_ne _)
local macro_rules | `(tactic| walk_at "my ev") => `(tactic| first
  | with_reducible exact ev_int | ((with_reducible refine' ev_str ?h1); (case h1 => walk_at "my lit")) | with_reducible exact ev_none | with_reducible exact ev_bool
  | ((with_reducible refine' ev_nm ?k1 ?h1 ?u1); (case k1 => assumption); (case h1 => walk_at "my has"; done); (case u1 => walk_at "my nu"))
  | with_reducible refine' ev_bin ?_ ?_ ?_ | ((with_reducible refine' ev_cmp ?_ ?_ ?_ ?m1); (case m1 => exact rfl)) | ((with_reducible refine' tr_cmp ?_ ?_ ?_ ?m1); (case m1 => exact rfl)) | with_reducible refine' tr_not ?_ | with_reducible refine' tr_op ?_
  | with_reducible refine' tra_and ?_ ?_ | with_reducible exact tra_and_nil | with_reducible refine' tra_or ?_ ?_ | with_reducible exact tra_or_nil
  | with_reducible refine' ev_neg ?_
  | walk_at "my op" | ((with_reducible refine' evl_cons1 ?_ ?_ ?m1); (case m1 => exact rfl)) | with_reducible refine' evl_nil ?_ | (guard_target =~ (_ = _ → _); intro _))
local macro_rules | `(tactic| walk_at "my evs") => `(tactic| repeat' (walk_at "my ev"))
local macro_rules | `(tactic| walk_at "my blt") => `(tactic| first | exact ev_globB (by assumption) (by kernel_rfl) boot_len (by decide +kernel) (by kernel_rfl) (by decide +kernel) | exact ev_globB (by assumption) (by kernel_rfl) boot_str (by decide +kernel) (by kernel_rfl) (by decide +kernel) | exact ev_globB (by assumption) (by kernel_rfl) boot_range (by decide +kernel) (by kernel_rfl) (by decide +kernel))
local macro_rules | `(tactic| walk_at "my fn") => `(tactic| exact ev_glob (by assumption) (by kernel_rfl) (by kernel_rfl) (by decide +kernel))
local macro_rules | `(tactic| walk_at "my puts") => `(tactic| (repeat (apply Puts.cons; (focus (walk_at "my put"; done)))); exact Puts.nil)
local macro_rules | `(tactic| walk_at "my nils") => `(tactic| repeat (first | with_reducible refine seq_nil ?_ | with_reducible refine wx_nil ?_))
local macro_rules | `(tactic| walk_at "my nnils") => `(tactic| repeat (first | with_reducible refine seqn_nil ?_ | with_reducible refine wxn_nil ?_))
local macro_rules | `(tactic| walk_at "my meth") => `(tactic| (apply ev_of_x; first | with_reducible apply evx_meth1 | with_reducible apply evx_meth0 | apply evx_meth1 | apply evx_meth0))

def prevOf (t : List Nat) (k : Nat) : Option Nat := if k = 0 then none else t[k - 1]?
theorem ah_prev {t : List Nat} {k z : Nat} (h : k ≤ t.length) : (cut t (k - 1) k == [z]) = (prevOf t k == some z) := by
  unfold prevOf
  cases k with
  | zero => simp [cut]
  | succ k =>
    rw [if_neg (by omega), show k + 1 - 1 = k by omega, Bool.eq_iff_iff]
    simp [cut_one]
theorem prevOf_succ {t : List Nat} {k : Nat} (h : k < t.length) : prevOf t (k + 1) = some t[k] := by
  unfold prevOf; rw [if_neg (by omega), show k + 1 - 1 = k by omega, List.getElem?_eq_getElem h]
/-- a region from its first sign -/
theorem past_reg {t : List Nat} {k : Nat} {S : MS} (hlt : k < t.length) (h0 : S.st = 0) (hiq : S.iq = false) (hp : S.prev = prevOf t k) (he : k < regF t k (cut t (k - 1) k)) : ∃ S', Past t k (regF t k (cut t (k - 1) k)) S S' := by
  obtain ⟨st, iq, ip, phs, out, style, prev, cnt⟩ := S
  simp only at h0 hiq hp
  subst h0 hiq hp
  have hz : t.getD k 0 = t[k] := by rw [List.getD_eq_getElem?_getD, List.getElem?_eq_getElem hlt]; rfl
  unfold regF at he ⊢
  simp only [hz, ah_prev (Nat.le_of_lt hlt)] at he ⊢
  by_cases h1 : (t[k] == 39) = true
  · rw [if_pos h1] at he ⊢
    have e1 : t[k] = 39 := by simpa using h1
    by_cases h2 : (prevOf t k == some 69) = true
    · rw [if_pos h2] at he ⊢
      obtain ⟨S', P⟩ := past_pair (t := t) (s := 3) (c := 39) (g := 92) (ia := false) (.inl ⟨rfl, rfl, rfl, rfl⟩) _ (k + 1) ⟨3, false, ip, phs, out ++ [tx [t[k]]], style, some t[k], cnt⟩ rfl (by omega) (by omega) rfl rfl (by simp [hlt])
      refine ⟨S', Past.cons (S1 := ⟨3, false, ip, phs, out ++ [tx [t[k]]], style, prevOf t k, cnt⟩) hlt (by omega) ?_ rfl ⟨rfl, rfl, rfl, rfl⟩ P⟩
      have h2' : prevOf t k = some 69 := by simpa using h2
      simp [turn0, tOut, outS, e1, h2']
    · rw [if_neg h2] at he ⊢
      obtain ⟨S', P⟩ := past_plain (t := t) _ (k + 1) ⟨1, false, ip, phs, out ++ [tx [t[k]]], style, some t[k], cnt⟩ rfl rfl rfl
      refine ⟨S', Past.cons (S1 := ⟨1, false, ip, phs, out ++ [tx [t[k]]], style, prevOf t k, cnt⟩) hlt (by omega) ?_ rfl ⟨rfl, rfl, rfl, rfl⟩ P⟩
      have h2' : ¬ prevOf t k = some 69 := by simpa using h2
      simp [turn0, tOut, outS, e1, h2']
  rw [if_neg h1] at he ⊢
  by_cases h2 : (t[k] == 34) = true
  · rw [if_pos h2] at he ⊢
    have e1 : t[k] = 34 := by simpa using h2
    obtain ⟨S', P⟩ := past_up (t := t) (s := 2) (c := 34) (.inl ⟨rfl, rfl⟩) _ (k + 1) ⟨2, false, ip, phs, out ++ [tx [t[k]]], style, some t[k], cnt⟩ rfl (by omega) rfl rfl
    refine ⟨S', Past.cons (S1 := ⟨2, false, ip, phs, out ++ [tx [t[k]]], style, prevOf t k, cnt⟩) hlt (by omega) ?_ rfl ⟨rfl, rfl, rfl, rfl⟩ P⟩
    simp [turn0, tOut, outS, e1]
  rw [if_neg h2] at he ⊢
  by_cases h3 : (t[k] == 45 && prevOf t k == some 45) = true
  · rw [if_pos h3] at he ⊢
    have e1 : t[k] = 45 ∧ prevOf t k = some 45 := by simpa using h3
    obtain ⟨S', P⟩ := past_up (t := t) (s := 5) (c := 10) (.inr ⟨rfl, rfl⟩) _ (k + 1) ⟨5, false, ip, phs, out ++ [tx [t[k]]], style, some t[k], cnt⟩ rfl (by omega) rfl rfl
    refine ⟨S', Past.cons (S1 := ⟨5, false, ip, phs, out ++ [tx [t[k]]], style, prevOf t k, cnt⟩) hlt (by omega) ?_ rfl ⟨rfl, rfl, rfl, rfl⟩ P⟩
    simp [turn0, tOut, outS, e1.1, e1.2]
  rw [if_neg h3] at he ⊢
  by_cases h4 : (t[k] == 36 && prevOf t k == some 36) = true
  · rw [if_pos h4] at he ⊢
    have e1 : t[k] = 36 ∧ prevOf t k = some 36 := by simpa using h4
    obtain ⟨S', P⟩ := past_pair (t := t) (s := 6) (c := 36) (g := 36) (ia := true) (.inr ⟨rfl, rfl, rfl, rfl⟩) _ (k + 1) ⟨6, false, ip, phs, out ++ [tx [t[k]]], style, some t[k], cnt⟩ rfl (by omega) (by omega) rfl rfl (by simp [hlt])
    refine ⟨S', Past.cons (S1 := ⟨6, false, ip, phs, out ++ [tx [t[k]]], style, prevOf t k, cnt⟩) hlt (by omega) ?_ rfl ⟨rfl, rfl, rfl, rfl⟩ P⟩
    simp [turn0, tOut, outS, e1.1, e1.2]
  · rw [if_neg h4] at he; omega
end Mine
end
section
open PySem.Calls
set_option maxHeartbeats 4000000
namespace Mine

local macro_rules | `(tactic| walk_at "my has") => `(tactic| with_reducible (repeat (first | exact Has.here | apply Has.there)))
local macro_rules | `(tactic| walk_at "my put") => `(tactic| with_reducible (repeat (first | exact Put.here | apply Put.there)))
local macro_rules | `(tactic| walk_at "my lit") => `(tactic| with_reducible (first | exact lit_sq | exact lit_dq | exact lit_E | exact lit_bs | exact lit_mi | exact lit_dl | exact lit_co | exact lit_eq | exact lit_qm | exact lit_pc | exact lit_lp | exact lit_rp | exact lit_s | exact lit_us | exact lit_nl | exact lit_ce | exact lit_ps | exact lit_rs | exact lit_em | exact rfl))
local macro_rules | `(tactic| walk_at "my op") => `(tactic| with_reducible (first | exact op_eq_int | exact op_ne_int | exact op_lt_int | exact op_gt_int | exact op_le_int | exact op_eq_str | exact op_ne_str | exact op_in_str | exact op_notin_str | exact op_eq_none_str | exact op_ne_none_str | exact op_ne_bool | exact op_is_none | exact op_is_none_str | exact op_add_int | exact op_iadd_int | exact op_sub_int | exact op_eq_opt | exact op_ne_opt | exact op_none_opt))
local macro_rules | `(tactic| walk_at "my nu") => `(tactic| first | (intro h; cases h; done) | exact PVo_ne _)
local macro_rules | `(tactic| walk_at "my ev") => `(tactic| first
  | with_reducible exact ev_int | ((with_reducible refine' ev_str ?h1); (case h1 => walk_at "my lit")) | with_reducible exact ev_none | with_reducible exact ev_bool
  | ((with_reducible refine' ev_nm ?k1 ?h1 ?u1); (case k1 => assumption); (case h1 => walk_at "my has"; done); (case u1 => walk_at "my nu"))
  | with_reducible refine' ev_bin ?_ ?_ ?_ | ((with_reducible refine' ev_cmp ?_ ?_ ?_ ?m1); (case m1 => exact rfl)) | ((with_reducible refine' tr_cmp ?_ ?_ ?_ ?m1); (case m1 => exact rfl)) | with_reducible refine' tr_not ?_ | with_reducible refine' tr_op ?_
  | with_reducible refine' tra_and ?_ ?_ | with_reducible exact tra_and_nil | with_reducible refine' tra_or ?_ ?_ | with_reducible exact tra_or_nil
  | with_reducible refine' ev_neg ?_
  | walk_at "my op" | ((with_reducible refine' evl_cons1 ?_ ?_ ?m1); (case m1 => exact rfl)) | with_reducible refine' evl_nil ?_ | (guard_target =~ (_ = _ → _); intro _))
local macro_rules | `(tactic| walk_at "my evs") => `(tactic| repeat' (walk_at "my ev"))
local macro_rules | `(tactic| walk_at "my blt") => `(tactic| first | exact ev_globB (by assumption) (by kernel_rfl) boot_len (by decide +kernel) (by kernel_rfl) (by decide +kernel) | exact ev_globB (by assumption) (by kernel_rfl) boot_str (by decide +kernel) (by kernel_rfl) (by decide +kernel) | exact ev_globB (by assumption) (by kernel_rfl) boot_range (by decide +kernel) (by kernel_rfl) (by decide +kernel))
local macro_rules | `(tactic| walk_at "my fn") => `(tactic| exact ev_glob (by assumption) (by kernel_rfl) (by kernel_rfl) (by decide +kernel))
local macro_rules | `(tactic| walk_at "my puts") => `(tactic| (repeat (apply Puts.cons; (focus (walk_at "my put"; done)))); exact Puts.nil)
local macro_rules | `(tactic| walk_at "my nils") => `(tactic| repeat (first | with_reducible refine seq_nil ?_ | with_reducible refine wx_nil ?_))
local macro_rules | `(tactic| walk_at "my nnils") => `(tactic| repeat (first | with_reducible refine seqn_nil ?_ | with_reducible refine wxn_nil ?_))
local macro_rules | `(tactic| walk_at "my meth") => `(tactic| (apply ev_of_x; first | with_reducible apply evx_meth1 | with_reducible apply evx_meth0 | apply evx_meth1 | apply evx_meth0))

def signs : List Nat := [39, 34, 69, 92, 45, 36, 58, 61, 63, 37, 40, 41, 115, 97, 49, 95, 233, 32, 10]
theorem sign_name : ∀ z ∈ signs, (Txt.isalnum (sg z) || (z == 95)) = naming.any (· == sg z) := by decide +kernel
theorem endN_is (ns : List Str) (z : Str) : endN (ns ++ [z]) = (addN ns z, numF ns z) := by
  by_cases h : z ∈ ns
  · rw [endN_hit h]; simp [addN, numF, h]
  · rw [endN_miss h]
    have h2 : ns.any (· == z) = false := by rw [Bool.eq_false_iff]; intro hh; exact h (by simpa using hh)
    have e : addN ns z = ns ++ [z] := by unfold addN; rw [h2]; rfl
    unfold numF
    rw [e, List.idxOf_append, if_neg h]
    simp
theorem tx_snoc (l : List Nat) (z : Nat) : tx l ++ sg z = tx (l ++ [z]) := tx_app l [z]
theorem cut_snoc {t : List Nat} {a i : Nat} (ha : a ≤ i) (hi : i < t.length) : cut t a (i + 1) = cut t a i ++ [t[i]] := by
  unfold cut
  rw [List.take_succ_eq_append_getElem hi, List.drop_append_of_le_length (by simp; omega)]
/-- the machine inside a named placeholder -/
theorem run_name {t : List Nat} (hal : ∀ z ∈ t, z ∈ signs) {a : Nat} : ∀ n i ip ns out prev cnt, t.length - i = n → a ≤ i → i < t.length →
    ∃ S', runM ⟨4, false, ip, ns ++ [tx (cut t a i)], out, sD, prev, cnt⟩ (t.drop i) = runM S' (t.drop (nameF t (i + 1))) ∧ S' = ⟨0, false, ip, addN ns (tx (cut t a (nameF t (i + 1)))), out ++ [tx (numF ns (tx (cut t a (nameF t (i + 1)))))], sD, t[nameF t (i + 1) - 1]?, cnt⟩ := by
  intro n
  induction n using Nat.strongRecOn with | ind n ih => ?_
  intro i ip ns out prev cnt hn ha hlt
  have hz : tx (cut t a i) ++ sg t[i] = tx (cut t a (i + 1)) := by rw [tx_snoc, ← cut_snoc ha hlt]
  have hend : turn0 ⟨4, false, ip, ns ++ [tx (cut t a i)], out, sD, prev, cnt⟩ t[i] t[i + 1]? = some (if (t[i + 1]? == none || (!Txt.isalnum (sg (t[i + 1]?.getD 0)) && (t[i + 1]? != some 95))) = true then ⟨0, false, ip, addN ns (tx (cut t a (i + 1))), out ++ [tx (numF ns (tx (cut t a (i + 1))))], sD, prev, cnt⟩ else ⟨4, false, ip, ns ++ [tx (cut t a (i + 1))], out, sD, prev, cnt⟩) := by
    show some (tPN _ _ _) = _
    unfold tPN
    dsimp only
    rw [if_pos (by decide +kernel), addL_snoc, hz, endN_is]
    rfl
  by_cases hc : (t[i + 1]? == none || (!Txt.isalnum (sg (t[i + 1]?.getD 0)) && (t[i + 1]? != some 95))) = true
  · rw [if_pos hc] at hend
    have hnf : nameF t (i + 1) = i + 1 := by
      rw [nameF]
      split
      · rename_i h
        rw [List.getElem?_eq_getElem h] at hc
        have hs := sign_name t[i + 1] (hal _ (List.getElem_mem h))
        rw [if_neg]
        rw [show cut t (i + 1) (i + 1 + 1) = [t[i + 1]] from cut_one.mpr (List.getElem?_eq_getElem h)]
        show ¬ naming.any (· == sg t[i + 1]) = true
        rw [← hs]
        simp at hc ⊢
        exact hc
      · rfl
    rw [hnf]
    refine ⟨_, ?_, rfl⟩
    rw [run_step0 hlt hend]
    simp [hlt]
  · rw [if_neg hc] at hend
    have hlt1 : i + 1 < t.length := by
      rcases Nat.lt_or_ge (i + 1) t.length with h | h
      · exact h
      · rw [List.getElem?_eq_none h] at hc; exact absurd rfl hc
    have hnf : nameF t (i + 1) = nameF t (i + 1 + 1) := by
      rw [nameF, dif_pos hlt1, if_pos]
      rw [List.getElem?_eq_getElem hlt1] at hc
      have hs := sign_name t[i + 1] (hal _ (List.getElem_mem hlt1))
      rw [show cut t (i + 1) (i + 1 + 1) = [t[i + 1]] from cut_one.mpr (List.getElem?_eq_getElem hlt1)]
      show naming.any (· == sg t[i + 1]) = true
      rw [← hs]
      simp at hc ⊢
      by_cases h9 : Txt.isalnum (sg t[i + 1]) = true
      · exact .inl h9
      · exact .inr (hc (by simpa using h9))
    rw [hnf, run_step0 hlt hend]
    exact ih (t.length - (i + 1)) (by omega) (i + 1) ip ns out (some t[i]) cnt rfl (by omega) hlt1
end Mine
end
section
open PySem.Calls
set_option maxHeartbeats 4000000
namespace Mine

local macro_rules | `(tactic| walk_at "my has") => `(tactic| with_reducible (repeat (first | exact Has.here | apply Has.there)))
local macro_rules | `(tactic| walk_at "my put") => `(tactic| with_reducible (repeat (first | exact Put.here | apply Put.there)))
local macro_rules | `(tactic| walk_at "my lit") => `(tactic| with_reducible (first | exact lit_sq | exact lit_dq | exact lit_E | exact lit_bs | exact lit_mi | exact lit_dl | exact lit_co | exact lit_eq | exact lit_qm | exact lit_pc | exact lit_lp | exact lit_rp | exact lit_s | exact lit_us | exact lit_nl | exact lit_ce | exact lit_ps | exact lit_rs | exact lit_em | exact rfl))
local macro_rules | `(tactic| walk_at "my op") => `(tactic| with_reducible (first | exact op_eq_int | exact op_ne_int | exact op_lt_int | exact op_gt_int | exact op_le_int | exact op_eq_str | exact op_ne_str | exact op_in_str | exact op_notin_str | exact op_eq_none_str | exact op_ne_none_str | exact op_ne_bool | exact op_is_none | exact op_is_none_str | exact op_add_int | exact op_iadd_int | exact op_sub_int | exact op_eq_opt | exact op_ne_opt | exact op_none_opt))
local macro_rules | `(tactic| walk_at "my nu") => `(tactic| first | (intro h; cases h; done) | exact PVo_ne _)
local macro_rules | `(tactic| walk_at "my ev") => `(tactic| first
  | with_reducible exact ev_int | ((with_reducible refine' ev_str ?h1); (case h1 => walk_at "my lit")) | with_reducible exact ev_none | with_reducible exact ev_bool
  | ((with_reducible refine' ev_nm ?k1 ?h1 ?u1); (case k1 => assumption); (case h1 => walk_at "my has"; done); (case u1 => walk_at "my nu"))
  | with_reducible refine' ev_bin ?_ ?_ ?_ | ((with_reducible refine' ev_cmp ?_ ?_ ?_ ?m1); (case m1 => exact rfl)) | ((with_reducible refine' tr_cmp ?_ ?_ ?_ ?m1); (case m1 => exact rfl)) | with_reducible refine' tr_not ?_ | with_reducible refine' tr_op ?_
  | with_reducible refine' tra_and ?_ ?_ | with_reducible exact tra_and_nil | with_reducible refine' tra_or ?_ ?_ | with_reducible exact tra_or_nil
  | with_reducible refine' ev_neg ?_
  | walk_at "my op" | ((with_reducible refine' evl_cons1 ?_ ?_ ?m1); (case m1 => exact rfl)) | with_reducible refine' evl_nil ?_ | (guard_target =~ (_ = _ → _); intro _))
local macro_rules | `(tactic| walk_at "my evs") => `(tactic| repeat' (walk_at "my ev"))
local macro_rules | `(tactic| walk_at "my blt") => `(tactic| first | exact ev_globB (by assumption) (by kernel_rfl) boot_len (by decide +kernel) (by kernel_rfl) (by decide +kernel) | exact ev_globB (by assumption) (by kernel_rfl) boot_str (by decide +kernel) (by kernel_rfl) (by decide +kernel) | exact ev_globB (by assumption) (by kernel_rfl) boot_range (by decide +kernel) (by kernel_rfl) (by decide +kernel))
local macro_rules | `(tactic| walk_at "my fn") => `(tactic| exact ev_glob (by assumption) (by kernel_rfl) (by kernel_rfl) (by decide +kernel))
local macro_rules | `(tactic| walk_at "my puts") => `(tactic| (repeat (apply Puts.cons; (focus (walk_at "my put"; done)))); exact Puts.nil)
local macro_rules | `(tactic| walk_at "my nils") => `(tactic| repeat (first | with_reducible refine seq_nil ?_ | with_reducible refine wx_nil ?_))
local macro_rules | `(tactic| walk_at "my nnils") => `(tactic| repeat (first | with_reducible refine seqn_nil ?_ | with_reducible refine wxn_nil ?_))
local macro_rules | `(tactic| walk_at "my meth") => `(tactic| (apply ev_of_x; first | with_reducible apply evx_meth1 | with_reducible apply evx_meth0 | apply evx_meth1 | apply evx_meth0))

theorem noPar_app (a b : List Nat) : noPar (a ++ b) = noPar a ++ noPar b := by simp [noPar]
theorem noPar_one (z : Nat) : noPar [z] = if decide (z ∈ [40, 41]) then [] else [z] := by
  unfold noPar
  by_cases h1 : z = 40
  · subst h1; rfl
  · by_cases h2 : z = 41
    · subst h2; rfl
    · simp [h1, h2]
/-- the machine inside a bracketed placeholder -/
theorem run_brack {t : List Nat} {a : Nat} : ∀ n i ip ns out cnt, t.length - i = n → a + 1 ≤ i → i ≤ t.length → psF t a = psF t (i - 1) →
    (∀ j, psF t a = some j → ∃ S', runM ⟨4, false, ip, ns ++ [tx (noPar (cut t a i))], out, sP, t[i - 1]?, cnt⟩ (t.drop i) = runM S' (t.drop (j + 2)) ∧ S' = ⟨0, false, ip, addN ns (tx (noPar (cut t a j))), out ++ [tx (numF ns (tx (noPar (cut t a j))))], sP, t[j + 1]?, cnt⟩) ∧
    (psF t a = none → ∃ S', runM ⟨4, false, ip, ns ++ [tx (noPar (cut t a i))], out, sP, t[i - 1]?, cnt⟩ (t.drop i) = some S' ∧ S'.out = out ∧ S'.style = sP ∧ S'.phs = ns ++ [tx (noPar (t.drop a))]) := by
  intro n
  induction n with
  | zero =>
    intro i ip ns out cnt hn ha hi hps
    have : i = t.length := by omega
    subst this
    have e : psF t (t.length - 1) = none := by rw [psF, dif_neg (by omega)]
    refine ⟨fun j hj => (by rw [hps, e] at hj; cases hj), fun _ => ⟨_, (by rw [List.drop_length]; rfl), rfl, rfl, ?_⟩⟩
    simp [cut]
  | succ n ih =>
    intro i ip ns out cnt hn ha hi hps
    have hlt : i < t.length := by omega
    have hprev : t[i - 1]? = some t[i - 1] := List.getElem?_eq_getElem (by omega)
    have e1 : (sP == sD) = false := by decide +kernel
    have e2 : (sP == sP) = true := by decide +kernel
    by_cases hm : t[i - 1] = 41 ∧ t[i] = 115
    · have hps2 : psF t (i - 1) = some (i - 1) := by
        rw [psF, dif_pos (by omega), if_pos]
        have : t[i - 1 + 1]'(by omega) = t[i] := by congr 1; omega
        rw [this]; simp [hm]
      refine ⟨fun j hj => ?_, fun hj => by rw [hps, hps2] at hj; cases hj⟩
      rw [hps, hps2] at hj
      have hj : i - 1 = j := Option.some.inj hj
      subst hj
      have hcut : noPar (cut t a i) = noPar (cut t a (i - 1)) := by
        have : cut t a (i - 1 + 1) = cut t a (i - 1) ++ [t[i - 1]] := cut_snoc (by omega) (by omega)
        rw [show i - 1 + 1 = i by omega] at this
        rw [this, noPar_app, noPar_one, hm.1]; simp
      rw [hcut]
      have hend : turn0 ⟨4, false, ip, ns ++ [tx (noPar (cut t a (i - 1)))], out, sP, t[i - 1]?, cnt⟩ t[i] t[i + 1]? = some ⟨0, false, ip, addN ns (tx (noPar (cut t a (i - 1)))), out ++ [tx (numF ns (tx (noPar (cut t a (i - 1)))))], sP, t[i - 1]?, cnt⟩ := by
        show some (tPN _ _ _) = _
        unfold tPN
        dsimp only
        rw [if_neg (by rw [e1]; exact Bool.false_ne_true), if_pos e2, if_pos (by rw [hprev]; simp [hm]), endN_is]
        rfl
      refine ⟨_, ?_, rfl⟩
      rw [run_step0 hlt hend, show i - 1 + 2 = i + 1 by omega, show i - 1 + 1 = i by omega, List.getElem?_eq_getElem hlt]
    · have hps2 : psF t (i - 1) = psF t (i + 1 - 1) := by
        rw [psF, dif_pos (by omega), if_neg]
        · rw [show i - 1 + 1 = i + 1 - 1 by omega]
        · have : t[i - 1 + 1]'(by omega) = t[i] := by congr 1; omega
          rw [this]; simpa using hm
      have hcut : tx (noPar (cut t a (i + 1))) = if decide (t[i] ∈ [40, 41]) then tx (noPar (cut t a i)) else tx (noPar (cut t a i)) ++ sg t[i] := by
        rw [cut_snoc (by omega) hlt, noPar_app, noPar_one]
        split
        · simp
        · rw [tx_snoc]
      have hgo : turn0 ⟨4, false, ip, ns ++ [tx (noPar (cut t a i))], out, sP, t[i - 1]?, cnt⟩ t[i] t[i + 1]? = some ⟨4, false, ip, ns ++ [tx (noPar (cut t a (i + 1)))], out, sP, t[i - 1]?, cnt⟩ := by
        show some (tPN _ _ _) = _
        unfold tPN
        dsimp only
        rw [if_neg (by rw [e1]; exact Bool.false_ne_true), if_pos e2, if_neg (by rw [hprev]; simpa using hm), hcut]
        by_cases hp : decide (t[i] ∈ [40, 41]) = true
        · rw [if_pos hp, if_pos hp]
        · rw [if_neg hp, if_neg hp, addL_snoc]
      rw [run_step0 hlt hgo]
      have := ih (i + 1) ip ns out cnt (by omega) (by omega) (by omega) (hps.trans hps2)
      rw [show i + 1 - 1 = i by omega, List.getElem?_eq_getElem hlt] at this
      exact this
end Mine
end
section
open PySem.Calls
set_option maxHeartbeats 4000000
namespace Mine

local macro_rules | `(tactic| walk_at "my has") => `(tactic| with_reducible (repeat (first | exact Has.here | apply Has.there)))
local macro_rules | `(tactic| walk_at "my put") => `(tactic| with_reducible (repeat (first | exact Put.here | apply Put.there)))
local macro_rules | `(tactic| walk_at "my lit") => `(tactic| with_reducible (first | exact lit_sq | exact lit_dq | exact lit_E | exact lit_bs | exact lit_mi | exact lit_dl | exact lit_co | exact lit_eq | exact lit_qm | exact lit_pc | exact lit_lp | exact lit_rp | exact lit_s | exact lit_us | exact lit_nl | exact lit_ce | exact lit_ps | exact lit_rs | exact lit_em | exact rfl))
local macro_rules | `(tactic| walk_at "my op") => `(tactic| with_reducible (first | exact op_eq_int | exact op_ne_int | exact op_lt_int | exact op_gt_int | exact op_le_int | exact op_eq_str | exact op_ne_str | exact op_in_str | exact op_notin_str | exact op_eq_none_str | exact op_ne_none_str | exact op_ne_bool | exact op_is_none | exact op_is_none_str | exact op_add_int | exact op_iadd_int | exact op_sub_int | exact op_eq_opt | exact op_ne_opt | exact op_none_opt))
local macro_rules | `(tactic| walk_at "my nu") => `(tactic| first | (intro h; cases h; done) | exact PVo_ne _)
local macro_rules | `(tactic| walk_at "my ev") => `(tactic| first
  | with_reducible exact ev_int | ((with_reducible refine' ev_str ?h1); (case h1 => walk_at "my lit")) | with_reducible exact ev_none | with_reducible exact ev_bool
  | ((with_reducible refine' ev_nm ?k1 ?h1 ?u1); (case k1 => assumption); (case h1 => walk_at "my has"; done); (case u1 => walk_at "my nu"))
  | with_reducible refine' ev_bin ?_ ?_ ?_ | ((with_reducible refine' ev_cmp ?_ ?_ ?_ ?m1); (case m1 => exact rfl)) | ((with_reducible refine' tr_cmp ?_ ?_ ?_ ?m1); (case m1 => exact rfl)) | with_reducible refine' tr_not ?_ | with_reducible refine' tr_op ?_
  | with_reducible refine' tra_and ?_ ?_ | with_reducible exact tra_and_nil | with_reducible refine' tra_or ?_ ?_ | with_reducible exact tra_or_nil
  | with_reducible refine' ev_neg ?_
  | walk_at "my op" | ((with_reducible refine' evl_cons1 ?_ ?_ ?m1); (case m1 => exact rfl)) | with_reducible refine' evl_nil ?_ | (guard_target =~ (_ = _ → _); intro _))
local macro_rules | `(tactic| walk_at "my evs") => `(tactic| repeat' (walk_at "my ev"))
local macro_rules | `(tactic| walk_at "my blt") => `(tactic| first | exact ev_globB (by assumption) (by kernel_rfl) boot_len (by decide +kernel) (by kernel_rfl) (by decide +kernel) | exact ev_globB (by assumption) (by kernel_rfl) boot_str (by decide +kernel) (by kernel_rfl) (by decide +kernel) | exact ev_globB (by assumption) (by kernel_rfl) boot_range (by decide +kernel) (by kernel_rfl) (by decide +kernel))
local macro_rules | `(tactic| walk_at "my fn") => `(tactic| exact ev_glob (by assumption) (by kernel_rfl) (by kernel_rfl) (by decide +kernel))
local macro_rules | `(tactic| walk_at "my puts") => `(tactic| (repeat (apply Puts.cons; (focus (walk_at "my put"; done)))); exact Puts.nil)
local macro_rules | `(tactic| walk_at "my nils") => `(tactic| repeat (first | with_reducible refine seq_nil ?_ | with_reducible refine wx_nil ?_))
local macro_rules | `(tactic| walk_at "my nnils") => `(tactic| repeat (first | with_reducible refine seqn_nil ?_ | with_reducible refine wxn_nil ?_))
local macro_rules | `(tactic| walk_at "my meth") => `(tactic| (apply ev_of_x; first | with_reducible apply evx_meth1 | with_reducible apply evx_meth0 | apply evx_meth1 | apply evx_meth0))

structure Rel (t : List Nat) (k : Nat) (W : WSt) (S : MS) : Prop where
  at_ : W.at_ = k
  out : J S.out = W.told
  phs : S.phs = W.names
  sty : S.style = W.style
  cnt : S.cnt = W.marks + 1
  ip : S.ip = false
  open_ : k < t.length → S.st = 0 ∧ S.iq = false ∧ S.prev = prevOf t k
/-- how the machine answers the law's walk -/
def Same (m : Option MS) : WRes → Prop
  | none => m = none
  | some (told, names, sty) => ∃ S', m = some S' ∧ J S'.out = told ∧ S'.phs = names ∧ S'.style = sty
theorem plainF_gt (t : List Nat) (i : Nat) : i ≤ plainF t i := plainF_le t i
theorem be_nx {t : List Nat} {k z : Nat} : (tx (cut t (k + 1) (k + 2)) == sg z) = (t[k + 1]? == some z) := by
  rw [Bool.eq_iff_iff]
  show (tx _ == tx [z]) = true ↔ _
  rw [tx_beq]
  simp [cut_one]
theorem ah_ne {t : List Nat} {k z : Nat} (h : k ≤ t.length) : (tx (cut t (k - 1) k) != sg z) = (prevOf t k != some z) := by
  show (tx _ != tx [z]) = _
  rw [bne, tx_beq, ah_prev h]; rfl
theorem be_in {t : List Nat} {k : Nat} : (!([sg 58, sg 61].any (· == tx (cut t (k + 1) (k + 2))))) = (!decide (t[k + 1]?.getD 0 ∈ [58, 61])) := by
  congr 1
  have h (z : Nat) : (sg z == tx (cut t (k + 1) (k + 2))) = (t[k + 1]? == some z) := by rw [← be_nx, BEq.comm]
  simp only [List.any_cons, List.any_nil, h, Bool.or_false]
  cases t[k + 1]? with
  | none => simp
  | some y => rw [Bool.eq_iff_iff]; simp
theorem reg_no {t : List Nat} {k : Nat} (hlt : k < t.length) (he : ¬ k < regF t k (cut t (k - 1) k)) : ¬ t[k] = 39 ∧ ¬ t[k] = 34 ∧ (t[k] = 45 → ¬ prevOf t k = some 45) ∧ (t[k] = 36 → ¬ prevOf t k = some 36) := by
  have hz : t.getD k 0 = t[k] := by rw [List.getD_eq_getElem?_getD, List.getElem?_eq_getElem hlt]; rfl
  unfold regF at he
  simp only [hz, ah_prev (Nat.le_of_lt hlt)] at he
  have hu (c : Nat) : k < upF t c (k + 1) := by have := upF_le t c (k + 1) (by omega); omega
  have hp (c g : Nat) (ia : Bool) : k < pairF t c g ia (k + 1) + 1 := by have := pairF_le t c g ia (k + 1); omega
  have hq : k < plainF t (k + 1) := by have := plainF_le t (k + 1); omega
  refine ⟨fun e => ?_, fun e => ?_, fun e e2 => ?_, fun e e2 => ?_⟩
  · apply he; rw [e, if_pos (show ((39 : Nat) == 39) = true from rfl)]; split
    · exact hp ..
    · exact hq
  · apply he; rw [e]; simp; exact hu _
  · apply he; rw [e, e2]; simp; exact hu _
  · apply he; rw [e, e2]; simp; exact hp ..
end Mine
end
section
open PySem.Calls
set_option maxHeartbeats 4000000
namespace Mine

local macro_rules | `(tactic| walk_at "my has") => `(tactic| with_reducible (repeat (first | exact Has.here | apply Has.there)))
local macro_rules | `(tactic| walk_at "my put") => `(tactic| with_reducible (repeat (first | exact Put.here | apply Put.there)))
local macro_rules | `(tactic| walk_at "my lit") => `(tactic| with_reducible (first | exact lit_sq | exact lit_dq | exact lit_E | exact lit_bs | exact lit_mi | exact lit_dl | exact lit_co | exact lit_eq | exact lit_qm | exact lit_pc | exact lit_lp | exact lit_rp | exact lit_s | exact lit_us | exact lit_nl | exact lit_ce | exact lit_ps | exact lit_rs | exact lit_em | exact rfl))
local macro_rules | `(tactic| walk_at "my op") => `(tactic| with_reducible (first | exact op_eq_int | exact op_ne_int | exact op_lt_int | exact op_gt_int | exact op_le_int | exact op_eq_str | exact op_ne_str | exact op_in_str | exact op_notin_str | exact op_eq_none_str | exact op_ne_none_str | exact op_ne_bool | exact op_is_none | exact op_is_none_str | exact op_add_int | exact op_iadd_int | exact op_sub_int | exact op_eq_opt | exact op_ne_opt | exact op_none_opt))
local macro_rules | `(tactic| walk_at "my nu") => `(tactic| first | (intro h; cases h; done) | exact PVo_ne _)
local macro_rules | `(tactic| walk_at "my ev") => `(tactic| first
  | with_reducible exact ev_int | ((with_reducible refine' ev_str ?h1); (case h1 => walk_at "my lit")) | with_reducible exact ev_none | with_reducible exact ev_bool
  | ((with_reducible refine' ev_nm ?k1 ?h1 ?u1); (case k1 => assumption); (case h1 => walk_at "my has"; done); (case u1 => walk_at "my nu"))
  | with_reducible refine' ev_bin ?_ ?_ ?_ | ((with_reducible refine' ev_cmp ?_ ?_ ?_ ?m1); (case m1 => exact rfl)) | ((with_reducible refine' tr_cmp ?_ ?_ ?_ ?m1); (case m1 => exact rfl)) | with_reducible refine' tr_not ?_ | with_reducible refine' tr_op ?_
  | with_reducible refine' tra_and ?_ ?_ | with_reducible exact tra_and_nil | with_reducible refine' tra_or ?_ ?_ | with_reducible exact tra_or_nil
  | with_reducible refine' ev_neg ?_
  | walk_at "my op" | ((with_reducible refine' evl_cons1 ?_ ?_ ?m1); (case m1 => exact rfl)) | with_reducible refine' evl_nil ?_ | (guard_target =~ (_ = _ → _); intro _))
local macro_rules | `(tactic| walk_at "my evs") => `(tactic| repeat' (walk_at "my ev"))
local macro_rules | `(tactic| walk_at "my blt") => `(tactic| first | exact ev_globB (by assumption) (by kernel_rfl) boot_len (by decide +kernel) (by kernel_rfl) (by decide +kernel) | exact ev_globB (by assumption) (by kernel_rfl) boot_str (by decide +kernel) (by kernel_rfl) (by decide +kernel) | exact ev_globB (by assumption) (by kernel_rfl) boot_range (by decide +kernel) (by kernel_rfl) (by decide +kernel))
local macro_rules | `(tactic| walk_at "my fn") => `(tactic| exact ev_glob (by assumption) (by kernel_rfl) (by kernel_rfl) (by decide +kernel))
local macro_rules | `(tactic| walk_at "my puts") => `(tactic| (repeat (apply Puts.cons; (focus (walk_at "my put"; done)))); exact Puts.nil)
local macro_rules | `(tactic| walk_at "my nils") => `(tactic| repeat (first | with_reducible refine seq_nil ?_ | with_reducible refine wx_nil ?_))
local macro_rules | `(tactic| walk_at "my nnils") => `(tactic| repeat (first | with_reducible refine seqn_nil ?_ | with_reducible refine wxn_nil ?_))
local macro_rules | `(tactic| walk_at "my meth") => `(tactic| (apply ev_of_x; first | with_reducible apply evx_meth1 | with_reducible apply evx_meth0 | apply evx_meth1 | apply evx_meth0))

/-- a turn outside that stays outside -/
theorem go1 {t : List Nat} {k : Nat} {W W' : WSt} {S S1 : MS} {n : Nat} (hn : t.length - k = n + 1) (hlt : k < t.length) (ha : W.at_ = k)
    (ih : ∀ m, m < n + 1 → ∀ k W S, t.length - k = m → Rel t k W S → [sQ, sN, sD, sF, sP].any (· == W.style) = true → Same (runM S (t.drop k)) (walkF t W))
    (hw : walkStep t W = .go W') (hs : turn0 S t[k] t[k + 1]? = some S1) (hst : [sQ, sN, sD, sF, sP].any (· == W'.style) = true)
    (R : W'.at_ = k + 1 ∧ J S1.out = W'.told ∧ S1.phs = W'.names ∧ S1.style = W'.style ∧ S1.cnt = W'.marks + 1 ∧ S1.ip = false ∧ S1.st = 0 ∧ S1.iq = false) : Same (runM S (t.drop k)) (walkF t W) := by
  obtain ⟨r1, r2, r3, r4, r5, r6, r7, r8⟩ := R
  rw [walkF_go (by omega) hw, run_step0 hlt hs]
  exact ih (t.length - (k + 1)) (by omega) (k + 1) W' { S1 with prev := some t[k] } rfl ⟨r1, r2, r3, r4, r5, r6, fun _ => ⟨r7, r8, (prevOf_succ hlt).symm⟩⟩ hst
theorem law_run {t : List Nat} (hal : ∀ z ∈ t, z ∈ signs) (hlast : ∀ k ch, t[k]? = some ch → t[k + 1]? = none → ch = 32) : ∀ n k W S, t.length - k = n → Rel t k W S → [sQ, sN, sD, sF, sP].any (· == W.style) = true → Same (runM S (t.drop k)) (walkF t W) := by
  intro n
  induction n using Nat.strongRecOn with | ind n ih => ?_
  intro k W S hn R hsty
  by_cases hlt : k < t.length
  · obtain ⟨h0, hiq, hpv⟩ := R.open_ hlt
    obtain ⟨n', rfl⟩ : ∃ n', n = n' + 1 := ⟨n - 1, by omega⟩
    obtain ⟨style, told, names, marks, at_⟩ := W
    obtain ⟨st, iq, ip, phs, out, sty', prev, cnt⟩ := S
    obtain ⟨r1, r2, r3, r4, r5, r6, _⟩ := R
    simp only at r1 r2 r3 r4 r5 r6 h0 hiq hpv hsty
    subst r1 r3 r4 r5 r6 h0 hiq hpv
    have hz : t.getD at_ 0 = t[at_] := by rw [List.getD_eq_getElem?_getD, List.getElem?_eq_getElem hlt]; rfl
    have hstep := walkStep.eq_def t ⟨sty', told, phs, marks, at_⟩
    simp only [hz, be_nx, ah_ne (Nat.le_of_lt hlt), be_in] at hstep
    by_cases he : at_ < regF t at_ (cut t (at_ - 1) at_)
    · rw [if_pos he] at hstep
      obtain ⟨S', P⟩ := past_reg (S := ⟨0, false, false, phs, out, sty', prevOf t at_, marks + 1⟩) hlt rfl rfl rfl he
      rw [walkF_go hlt hstep, P.run]
      generalize regF t at_ (cut t (at_ - 1) at_) = e at *
      refine ih (t.length - e) (by omega) e _ S' rfl ⟨rfl, by rw [P.out]; simp [r2], P.keep.phs, P.keep.style, P.keep.cnt, P.keep.ip, fun h => ?_⟩ hsty
      obtain ⟨b1, b2, b3⟩ := P.back h
      refine ⟨b1, b2, ?_⟩
      rw [b3]; unfold prevOf; rw [if_neg (by omega)]
    rw [if_neg he] at hstep
    obtain ⟨n39, n34, n45, n36⟩ := reg_no hlt he
    obtain ⟨z, hzz⟩ : ∃ z, z = t[at_] := ⟨_, rfl⟩
    rw [← hzz] at hstep n39 n34 n45 n36
    have hstep2 : walkStep t ⟨sty', told, phs, marks, at_⟩ = _ := hstep
    have ht0 := turn0.eq_def ⟨0, false, false, phs, out, sty', prevOf t at_, marks + 1⟩ z t[at_ + 1]?
    rw [if_pos (show ((0 : Nat) == 0) = true from rfl)] at ht0
    unfold tOut at ht0
    dsimp only at ht0
    rw [if_neg (by simpa using n39), if_neg (by simpa using n34)] at ht0
    have hplain : z ≠ 63 → z ≠ 58 → z ≠ 37 → walkStep t ⟨sty', told, phs, marks, at_⟩ = .go ⟨sty', told ++ [z], phs, marks, at_ + 1⟩ := fun a b d => by
      rw [hstep, if_neg (by simp [a]), if_neg (by simp [b]), if_neg (by simp [b]), if_neg (by simp [d]), if_neg (by simp [d])]
    have hJ : ∀ l, J (outS ⟨0, false, false, phs, out, sty', prevOf t at_, marks + 1⟩ l).out = told ++ l := fun l => by
      show J (out ++ [tx l]) = _
      rw [J_snoc, r2]
    by_cases c45 : (z == 45) = true
    · rw [if_pos c45] at ht0
      have e : z = 45 := by simpa using c45
      have hp : (prevOf t at_ == some 45) = false := by have := n45 e; simpa using this
      rw [hp] at ht0
      exact go1 hn hlt rfl ih (hplain (by omega) (by omega) (by omega)) (by rw [← hzz]; exact ht0) hsty ⟨rfl, hJ _, rfl, rfl, rfl, rfl, rfl, rfl⟩
    rw [if_neg c45] at ht0
    by_cases c36 : (z == 36) = true
    · rw [if_pos c36] at ht0
      have e : z = 36 := by simpa using c36
      have hp : (prevOf t at_ == some 36) = false := by have := n36 e; simpa using this
      rw [hp] at ht0
      exact go1 hn hlt rfl ih (hplain (by omega) (by omega) (by omega)) (by rw [← hzz]; exact ht0) hsty ⟨rfl, hJ _, rfl, rfl, rfl, rfl, rfl, rfl⟩
    rw [if_neg c36] at ht0
    clear hplain hstep2
    by_cases c1 : (sty' == sQ && (z == 63 && true)) = true
    · rw [if_pos c1] at ht0 hstep
      exact go1 (S1 := ⟨0, false, false, phs, out ++ [tx (36 :: dig (marks + 1))], sty', prevOf t at_, marks + 1 + 1⟩) hn hlt rfl ih hstep (by rw [← hzz]; exact ht0) hsty ⟨rfl, hJ _, rfl, rfl, rfl, rfl, rfl, rfl⟩
    rw [if_neg c1] at ht0 hstep
    by_cases c2 : (sty' == sN && (z == 58 && (!decide (t[at_ + 1]?.getD 0 ∈ [58, 61]) && ((prevOf t at_ != some 58) && true)))) = true
    · rw [if_pos c2] at ht0 hstep
      exact go1 hn hlt rfl ih hstep (by rw [← hzz]; exact ht0) hsty ⟨rfl, hJ _, rfl, rfl, rfl, rfl, rfl, rfl⟩
    rw [if_neg c2] at ht0 hstep
    by_cases c3 : (sty' == sD && (z == 58 && (!decide (t[at_ + 1]?.getD 0 ∈ [58, 61]) && ((prevOf t at_ != some 58) && true)))) = true
    · rw [if_pos c3] at ht0 hstep
      have e : sty' = sD ∧ z = 58 := by simp only [Bool.and_eq_true, beq_iff_eq] at c3; exact ⟨c3.1, c3.2.1⟩
      obtain ⟨e, e2⟩ := e
      subst e
      have hlt1 : at_ + 1 < t.length := by
        rcases Nat.lt_or_ge (at_ + 1) t.length with h | h
        · exact h
        · have := hlast at_ t[at_] (List.getElem?_eq_getElem hlt) (List.getElem?_eq_none h)
          omega
      obtain ⟨S', h1, h2⟩ := run_name hal (a := at_ + 1) _ (at_ + 1) false phs out (some t[at_]) (marks + 1) rfl (Nat.le_refl _) hlt1
      rw [cut_self] at h1
      rw [walkF_go (by exact hlt) hstep, run_step0 hlt (by rw [← hzz]; exact ht0)]
      have hge := nameF_le t (at_ + 2)
      refine Eq.mp (congrArg (fun m => Same m _) h1.symm) ?_
      rw [h2, show at_ + 1 + 1 = at_ + 2 by omega]
      generalize nameF t (at_ + 2) = e at *
      refine ih (t.length - e) (by omega) e _ _ rfl ⟨rfl, ?_, rfl, rfl, rfl, rfl, fun h => ⟨rfl, rfl, ?_⟩⟩ hsty
      · show J (out ++ [tx _]) = _
        rw [J_snoc, r2]
      · show t[e - 1]? = prevOf t e
        unfold prevOf; rw [if_neg (by omega)]
    rw [if_neg c3] at ht0 hstep
    by_cases c4 : (sty' == sP && (z == 37 && ((t[at_ + 1]? == some 40) && true))) = true
    · rw [if_pos c4] at ht0 hstep
      have e : sty' = sP ∧ z = 37 ∧ t[at_ + 1]? = some 40 := by simp only [Bool.and_eq_true, beq_iff_eq] at c4; exact ⟨c4.1, c4.2.1, c4.2.2.1⟩
      obtain ⟨e, e2, e3⟩ := e
      subst e
      have hlt1 : at_ + 1 < t.length := by
        rcases Nat.lt_or_ge (at_ + 1) t.length with h | h
        · exact h
        · rw [List.getElem?_eq_none h] at e3; cases e3
      have e40 : t[at_ + 1] = 40 := by rw [List.getElem?_eq_getElem hlt1] at e3; exact Option.some.inj e3
      have e1 : (sP == sD) = false := by decide +kernel
      have e2' : (sP == sP) = true := by decide +kernel
      have h40 : turn0 ⟨4, false, false, phs ++ [⟨#[]⟩], out, sP, some t[at_], marks + 1⟩ t[at_ + 1] t[at_ + 1 + 1]? = some ⟨4, false, false, phs ++ [⟨#[]⟩], out, sP, some t[at_], marks + 1⟩ := by
        show some (tPN _ _ _) = _
        unfold tPN
        dsimp only
        rw [if_neg (by rw [e1]; exact Bool.false_ne_true), if_pos e2', if_neg (by rw [← hzz, e2]; simp), if_pos (by rw [e40]; decide)]
      have hb := run_brack (t := t) (a := at_ + 1) _ (at_ + 1 + 1) false phs out (marks + 1) rfl (Nat.le_refl _) (by omega) rfl
      have hc : noPar (cut t (at_ + 1) (at_ + 1 + 1)) = [] := by
        rw [show cut t (at_ + 1) (at_ + 1 + 1) = [40] from cut_one.mpr e3]; rfl
      rw [hc, show at_ + 1 + 1 - 1 = at_ + 1 by omega, List.getElem?_eq_getElem hlt1] at hb
      rw [run_step0 hlt (by rw [← hzz]; exact ht0), run_step0 hlt1 h40]
      cases hp : psF t (at_ + 1) with
      | none =>
        rw [hp] at hstep
        rw [walkF_stop (by exact hlt) hstep]
        obtain ⟨S', h1, h2, h3, h4⟩ := hb.2 hp
        exact ⟨S', h1, by rw [h2, r2], h4, h3⟩
      | some j =>
        rw [hp] at hstep
        rw [walkF_go (by exact hlt) hstep]
        obtain ⟨S', h1, h2⟩ := hb.1 j hp
        have hj := psF_le hp
        refine Eq.mp (congrArg (fun m => Same m _) h1.symm) ?_
        rw [h2]
        refine ih (t.length - (j + 2)) (by omega) (j + 2) _ _ rfl ⟨rfl, ?_, rfl, rfl, rfl, rfl, fun h => ⟨rfl, rfl, ?_⟩⟩ hsty
        · show J (out ++ [tx _]) = _
          rw [J_snoc, r2]
        · show t[j + 1]? = prevOf t (j + 2)
          unfold prevOf; rw [if_neg (by omega)]; rfl
    rw [if_neg c4] at ht0 hstep
    by_cases c5 : ([sF, sP].any (· == sty') && (z == 37 && true)) = true
    · rw [if_pos c5] at ht0 hstep
      have e : z = 37 := by simp only [Bool.and_eq_true, beq_iff_eq] at c5; exact c5.2.1
      rw [if_neg Bool.false_ne_true] at ht0
      by_cases c6 : (t[at_ + 1]? == some 37) = true
      · rw [if_pos c6] at ht0 hstep
        have e3 : t[at_ + 1]? = some 37 := by simpa using c6
        have hlt1 : at_ + 1 < t.length := by
          rcases Nat.lt_or_ge (at_ + 1) t.length with h | h
          · exact h
          · rw [List.getElem?_eq_none h] at e3; cases e3
        have e37 : t[at_ + 1] = 37 := by rw [List.getElem?_eq_getElem hlt1] at e3; exact Option.some.inj e3
        have h37 : turn0 ⟨0, false, true, phs, out, sF, some t[at_], marks + 1⟩ t[at_ + 1] t[at_ + 1 + 1]? = some ⟨0, false, false, phs, out ++ [tx [37]], sF, some t[at_], marks + 1⟩ := by
          unfold turn0
          rw [if_pos (show ((0 : Nat) == 0) = true from rfl), e37]
          unfold tOut
          dsimp only
          have f1 : (sF == sQ) = false := by decide +kernel
          have f2 : (sF == sN) = false := by decide +kernel
          have f3 : (sF == sD) = false := by decide +kernel
          have f4 : (sF == sP) = false := by decide +kernel
          rw [f1, f2, f3, f4]
          rfl
        rw [walkF_go (by exact hlt) hstep, run_step0 hlt (by rw [← hzz]; exact ht0), run_step0 hlt1 h37]
        refine ih (t.length - (at_ + 2)) (by omega) (at_ + 2) _ _ rfl ⟨rfl, ?_, rfl, rfl, rfl, rfl, fun h => ⟨rfl, rfl, ?_⟩⟩ (by show [sQ, sN, sD, sF, sP].any (· == sF) = true; decide +kernel)
        · show J (out ++ [tx _]) = _
          rw [J_snoc, r2]
        · show some t[at_ + 1] = prevOf t (at_ + 2)
          rw [← List.getElem?_eq_getElem hlt1]; unfold prevOf; rw [if_neg (by omega)]; rfl
      rw [if_neg c6] at ht0 hstep
      by_cases c7 : (t[at_ + 1]? == some 115) = true
      · rw [if_pos c7] at ht0 hstep
        have e3 : t[at_ + 1]? = some 115 := by simpa using c7
        have hlt1 : at_ + 1 < t.length := by
          rcases Nat.lt_or_ge (at_ + 1) t.length with h | h
          · exact h
          · rw [List.getElem?_eq_none h] at e3; cases e3
        have hs : turn0 ⟨4, false, false, phs, out ++ [tx (36 :: dig (marks + 1))], sF, some t[at_], marks + 1 + 1⟩ t[at_ + 1] t[at_ + 1 + 1]? = some ⟨0, false, false, phs, out ++ [tx (36 :: dig (marks + 1))], sF, some t[at_], marks + 1 + 1⟩ := by
          show some (tPN _ _ _) = _
          unfold tPN
          dsimp only
          have f3 : (sF == sD) = false := by decide +kernel
          have f4 : (sF == sP) = false := by decide +kernel
          rw [if_neg (by rw [f3]; exact Bool.false_ne_true), if_neg (by rw [f4]; exact Bool.false_ne_true), if_pos (by decide +kernel)]
        rw [walkF_go (by exact hlt) hstep, run_step0 hlt (by rw [← hzz]; exact ht0)]
        show Same (runM ⟨4, false, false, phs, out ++ [tx (36 :: dig (marks + 1))], sF, some t[at_], marks + 1 + 1⟩ (t.drop (at_ + 1))) _
        rw [run_step0 hlt1 hs]
        refine ih (t.length - (at_ + 2)) (by omega) (at_ + 2) _ _ rfl ⟨rfl, ?_, rfl, rfl, rfl, rfl, fun h => ⟨rfl, rfl, ?_⟩⟩ (by show [sQ, sN, sD, sF, sP].any (· == sF) = true; decide +kernel)
        · show J (out ++ [tx _]) = _
          rw [J_snoc, r2]
        · show some t[at_ + 1] = prevOf t (at_ + 2)
          rw [← List.getElem?_eq_getElem hlt1]; unfold prevOf; rw [if_neg (by omega)]; rfl
      rw [if_neg c7] at ht0 hstep
      rw [walkF_stop (by exact hlt) hstep]
      show runM _ _ = none
      rw [run_step hlt, ← hzz]
      unfold turn
      rw [ht0]; rfl
    rw [if_neg c5] at ht0 hstep
    exact go1 hn hlt rfl ih hstep (by rw [← hzz]; exact ht0) hsty ⟨rfl, hJ _, rfl, rfl, rfl, rfl, rfl, rfl⟩
  · rw [walkF_end (by rw [R.at_]; exact hlt), List.drop_eq_nil_of_le (by omega)]
    exact ⟨S, rfl, R.out, R.phs, R.sty⟩
end Mine
end
section
open PySem.Calls
set_option maxHeartbeats 4000000
namespace Mine

local macro_rules | `(tactic| walk_at "my has") => `(tactic| with_reducible (repeat (first | exact Has.here | apply Has.there)))
local macro_rules | `(tactic| walk_at "my put") => `(tactic| with_reducible (repeat (first | exact Put.here | apply Put.there)))
local macro_rules | `(tactic| walk_at "my lit") => `(tactic| with_reducible (first | exact lit_sq | exact lit_dq | exact lit_E | exact lit_bs | exact lit_mi | exact lit_dl | exact lit_co | exact lit_eq | exact lit_qm | exact lit_pc | exact lit_lp | exact lit_rp | exact lit_s | exact lit_us | exact lit_nl | exact lit_ce | exact lit_ps | exact lit_rs | exact lit_em | exact rfl))
local macro_rules | `(tactic| walk_at "my op") => `(tactic| with_reducible (first | exact op_eq_int | exact op_ne_int | exact op_lt_int | exact op_gt_int | exact op_le_int | exact op_eq_str | exact op_ne_str | exact op_in_str | exact op_notin_str | exact op_eq_none_str | exact op_ne_none_str | exact op_ne_bool | exact op_is_none | exact op_is_none_str | exact op_add_int | exact op_iadd_int | exact op_sub_int | exact op_eq_opt | exact op_ne_opt | exact op_none_opt))
local macro_rules | `(tactic| walk_at "my nu") => `(tactic| first | (intro h; cases h; done) | exact PVo_ne _)
local macro_rules | `(tactic| walk_at "my ev") => `(tactic| first
  | with_reducible exact ev_int | ((with_reducible refine' ev_str ?h1); (case h1 => walk_at "my lit")) | with_reducible exact ev_none | with_reducible exact ev_bool
  | ((with_reducible refine' ev_nm ?k1 ?h1 ?u1); (case k1 => assumption); (case h1 => walk_at "my has"; done); (case u1 => walk_at "my nu"))
  | with_reducible refine' ev_bin ?_ ?_ ?_ | ((with_reducible refine' ev_cmp ?_ ?_ ?_ ?m1); (case m1 => exact rfl)) | ((with_reducible refine' tr_cmp ?_ ?_ ?_ ?m1); (case m1 => exact rfl)) | with_reducible refine' tr_not ?_ | with_reducible refine' tr_op ?_
  | with_reducible refine' tra_and ?_ ?_ | with_reducible exact tra_and_nil | with_reducible refine' tra_or ?_ ?_ | with_reducible exact tra_or_nil
  | with_reducible refine' ev_neg ?_
  | walk_at "my op" | ((with_reducible refine' evl_cons1 ?_ ?_ ?m1); (case m1 => exact rfl)) | with_reducible refine' evl_nil ?_ | (guard_target =~ (_ = _ → _); intro _))
local macro_rules | `(tactic| walk_at "my evs") => `(tactic| repeat' (walk_at "my ev"))
local macro_rules | `(tactic| walk_at "my blt") => `(tactic| first | exact ev_globB (by assumption) (by kernel_rfl) boot_len (by decide +kernel) (by kernel_rfl) (by decide +kernel) | exact ev_globB (by assumption) (by kernel_rfl) boot_str (by decide +kernel) (by kernel_rfl) (by decide +kernel) | exact ev_globB (by assumption) (by kernel_rfl) boot_range (by decide +kernel) (by kernel_rfl) (by decide +kernel))
local macro_rules | `(tactic| walk_at "my fn") => `(tactic| exact ev_glob (by assumption) (by kernel_rfl) (by kernel_rfl) (by decide +kernel))
local macro_rules | `(tactic| walk_at "my puts") => `(tactic| (repeat (apply Puts.cons; (focus (walk_at "my put"; done)))); exact Puts.nil)
local macro_rules | `(tactic| walk_at "my nils") => `(tactic| repeat (first | with_reducible refine seq_nil ?_ | with_reducible refine wx_nil ?_))
local macro_rules | `(tactic| walk_at "my nnils") => `(tactic| repeat (first | with_reducible refine seqn_nil ?_ | with_reducible refine wxn_nil ?_))
local macro_rules | `(tactic| walk_at "my meth") => `(tactic| (apply ev_of_x; first | with_reducible apply evx_meth1 | with_reducible apply evx_meth0 | apply evx_meth1 | apply evx_meth0))

section
variable {A₀ : Around} {base g G B h₅ : Heap} {outer : List Env} {L : Addr} {m : Str → Option Value} {env : Env}
theorem ground_up2 (hf : env.frame = some L) (K : Below A₀ base outer g) (F : Fr g L G m) (hBG : ∀ b o, g.get? b = some o → G.get? b = some o → b ∉ (env :: outer).filterMap (·.frame) → B.get? b = some o) (hBh : B.StaysIn h₅) (hsm : G.UpToSlots h₅) :
    ∃ g', KtsTurn (outer.filterMap (·.frame)) g g' ∧ Fr g' L h₅ m := by
  have self : ∀ o, g.get? L = some o → False := fun o e => by rw [kts_self F] at e; cases e
  obtain ⟨T, S⟩ := kts_turn_at (h := h₅) (fs := outer.filterMap (·.frame)) (g := g)
    (fun b hb => by obtain ⟨_, o, ho, _⟩ := K.frames.mem hb; exact ⟨o, ho⟩)
    (fun b o e nm => hBh b o (hBG b o e (F.keep b o e) (fun hm => by
      rcases fs_mem hf hm with z | z
      · exact self o (z ▸ e)
      · exact nm z)))
    (fun b o e hm => by
      obtain ⟨_, o', ho', hd⟩ := K.frames.mem hm
      rw [e] at ho'; cases ho'
      exact hsm b o (F.keep b o e) hd)
  exact ⟨_, T, hsm.ns F.ns, S, by rw [T.size]; exact F.above⟩
end
section
variable {K : Frag} {p : Program} {loose : List Str} {mean : ExcName → Option Value} {mg mb : Str → Option Value} {c : Cf} {lo lo2 : Lo} {ob ob2 : Ob} {A₀ : Around} {base : Heap} {outer : List Env}
/-- what the ground and the ledger hold stands, but for the frames' slots -/
theorem Rep0.turned2 {s s' : Shared} (hf : c.env.frame = some c.env.locals) (Bl : Below A₀ base outer c.h₀) (hA : c.A.frames = some (c.env :: outer)) (R : Rep0 c lo ob s) {B : Heap}
    (hBG : ∀ b o, s.heap.get? b = some o → b ∉ (c.env :: outer).filterMap (·.frame) → (c.h₀.get? b = some o ∨ b ∈ ob.map (·.1)) → B.get? b = some o) (hBh : B.StaysIn s'.heap) (hsm : s.heap.UpToSlots s'.heap) (hos : s'.os = s.os) (hg : s'.gens = s.gens) : ∃ g', Tn c g' ∧ Rep0 (c.at g') lo ob s' := by
  obtain ⟨m, F, hlo⟩ := R.fr
  obtain ⟨g', T, F'⟩ := ground_up2 (env := c.env) hf Bl F (fun b o e e2 nm => hBG b o e2 nm (.inl e)) hBh hsm
  refine ⟨g', by unfold Tn fsOf; rw [hA]; exact T, ⟨m, F', hlo⟩, ⟨R.obs.1, fun q hq => ?_⟩, R.nd, R.loc, hos.trans R.os, hg ▸ R.gens⟩
  obtain ⟨o, h1, h2, h3, h4⟩ := R.obs.2 q hq
  refine ⟨o, hBh _ _ (hBG _ _ h1 (fun hm => ?_) (.inr (List.mem_map.mpr ⟨q, hq, rfl⟩))), h2, T.none_ _ h3, h4⟩
  rcases fs_mem hf hm with z | z
  · exact h2 z
  · obtain ⟨_, o', ho', _⟩ := Bl.frames.mem z
    rw [h3] at ho'; cases ho'
/-- back in the caller's frame, over a ground that may have turned -/
theorem Rep0.leave {s₀ s' : Shared} {g' : Heap} {c2 : Cf} (hf : c.env.frame = some c.env.locals) (Bl : Below A₀ base outer c.h₀) (R0 : Rep0 c lo ob s₀) (hA : c.A.frames = some (c.env :: outer))
    (T : KtsTurn ((c.env :: outer).filterMap (·.frame)) (hideAll s₀.heap (ob.map (·.1))) g') (R2 : Rep0 (c2.at g') lo2 ob2 s') (hos : c2.os = c.os) : ∃ h', Tn c h' ∧ Rep0 (c.at h') lo ob2 s' := by
  obtain ⟨m, F, hlo⟩ := R0.fr
  obtain ⟨m2, F2, _⟩ := R2.fr
  have nm : ∀ b o, c.h₀.get? b = some o → b ∉ ob.map (·.1) := fun b o e q => by
    obtain ⟨q1, hq, rfl⟩ := List.mem_map.mp q
    obtain ⟨_, _, _, h3, _⟩ := R0.obs.2 q1 hq
    rw [h3] at e; cases e
  have st : ∀ b o, c.h₀.get? b = some o → (hideAll s₀.heap (ob.map (·.1))).get? b = some o := fun b o e => hideAll_get _ (F.keep b o e) (nm b o e)
  obtain ⟨oL, es, ep, hL, hLd, hLk, hLf⟩ := F.ns
  have nL : c.env.locals ∉ ob.map (·.1) := fun q => by
    obtain ⟨q1, hq, e⟩ := List.mem_map.mp q
    obtain ⟨_, _, h2, _⟩ := R0.obs.2 q1 hq
    exact h2 e
  have hLg := hideAll_get (ob.map (·.1)) hL nL
  obtain ⟨sl, hs⟩ := T.up hLg
  have nL₀ : c.h₀.get? c.env.locals = none := kts_self F
  obtain ⟨T₁, S₁⟩ := kts_turn_at (h := s'.heap) (fs := outer.filterMap (·.frame)) (g := c.h₀)
    (fun b hb => by obtain ⟨_, o, ho, _⟩ := Bl.frames.mem hb; exact ⟨o, ho⟩)
    (fun b o e nmem => F2.keep b o (T.other b o (st b o e) (fun q => by
      rcases fs_mem hf q with z | z
      · rw [z, nL₀] at e; cases e
      · exact nmem z)))
    (fun b o e hm => by
      obtain ⟨sl', hs'⟩ := T.up (st b o e)
      exact ⟨sl', F2.keep _ _ hs'⟩)
  refine ⟨ktsHeap s'.heap (outer.filterMap (·.frame)) c.h₀, by unfold Tn fsOf; rw [hA]; exact T₁, ⟨m, ⟨⟨_, es, ep, F2.keep _ _ hs, hLd, hLk, hLf⟩, S₁, by show (ktsHeap _ _ _).objs.size ≤ _; rw [T₁.size]; exact F.above⟩, hlo⟩, ⟨R2.obs.1, fun q hq => ?_⟩, R0.nd, R0.loc, R2.os.trans hos, R2.gens⟩
  obtain ⟨o, h1, h2, h3, h4⟩ := R2.obs.2 q hq
  refine ⟨o, h1, fun e => ?_, T₁.none_ _ ?_, h4⟩
  · have e : q.1 = c.env.locals := e
    have h3 : g'.get? q.1 = none := h3
    rw [e, hs] at h3; cases h3
  · cases e : c.h₀.get? q.1 with
    | none => rfl
    | some o' =>
      obtain ⟨sl', hs'⟩ := T.up (st _ _ e)
      have h3 : g'.get? q.1 = none := h3
      rw [hs'] at h3; cases h3
end
/-- the frame of a call of fd's in surroundings with c's frames, its cells with it -/
abbrev fnCfC (c : Cf) (A' : Around) (fd : FuncData) (a L : Addr) (g : Heap) : Cf := ⟨A'.deeper (envOfC fd.qualname fd.scope L a fd.code), envOfC fd.qualname fd.scope L a fd.code, g, c.os⟩
section
variable {prog : Program} {w : World} {K : Frag} {p : Program} {loose : List Str} {mean : ExcName → Option Value} {mg mb : Str → Option Value} {c : Cf} {lo lo2 : Lo} {ob : Ob}
/-- a call of a def that may have cells, whose frame may turn the ground and raise -/
theorem code_fnN (G : Gu K p loose mean mg mb c) {A' : Around} {a : Addr} {fd : FuncData} {body : List Stmt} {us0 : List Value} {binds : List (Str × Value)} {obc : Addr → Ob} {X : Cf → EPost} {Φ : PV → Ob → Prop} {s : Shared} {R : Result → Shared → Prop} (F : Fn0 K a fd body)
    (hfr : A'.frames = c.A.frames) (hhd : A'.handled = none) (hroom : A'.depth < recursionLimit) (hbind : BindsTo s fd ⟨us0, []⟩ binds)
    (hkind : ∀ n, ∀ x ∈ binds, fd.scope.names.lookup x.1 = some .local ∨ (fd.scope.names.lookup x.1 = some .cell ∧ ((cellsFrom n fd.scope.names []).lookup x.1).isSome = true))
    (hnd : ((cellsFrom 0 fd.scope.names []).map (·.1)).Nodup)
    (hlo : ∀ L, ∀ q ∈ lo2, q.2.at (bindL (envOfC fd.qualname fd.scope L a fd.code).kindOf binds (fun _ => none) q.1)) (hln : (lo2.map (·.1)).Nodup)
    (hloc : ∀ q ∈ lo2, fd.scope.names.lookup q.1 = some .local ∧ (q.1 == ("__debug__" : Str)) = false)
    (hcells : ∀ L cells, CellsAre (bindC (envOfC fd.qualname fd.scope L a fd.code).kindOf binds fun _ => none) (cellsFrom (L + 1) fd.scope.names []) cells → ∀ q ∈ obc L, ∃ o, (q.1, o) ∈ cells ∧ q.2 o) (hcn : ∀ L, ((obc L).map (·.1)).Nodup)
    (H : ∀ L g, Gu K p loose mean mg mb (fnCfC c A' fd a L g) → c.h₀.StaysIn g → WXn prog w (fnCfC c A' fd a L g) lo2 (obc L ++ ob) (X (fnCfC c A' fd a L g)) body (RetΦ Φ))
    (R0 : Rep c lo ob s) (q : ∀ v u ob' s' g', Tn c g' → Φ v ob' → v.is u → Rep0 (c.at g') lo ob' s' → R (.ok (.ret u)) s')
    (hX : ∀ L e s', c.h₀.objs.size ≤ L → Gu K p loose mean mg mb (fnCfC c A' fd a L (hideAll s.heap (ob.map (·.1)))) → X (fnCfC c A' fd a L (hideAll s.heap (ob.map (·.1)))) e s' → wpAny (model prog w) (A'.deeper (envOfC fd.qualname fd.scope L a fd.code)) (leaving (envOfC fd.qualname fd.scope L a fd.code) e) (fun _ s'' => R (.error e) s'') (fun e' s'' => R (.error e') s'') s') :
    codeAny (model prog w) A' (.call (.ref a) ⟨us0, []⟩) R s := by
  obtain ⟨A₀, base, outer, B, hA, XB, TB, D⟩ := G.bel
  have Gt0 := G.gt
  obtain ⟨m, Fr0, hlo0⟩ := R0.fr
  obtain ⟨nx, N, kn, rn⟩ := R0.obs.news
  obtain ⟨o, ho, hd⟩ := gt_fn F Gt0.X
  have hcode : (c.h₀).CodeRec fd.code fd.qualname := codeRec_of Gt0.X F.code
  obtain ⟨FG, BG, st, _⟩ := groundX (R := R) B Fr0 N (hfr.trans hA) G.frame G.kind
  rw [kn] at FG BG st
  have hq : ∀ L, Gu K p loose mean mg mb (fnCfC c A' fd a L (hideAll s.heap (ob.map (·.1)))) := fun L => by
    obtain ⟨name, qual, params, fbody, scope, globals, closure, defaults, kwdefaults, doc, pyModule, annotations, code, closureTuple, builtins⟩ := fd
    obtain ⟨h1, h2, h3, h4, h5, h6, h7, h8, h9⟩ := F
    refine ⟨hhd, h7, rfl, rfl, rfl, A', base, c.env :: outer, BG, by show (A'.deeper _).frames = _; rw [Around.frames_deeper (hfr.trans hA)], XB, TB, fun b hb => ?_⟩
    rcases fs_mem G.frame hb with z | z
    · obtain ⟨oL, es, ep, hL, hLd, _⟩ := FG.ns
      exact ⟨oL, es, ep, z ▸ hL, hLd⟩
    · obtain ⟨o', es, n', ho', hd'⟩ := D b z
      exact ⟨o', es, n', st b o' ho', hd'⟩
  obtain ⟨name, qual, params, fbody, scope, globals, closure, defaults, kwdefaults, doc, pyModule, annotations, code, closureTuple, builtins⟩ := fd
  obtain ⟨h1, h2, h3, h4, h5, h6, h7, h8, h9⟩ := F
  simp only at h2 h3 h4 h5 h6 h7 h8 h9
  subst h2 h3 h4 h5
  refine codeAny_call_function hroom (Fr0.keep _ _ ho) hd h8 h9 rfl (hcode.keeps Fr0.keep) (hbind _ _ _ _ ?_)
  refine wpAny_with_toks R0.tk (wpAny_newFunctionEnv_cells h7 (hkind _) fun env' he s' x ht => ?_)
  subst he
  refine ⟨(Gt0.T.nolimit.keeps Fr0.keep).keeps x.toInCall.keep, codeAny_func ?_⟩
  obtain ⟨h₁, tk, rfl, _⟩ := x.done
  have hk₁ := x.toInCall.keep
  obtain ⟨cells, NC, Y⟩ := Cl.news (h₀ := s.heap) (Nat.le_refl _) fun n cc hm => ⟨x.cell n cc (lookup_of_mem_nodup (cellsFrom_names scope.names 0 (s.heap.objs.size + 1) [] [] rfl ▸ hnd) hm), x.above n cc hm⟩
  have hcl := hcells _ _ Y
  have hG := hq s.heap.objs.size
  have R' : Rep (fnCfC c A' ⟨name, qual, params, .stmts body, scope, mainGlobals, [], defaults, kwdefaults, doc, pyModule, annotations, code, closureTuple, builtinsNs⟩ a s.heap.objs.size (hideAll s.heap (ob.map (·.1)))) lo2 (obc s.heap.objs.size ++ ob) { s with heap := h₁, toks := tk } := by
    refine ⟨⟨⟨_, ⟨x.toInCall.ns, fun b o e => hk₁ b o (of_hideAll _ e), Nat.le_of_eq (hideAll_size _ _)⟩, hlo s.heap.objs.size⟩, ⟨?_, fun q hq => ?_⟩, hln, hloc, R0.os, R0.gens⟩, ht⟩
    · rw [List.map_append]
      refine List.nodup_append.mpr ⟨hcn _, R0.obs.1, fun y hy z hz e => ?_⟩
      obtain ⟨q1, hq1, rfl⟩ := List.mem_map.mp hy
      obtain ⟨q2, hq2, rfl⟩ := List.mem_map.mp hz
      obtain ⟨o1, ho1, _⟩ := hcl q1 hq1
      obtain ⟨o2, ho2, _⟩ := R0.obs.2 q2 hq2
      have := (NC _ ho1).2.2
      rw [e, ho2] at this; cases this
    · rcases List.mem_append.mp hq with hq | hq
      · obtain ⟨o1, ho1, hp⟩ := hcl q hq
        refine ⟨o1, (NC _ ho1).1, (NC _ ho1).2.1, ?_, hp⟩
        cases e : (hideAll s.heap (ob.map (·.1))).get? q.1 with
        | none => rfl
        | some o' => have := of_hideAll _ e; rw [(NC _ ho1).2.2] at this; cases this
      · obtain ⟨o1, ho1, hl1, _, hp⟩ := R0.obs.2 q hq
        exact ⟨o1, hk₁ _ _ ho1, Nat.ne_of_lt (Heap.lt_size ho1), hideAll_none _ (List.mem_map.mpr ⟨q, hq, rfl⟩), hp⟩
  refine (H _ _ hG st).use (E := fun e s' => wpAny (model prog w) _ (leaving _ e) (fun _ s'' => R (.error e) s'') (fun e' s'' => R (.error e') s'') s') Tn.refl R' (fun o f lo' ob' s' g' T' hΦ hf R'' => ?_) (fun e s' x => hX _ e s' (Nat.le_trans Fr0.above (Nat.le_of_lt Fr0.ns.lt)) hG x) PassesOwn.leaving
  have fin : ∀ (v : PV) (u : Value), Φ v ob' → v.is u → R (.ok (.ret u)) s' := fun v u hv hvu => by
    have T2 : KtsTurn ((c.env :: outer).filterMap (·.frame)) (hideAll s.heap (ob.map (·.1))) g' := by
      have := T'; unfold Tn fsOf at this
      rw [show (fnCfC c A' _ a s.heap.objs.size _).A.frames = _ from Around.frames_deeper (hfr.trans hA)] at this
      exact this
    obtain ⟨h', Th, Rh⟩ := Rep0.leave G.frame B R0.1 hA T2 R''.1 rfl
    exact q v u ob' s' h' Th hv hvu Rh
  cases o with
  | next => cases hf; exact fin _ _ hΦ rfl
  | cont => exact hΦ.elim
  | brk => exact hΦ.elim
  | ret v => obtain ⟨u, rfl, hu2⟩ := hf; exact fin v u hΦ hu2
end
end Mine
end
section
open PySem.Calls
set_option maxHeartbeats 4000000
namespace Mine

local macro_rules | `(tactic| walk_at "my has") => `(tactic| with_reducible (repeat (first | exact Has.here | apply Has.there)))
local macro_rules | `(tactic| walk_at "my put") => `(tactic| with_reducible (repeat (first | exact Put.here | apply Put.there)))
local macro_rules | `(tactic| walk_at "my lit") => `(tactic| with_reducible (first | exact lit_sq | exact lit_dq | exact lit_E | exact lit_bs | exact lit_mi | exact lit_dl | exact lit_co | exact lit_eq | exact lit_qm | exact lit_pc | exact lit_lp | exact lit_rp | exact lit_s | exact lit_us | exact lit_nl | exact lit_ce | exact lit_ps | exact lit_rs | exact lit_em | exact rfl))
local macro_rules | `(tactic| walk_at "my op") => `(tactic| with_reducible (first | exact op_eq_int | exact op_ne_int | exact op_lt_int | exact op_gt_int | exact op_le_int | exact op_eq_str | exact op_ne_str | exact op_in_str | exact op_notin_str | exact op_eq_none_str | exact op_ne_none_str | exact op_ne_bool | exact op_is_none | exact op_is_none_str | exact op_add_int | exact op_iadd_int | exact op_sub_int | exact op_eq_opt | exact op_ne_opt | exact op_none_opt))
local macro_rules | `(tactic| walk_at "my nu") => `(tactic| first | (intro h; cases h; done) | exact PVo_ne _)
local macro_rules | `(tactic| walk_at "my ev") => `(tactic| first
  | with_reducible exact ev_int | ((with_reducible refine' ev_str ?h1); (case h1 => walk_at "my lit")) | with_reducible exact ev_none | with_reducible exact ev_bool
  | ((with_reducible refine' ev_nm ?k1 ?h1 ?u1); (case k1 => assumption); (case h1 => walk_at "my has"; done); (case u1 => walk_at "my nu"))
  | with_reducible refine' ev_bin ?_ ?_ ?_ | ((with_reducible refine' ev_cmp ?_ ?_ ?_ ?m1); (case m1 => exact rfl)) | ((with_reducible refine' tr_cmp ?_ ?_ ?_ ?m1); (case m1 => exact rfl)) | with_reducible refine' tr_not ?_ | with_reducible refine' tr_op ?_
  | with_reducible refine' tra_and ?_ ?_ | with_reducible exact tra_and_nil | with_reducible refine' tra_or ?_ ?_ | with_reducible exact tra_or_nil
  | with_reducible refine' ev_neg ?_
  | walk_at "my op" | ((with_reducible refine' evl_cons1 ?_ ?_ ?m1); (case m1 => exact rfl)) | with_reducible refine' evl_nil ?_ | (guard_target =~ (_ = _ → _); intro _))
local macro_rules | `(tactic| walk_at "my evs") => `(tactic| repeat' (walk_at "my ev"))
local macro_rules | `(tactic| walk_at "my blt") => `(tactic| first | exact ev_globB (by assumption) (by kernel_rfl) boot_len (by decide +kernel) (by kernel_rfl) (by decide +kernel) | exact ev_globB (by assumption) (by kernel_rfl) boot_str (by decide +kernel) (by kernel_rfl) (by decide +kernel) | exact ev_globB (by assumption) (by kernel_rfl) boot_range (by decide +kernel) (by kernel_rfl) (by decide +kernel))
local macro_rules | `(tactic| walk_at "my fn") => `(tactic| exact ev_glob (by assumption) (by kernel_rfl) (by kernel_rfl) (by decide +kernel))
local macro_rules | `(tactic| walk_at "my puts") => `(tactic| (repeat (apply Puts.cons; (focus (walk_at "my put"; done)))); exact Puts.nil)
local macro_rules | `(tactic| walk_at "my nils") => `(tactic| repeat (first | with_reducible refine seq_nil ?_ | with_reducible refine wx_nil ?_))
local macro_rules | `(tactic| walk_at "my nnils") => `(tactic| repeat (first | with_reducible refine seqn_nil ?_ | with_reducible refine wxn_nil ?_))
local macro_rules | `(tactic| walk_at "my meth") => `(tactic| (apply ev_of_x; first | with_reducible apply evx_meth1 | with_reducible apply evx_meth0 | apply evx_meth1 | apply evx_meth0))

/-- an InterfaceError flies through the frame of c: what of its ledger still stands -/
def Flown (c : Cf) (lo : Lo) (ob0 : Ob) : EPost := fun ex s' => ∃ s1 g1 e outer base t, c.A.frames = some (c.env :: outer) ∧ Tn c g1 ∧ Rep0 (c.at g1) lo ob0 s1 ∧ ex = .ref e ∧
  (∀ b o, s1.heap.get? b = some o → b ∉ (c.env :: outer).filterMap (·.frame) → (g1.get? b = some o ∨ b ∈ ob0.map (·.1)) → base.get? b = some o) ∧
  Heap.FlyingW base (c.env :: outer) e (.ref 44) (.ref t) s'.heap ∧ s1.heap.UpToSlots s'.heap ∧ s'.os = s1.os ∧ s'.gens = s1.gens
section
variable {prog : Program} {w : World} {K : Frag} {p : Program} {loose : List Str} {mean : ExcName → Option Value} {mg mb : Str → Option Value} {c : Cf} {lo : Lo} {ob ob0 : Ob}
/-- it leaves the callee's frame -/
theorem leave_flown (G : Gu K p loose mean mg mb c) {A' : Around} (hfr : A'.frames = c.A.frames) {fd : FuncData} {a L : Addr} {s s' : Shared} {e : Value} (R0 : Rep0 c lo ob s) (hL : c.h₀.objs.size ≤ L)
    (G2 : Gu K p loose mean mg mb (fnCfC c A' fd a L (hideAll s.heap (ob.map (·.1))))) (x : XR (fnCfC c A' fd a L (hideAll s.heap (ob.map (·.1)))) ob0 e s') {Q : Unit → Shared → Prop} {E : Value → Shared → Prop} (q : ∀ s'', Flown c lo ob0 e s'' → Q () s'') :
    wpAny (model prog w) (A'.deeper (envOfC fd.qualname fd.scope L a fd.code)) (leaving (envOfC fd.qualname fd.scope L a fd.code) e) Q E s' := by
  obtain ⟨A₀, base, outer, B, hA, XB, TB, D⟩ := G.bel
  obtain ⟨g, lo1, s1, h', e', vs, T, R2, hm, rfl, rfl⟩ := x
  have hfr2 : (A'.deeper (envOfC fd.qualname fd.scope L a fd.code)).frames = some (envOfC fd.qualname fd.scope L a fd.code :: c.env :: outer) := Around.frames_deeper (hfr.trans hA)
  have T2 : KtsTurn ((c.env :: outer).filterMap (·.frame)) (hideAll s.heap (ob.map (·.1))) g := by
    have := T; unfold Tn fsOf at this
    rw [show (fnCfC c A' fd a L _).A.frames = _ from hfr2] at this
    exact this
  obtain ⟨h1, Th, Rh⟩ := Rep0.leave G.frame B R0 hA T2 R2 rfl
  obtain ⟨A₂, base₂, outer₂, B₂, hA₂, _, _, _⟩ := (G2.turn T).bel
  have ho : outer₂ = c.env :: outer := by
    have h1 : (A'.deeper (envOfC fd.qualname fd.scope L a fd.code)).frames = some (envOfC fd.qualname fd.scope L a fd.code :: outer₂) := hA₂
    rw [hfr2] at h1
    exact (List.cons.inj (Option.some.inj h1)).2.symm
  subst ho
  obtain ⟨m2, F2, _⟩ := R2.fr
  have K2 := pushX (env := envOfC fd.qualname fd.scope L a fd.code) B₂ F2 rfl G2.kind
  have hin : ∀ en ∈ (envOfC fd.qualname fd.scope L a fd.code :: c.env :: outer), ∀ b, en.frame = some b → b ∈ (envOfC fd.qualname fd.scope L a fd.code :: c.env :: outer).filterMap (·.frame) := fun en he b hb => List.mem_filterMap.mpr ⟨en, he, hb⟩
  refine wpAny_leaves_madeW hfr2 (L := L) rfl (fun b o eo => of_hideAll _ eo) (funFrames_hide K2.frames hin) hm fun h'' t k1 k2 k3 k4 => ?_
  refine q _ ⟨s1, h1, e', outer, _, t, hA, Th, Rh, rfl, fun b o eb nm hh => ?_, k1, (Heap.UpToSlots.of_keeps hm.keeps).trans k4, rfl, rfl⟩
  refine hideAll_get _ eb fun hmem => ?_
  rcases fs_mem (L := L) rfl hmem with z | z
  · rcases hh with hh | hh
    · have : c.h₀.get? L = none := Heap.get?_none_of_le hL
      rw [z, Th.none_ _ this] at hh; cases hh
    · obtain ⟨q1, hq, e1⟩ := List.mem_map.mp hh
      obtain ⟨_, _, h2, _⟩ := R2.obs.2 q1 hq
      exact h2 (e1.trans z)
  · exact nm z
variable {pos np : Pos} {x : Str}
/-- and is caught in c's own -/
theorem catch_flown (G : Gu K p loose mean mg mb c) {s' : Shared} {ex : Value} {b₀ : Stmt} {suite : List Stmt} {rest : List ExceptHandler} {Q : Flow → Shared → Prop} {E : Value → Shared → Prop} (hF : Flown c lo ob ex s')
    (hx : nsIn K mainGlobals x = some (some (.ref 44))) (hone : exmOne K (.ref 44) (.ref 44) = some true) (hxk : c.env.kindOf x = some .globalImplicit) (hd : (x == ("__debug__" : Str)) = false)
    (k : ∀ g' h' e, ex = .ref e → Tn c g' → Rep0 (c.at g') lo ob { s' with heap := h' } → wpAny (model prog w) (c.A.mark (some (.ref e))) (execs (b₀ :: suite) c.env) Q (fun _ _ => False) { s' with heap := h' }) :
    wpAny (model prog w) c.A (noteFrame ex c.env) (fun _ s₂ => wpAny (model prog w) c.A (setFlight ex none) (fun _ s₃ => wpAny (model prog w) c.A (handleBy ex c.env (.ExceptHandler (some (.Name x np)) none (b₀ :: suite) pos :: rest)) Q E s₃) E s₂) E s' := by
  obtain ⟨A₀, base0, outer0, Bl, hA0, XB, TB, D⟩ := G.bel
  obtain ⟨s1, g1, e, outer, base, t, hA, T1, R1, rfl, hBG, hfl, hup, hos, hg⟩ := hF
  have ho : outer0 = outer := by rw [hA] at hA0; exact (List.cons.inj (Option.some.inj hA0)).2.symm
  subst ho
  have G1 := G.turn T1
  have Bl1 : Below A₀ base0 outer0 g1 := Below.turn Bl (by have := T1; unfold Tn fsOf at this; rw [hA] at this; exact this)
  refine wpAny_looks_onW hA G.frame hfl fun h4 hheld4 up4 => ?_
  refine wpAny_landsW hheld4 fun h5 hheld up5 => ?_
  have upA := (hup.trans up4).trans up5
  obtain ⟨g5, T5, R5⟩ := Rep0.turned2 (c := c.at g1) (s' := { s' with heap := h5 }) G.frame Bl1 hA R1 (fun b o e1 e2 e3 => hBG b o e1 e2 e3) hheld.1 upA hos hg
  obtain ⟨obj, hob, hobc⟩ := hheld.there
  have G5 := (G1.turn T5).gt
  obtain ⟨m5, F5, _⟩ := R5.fr
  refine wpAny_handleBy_cons (codeAny_handlers_test ?_) (by intro q; cases q)
  refine Calls.Name_function_global G.kind hxk (Calls.loadGlobal_global (mg := mg) (v := .ref 44) ?_ ?_ ?_) hd
  · rw [G.glob]; exact G5.T.g.keeps F5.keep
  · exact mg_of G5.X G5.T.g hx
  have LT : Looks (model prog w) h5 (typeOf (.ref e)) (.ref 44) := by rw [← hobc]; exact (Looks.ld hob).andThen .now
  refine (exm_one (G5.X.keeps F5.keep) LT hone).here ?_
  refine codeAny_handlers_suite ?_
  refine lands_againW hheld fun h6 hfl6 up6 => ?_
  obtain ⟨g6, T6, R6⟩ := Rep0.turned2 (c := c.at g1) (s' := { s' with heap := h6 }) G.frame Bl1 hA R1 (fun b o e1 e2 e3 => hBG b o e1 e2 e3) hfl6.1 (upA.trans up6) hos hg
  exact wpAny_mono (k g6 h6 e rfl (T1.trans T6) R6) (fun _ _ z => z) fun _ _ z => z.elim
end
end Mine
end
section
open PySem.Calls
set_option maxHeartbeats 4000000
namespace Mine

local macro_rules | `(tactic| walk_at "my has") => `(tactic| with_reducible (repeat (first | exact Has.here | apply Has.there)))
local macro_rules | `(tactic| walk_at "my put") => `(tactic| with_reducible (repeat (first | exact Put.here | apply Put.there)))
local macro_rules | `(tactic| walk_at "my lit") => `(tactic| with_reducible (first | exact lit_sq | exact lit_dq | exact lit_E | exact lit_bs | exact lit_mi | exact lit_dl | exact lit_co | exact lit_eq | exact lit_qm | exact lit_pc | exact lit_lp | exact lit_rp | exact lit_s | exact lit_us | exact lit_nl | exact lit_ce | exact lit_ps | exact lit_rs | exact lit_em | exact rfl))
local macro_rules | `(tactic| walk_at "my op") => `(tactic| with_reducible (first | exact op_eq_int | exact op_ne_int | exact op_lt_int | exact op_gt_int | exact op_le_int | exact op_eq_str | exact op_ne_str | exact op_in_str | exact op_notin_str | exact op_eq_none_str | exact op_ne_none_str | exact op_ne_bool | exact op_is_none | exact op_is_none_str | exact op_add_int | exact op_iadd_int | exact op_sub_int | exact op_eq_opt | exact op_ne_opt | exact op_none_opt))
local macro_rules | `(tactic| walk_at "my nu") => `(tactic| first | (intro h; cases h; done) | exact PVo_ne _)
local macro_rules | `(tactic| walk_at "my ev") => `(tactic| first
  | with_reducible exact ev_int | ((with_reducible refine' ev_str ?h1); (case h1 => walk_at "my lit")) | with_reducible exact ev_none | with_reducible exact ev_bool
  | ((with_reducible refine' ev_nm ?k1 ?h1 ?u1); (case k1 => assumption); (case h1 => walk_at "my has"; done); (case u1 => walk_at "my nu"))
  | with_reducible refine' ev_bin ?_ ?_ ?_ | ((with_reducible refine' ev_cmp ?_ ?_ ?_ ?m1); (case m1 => exact rfl)) | ((with_reducible refine' tr_cmp ?_ ?_ ?_ ?m1); (case m1 => exact rfl)) | with_reducible refine' tr_not ?_ | with_reducible refine' tr_op ?_
  | with_reducible refine' tra_and ?_ ?_ | with_reducible exact tra_and_nil | with_reducible refine' tra_or ?_ ?_ | with_reducible exact tra_or_nil
  | with_reducible refine' ev_neg ?_
  | walk_at "my op" | ((with_reducible refine' evl_cons1 ?_ ?_ ?m1); (case m1 => exact rfl)) | with_reducible refine' evl_nil ?_ | (guard_target =~ (_ = _ → _); intro _))
local macro_rules | `(tactic| walk_at "my evs") => `(tactic| repeat' (walk_at "my ev"))
local macro_rules | `(tactic| walk_at "my blt") => `(tactic| first | exact ev_globB (by assumption) (by kernel_rfl) boot_len (by decide +kernel) (by kernel_rfl) (by decide +kernel) | exact ev_globB (by assumption) (by kernel_rfl) boot_str (by decide +kernel) (by kernel_rfl) (by decide +kernel) | exact ev_globB (by assumption) (by kernel_rfl) boot_range (by decide +kernel) (by kernel_rfl) (by decide +kernel))
local macro_rules | `(tactic| walk_at "my fn") => `(tactic| exact ev_glob (by assumption) (by kernel_rfl) (by kernel_rfl) (by decide +kernel))
local macro_rules | `(tactic| walk_at "my puts") => `(tactic| (repeat (apply Puts.cons; (focus (walk_at "my put"; done)))); exact Puts.nil)
local macro_rules | `(tactic| walk_at "my nils") => `(tactic| repeat (first | with_reducible refine seq_nil ?_ | with_reducible refine wx_nil ?_))
local macro_rules | `(tactic| walk_at "my nnils") => `(tactic| repeat (first | with_reducible refine seqn_nil ?_ | with_reducible refine wxn_nil ?_))
local macro_rules | `(tactic| walk_at "my meth") => `(tactic| (apply ev_of_x; first | with_reducible apply evx_meth1 | with_reducible apply evx_meth0 | apply evx_meth1 | apply evx_meth0))

section
variable (prog : Program) (w : World) (c : Cf) (lo : Lo) (ob : Ob)
/-- an expression over a ground that it may turn -/
def EvXn (X : EPost) (e : Expr) (Φ : PV → Ob → Prop) : Prop := ∀ g, Tn c g → ∀ (s : Shared) (Q E : Value → Shared → Prop), Rep (c.at g) lo ob s → (∀ v u ob' s' g', Tn c g' → Φ v ob' → v.is u → Rep0 (c.at g') lo ob' s' → Q u s') → (∀ e s', X e s' → E e s') → wpAny (model prog w) c.A (eval e c.env) Q E s
def ClN (X : EPost) (f : Value) (vs : List PV) (Φ : PV → Ob → Prop) : Prop := ∀ g, Tn c g → ∀ (us : List Value) (s : Shared) (Q E : Value → Shared → Prop), All2 PV.is vs us → Rep (c.at g) lo ob s → (∀ v u ob' s' g', Tn c g' → Φ v ob' → v.is u → Rep0 (c.at g') lo ob' s' → Q u s') → (∀ e s', X e s' → E e s') → wpAny (model prog w) c.A (call f us) Q E s
end
section
variable {prog : Program} {w : World} {c : Cf} {lo lo' : Lo} {ob : Ob} {pos p' : Pos} {x : Str} {X : EPost} {Φ : Post}
theorem EvXn.use {e : Expr} {Ψ : PV → Ob → Prop} (h : EvXn prog w c lo ob X e Ψ) {g : Heap} (T : Tn c g) {s : Shared} {Q E : Value → Shared → Prop} (R : Rep (c.at g) lo ob s) (q : ∀ v u ob' s' g', Tn c g' → Ψ v ob' → v.is u → Rep (c.at g') lo ob' s' → Q u s') (xx : ∀ e s', X e s' → 1 ≤ s'.toks → E e s') : wpAny (model prog w) c.A (eval e c.env) Q E s :=
  wpAny_mono (wpAny_toks_of R.tk (h g T s (fun u s' => ∃ v ob' g', Tn c g' ∧ Ψ v ob' ∧ v.is u ∧ Rep0 (c.at g') lo ob' s') (fun e s' => X e s') R (fun v u ob' s' g' T' hΦ hu R' => ⟨v, ob', g', T', hΦ, hu, R'⟩) fun _ _ z => z)) (fun u s' ⟨ht, v, ob', g', T', hΦ, hu, R'⟩ => q v u ob' s' g' T' hΦ hu ⟨R', ht⟩) fun e s' z => xx e s' z.2 z.1
theorem evxn_old {e : Expr} {Ψ : PV → Ob → Prop} (h : ∀ g, Tn c g → EvX prog w (c.at g) lo ob e Ψ) : EvXn prog w c lo ob X e Ψ := fun g T s Q E R q xx => h g T s Q E R fun v u ob' s' hΦ hu R' => q v u ob' s' g T hΦ hu R'
theorem evxn_mono {e : Expr} {Ψ Ψ' : PV → Ob → Prop} (h : EvXn prog w c lo ob X e Ψ) (k : ∀ v ob', Ψ v ob' → Ψ' v ob') : EvXn prog w c lo ob X e Ψ' := fun g T s Q E R q xx => h g T s Q E R (fun v u ob' s' g' T' hΦ => q v u ob' s' g' T' (k _ _ hΦ)) xx
theorem evxn_sub {e : Expr} {Ψ : PV → Ob → Prop} (h : EvXn prog w c lo ob X e fun v ob' => ∃ ob2, List.Sublist ob2 ob' ∧ Ψ v ob2) : EvXn prog w c lo ob X e Ψ := fun g T s Q E R q xx => h g T s Q E R (fun v u ob' s' g' T' ⟨ob2, a, hΦ⟩ hu R' => q v u ob2 s' g' T' hΦ hu (R'.sub a)) xx
theorem clN_sub {f : Value} {vs : List PV} {Ψ : PV → Ob → Prop} (h : ClN prog w c lo ob X f vs fun v ob' => ∃ ob2, List.Sublist ob2 ob' ∧ Ψ v ob2) : ClN prog w c lo ob X f vs Ψ := fun g T us s Q E hu R q xx => h g T us s Q E hu R (fun v u ob' s' g' T' ⟨ob2, a, hΦ⟩ hu R' => q v u ob2 s' g' T' hΦ hu (R'.sub a)) xx
/-- a call of a def by name -/
theorem evxn_callF {f : Expr} {e : Expr} {es : List Expr} {a : Addr} {Ψ : PV → Ob → Prop} (hf : ∀ g, Tn c g → Ev prog w (c.at g) lo ob f (.val (.ref a))) (ho : ∀ g, Tn c g → ∃ o fd, g.get? a = some o ∧ o.data = .func fd)
    (h : ∀ g, Tn c g → EvL prog w (c.at g) lo ob (e :: es) (fun vs ob' => ClN prog w c lo ob' X (.ref a) vs Ψ))
    (hc : eval (.Call f (e :: es) [] pos) c.env = (do callWith pos (← eval f c.env) [] (backTo pos (starEach (e :: es) c.env)) (backToKw pos (keywordEach [] c.env))))
    (he : starEach (e :: es) c.env = (false, eval e c.env) :: starEach es c.env) : EvXn prog w c lo ob X (.Call f (e :: es) [] pos) Ψ := fun g T s Q E R q xx => by
  obtain ⟨o, fd, h1, h2⟩ := ho g T
  exact Call_ ((hf g T).use R fun u s₁ hu R₁ => by
    cases hu
    refine callWith_def h2 ((h g T).use R₁ fun vs us ob' s₂ hc hus R₂ => ⟨?_, hc g T us s₂ Q E hus R₂ q xx⟩) he
    obtain ⟨m, F, _⟩ := R₂.1.fr
    exact F.keep _ _ h1) hc
theorem wsn_setxn (K : c.env.scope.kind = .function) {e : Expr} (h : EvXn prog w c lo ob X e (fun v ob' => ∃ lo', Put x v lo lo' ∧ Φ .next lo' ob'))
    (hs : swapsWith e (some (.Name x p')) pos.line c.env = pure false := by rfl) : WSn prog w c lo ob X (.Assign [.Name x p'] e pos) Φ := fun g T s Q E R q xx _ =>
  wpAny_Assign_Name (h.use T R (fun v u ob' s' g' T' ⟨lo', U, hΦ⟩ hv R' => store_name (c := c.at g') K hv U R'.1 fun s'' R'' => q _ _ _ _ _ g' T' hΦ rfl R'') fun e s' z _ => xx e s' z) hs
theorem wsn_retxn {e : Expr} (h : EvXn prog w c lo ob X e (fun v ob' => Φ (.ret v) lo ob')) : WSn prog w c lo ob X (.Return (some e) pos) Φ := fun g T s Q E R q xx _ =>
  wpAny_Return_some (h.use T R (fun v u ob' s' g' T' hΦ hv R' => q _ _ _ _ _ g' T' hΦ ⟨u, rfl, hv⟩ R'.1) fun e s' z _ => xx e s' z)
theorem evxn_and {e1 e2 : Expr} {rest : List Expr} {Ψ : PV → Ob → Prop} (h : EvXn prog w c lo ob X e1 fun v ob' => v = .val (.bool true) ∧ EvXn prog w c lo ob' X (.BoolOp .And (e2 :: rest) pos) Ψ) : EvXn prog w c lo ob X (.BoolOp .And (e1 :: e2 :: rest) pos) Ψ := fun g T s Q E R q xx =>
  BoolOp_and (h.use T R (fun v u ob' s' g' T' ⟨hv, hΦ⟩ hu R' => by subst hv; cases hu; exact wpAny_truthy_bool (hΦ g' T' _ _ _ R' q xx)) fun e s' z _ => xx e s' z)
theorem evxn_and1 {e1 : Expr} {Ψ : PV → Ob → Prop} (h : EvXn prog w c lo ob X e1 Ψ) : EvXn prog w c lo ob X (.BoolOp .And [e1] pos) Ψ := fun g T s Q E R q xx =>
  BoolOp_one (h g T s Q E R q xx)
/-- a statement whose exceptions need not pass by its own frame -/
def WSe (prog : Program) (w : World) (c : Cf) (lo : Lo) (ob : Ob) (X : EPost) (st : Stmt) (Φ : Post) : Prop := ∀ g, Tn c g → ∀ (s : Shared) (Q : Flow → Shared → Prop) (E : Value → Shared → Prop), Rep (c.at g) lo ob s → (∀ o f lo' ob' s' g', Tn c g' → Φ o lo' ob' → o.is f → Rep0 (c.at g') lo' ob' s' → Q f s') → (∀ e s', X e s' → E e s') → wpAny (model prog w) c.A (exec st c.env) Q E s
theorem wse_setxn (K : c.env.scope.kind = .function) {e : Expr} (h : EvXn prog w c lo ob X e (fun v ob' => ∃ lo', Put x v lo lo' ∧ Φ .next lo' ob'))
    (hs : swapsWith e (some (.Name x p')) pos.line c.env = pure false := by rfl) : WSe prog w c lo ob X (.Assign [.Name x p'] e pos) Φ := fun g T s Q E R q xx =>
  wpAny_Assign_Name (h.use T R (fun v u ob' s' g' T' ⟨lo', U, hΦ⟩ hv R' => store_name (c := c.at g') K hv U R'.1 fun s'' R'' => q _ _ _ _ _ g' T' hΦ rfl R'') fun e s' z _ => xx e s' z) hs
end
section
variable {prog : Program} {w : World} {K : Frag} {p : Program} {loose : List Str} {mean : ExcName → Option Value} {mg mb : Str → Option Value} {c : Cf} {lo lo' : Lo} {ob : Ob} {pos np hpos : Pos} {x : Str} {X : EPost} {Φ : Post}
/-- a try that catches an InterfaceError of a callee's -/
theorem wsn_try_flown (G : Gu K p loose mean mg mb c) {P : Prop} {st : Stmt} {b₀ : Stmt} {suite : List Stmt} {hs : List ExceptHandler}
    (hx : nsIn K mainGlobals x = some (some (.ref 44))) (hone : exmOne K (.ref 44) (.ref 44) = some true) (hxk : c.env.kindOf x = some .globalImplicit) (hd : (x == ("__debug__" : Str)) = false)
    (hst : WSe prog w c lo ob (fun e s => P ∧ Flown c lo ob e s) st (fun o lo' ob' => o = .next ∧ Φ .next lo' ob'))
    (hb : P → ∀ g, Tn c g → ∀ e, WX prog w { c.at g with A := c.A.mark (some (.ref e)) } lo ob NoX (b₀ :: suite) Φ) :
    WSn prog w c lo ob X (.Try [st] (.ExceptHandler (some (.Name x np)) none (b₀ :: suite) hpos :: hs) [] [] pos) Φ := fun g T s Q E R q _ _ => by
  have key := fun (Q : Flow → Shared → Prop) q => hst g T s Q (fun e s => P ∧ Flown c lo ob e s) R q (fun _ _ z => z)
  refine wpAny_Try_except (wpAny_execs_cons ?_)
  refine wpAny_mono (wpAny_toks_of R.tk (key (fun f s' => f = .next ∧ Q .next s') fun o f lo' ob' s' g' T' hΦ hf R' => ?_)) (fun f s' hz => ?_) fun e s' hz => ?_
  · obtain ⟨rfl, hΦ⟩ := hΦ
    cases hf
    exact ⟨rfl, q _ _ _ _ _ g' T' hΦ rfl R'⟩
  · obtain ⟨ht, rfl, hq⟩ := hz
    exact wpAny_execs_nil (wpAny_execs_nil hq)
  · obtain ⟨ht, hPP, hF⟩ := hz
    refine catch_flown G hF hx hone hxk hd fun g' h' e' he T' R2 => ?_
    refine hb hPP g' T' e' _ _ _ ⟨⟨R2.fr, R2.obs, R2.nd, R2.loc, R2.os, R2.gens⟩, ht⟩ (fun o f lo' ob' s' hΦ hf R' => ?_) (fun _ _ z => z.elim) PassesOwn.never
    exact q _ _ _ _ _ g' T' hΦ hf ⟨R'.fr, R'.obs, R'.nd, R'.loc, R'.os, R'.gens⟩
end
end Mine
end
section
open PySem.Calls
set_option maxHeartbeats 4000000
namespace Mine

local macro_rules | `(tactic| walk_at "my has") => `(tactic| with_reducible (repeat (first | exact Has.here | apply Has.there)))
local macro_rules | `(tactic| walk_at "my put") => `(tactic| with_reducible (repeat (first | exact Put.here | apply Put.there)))
local macro_rules | `(tactic| walk_at "my lit") => `(tactic| with_reducible (first | exact lit_sq | exact lit_dq | exact lit_E | exact lit_bs | exact lit_mi | exact lit_dl | exact lit_co | exact lit_eq | exact lit_qm | exact lit_pc | exact lit_lp | exact lit_rp | exact lit_s | exact lit_us | exact lit_nl | exact lit_ce | exact lit_ps | exact lit_rs | exact lit_em | exact rfl))
local macro_rules | `(tactic| walk_at "my op") => `(tactic| with_reducible (first | exact op_eq_int | exact op_ne_int | exact op_lt_int | exact op_gt_int | exact op_le_int | exact op_eq_str | exact op_ne_str | exact op_in_str | exact op_notin_str | exact op_eq_none_str | exact op_ne_none_str | exact op_ne_bool | exact op_is_none | exact op_is_none_str | exact op_add_int | exact op_iadd_int | exact op_sub_int | exact op_eq_opt | exact op_ne_opt | exact op_none_opt))
local macro_rules | `(tactic| walk_at "my nu") => `(tactic| first | (intro h; cases h; done) | exact PVo_ne _)
local macro_rules | `(tactic| walk_at "my ev") => `(tactic| first
  | with_reducible exact ev_int | ((with_reducible refine' ev_str ?h1); (case h1 => walk_at "my lit")) | with_reducible exact ev_none | with_reducible exact ev_bool
  | ((with_reducible refine' ev_nm ?k1 ?h1 ?u1); (case k1 => assumption); (case h1 => walk_at "my has"; done); (case u1 => walk_at "my nu"))
  | with_reducible refine' ev_bin ?_ ?_ ?_ | ((with_reducible refine' ev_cmp ?_ ?_ ?_ ?m1); (case m1 => exact rfl)) | ((with_reducible refine' tr_cmp ?_ ?_ ?_ ?m1); (case m1 => exact rfl)) | with_reducible refine' tr_not ?_ | with_reducible refine' tr_op ?_
  | with_reducible refine' tra_and ?_ ?_ | with_reducible exact tra_and_nil | with_reducible refine' tra_or ?_ ?_ | with_reducible exact tra_or_nil
  | with_reducible refine' ev_neg ?_
  | walk_at "my op" | ((with_reducible refine' evl_cons1 ?_ ?_ ?m1); (case m1 => exact rfl)) | with_reducible refine' evl_nil ?_ | (guard_target =~ (_ = _ → _); intro _))
local macro_rules | `(tactic| walk_at "my evs") => `(tactic| repeat' (walk_at "my ev"))
local macro_rules | `(tactic| walk_at "my blt") => `(tactic| first | exact ev_globB (by assumption) (by kernel_rfl) boot_len (by decide +kernel) (by kernel_rfl) (by decide +kernel) | exact ev_globB (by assumption) (by kernel_rfl) boot_str (by decide +kernel) (by kernel_rfl) (by decide +kernel) | exact ev_globB (by assumption) (by kernel_rfl) boot_range (by decide +kernel) (by kernel_rfl) (by decide +kernel))
local macro_rules | `(tactic| walk_at "my fn") => `(tactic| exact ev_glob (by assumption) (by kernel_rfl) (by kernel_rfl) (by decide +kernel))
local macro_rules | `(tactic| walk_at "my puts") => `(tactic| (repeat (apply Puts.cons; (focus (walk_at "my put"; done)))); exact Puts.nil)
local macro_rules | `(tactic| walk_at "my nils") => `(tactic| repeat (first | with_reducible refine seq_nil ?_ | with_reducible refine wx_nil ?_))
local macro_rules | `(tactic| walk_at "my nnils") => `(tactic| repeat (first | with_reducible refine seqn_nil ?_ | with_reducible refine wxn_nil ?_))
local macro_rules | `(tactic| walk_at "my meth") => `(tactic| (apply ev_of_x; first | with_reducible apply evx_meth1 | with_reducible apply evx_meth0 | apply evx_meth1 | apply evx_meth0))

/-- what stands under a name of a told table -/
def lkD (ks : List (Str × PV)) (z : Str) : Option PV := (ks.find? fun q => q.1 = z).map (·.2)
/-- a dict with texts as keys, its pairs in their order -/
def DictO (prog : Program) (w : World) (d : Addr) (ks : List (Str × PV)) : OP := fun o => (d == sysModules) = false ∧ ∃ kvs : List (Str × Value), o.IsDictOf (strKind prog w) kvs ∧ All2 (fun (q : Str × PV) (r : Str × Value) => q.1 = r.1 ∧ q.2.is r.2) ks kvs
theorem lkD_at {ks : List (Str × PV)} {kvs : List (Str × Value)} (h : All2 (fun (q : Str × PV) (r : Str × Value) => q.1 = r.1 ∧ q.2.is r.2) ks kvs) {z : Str} {v : PV} (e : lkD ks z = some v) : ∃ u, valueAt kvs z = some u ∧ v.is u := by
  induction h with
  | nil => cases e
  | @cons q r ks kvs hq _ ih =>
    obtain ⟨k, pv⟩ := q
    obtain ⟨k', u⟩ := r
    obtain ⟨rfl, hu⟩ := hq
    unfold lkD valueAt at *
    simp only [List.find?_cons] at e ⊢
    by_cases hk : k = z
    · simp only [decide_eq_true hk, Option.map_some, Option.some.injEq] at e ⊢
      exact ⟨u, rfl, e ▸ hu⟩
    · simp only [decide_eq_false hk] at e ⊢
      exact ih e
theorem DictO.dictOf {prog : Program} {w : World} {ks : List (Str × PV)} {h : Heap} {d : Addr} {o : Obj} (ho : h.get? d = some o) (hD : DictO prog w d ks o) : ∃ kvs, h.DictOf (strKind prog w) d kvs ∧ All2 (fun (q : Str × PV) (r : Str × Value) => q.1 = r.1 ∧ q.2.is r.2) ks kvs := by
  obtain ⟨_, kvs, h1, h2⟩ := hD
  exact ⟨kvs, Heap.dictOf_iff.mpr ⟨o, ho, h1⟩, h2⟩
/-- an iterator of a list, about to begin -/
def LItO (l : Addr) : OP := fun o => o = { cls := .type "list_iterator", data := .fields #[.ref l, .int 0 0] }
section
variable {prog : Program} {w : World} {K : Frag} {p : Program} {loose : List Str} {mean : ExcName → Option Value} {mg mb : Str → Option Value} {c : Cf} {lo : Lo} {ob ob' : Ob} {pos : Pos}
theorem Rep0.moved {s s' : Shared} (R : Rep0 c lo ob s) (k : ∀ b o, (b ∈ ob.map (·.1) ∨ b = c.env.locals ∨ c.h₀.get? b = some o) → s.heap.get? b = some o → s'.heap.get? b = some o) (hos : s'.os = s.os) (hg : AllBare s'.gens) : Rep0 c lo ob s' := by
  obtain ⟨m, F, hm⟩ := R.fr
  refine ⟨⟨m, ⟨F.ns.at' fun o e => k _ o (.inr (.inl rfl)) e, fun b o e => k b o (.inr (.inr e)) (F.keep b o e), F.above⟩, hm⟩, ⟨R.obs.1, fun q hq => ?_⟩, R.nd, R.loc, hos.trans R.os, hg⟩
  obtain ⟨o, h1, h2⟩ := R.obs.2 q hq
  exact ⟨o, k _ _ (.inl (List.mem_map.mpr ⟨q, hq, rfl⟩)) h1, h2⟩
/-- the code of a generator expression, found or made -/
def GCode (prog : Program) (w : World) (c : Cf) (lo : Lo) (gpos : Pos) (scope : Scope) (ob ob' : Ob) : Prop := ∀ (I l : Addr) (s : Shared) (Q : Value → Shared → Prop) (E : Value → Shared → Prop), Rep0 c lo ((I, LItO l) :: ob) s → (∀ cv s', Rep0 c lo ((I, LItO l) :: ob') s' → Q cv s') → wpAny (model prog w) c.A (genexprCode c.env gpos (c.env.qual ++ "<genexpr>") scope) Q E s
theorem gcode_hit {cc P c' : Addr} (C : CodeHd c.h₀ cc P) (hcd : c.env.code = .ref cc) {ps : Array Value} (hm : (P, TabO ps) ∈ ob) (ht : TriplesOk ps.toList) {gpos : Pos} {scope : Scope} (hf : codeAmong gpos ps.toList = some (.ref c')) : GCode prog w c lo gpos scope ob ob := fun I l s Q E R q => by
  obtain ⟨m, F, _⟩ := R.fr
  obtain ⟨o, ho, rfl⟩ := R.get (.tail _ hm)
  exact wpAny_genexprCode_hit hcd ((C.keeps F.keep).code ho ht) hf (q _ _ R)
theorem gcode_new {cc P : Addr} (C : CodeHd c.h₀ cc P) (hcd : c.env.code = .ref cc) {ps : Array Value} (hm : (P, TabO ps) ∈ ob) (ht : TriplesOk ps.toList) {gpos : Pos} {scope : Scope} (hnf : codeAmong gpos ps.toList = none)
    {ob2 : Addr → Ob} (U : ∀ c', Put P (TabO (ps ++ #[rawInt gpos.line, rawInt gpos.col, .ref c'])) ob (ob2 c')) {I l : Addr} {s : Shared} {Q : Value → Shared → Prop} {E : Value → Shared → Prop} (R : Rep0 c lo ((I, LItO l) :: ob) s)
    (q : ∀ c' cv s', Rep0 c lo ((I, LItO l) :: ob2 c') s' → Q cv s') : wpAny (model prog w) c.A (genexprCode c.env gpos (c.env.qual ++ "<genexpr>") scope) Q E s := by
  obtain ⟨m, F, _⟩ := R.fr
  obtain ⟨o, ho, rfl⟩ := R.get (.tail _ hm)
  refine wpAny_genexprCodeX hcd ((C.keeps F.keep).code ho ht) ((C.keeps F.keep).tab ho) hnf fun c' h' tk hx hge hlt _ _ htb _ => ?_
  exact q c' _ _ (R.upd (.there (U c')) (fun b o hb e => hx b o hb e) htb.2 rfl tk)

theorem evx_tuple_gen (G : Gu K p loose mean mg mb c) {f : Expr} (hf : Ev prog w c lo ob f (.val (.type "tuple"))) {iter : Expr} {xa xp : Str} {pa pp px epos gpos : Pos} {scope : Scope} {cl : List (Str × Addr)} {l d cell P : Addr} {ns : List Str} {ks : List (Str × PV)} {vals : List PV} {obs2 : Ob → Prop} {ps : Array Value}
    (hit : Ev prog w c lo ob iter (.val (.ref l))) (hl : (l, SeqO "list" (ns.map .str)) ∈ ob) (hP : (P, TabO ps) ∈ ob) (hn : ns.length ≤ 1000) (hv : All2 (fun z v => lkD ks z = some v) ns vals)
    (hcode : ∀ (I : Addr) (s : Shared) (Q : Value → Shared → Prop) (E : Value → Shared → Prop), Rep0 c lo ((I, LItO l) :: ob) s → (∀ cv s' ob2, obs2 ob2 → Rep0 c lo ((I, LItO l) :: ob2) s' → Q cv s') → wpAny (model prog w) c.A (genexprCode c.env gpos (c.env.qual ++ "<genexpr>") scope) Q E s)
    (hob2 : ∀ ob2, obs2 ob2 → (l, SeqO "list" (ns.map .str)) ∈ ob2 ∧ (cell, CellO (.val (.ref d))) ∈ ob2 ∧ (d, DictO prog w d ks) ∈ ob2 ∧ ∃ ps, (P, TabO ps) ∈ ob2)
    (hcell : cl.lookup xa = some cell) (hroom : c.A.depth < recursionLimit)
    (hco : scope.isCoroutine = false) (hclos : closureFor scope c.env = pure cl) (hnc : ∀ y ∈ scope.names, y.2 ≠ .cell) (h0 : scope.names.lookup (".0" : Str) = some NameKind.local)
    (hx : scope.names.lookup xp = some .local) (hxa : scope.names.lookup xa = some .free) (hkind : scope.kind = .function) (hs : ∀ x, genFold iter c.env x = pure x)
    (hda : (xa == ("__debug__" : Str)) = false) (hdp : (xp == ("__debug__" : Str)) = false) (hca : (xa == ("__classdict__" : Str)) = false)
    {Φ : PV → Ob → Prop} (hΦ : ∀ T ob2, obs2 ob2 → Φ (.val (.ref T)) ((T, SeqO "tuple" vals) :: ob2))
    (hc : eval (.Call f [.GeneratorExp (.Subscript (.Name xa pa) (.Name xp pp) epos) [⟨.Name xp px, iter, [], 0⟩] scope gpos] [] pos) c.env = (do callWith pos (← eval f c.env) [] (backTo pos (starEach [.GeneratorExp (.Subscript (.Name xa pa) (.Name xp pp) epos) [⟨.Name xp px, iter, [], 0⟩] scope gpos] c.env)) (backToKw pos (keywordEach [] c.env))))
    (he : starEach [.GeneratorExp (.Subscript (.Name xa pa) (.Name xp pp) epos) [⟨.Name xp px, iter, [], 0⟩] scope gpos] c.env = (false, eval (.GeneratorExp (.Subscript (.Name xa pa) (.Name xp pp) epos) [⟨.Name xp px, iter, [], 0⟩] scope gpos) c.env) :: starEach [] c.env) :
    EvX prog w c lo ob (.Call f [.GeneratorExp (.Subscript (.Name xa pa) (.Name xp pp) epos) [⟨.Name xp px, iter, [], 0⟩] scope gpos] [] pos) Φ := fun s Q E R q => by
  have TT := G.top
  refine Call_ (hf.use R fun u s₁ hu R₁ => ?_) hc
  cases hu
  refine PyProof.Rows.callWith_type1 ?_ he rfl
  refine args_cons (wpAny_GeneratorExp_walksQD G.hand hco hclos hnc h0 hx hkind hroom (hit.use R₁ fun u s₂ hu R₂ => ?_) hs) he
  cases hu
  obtain ⟨o, h1, h2⟩ := R₂.1.get hl
  obtain ⟨us, hp, hus⟩ := SeqO.isList h1 h2
  have hil : s₂.heap.IsList l us.toArray := by obtain ⟨n, h⟩ := hp; exact ⟨_, h, rfl, n, rfl⟩
  have hlt : l < s₂.heap.objs.size := Heap.lt_size h1
  have hstrs := All2.strs hus
  have hlen : us.length = ns.length := StrsAre.len hstrs
  refine wpAny_pyIter_list hil ?_
  have R3 : Rep0 c lo ((s₂.heap.objs.size, LItO l) :: ob) { s₂ with heap := s₂.heap.push { cls := .type "list_iterator", data := .fields #[.ref l, .int 0 0] } } :=
    R₂.1.new (a := s₂.heap.objs.size) (o := { cls := .type "list_iterator", data := .fields #[.ref l, .int 0 0] }) (P := LItO l) (by simp [Heap.get?]) (fun b o e => Heap.get?_push_of_some _ e) (Heap.get?_push_size _ rfl) rfl s₂.toks
  obtain ⟨m3, F3, _⟩ := R3.fr
  refine ⟨G.gt.T.nolimit.keeps F3.keep, hcode _ _ _ _ R3 fun cv s₄ ob2 ho2 R4 => ?_⟩
  obtain ⟨hl2, hcell2, hd2, ps2, hP2⟩ := hob2 ob2 ho2
  obtain ⟨m4, F4, _⟩ := R4.fr
  obtain ⟨oP, hoP, rfl⟩ := R4.get (.tail _ hP2)
  obtain ⟨hgP, bm, obm, hbm, hne0, hbG, hneP, hbo, hcls, hdict, hdata⟩ := builtinsAt TT F4 hoP
  refine wpAny_builtinsFor (by rw [G.glob]; exact G.gt.T.g.keeps F4.keep) hbm hne0 hbo hcls hdict hdata ?_
  obtain ⟨oI, hoI, rfl⟩ := R4.get (.head _)
  obtain ⟨o4, h14, h24⟩ := R4.get (.tail _ hl2)
  obtain ⟨us4, n4, rfl, hus4⟩ := h24
  obtain ⟨oc, hoc, uc, hcd1, hcd2⟩ := R4.get (.tail _ hcell2)
  obtain ⟨od, hod, hdD⟩ := R4.get (.tail _ hd2)
  cases hcd2
  have hstrs4 := All2.strs hus4
  have hlen4 : us4.length = ns.length := StrsAre.len hstrs4
  have hIl : l < s₄.heap.objs.size := Heap.lt_size h14
  have hII : s₂.heap.objs.size < s₄.heap.objs.size := Heap.lt_size hoI
  refine ⟨s₂.heap.objs.size, [s₂.heap.objs.size, l], [s₂.heap.objs.size], us4.toArray.size, fun i v => us4.toArray[i]? = some v, fun i h => h.IsListIter s₂.heap.objs.size l i ∧ h.IsList l us4.toArray, fun _ => true,
    fun i y => ∃ v, vals[i]? = some v ∧ v.is y, rfl, fun A' hA => Walks.list hA _ _ (Nat.ne_of_lt hlt) _, ⟨⟨_, hoI, rfl, rfl⟩, ⟨_, h14, rfl, n4, rfl⟩⟩, ?_, G.gt.T.nolimit.keeps F4.keep, ?_, ?_, ?_⟩
  · intro b hb
    rcases List.mem_cons.mp hb with rfl | hb
    · exact hII
    · rw [List.mem_singleton.mp hb]; exact hIl
  · intro hm
    have e := List.mem_singleton.mp hm
    obtain ⟨mc, hns, _⟩ := G.gt.T.nolimit
    obtain ⟨oo, es, ep, hoo, hd', _⟩ := hns
    obtain ⟨_, _, _, hfresh, _⟩ := R4.obs.2 _ (.head _)
    have hfresh : c.h₀.get? s₂.heap.objs.size = none := hfresh
    rw [← e, hoo] at hfresh; cases hfresh
  · intro href hk
    refine ⟨fun A' E' i v t m₂ hA hD hU hP' hns hm hkp => ?_, fun A' E' i v t m₂ hA hD hU hP' _ hns hm hkp => ?_⟩
    · exact wpAny_tests_nil ⟨rfl, t.heap, t.toks, rfl, fun _ _ e => e⟩
    · have kp : ∀ b o, b ≠ s₂.heap.objs.size → s₄.heap.get? b = some o → t.heap.get? b = some o := fun b o hb e => hkp b (List.mem_range.mpr (Heap.lt_size e)) (by simpa using hb) o (hk b o e)
      have nodup := R4.obs.1
      have hne : ∀ b, b ∈ ob2.map (·.1) → b ≠ s₂.heap.objs.size := fun b hb e => (List.nodup_cons.mp nodup).1 (e ▸ hb)
      have hi4 : us4[i]? = some v := by simpa using hP'
      have hilt : i < us4.length := (List.getElem?_eq_some_iff.mp hi4).1
      obtain ⟨uz, e1, e2⟩ := hus4.get (i := i) (a := .str (ns[i]'(by omega))) (by simp [hlen4 ▸ hilt])
      rw [hi4] at e1
      cases e1
      obtain ⟨tz, rfl⟩ := e2
      obtain ⟨pv, e3, e4⟩ := hv.get (i := i) (a := ns[i]'(by omega)) (List.getElem?_eq_getElem _)
      obtain ⟨kvs, hdo, hall⟩ := DictO.dictOf hod hdD
      obtain ⟨ud, hud, hpv⟩ := lkD_at hall e4
      have hdt : t.heap.DictOf (strKind prog w) d kvs := by
        obtain ⟨o', es, ep, ho', r⟩ := hdo
        exact ⟨o', es, ep, kp _ _ (hne _ (List.mem_map.mpr ⟨_, hd2, rfl⟩)) ho', r⟩
      refine Subscript_ (wpAny_Name (wpAny_loadName_free hkind hxa hcell ⟨oc, kp _ _ (hne _ (List.mem_map.mpr ⟨_, hcell2, rfl⟩)) hoc, hcd1⟩ ?_ hca) hda)
      refine wpAny_Name (wpAny_loadName_local hkind hx hns hm ?_) hdp
      exact tail_any hdt.typeIs slot_dict_getitem.lookup (wpAny_getItem_of (strKind_is prog w _ _) hdt.mapOf hud ⟨⟨pv, e3, hpv⟩, t.heap, t.toks + 1, rfl, fun _ _ e => e⟩) rfl
  · intro a h5 tk gs hgb hag hsz5 hk5 W hat
    have R5 : Rep0 c lo ob2 { s₄ with gens := s₄.gens.push gs, toks := tk, heap := h5 } := (R4.sub (List.sublist_cons_self ..)).moved (fun b o _ e => hk5 b o e) rfl (R4.gens.push hgb)
    refine args_nil (call_tuple_gen W.in4_3 (fun i s' st => st.1.typeIs) hat ?_ List.mem_cons_self (fun s' acc hm hacc => ?_) ?_)
    · intro b hb
      show b < h5.objs.size
      rw [hsz5]
      rcases List.mem_cons.mp hb with rfl | hb
      · exact Nat.lt_succ_self _
      · rcases List.mem_cons.mp hb with rfl | hb
        · exact Nat.lt_succ_of_lt hag
        · exact Nat.lt_succ_of_lt (Nat.lt_trans (List.mem_range.mp hb) hag)
    · have hpass : passing (fun _ => true) us4.toArray.size 0 = List.range us4.toArray.size := by simp [passing]
      rw [hpass] at hacc
      have R6 : Rep0 c lo ob2 s' := R5.moved (fun b o hb e => hm.heap b o (fun hw => ?_) e) hm.os (R5.gens.moved hm.gens)
      · refine q _ _ _ _ (hΦ s'.heap.objs.size ob2 ho2) rfl (R6.new (a := s'.heap.objs.size) (o := { cls := .type "tuple", data := .seq acc }) (by simp [Heap.get?]) (fun b o e => Heap.get?_push_of_some _ e) (Heap.get?_push_size _ rfl) ⟨acc.toList, 0, by simp, ?_⟩ s'.toks)
        obtain ⟨hsz, hat'⟩ := hacc
        have hvl := hv.length
        have hsz' : acc.toList.length = vals.length := by simp [hsz]; omega
        have key : ∀ (n : Nat) (vs : List PV) (ys : List Value), vs.length = n → ys.length = n → (∀ (j : Nat) v, vs[j]? = some v → ∃ y, ys[j]? = some y ∧ v.is y) → All2 PV.is vs ys := by
          intro n
          induction n with
          | zero =>
            intro vs ys h1 h2 _
            rw [List.eq_nil_of_length_eq_zero h1, List.eq_nil_of_length_eq_zero h2]; exact .nil
          | succ n ihn =>
            intro vs ys h1 h2 h3
            cases vs with
            | nil => simp at h1
            | cons v vs =>
              cases ys with
              | nil => simp at h2
              | cons y ys =>
                obtain ⟨y', hy, hvy⟩ := h3 0 v rfl
                simp at hy; subst hy
                exact .cons hvy (ihn vs ys (by simpa using h1) (by simpa using h2) fun j v' hj => by have := h3 (j + 1) v' (by simpa using hj); simpa using this)
        refine key _ _ _ rfl hsz' fun j v hj => ?_
        have hjl : j < vals.length := (List.getElem?_eq_some_iff.mp hj).1
        have hja : j < acc.size := by have : acc.size = acc.toList.length := by simp
                                      omega
        obtain ⟨i, hi1, v', hi2, hi3⟩ := hat' j acc[j] (by simp [hja])
        have : i = j := by
          rw [List.getElem?_range (by simp; omega)] at hi1
          exact (Option.some.inj hi1).symm
        subst this
        rw [hj] at hi2
        cases hi2
        exact ⟨acc[i], by simp [hja], hi3⟩
      · rcases List.mem_cons.mp hw with rfl | hw
        · have h4 : ∀ o, s₄.heap.get? s₄.heap.objs.size ≠ some o := fun o e => Nat.lt_irrefl _ (Heap.lt_size e)
          rcases hb with hb | hb | hb
          · obtain ⟨q1, hq, e1⟩ := List.mem_map.mp hb
            obtain ⟨o1, h1, _⟩ := R4.obs.2 q1 (.tail _ hq)
            rw [e1] at h1; exact h4 _ h1
          · obtain ⟨o1, _, _, h1, _⟩ := F4.ns
            rw [← hb] at h1; exact h4 _ h1
          · exact h4 _ (F4.keep _ _ hb)
        · have hw := List.mem_singleton.mp hw
          subst hw
          obtain ⟨_, _, hnl, hfr, _⟩ := R4.obs.2 _ (.head _)
          rcases hb with hb | hb | hb
          · exact (List.nodup_cons.mp R4.obs.1).1 hb
          · exact hnl hb
          · have hfr : c.h₀.get? s₂.heap.objs.size = none := hfr
            rw [hfr] at hb; cases hb
    · rw [show passing (fun _ => true) us4.toArray.size 0 = List.range us4.toArray.size by simp [passing], List.length_range, sizeLine_eq]
      simp only [List.size_toArray]; omega
end
end Mine
end
section
open PySem.Calls
set_option maxHeartbeats 4000000
namespace Mine

local macro_rules | `(tactic| walk_at "my has") => `(tactic| with_reducible (repeat (first | exact Has.here | apply Has.there)))
local macro_rules | `(tactic| walk_at "my put") => `(tactic| with_reducible (repeat (first | exact Put.here | apply Put.there)))
local macro_rules | `(tactic| walk_at "my lit") => `(tactic| with_reducible (first | exact lit_sq | exact lit_dq | exact lit_E | exact lit_bs | exact lit_mi | exact lit_dl | exact lit_co | exact lit_eq | exact lit_qm | exact lit_pc | exact lit_lp | exact lit_rp | exact lit_s | exact lit_us | exact lit_nl | exact lit_ce | exact lit_ps | exact lit_rs | exact lit_em | exact rfl))
local macro_rules | `(tactic| walk_at "my op") => `(tactic| with_reducible (first | exact op_eq_int | exact op_ne_int | exact op_lt_int | exact op_gt_int | exact op_le_int | exact op_eq_str | exact op_ne_str | exact op_in_str | exact op_notin_str | exact op_eq_none_str | exact op_ne_none_str | exact op_ne_bool | exact op_is_none | exact op_is_none_str | exact op_add_int | exact op_iadd_int | exact op_sub_int | exact op_eq_opt | exact op_ne_opt | exact op_none_opt))
local macro_rules | `(tactic| walk_at "my nu") => `(tactic| first | (intro h; cases h; done) | exact PVo_ne _)
local macro_rules | `(tactic| walk_at "my ev") => `(tactic| first
  | with_reducible exact ev_int | ((with_reducible refine' ev_str ?h1); (case h1 => walk_at "my lit")) | with_reducible exact ev_none | with_reducible exact ev_bool
  | ((with_reducible refine' ev_nm ?k1 ?h1 ?u1); (case k1 => assumption); (case h1 => walk_at "my has"; done); (case u1 => walk_at "my nu"))
  | with_reducible refine' ev_bin ?_ ?_ ?_ | ((with_reducible refine' ev_cmp ?_ ?_ ?_ ?m1); (case m1 => exact rfl)) | ((with_reducible refine' tr_cmp ?_ ?_ ?_ ?m1); (case m1 => exact rfl)) | with_reducible refine' tr_not ?_ | with_reducible refine' tr_op ?_
  | with_reducible refine' tra_and ?_ ?_ | with_reducible exact tra_and_nil | with_reducible refine' tra_or ?_ ?_ | with_reducible exact tra_or_nil
  | with_reducible refine' ev_neg ?_
  | walk_at "my op" | ((with_reducible refine' evl_cons1 ?_ ?_ ?m1); (case m1 => exact rfl)) | with_reducible refine' evl_nil ?_ | (guard_target =~ (_ = _ → _); intro _))
local macro_rules | `(tactic| walk_at "my evs") => `(tactic| repeat' (walk_at "my ev"))
local macro_rules | `(tactic| walk_at "my blt") => `(tactic| first | exact ev_globB (by assumption) (by kernel_rfl) boot_len (by decide +kernel) (by kernel_rfl) (by decide +kernel) | exact ev_globB (by assumption) (by kernel_rfl) boot_str (by decide +kernel) (by kernel_rfl) (by decide +kernel) | exact ev_globB (by assumption) (by kernel_rfl) boot_range (by decide +kernel) (by kernel_rfl) (by decide +kernel))
local macro_rules | `(tactic| walk_at "my fn") => `(tactic| exact ev_glob (by assumption) (by kernel_rfl) (by kernel_rfl) (by decide +kernel))
local macro_rules | `(tactic| walk_at "my puts") => `(tactic| (repeat (apply Puts.cons; (focus (walk_at "my put"; done)))); exact Puts.nil)
local macro_rules | `(tactic| walk_at "my nils") => `(tactic| repeat (first | with_reducible refine seq_nil ?_ | with_reducible refine wx_nil ?_))
local macro_rules | `(tactic| walk_at "my nnils") => `(tactic| repeat (first | with_reducible refine seqn_nil ?_ | with_reducible refine wxn_nil ?_))
local macro_rules | `(tactic| walk_at "my meth") => `(tactic| (apply ev_of_x; first | with_reducible apply evx_meth1 | with_reducible apply evx_meth0 | apply evx_meth1 | apply evx_meth0))

theorem join_J0 : ∀ ss : List Str, Str.join ⟨#[]⟩ ss = tx (J ss)
  | [] => rfl
  | [z] => by
    show z = tx (z.cps.toList ++ [])
    rw [List.append_nil]
    show z = ⟨z.cps.toList.toArray⟩
    simp
  | z :: z2 :: r => by
    have ih := join_J0 (z2 :: r)
    show z ++ ⟨#[]⟩ ++ Str.join ⟨#[]⟩ (z2 :: r) = _
    rw [ih]
    have e1 : z ++ (⟨#[]⟩ : Str) = tx z.cps.toList := by
      show Str.append z ⟨#[]⟩ = ⟨z.cps.toList.toArray⟩
      simp [Str.append]
    rw [e1, tx_app]
    rfl
theorem join_J (ss : List Str) : Txt.join ⟨#[]⟩ ss = tx (J ss) := (StrLaws.glued_eq_join _ _).trans (join_J0 ss)
theorem sum_le5 : ∀ ss : List Str, (∀ z ∈ ss, z.length ≤ 5) → (ss.map (·.length)).sum ≤ 5 * ss.length
  | [], _ => by simp
  | z :: r, h => by
    have h1 := h z (.head _)
    have h2 := sum_le5 r fun y hy => h y (.tail _ hy)
    simp only [List.map_cons, List.sum_cons, List.length_cons]; omega
def sufIf : Stmt := cvPre.getD 1 (.Pass ⟨0, 0, 0, 0⟩)
def genOf : Stmt → Expr
  | .If _ _ [.Assign _ (.Call _ [g] _ _) _] _ => g
  | _ => .Name "" ⟨0, 0, 0, 0⟩
def genPos : Pos := match genOf sufIf with | .GeneratorExp _ _ _ p => p | _ => default
def genS : Scope := match genOf sufIf with | .GeneratorExp _ _ s _ => s | _ => default
section
variable {prog : Program} {w : World} {p : Program} {loose : List Str} {mean : ExcName → Option Value} {mg mb : Str → Option Value} {c : Cf} {lo lo' : Lo} {ob ob' : Ob} {X : EPost} {pos : Pos}
theorem cv_suf (G : Gu (Mine.hd.heap_39 w.params) p loose mean mg mb c) {L : Addr} (he : c.env = cvEnv w.params L) (hroom : c.A.depth < recursionLimit) {t : List Nat} {ph oq pi x dx d : Addr} {S : MS} {r : Ob} {ks : List (Str × PV)} {obs2 : Ob → Prop} {ps : Array Value} {Φ : PV → Ob → Prop}
    (ho5 : ∀ z ∈ S.out, z.length ≤ 5) (hol : S.out.length ≤ 1000) (hpl : S.phs.length ≤ 1000) (hcell : (L + 1, CellO (.val (.ref d))) ∈ r) (hP : (108, TabO ps) ∈ r)
    (h1 : [sN, sQ, sF].any (· == S.style) = true → ∀ T, Φ (.val (.ref T)) ((T, SeqO "tuple" [.str (tx (J S.out)), .val (.ref d)]) :: mob x dx ph oq S r))
    (hob2 : ∀ ob2, obs2 ob2 → (ph, SeqO "list" (S.phs.map .str)) ∈ ob2 ∧ (oq, SeqO "list" (S.out.map .str)) ∈ ob2 ∧ (L + 1, CellO (.val (.ref d))) ∈ ob2 ∧ (d, DictO prog w d ks) ∈ ob2 ∧ ∃ ps, (108, TabO ps) ∈ ob2)
    (hcode : ∀ g, Tn c g → ∀ lo (I l : Addr) (s : Shared) (Q : Value → Shared → Prop) (E : Value → Shared → Prop), Rep0 (c.at g) lo ((I, LItO l) :: mob x dx ph oq S r) s → (∀ cv s' ob2, obs2 ob2 → Rep0 (c.at g) lo ((I, LItO l) :: ob2) s' → Q cv s') → wpAny (model prog w) c.A (genexprCode c.env genPos (c.env.qual ++ "<genexpr>") genS) Q E s)
    (h2 : [sN, sQ, sF].any (· == S.style) = false → ∃ vals, All2 (fun z v => lkD ks z = some v) S.phs vals ∧ ∀ T T2 ob2, obs2 ob2 → Φ (.val (.ref T)) ((T, SeqO "tuple" [.str (tx (J S.out)), .val (.ref T2)]) :: (T2, SeqO "tuple" vals) :: ob2)) :
    WXn prog w c (mlo t ph oq pi S .un .un .un .un) (mob x dx ph oq S r) X (cvPre.drop 1) (RetΦ Φ) := by
  obtain ⟨A, env, h₀, os⟩ := c
  simp only at he
  subst he
  have K' := G.kind
  have Kg : ∀ g, (Cf.at ⟨A, cvEnv w.params L, h₀, os⟩ g).env.scope.kind = .function := fun _ => K'
  obtain ⟨st, iq, ip, phs, out, style, prev, cnt⟩ := S
  simp only at ho5 hol hpl h1 h2 hob2
  have ret : ∀ (vv : PV) (obx : Ob), vv ≠ .un → (oq, SeqO "list" (out.map .str)) ∈ obx → (∀ T, Φ (.val (.ref T)) ((T, SeqO "tuple" [.str (tx (J out)), vv]) :: obx)) →
      WXn prog w ⟨A, cvEnv w.params L, h₀, os⟩ [(Str.ofString "style", .str style), (Str.ofString "query", .str (tx t)),
  (Str.ofString "OUTSIDE", .int 0), (Str.ofString "INSIDE_SQ", .int 1), (Str.ofString "INSIDE_QI", .int 2), (Str.ofString "INSIDE_ES", .int 3), (Str.ofString "INSIDE_PN", .int 4), (Str.ofString "INSIDE_CO", .int 5), (Str.ofString "INSIDE_DQ", .int 6),
  (Str.ofString "in_quote_escape", .val (.bool iq)), (Str.ofString "in_param_escape", .val (.bool ip)), (Str.ofString "placeholders", .val (.ref ph)), (Str.ofString "output_query", .val (.ref oq)), (Str.ofString "param_idx", .val (.ref pi)),
  (Str.ofString "state", .int st), (Str.ofString "prev_c", PVo prev), (Str.ofString "i", .un), (Str.ofString "c", .un), (Str.ofString "next_c", .un), (Str.ofString "pidx", .un), (Str.ofString "vals", vv)] obx X (cvPre.drop 2) (RetΦ Φ) := by
    intro vv obx hvv hoq hT
    refine wxn_old ?_
    intro g T
    have K1 := Kg g
    refine ws_retx ?_
    refine evx_tuple ?_
    refine evl_cons1 (v := .str (tx (J out))) ?_ ?_ ?_
    · rw [← join_J]
      walk_at "my meth"
      · walk_at "my evs"
      · exact gm_join
      · walk_at "my evs"
        refine cl_join hoq ?_ ⟨rfl, rfl⟩
        have := sum_le5 out ho5
        show _ + out.length * 0 ≤ _
        omega
      all_goals rfl
    · refine evl_cons1 (v := vv) ?_ ?_ ?_
      · exact ev_nm K1 (by walk_at "my has") hvv
      · walk_at "my evs"
        exact ⟨Nat.le_of_ble_eq_true rfl, hT⟩
      · rfl
    · rfl
  show WXn _ _ _ [(_, .str style), (_, .str (tx t)), (_, _), (_, _), (_, _), (_, _), (_, _), (_, _), (_, _), (_, .val (.bool iq)), (_, .val (.bool ip)), (_, _), (_, _), (_, _), (_, .int st), (_, PVo prev), (_, _), (_, _), (_, _), (_, _), (_, _)] _ _ _ _
  refine wxn_cons ?_
  refine wsn_if (y := [sN, sQ, sF].any (· == style)) ?_ ?_ ?_
  · intro g T
    have K1 := Kg g
    apply tr_in_disp (ss := [sN, sQ, sF])
    · walk_at "my evs"
    · walk_at "my evs"
      exact ⟨rfl, rfl⟩
    · exact Nat.le_of_ble_eq_true rfl
  · intro hs
    refine wxn_old ?_
    intro g T
    have K1 := Kg g
    apply ws_set K1 (v := .val (.ref d))
    · exact ev_cell K1 (by kernel_rfl) (.tail _ (.tail _ (.tail _ hcell))) (by kernel_rfl) (by decide +kernel)
    · walk_at "my put"
    walk_at "my nnils"
    exact ret _ _ (by intro h; cases h) (.tail _ (.tail _ (.head _))) (h1 hs)
  · intro hs
    obtain ⟨vals, hv, hT⟩ := h2 hs
    refine wxn_old ?_
    intro g T
    have K1 := Kg g
    refine ws_setx K1 ?_
    · refine evx_tuple_gen (G.turn T) (l := ph) (ns := phs) (d := d) (cell := L + 1) (P := 108) (ps := ps) (ks := ks) (vals := vals) (obs2 := obs2) (cl := [(Str.ofString "args", L + 1)]) ?_ ?_ ?_ ?_ ?_ ?_ ?_ ?_ ?_ ?_ ?_ ?_ ?_ ?_ ?_ ?_ ?_ ?_ ?_ ?_ ?_ ?_ ?_ ?_
      · exact ev_globB (G.turn T).gt (by kernel_rfl) boot_tuple (by decide +kernel) (by kernel_rfl) (by decide +kernel)
      · walk_at "my evs"
      · exact .tail _ (.head _)
      · exact .tail _ (.tail _ (.tail _ hP))
      · exact hpl
      · exact hv
      · exact fun I s Q E R q => hcode g T _ I ph s Q E R q
      · intro ob2 h; obtain ⟨a, _, b⟩ := hob2 ob2 h; exact ⟨a, b⟩
      · kernel_rfl
      · exact hroom
      · rfl
      · kernel_rfl
      · decide +kernel
      · kernel_rfl
      · kernel_rfl
      · kernel_rfl
      · rfl
      · intro _; rfl
      · decide +kernel
      · decide +kernel
      · decide +kernel
      · intro T2 ob2 h2'
        apply exPut
        · walk_at "my put"
        walk_at "my nnils"
        obtain ⟨_, b, _⟩ := hob2 ob2 h2'
        exact ret _ _ (by intro h; cases h) (.tail _ b) fun T => hT T T2 ob2 h2'
      · rfl
      · rfl
end
end Mine
end
section
open PySem.Calls
set_option maxHeartbeats 4000000
namespace Mine

local macro_rules | `(tactic| walk_at "my has") => `(tactic| with_reducible (repeat (first | exact Has.here | apply Has.there)))
local macro_rules | `(tactic| walk_at "my put") => `(tactic| with_reducible (repeat (first | exact Put.here | apply Put.there)))
local macro_rules | `(tactic| walk_at "my lit") => `(tactic| with_reducible (first | exact lit_sq | exact lit_dq | exact lit_E | exact lit_bs | exact lit_mi | exact lit_dl | exact lit_co | exact lit_eq | exact lit_qm | exact lit_pc | exact lit_lp | exact lit_rp | exact lit_s | exact lit_us | exact lit_nl | exact lit_ce | exact lit_ps | exact lit_rs | exact lit_em | exact rfl))
local macro_rules | `(tactic| walk_at "my op") => `(tactic| with_reducible (first | exact op_eq_int | exact op_ne_int | exact op_lt_int | exact op_gt_int | exact op_le_int | exact op_eq_str | exact op_ne_str | exact op_in_str | exact op_notin_str | exact op_eq_none_str | exact op_ne_none_str | exact op_ne_bool | exact op_is_none | exact op_is_none_str | exact op_add_int | exact op_iadd_int | exact op_sub_int | exact op_eq_opt | exact op_ne_opt | exact op_none_opt))
local macro_rules | `(tactic| walk_at "my nu") => `(tactic| first | (intro h; cases h; done) | exact PVo_ne _)
local macro_rules | `(tactic| walk_at "my ev") => `(tactic| first
  | with_reducible exact ev_int | ((with_reducible refine' ev_str ?h1); (case h1 => walk_at "my lit")) | with_reducible exact ev_none | with_reducible exact ev_bool
  | ((with_reducible refine' ev_nm ?k1 ?h1 ?u1); (case k1 => assumption); (case h1 => walk_at "my has"; done); (case u1 => walk_at "my nu"))
  | with_reducible refine' ev_bin ?_ ?_ ?_ | ((with_reducible refine' ev_cmp ?_ ?_ ?_ ?m1); (case m1 => exact rfl)) | ((with_reducible refine' tr_cmp ?_ ?_ ?_ ?m1); (case m1 => exact rfl)) | with_reducible refine' tr_not ?_ | with_reducible refine' tr_op ?_
  | with_reducible refine' tra_and ?_ ?_ | with_reducible exact tra_and_nil | with_reducible refine' tra_or ?_ ?_ | with_reducible exact tra_or_nil
  | with_reducible refine' ev_neg ?_
  | walk_at "my op" | ((with_reducible refine' evl_cons1 ?_ ?_ ?m1); (case m1 => exact rfl)) | with_reducible refine' evl_nil ?_ | (guard_target =~ (_ = _ → _); intro _))
local macro_rules | `(tactic| walk_at "my evs") => `(tactic| repeat' (walk_at "my ev"))
local macro_rules | `(tactic| walk_at "my blt") => `(tactic| first | exact ev_globB (by assumption) (by kernel_rfl) boot_len (by decide +kernel) (by kernel_rfl) (by decide +kernel) | exact ev_globB (by assumption) (by kernel_rfl) boot_str (by decide +kernel) (by kernel_rfl) (by decide +kernel) | exact ev_globB (by assumption) (by kernel_rfl) boot_range (by decide +kernel) (by kernel_rfl) (by decide +kernel))
local macro_rules | `(tactic| walk_at "my fn") => `(tactic| exact ev_glob (by assumption) (by kernel_rfl) (by kernel_rfl) (by decide +kernel))
local macro_rules | `(tactic| walk_at "my puts") => `(tactic| (repeat (apply Puts.cons; (focus (walk_at "my put"; done)))); exact Puts.nil)
local macro_rules | `(tactic| walk_at "my nils") => `(tactic| repeat (first | with_reducible refine seq_nil ?_ | with_reducible refine wx_nil ?_))
local macro_rules | `(tactic| walk_at "my nnils") => `(tactic| repeat (first | with_reducible refine seqn_nil ?_ | with_reducible refine wxn_nil ?_))
local macro_rules | `(tactic| walk_at "my meth") => `(tactic| (apply ev_of_x; first | with_reducible apply evx_meth1 | with_reducible apply evx_meth0 | apply evx_meth1 | apply evx_meth0))

abbrev S0 (sty : Str) : MS := ⟨0, false, false, [], [], sty, none, 1⟩
abbrev isPos (sty : Str) : Bool := [sN, sQ, sF].any (· == sty)
/-- the names of convert_paramstyle's frame at its start -/
abbrev cvlo (sty : Str) (t : List Nat) : Lo := [(Str.ofString "style", .str sty), (Str.ofString "query", .str (tx t)), (Str.ofString "OUTSIDE", .un), (Str.ofString "INSIDE_SQ", .un), (Str.ofString "INSIDE_QI", .un), (Str.ofString "INSIDE_ES", .un), (Str.ofString "INSIDE_PN", .un), (Str.ofString "INSIDE_CO", .un), (Str.ofString "INSIDE_DQ", .un),
      (Str.ofString "in_quote_escape", .un), (Str.ofString "in_param_escape", .un), (Str.ofString "placeholders", .un), (Str.ofString "output_query", .un), (Str.ofString "param_idx", .un), (Str.ofString "state", .un), (Str.ofString "prev_c", .un), (Str.ofString "i", .un), (Str.ofString "c", .un), (Str.ofString "next_c", .un), (Str.ofString "pidx", .un), (Str.ofString "vals", .un)]
section
variable {prog : Program} {w : World} {p : Program} {loose : List Str} {mean : ExcName → Option Value} {mg mb : Str → Option Value} {c : Cf} {lo lo' : Lo} {ob ob' : Ob} {pos : Pos}
theorem wxn_monoX {X X' : EPost} {body : List Stmt} {Φ : Post} (h : WXn prog w c lo ob X body Φ) (k : ∀ e s', X e s' → X' e s') : WXn prog w c lo ob X' body Φ := fun g T s Q E R q x pe => h g T s Q E R q (fun e s' z => x e s' (k e s' z)) pe
theorem XR.sub {ob1 ob2 : Ob} (h : List.Sublist ob2 ob1) {e : Value} {s : Shared} (x : XR c ob1 e s) : XR c ob2 e s := by
  obtain ⟨g, lo, s1, h', e', vs, T, R, m, a, b⟩ := x
  exact ⟨g, lo, s1, h', e', vs, T, R.sub h, m, a, b⟩
theorem cv_body (G : Gu (Mine.hd.heap_39 w.params) p loose mean mg mb c) {L : Addr} (he : c.env = cvEnv w.params L) (hroom : c.A.depth + 2 < recursionLimit) {t : List Nat} {sty : Str} {d : Addr} {ks : List (Str × PV)} {obX : Ob} {Gd : Addr → Ob → Prop} {obs3 : Addr → Ob → Ob → Prop} {Φ : PV → Ob → Prop}
    (hl : t.length < 900) (hcp : ∀ z ∈ t, z < 16 ^ 8) (hlast : ∀ k ch, t[k]? = some ch → t[k + 1]? = none → ch ≠ 58)
    (hlam : ∀ g, Tn c g → ∀ lo oq ph, EvX prog w (c.at g) lo ((oq, SeqO "list" []) :: (ph, SeqO "list" []) :: (L + 1, CellO (.val (.ref d))) :: ob) lamE (fun v ob' => ∃ f c' ob1, v = .val (.ref f) ∧ Gd c' ob1 ∧ ob' = (f, LamO lamQ lamP lamB lamS c') :: (oq, SeqO "list" []) :: (ph, SeqO "list" []) :: ob1))
    (hX : runM (S0 sty) t = none → ∀ c' ob1, Gd c' ob1 → List.Sublist obX ob1)
    (hG : ∀ c' ob1, Gd c' ob1 → (L + 1, CellO (.val (.ref d))) ∈ ob1 ∧ (c', CodeO lamQ) ∈ ob1 ∧ ∃ ps, (108, TabO ps) ∈ ob1)
    (hG3 : ∀ c' ob1 ob2, Gd c' ob1 → obs3 c' ob1 ob2 → (L + 1, CellO (.val (.ref d))) ∈ ob2 ∧ (d, DictO prog w d ks) ∈ ob2 ∧ ∃ ps, (108, TabO ps) ∈ ob2)
    (hcode : ∀ c' ob1, Gd c' ob1 → ∀ (pre : Ob) g, Tn c g → ∀ lo (I l : Addr) (s : Shared) (Q : Value → Shared → Prop) (E : Value → Shared → Prop), Rep0 (c.at g) lo ((I, LItO l) :: (pre ++ ob1)) s → (∀ cv s' ob2, obs3 c' ob1 ob2 → Rep0 (c.at g) lo ((I, LItO l) :: (pre ++ ob2)) s' → Q cv s') → wpAny (model prog w) c.A (genexprCode c.env genPos (c.env.qual ++ "<genexpr>") genS) Q E s)
    (h1 : ∀ S', runM (S0 sty) t = some S' → isPos S'.style = true → ∀ T c' ob1, Gd c' ob1 → Φ (.val (.ref T)) ((T, SeqO "tuple" [.str (tx (J S'.out)), .val (.ref d)]) :: ob1))
    (h2 : ∀ S', runM (S0 sty) t = some S' → isPos S'.style = false → ∃ vals, All2 (fun z v => lkD ks z = some v) S'.phs vals ∧ ∀ T T2 c' ob1 ob2, Gd c' ob1 → obs3 c' ob1 ob2 → Φ (.val (.ref T)) ((T, SeqO "tuple" [.str (tx (J S'.out)), .val (.ref T2)]) :: (T2, SeqO "tuple" vals) :: ob2)) :
    WXn prog w c (cvlo sty t) ((L + 1, CellO (.val (.ref d))) :: ob) (fun e s => runM (S0 sty) t = none ∧ XR c obX e s) (bd 10) (RetΦ fun v ob' => ∃ obz, List.Sublist obz ob' ∧ Φ v obz) := by
  have sub7 : ∀ (a1 a2 a3 a4 a5 a6 a7 : Addr × OP) (r : Ob), List.Sublist r (a1 :: a2 :: a3 :: a4 :: a5 :: a6 :: a7 :: r) := fun a1 a2 a3 a4 a5 a6 a7 r =>
    ((((((List.sublist_cons_self a7 r).trans (List.sublist_cons_self a6 _)).trans (List.sublist_cons_self a5 _)).trans (List.sublist_cons_self a4 _)).trans (List.sublist_cons_self a3 _)).trans (List.sublist_cons_self a2 _)).trans (List.sublist_cons_self a1 _)
  refine cv_pre G he hroom hlam fun f c' ob1 x dx m mt ph oq hGd => ?_
  obtain ⟨g1, g2, ps, g3⟩ := hG c' ob1 hGd
  refine cv_for G he (by omega) hl hcp hlast (fun hn e it k S lo' Φ' msg k0 p1 p2 p3 p4 => ?_) (fun S' hS => ?_) (.head _) (.tail _ (.head _)) (.tail _ (.tail _ (.head _))) (.tail _ (.tail _ (.tail _ (.head _)))) (.tail _ (.tail _ (.tail _ (.tail _ g2))))
  · refine wxn_monoX (cv_raise G he) fun e s' z => ⟨hn, z.sub ?_⟩
    exact ((((hX hn c' ob1 hGd).trans (List.sublist_cons_self _ _)).trans (List.sublist_cons_self _ _)).trans (List.sublist_cons_self _ _)).trans (List.sublist_cons_self _ _)
  · have hI : MInv 0 (S0 sty) := ⟨by simp, by simp, by simp, by simp, fun h => by cases h⟩
    have hb := runM_out t 0 (S0 sty) S' (by omega) hcp hI (by simp) hS
    have i1 := hb.1.out
    have i2 := hb.1.phs
    refine cv_suf (Φ := fun v ob' => ∃ obz, List.Sublist obz ob' ∧ Φ v obz) (ps := ps) (ks := ks) (obs2 := fun obq => ∃ ob2, obs3 c' ob1 ob2 ∧ obq = mob x dx ph oq S' ((m, MapO mt f) :: (mt, TupO (.ref x)) :: (dx, EmpO) :: (f, LamO lamQ lamP lamB lamS c') :: ob2)) G he (by omega) hb.2 (by omega) (by omega)
      (.tail _ (.tail _ (.tail _ (.tail _ g1)))) (.tail _ (.tail _ (.tail _ (.tail _ g3)))) (fun hp T => ?_) ?_ ?_ (fun hp => ?_)
    · exact ⟨_, (sub7 ..).cons_cons _, h1 S' hS hp T c' ob1 hGd⟩
    · rintro _ ⟨ob2, ho, rfl⟩
      obtain ⟨k1, k2, ps2, k3⟩ := hG3 c' ob1 ob2 hGd ho
      exact ⟨.tail _ (.head _), .tail _ (.tail _ (.head _)), .tail _ (.tail _ (.tail _ (.tail _ (.tail _ (.tail _ (.tail _ k1)))))), .tail _ (.tail _ (.tail _ (.tail _ (.tail _ (.tail _ (.tail _ k2)))))), ps2, .tail _ (.tail _ (.tail _ (.tail _ (.tail _ (.tail _ (.tail _ k3))))))⟩
    · intro g T lo I l s Q E R q
      exact hcode c' ob1 hGd (mob x dx ph oq S' [(m, MapO mt f), (mt, TupO (.ref x)), (dx, EmpO), (f, LamO lamQ lamP lamB lamS c')]) g T lo I l s Q E R fun cv s' ob2 ho R' => q cv s' _ ⟨ob2, ho, rfl⟩ R'
    · obtain ⟨vals, hv, hT⟩ := h2 S' hS hp
      refine ⟨vals, hv, ?_⟩
      rintro T T2 _ ⟨ob2, ho, rfl⟩
      exact ⟨_, ((sub7 ..).cons_cons _).cons_cons _, hT T T2 c' ob1 ob2 hGd ho⟩
end
end Mine
end
section
open PySem.Calls
set_option maxHeartbeats 4000000
namespace Mine

local macro_rules | `(tactic| walk_at "my has") => `(tactic| with_reducible (repeat (first | exact Has.here | apply Has.there)))
local macro_rules | `(tactic| walk_at "my put") => `(tactic| with_reducible (repeat (first | exact Put.here | apply Put.there)))
local macro_rules | `(tactic| walk_at "my lit") => `(tactic| with_reducible (first | exact lit_sq | exact lit_dq | exact lit_E | exact lit_bs | exact lit_mi | exact lit_dl | exact lit_co | exact lit_eq | exact lit_qm | exact lit_pc | exact lit_lp | exact lit_rp | exact lit_s | exact lit_us | exact lit_nl | exact lit_ce | exact lit_ps | exact lit_rs | exact lit_em | exact rfl))
local macro_rules | `(tactic| walk_at "my op") => `(tactic| with_reducible (first | exact op_eq_int | exact op_ne_int | exact op_lt_int | exact op_gt_int | exact op_le_int | exact op_eq_str | exact op_ne_str | exact op_in_str | exact op_notin_str | exact op_eq_none_str | exact op_ne_none_str | exact op_ne_bool | exact op_is_none | exact op_is_none_str | exact op_add_int | exact op_iadd_int | exact op_sub_int | exact op_eq_opt | exact op_ne_opt | exact op_none_opt))
local macro_rules | `(tactic| walk_at "my nu") => `(tactic| first | (intro h; cases h; done) | exact PVo_ne _)
local macro_rules | `(tactic| walk_at "my ev") => `(tactic| first
  | with_reducible exact ev_int | ((with_reducible refine' ev_str ?h1); (case h1 => walk_at "my lit")) | with_reducible exact ev_none | with_reducible exact ev_bool
  | ((with_reducible refine' ev_nm ?k1 ?h1 ?u1); (case k1 => assumption); (case h1 => walk_at "my has"; done); (case u1 => walk_at "my nu"))
  | with_reducible refine' ev_bin ?_ ?_ ?_ | ((with_reducible refine' ev_cmp ?_ ?_ ?_ ?m1); (case m1 => exact rfl)) | ((with_reducible refine' tr_cmp ?_ ?_ ?_ ?m1); (case m1 => exact rfl)) | with_reducible refine' tr_not ?_ | with_reducible refine' tr_op ?_
  | with_reducible refine' tra_and ?_ ?_ | with_reducible exact tra_and_nil | with_reducible refine' tra_or ?_ ?_ | with_reducible exact tra_or_nil
  | with_reducible refine' ev_neg ?_
  | walk_at "my op" | ((with_reducible refine' evl_cons1 ?_ ?_ ?m1); (case m1 => exact rfl)) | with_reducible refine' evl_nil ?_ | (guard_target =~ (_ = _ → _); intro _))
local macro_rules | `(tactic| walk_at "my evs") => `(tactic| repeat' (walk_at "my ev"))
local macro_rules | `(tactic| walk_at "my blt") => `(tactic| first | exact ev_globB (by assumption) (by kernel_rfl) boot_len (by decide +kernel) (by kernel_rfl) (by decide +kernel) | exact ev_globB (by assumption) (by kernel_rfl) boot_str (by decide +kernel) (by kernel_rfl) (by decide +kernel) | exact ev_globB (by assumption) (by kernel_rfl) boot_range (by decide +kernel) (by kernel_rfl) (by decide +kernel))
local macro_rules | `(tactic| walk_at "my fn") => `(tactic| exact ev_glob (by assumption) (by kernel_rfl) (by kernel_rfl) (by decide +kernel))
local macro_rules | `(tactic| walk_at "my puts") => `(tactic| (repeat (apply Puts.cons; (focus (walk_at "my put"; done)))); exact Puts.nil)
local macro_rules | `(tactic| walk_at "my nils") => `(tactic| repeat (first | with_reducible refine seq_nil ?_ | with_reducible refine wx_nil ?_))
local macro_rules | `(tactic| walk_at "my nnils") => `(tactic| repeat (first | with_reducible refine seqn_nil ?_ | with_reducible refine wxn_nil ?_))
local macro_rules | `(tactic| walk_at "my meth") => `(tactic| (apply ev_of_x; first | with_reducible apply evx_meth1 | with_reducible apply evx_meth0 | apply evx_meth1 | apply evx_meth0))

theorem fn_cv (P : Params) : Fn0 (Mine.hd.heap_39 P) 113 (fdOf P 113) (bd 10) := ⟨⟨_, _, _, rfl⟩, rfl, rfl, rfl, rfl, by kernel_rfl, rfl, rfl, rfl⟩
theorem sc_cv (P : Params) : (fdOf P 113).scope = sc 10 := rfl
theorem bind_cv (P : Params) (v0 v1 v2 : Value) : bindArgs (fdOf P 113) ⟨[v0, v1, v2], []⟩ = pure [(Str.ofString "style", v0), (Str.ofString "query", v1), (Str.ofString "args", v2)] := by kernel_rfl
theorem cells_cv (P : Params) (n : Nat) : cellsFrom n (fdOf P 113).scope.names [] = [(Str.ofString "args", n)] := by kernel_rfl
abbrev cvNames : List Str := (cvlo ⟨#[]⟩ []).map (·.1)
theorem cvNames_nd : cvNames.Nodup := by decide +kernel
theorem cvNames_loc (P : Params) : ∀ y ∈ cvNames, (fdOf P 113).scope.names.lookup y = some .local ∧ (y == ("__debug__" : Str)) = false := by rw [sc_cv]; decide +kernel
theorem cv_l1 (P : Params) (L : Addr) (u1 u2 u3 : Value) : bindL (envOfC (fdOf P 113).qualname (fdOf P 113).scope L 113 (fdOf P 113).code).kindOf [(Str.ofString "style", u1), (Str.ofString "query", u2), (Str.ofString "args", u3)] (fun _ => none) (Str.ofString "style") = some u1 := by kernel_rfl
theorem cv_l2 (P : Params) (L : Addr) (u1 u2 u3 : Value) : bindL (envOfC (fdOf P 113).qualname (fdOf P 113).scope L 113 (fdOf P 113).code).kindOf [(Str.ofString "style", u1), (Str.ofString "query", u2), (Str.ofString "args", u3)] (fun _ => none) (Str.ofString "query") = some u2 := by kernel_rfl
theorem cv_c1 (P : Params) (L : Addr) (u1 u2 u3 : Value) : bindC (envOfC (fdOf P 113).qualname (fdOf P 113).scope L 113 (fdOf P 113).code).kindOf [(Str.ofString "style", u1), (Str.ofString "query", u2), (Str.ofString "args", u3)] (fun _ => none) (Str.ofString "args") = some u3 := by kernel_rfl
theorem forall_cons {α : Type} {P : α → Prop} {a : α} {l : List α} (h : P a) (hs : ∀ q ∈ l, P q) : ∀ q ∈ a :: l, P q := fun q hq => by
  rcases List.mem_cons.mp hq with rfl | hq
  · exact h
  · exact hs q hq
theorem forall_nil {α : Type} {P : α → Prop} : ∀ q ∈ ([] : List α), P q := fun _ h => nomatch h
section
variable {prog : Program} {w : World} {p : Program} {loose : List Str} {mean : ExcName → Option Value} {mg mb : Str → Option Value} {c : Cf} {lo lo' : Lo} {ob ob' : Ob} {pos : Pos}
theorem codeHd_turn {K : Frag} (G : Gu K p loose mean mg mb c) {cc P : Addr} (C : CodeHd c.h₀ cc P) {g : Heap} (T : Tn c g) : CodeHd g cc P := by
  obtain ⟨A₀, base, outer, B, hA, XB, TB, D⟩ := G.bel
  have T' : KtsTurn (outer.filterMap (·.frame)) c.h₀ g := by
    have := T; unfold Tn fsOf at this; rw [hA] at this; exact this
  obtain ⟨o, vs, file, tf, flags, tg, inF, text, tt, e1, e2, e3, r⟩ := C
  refine ⟨o, vs, file, tf, flags, tg, inF, text, tt, T'.other _ _ e1 fun hm => ?_, e2, e3, r⟩
  obtain ⟨o', es, n, h1, h2⟩ := D _ hm
  rw [e1] at h1; cases h1
  rw [e3] at h2; cases h2
theorem Flown.of_at {g : Heap} (T : Tn c g) {lo : Lo} {ob0 : Ob} {e : Value} {s : Shared} (h : Flown (c.at g) lo ob0 e s) : Flown c lo ob0 e s := by
  obtain ⟨s1, g1, e', outer, base, t, a1, a2, a3⟩ := h
  exact ⟨s1, g1, e', outer, base, t, a1, T.trans a2, a3⟩
theorem cl_cv (G : Gu (Mine.hd.heap_39 w.params) p loose mean mg mb c) (hroom : c.A.depth < recursionLimit) {sty : Str} {t : List Nat} {d : Addr} {obX : Ob} {Φ : PV → Ob → Prop}
    (H : ∀ g, Tn c g → ∀ L g2, Gu (Mine.hd.heap_39 w.params) p loose mean mg mb (fnCfC (c.at g) c.A (fdOf w.params 113) 113 L g2) → g.StaysIn g2 → WXn prog w (fnCfC (c.at g) c.A (fdOf w.params 113) 113 L g2) (cvlo sty t) ((L + 1, CellO (.val (.ref d))) :: ob) (fun e s => runM (S0 sty) t = none ∧ XR (fnCfC (c.at g) c.A (fdOf w.params 113) 113 L g2) obX e s) (bd 10) (RetΦ fun v ob' => ∃ obz, List.Sublist obz ob' ∧ Φ v obz)) :
    ClN prog w c lo ob (fun e s => runM (S0 sty) t = none ∧ Flown c lo obX e s) (.ref 113) [.str sty, .str (tx t), .val (.ref d)] Φ := fun g T us s Q E hu R q xx => by
  cases hu with | @cons _ u1 _ _ hu1 hu => ?_
  cases hu with | @cons _ u2 _ _ hu2 hu => ?_
  cases hu with | @cons _ u3 _ _ hu3 hu => ?_
  cases hu
  cases hu3
  refine wpAny_call (code_fnN (c := c.at g) (A' := c.A) (binds := [(Str.ofString "style", u1), (Str.ofString "query", u2), (Str.ofString "args", .ref d)]) (lo2 := cvlo sty t) (obc := fun L => [(L + 1, CellO (.val (.ref d)))]) (X := fun c2 e s => runM (S0 sty) t = none ∧ XR c2 obX e s) (Φ := fun v ob' => ∃ obz, List.Sublist obz ob' ∧ Φ v obz)
    (G.turn T) (fn_cv _) rfl G.hand hroom (@BindsTo.of_eq _ _ _ _ (bind_cv _ _ _ _)) ?_ ?_ ?_ ?_ ?_ ?_ ?_ (H g T) R (fun v u ob' s' g' T' hΦ hv R' => ?_) fun L e s' hL hG2 x => ?_)
  · intro n
    exact forall_cons (.inl (by kernel_rfl)) (forall_cons (.inl (by kernel_rfl)) (forall_cons (.inr ⟨by kernel_rfl, by rw [cells_cv]; kernel_rfl⟩) forall_nil))
  · rw [cells_cv]; simp
  · intro L
    refine forall_cons ?_ (forall_cons ?_ ?_)
    · show PV.at _ (bindL _ _ _ (Str.ofString "style"))
      rw [cv_l1]; exact PV.at_of hu1
    · show PV.at _ (bindL _ _ _ (Str.ofString "query"))
      rw [cv_l2]; exact PV.at_of hu2
    · repeat (refine forall_cons trivial ?_)
      exact forall_nil
  · exact cvNames_nd
  · intro q hq
    exact cvNames_loc _ _ (List.mem_map.mpr ⟨q, hq, rfl⟩ : q.1 ∈ (cvlo sty t).map (·.1))
  · intro L cells x
    rw [cells_cv] at x
    cases x with | cons h r => ?_
    cases r
    rw [cv_c1] at h
    exact forall_cons ⟨_, .head _, _, h, rfl⟩ forall_nil
  · intro L; simp
  · obtain ⟨obz, hs, hΦ⟩ := hΦ
    exact q v u obz s' g' (T.trans T') hΦ hv (R'.sub hs)
  · exact leave_flown (G.turn T) rfl R.1 hL hG2 x.2 fun s'' hF => xx _ _ ⟨x.1, hF.of_at T⟩
/-- the table of the two codes -/
abbrev ps2 (c' cg : Addr) : Array Value := #[rawInt lamPos.line, rawInt lamPos.col, .ref c', rawInt genPos.line, rawInt genPos.col, .ref cg]
abbrev ps1 (c' : Addr) : Array Value := #[rawInt lamPos.line, rawInt lamPos.col, .ref c']
/-- convert_paramstyle, both codes made -/
theorem cl_cv1 (G : Gu (Mine.hd.heap_39 w.params) p loose mean mg mb c) (hroom : c.A.depth + 3 < recursionLimit) (C : CodeHd c.h₀ 112 108) {sty : Str} {t : List Nat} {d c' cg : Addr} {ks : List (Str × PV)} {Φ : PV → Ob → Prop}
    (hP : (108, TabO (ps2 c' cg)) ∈ ob) (hc' : (c', CodeO lamQ) ∈ ob) (hd : (d, DictO prog w d ks) ∈ ob) (hl : t.length < 900) (hcp : ∀ z ∈ t, z < 16 ^ 8) (hlast : ∀ k ch, t[k]? = some ch → t[k + 1]? = none → ch ≠ 58)
    (h1 : ∀ S', runM (S0 sty) t = some S' → isPos S'.style = true → ∀ T, Φ (.val (.ref T)) ((T, SeqO "tuple" [.str (tx (J S'.out)), .val (.ref d)]) :: ob))
    (h2 : ∀ S', runM (S0 sty) t = some S' → isPos S'.style = false → ∃ vals, All2 (fun z v => lkD ks z = some v) S'.phs vals ∧ ∀ T T2, Φ (.val (.ref T)) ((T, SeqO "tuple" [.str (tx (J S'.out)), .val (.ref T2)]) :: (T2, SeqO "tuple" vals) :: ob)) :
    ClN prog w c lo ob (fun e s => runM (S0 sty) t = none ∧ Flown c lo ob e s) (.ref 113) [.str sty, .str (tx t), .val (.ref d)] Φ := by
  refine clN_sub (cl_cv G (by omega) fun g T L g2 G2 st => ?_)
  have C2 : ∀ g', Tn (fnCfC (c.at g) c.A (fdOf w.params 113) 113 L g2) g' → CodeHd g' 112 108 := fun g' T' => codeHd_turn G2 ((codeHd_turn G C T).keeps st) T'
  have ht : TriplesOk (ps2 c' cg).toList := by simp [TriplesOk, rawInt]
  refine cv_body (ks := ks) (Gd := fun c1 ob1 => c1 = c' ∧ ob1 = (L + 1, CellO (.val (.ref d))) :: ob) (obs3 := fun c1 ob1 ob2 => ob2 = ob1) (Φ := fun v ob' => ∃ ob2, List.Sublist ob2 ob' ∧ Φ v ob2) G2 rfl ?_ hl hcp hlast (fun g' T' lo oq ph => ?_) ?_ ?_ ?_ ?_ (fun S' hS hp T => ?_) (fun S' hS hp => ?_)
  · show (c.A.deeper _).depth + 2 < _
    rw [depth_deeper]; omega
  · refine evx_lam_hit (c' := c') (G2.turn T').gt (G2.turn T').top (C2 g' T') rfl (.tail _ (.tail _ (.tail _ hP))) ht (by kernel_rfl) (by kernel_rfl) (by kernel_rfl) fun f => ?_
    exact ⟨f, c', _, rfl, ⟨rfl, rfl⟩, rfl⟩
  · rintro _ c1 ob1 ⟨rfl, rfl⟩; exact List.sublist_cons_self _ _
  · rintro c1 ob1 ⟨rfl, rfl⟩; exact ⟨.head _, .tail _ hc', _, .tail _ hP⟩
  · rintro c1 ob1 ob2 ⟨rfl, rfl⟩ rfl; exact ⟨.head _, .tail _ hd, _, .tail _ hP⟩
  · rintro c1 ob1 ⟨rfl, rfl⟩ pre g' T' lo I l s Q E R q
    exact gcode_hit (c := (fnCfC (c.at g) c.A (fdOf w.params 113) 113 L g2).at g') (C2 g' T') rfl (List.mem_append_right _ (.tail _ hP)) ht (c' := cg) (by kernel_rfl) I l s Q E R fun cv s' R' => q cv s' _ rfl R'
  · rintro c1 ob1 ⟨rfl, rfl⟩
    exact ⟨_, (List.sublist_cons_self _ _).cons_cons _, h1 S' hS hp T⟩
  · obtain ⟨vals, hv, hT⟩ := h2 S' hS hp
    refine ⟨vals, hv, ?_⟩
    rintro T T2 c1 ob1 ob2 ⟨rfl, rfl⟩ rfl
    exact ⟨_, ((List.sublist_cons_self _ _).cons_cons _).cons_cons _, hT T T2⟩
/-- convert_paramstyle, called for the first time -/
theorem cl_cv0 (G : Gu (Mine.hd.heap_39 w.params) p loose mean mg mb c) (hroom : c.A.depth + 3 < recursionLimit) (C : CodeHd c.h₀ 112 108) {sty : Str} {t : List Nat} {d : Addr} {ks : List (Str × PV)} {Φ : PV → Ob → Prop} {ob1 : Addr → Ob} {ob2 : Addr → Addr → Ob} {S' : MS} {vals : List PV}
    (hP : (108, TabO #[]) ∈ ob) (U1 : ∀ c', Put 108 (TabO (ps1 c')) ob (ob1 c')) (U2 : ∀ c' cg, Put 108 (TabO (ps2 c' cg)) (ob1 c') (ob2 c' cg)) (hd : ∀ c' cg, (d, DictO prog w d ks) ∈ ob2 c' cg) (hl : t.length < 900) (hcp : ∀ z ∈ t, z < 16 ^ 8) (hlast : ∀ k ch, t[k]? = some ch → t[k + 1]? = none → ch ≠ 58)
    (hS : runM (S0 sty) t = some S') (hp : isPos S'.style = false) (hv : All2 (fun z v => lkD ks z = some v) S'.phs vals)
    (hT : ∀ T T2 c' cg, Φ (.val (.ref T)) ((T, SeqO "tuple" [.str (tx (J S'.out)), .val (.ref T2)]) :: (T2, SeqO "tuple" vals) :: (c', CodeO lamQ) :: ob2 c' cg)) :
    ClN prog w c lo ob (fun e s => runM (S0 sty) t = none ∧ Flown c lo [] e s) (.ref 113) [.str sty, .str (tx t), .val (.ref d)] Φ := by
  refine clN_sub (cl_cv G (by omega) fun g T L g2 G2 st => ?_)
  have C2 : ∀ g', Tn (fnCfC (c.at g) c.A (fdOf w.params 113) 113 L g2) g' → CodeHd g' 112 108 := fun g' T' => codeHd_turn G2 ((codeHd_turn G C T).keeps st) T'
  refine cv_body (ks := ks) (Gd := fun c1 o1 => o1 = (c1, CodeO lamQ) :: (L + 1, CellO (.val (.ref d))) :: ob1 c1) (obs3 := fun c1 o1 o2 => ∃ cg, o2 = (c1, CodeO lamQ) :: (L + 1, CellO (.val (.ref d))) :: ob2 c1 cg) (Φ := fun v ob' => ∃ ob2, List.Sublist ob2 ob' ∧ Φ v ob2) G2 rfl ?_ hl hcp hlast (fun g' T' lo oq ph => ?_) ?_ ?_ ?_ ?_ ?_ ?_
  · show (c.A.deeper _).depth + 2 < _
    rw [depth_deeper]; omega
  · refine evx_perm (evx_lam (ob' := fun c' => (oq, SeqO "list" []) :: (ph, SeqO "list" []) :: (L + 1, CellO (.val (.ref d))) :: ob1 c') (G2.turn T').gt (G2.turn T').top (C2 g' T') rfl (.tail _ (.tail _ (.tail _ hP))) trivial rfl (by kernel_rfl) (by kernel_rfl) (fun c' => .there (.there (.there (U1 c')))) fun f c' => ?_)
    refine ⟨(f, LamO lamQ lamP lamB lamS c') :: (oq, SeqO "list" []) :: (ph, SeqO "list" []) :: (c', CodeO lamQ) :: (L + 1, CellO (.val (.ref d))) :: ob1 c', ?_, f, c', _, rfl, rfl, rfl⟩
    exact .cons _ (List.perm_middle (l₁ := [(oq, SeqO "list" []), (ph, SeqO "list" [])])).symm
  · intro h; rw [hS] at h; cases h
  · rintro c1 _ rfl; exact ⟨.tail _ (.head _), .head _, _, .tail _ (.tail _ (U1 c1).mem2)⟩
  · rintro c1 _ _ rfl ⟨cg, rfl⟩; exact ⟨.tail _ (.head _), .tail _ (.tail _ (hd c1 cg)), _, .tail _ (.tail _ (U2 c1 cg).mem2)⟩
  · rintro c1 _ rfl pre g' T' lo I l s Q E R q
    have Ux : ∀ (pre : Ob) (o o' : Ob) (P : OP), Put 108 P o o' → Put 108 P (pre ++ o) (pre ++ o') := fun pre o o' P U => by
      induction pre with
      | nil => exact U
      | cons a r ih => exact .there ih
    refine gcode_new (c := (fnCfC (c.at g) c.A (fdOf w.params 113) 113 L g2).at g') (C2 g' T') rfl (List.mem_append_right _ (.tail _ (.tail _ (U1 c1).mem2))) (by simp [TriplesOk, rawInt]) (by kernel_rfl) (ob2 := fun cg => pre ++ ((c1, CodeO lamQ) :: (L + 1, CellO (.val (.ref d))) :: ob2 c1 cg)) (fun cg => Ux _ _ _ _ (.there (.there (U2 c1 cg)))) R fun cg cv s' R' => q cv s' _ ⟨cg, rfl⟩ R'
  · intro S2 h2 h3
    rw [hS] at h2; cases h2; rw [hp] at h3; cases h3
  · intro S2 h2 h3
    rw [hS] at h2; cases h2
    refine ⟨vals, hv, ?_⟩
    rintro T T2 c1 _ _ rfl ⟨cg, rfl⟩
    exact ⟨_, (((List.sublist_cons_self _ _).cons_cons _).cons_cons _).cons_cons _, hT T T2 c1 cg⟩
end
end Mine
end
section
open PySem.Calls
set_option maxHeartbeats 4000000
namespace Mine

local macro_rules | `(tactic| walk_at "my has") => `(tactic| with_reducible (repeat (first | exact Has.here | apply Has.there)))
local macro_rules | `(tactic| walk_at "my put") => `(tactic| with_reducible (repeat (first | exact Put.here | apply Put.there)))
local macro_rules | `(tactic| walk_at "my lit") => `(tactic| with_reducible (first | exact lit_sq | exact lit_dq | exact lit_E | exact lit_bs | exact lit_mi | exact lit_dl | exact lit_co | exact lit_eq | exact lit_qm | exact lit_pc | exact lit_lp | exact lit_rp | exact lit_s | exact lit_us | exact lit_nl | exact lit_ce | exact lit_ps | exact lit_rs | exact lit_em | exact rfl))
local macro_rules | `(tactic| walk_at "my op") => `(tactic| with_reducible (first | exact op_eq_int | exact op_ne_int | exact op_lt_int | exact op_gt_int | exact op_le_int | exact op_eq_str | exact op_ne_str | exact op_in_str | exact op_notin_str | exact op_eq_none_str | exact op_ne_none_str | exact op_ne_bool | exact op_is_none | exact op_is_none_str | exact op_add_int | exact op_iadd_int | exact op_sub_int | exact op_eq_opt | exact op_ne_opt | exact op_none_opt))
local macro_rules | `(tactic| walk_at "my nu") => `(tactic| first | (intro h; cases h; done) | exact PVo_ne _)
local macro_rules | `(tactic| walk_at "my ev") => `(tactic| first
  | with_reducible exact ev_int | ((with_reducible refine' ev_str ?h1); (case h1 => walk_at "my lit")) | with_reducible exact ev_none | with_reducible exact ev_bool
  | ((with_reducible refine' ev_nm ?k1 ?h1 ?u1); (case k1 => assumption); (case h1 => walk_at "my has"; done); (case u1 => walk_at "my nu"))
  | with_reducible refine' ev_bin ?_ ?_ ?_ | ((with_reducible refine' ev_cmp ?_ ?_ ?_ ?m1); (case m1 => exact rfl)) | ((with_reducible refine' tr_cmp ?_ ?_ ?_ ?m1); (case m1 => exact rfl)) | with_reducible refine' tr_not ?_ | with_reducible refine' tr_op ?_
  | with_reducible refine' tra_and ?_ ?_ | with_reducible exact tra_and_nil | with_reducible refine' tra_or ?_ ?_ | with_reducible exact tra_or_nil
  | with_reducible refine' ev_neg ?_
  | walk_at "my op" | ((with_reducible refine' evl_cons1 ?_ ?_ ?m1); (case m1 => exact rfl)) | with_reducible refine' evl_nil ?_ | (guard_target =~ (_ = _ → _); intro _))
local macro_rules | `(tactic| walk_at "my evs") => `(tactic| repeat' (walk_at "my ev"))
local macro_rules | `(tactic| walk_at "my blt") => `(tactic| first | exact ev_globB (by assumption) (by kernel_rfl) boot_len (by decide +kernel) (by kernel_rfl) (by decide +kernel) | exact ev_globB (by assumption) (by kernel_rfl) boot_str (by decide +kernel) (by kernel_rfl) (by decide +kernel) | exact ev_globB (by assumption) (by kernel_rfl) boot_range (by decide +kernel) (by kernel_rfl) (by decide +kernel))
local macro_rules | `(tactic| walk_at "my fn") => `(tactic| exact ev_glob (by assumption) (by kernel_rfl) (by kernel_rfl) (by decide +kernel))
local macro_rules | `(tactic| walk_at "my puts") => `(tactic| (repeat (apply Puts.cons; (focus (walk_at "my put"; done)))); exact Puts.nil)
local macro_rules | `(tactic| walk_at "my nils") => `(tactic| repeat (first | with_reducible refine seq_nil ?_ | with_reducible refine wx_nil ?_))
local macro_rules | `(tactic| walk_at "my nnils") => `(tactic| repeat (first | with_reducible refine seqn_nil ?_ | with_reducible refine wxn_nil ?_))
local macro_rules | `(tactic| walk_at "my meth") => `(tactic| (apply ev_of_x; first | with_reducible apply evx_meth1 | with_reducible apply evx_meth0 | apply evx_meth1 | apply evx_meth0))

theorem StrsAre.at {us : List Value} {ss : List Str} (h : StrsAre us ss) : ∀ {i : Nat} {z : Str}, ss[i]? = some z → ∃ t, us[i]? = some (.str z t) := by
  induction h with
  | nil => intro i z e; simp at e
  | cons s t h ih =>
    intro i z e
    cases i with
    | zero => simp at e; exact ⟨t, by simp [e]⟩
    | succ i => simp at e; obtain ⟨t', h'⟩ := ih e; exact ⟨t', by simpa using h'⟩
/-- values that == tells by what they say -/
def Flt : PV → Prop
  | .str _ => True
  | .int _ => True
  | _ => False
theorem flt_eq {A : Around} {s : Shared} {v : PV} (h : Flt v) {a b : Value} (ha : v.is a) (hb : v.is b) : SeqAt.EqAt A s a b true := by
  cases v with
  | un => cases h
  | val x => cases h
  | str z => obtain ⟨t, rfl⟩ := ha; obtain ⟨u, rfl⟩ := hb; have := SeqAt.EqAt.str_str (A := A) (s := s) z t z u; simpa using this
  | int i => obtain ⟨t, rfl⟩ := ha; obtain ⟨u, rfl⟩ := hb; have := SeqAt.EqAt.int_int (A := A) (s := s) i t i u; simpa using this
section
variable {prog : Program} {w : World} {K : Frag} {p : Program} {loose : List Str} {mg mb : Str → Option Value} {c : Cf} {lo lo' : Lo} {ob ob' : Ob} {pos p' : Pos} {X : EPost} {Φ : Post}
theorem evx_subx {value slice : Expr} {o : PV} {Ψ : PV → Ob → Prop} (ho : Ev prog w c lo ob value o) (hi : EvX prog w c lo ob slice (fun i ob' => ∃ r, Sb prog w c lo ob' value slice o i r ∧ Ψ r ob')) : EvX prog w c lo ob (.Subscript value slice pos) Ψ := fun s Q E R q =>
  Subscript_ (ho.use R fun ou s₁ hou R₁ => hi.use R₁ fun i iu ob' s₂ ⟨r, h, hΨ⟩ hiu R₂ => h.use hou hiu R₂ fun u s' a R' => q r u ob' s' hΨ a R'.1)
theorem evx_binL {l r : Expr} {op : Operator} {Ψ : PV → Ob → Prop} (hl : EvX prog w c lo ob l (fun a ob' => ∃ b v, Ev prog w c lo ob' r b ∧ Op prog w c lo ob' (binaryOp op) a b v ∧ Ψ v ob')) : EvX prog w c lo ob (.BinOp l op r pos) Ψ := fun s Q E R q =>
  wpAny_BinOp (hl.use R fun a ua ob' s₁ ⟨b, v, hr, ho, hΨ⟩ ha R₁ => hr.use R₁ fun ub s₂ hb R₂ => ho.use ha hb R₂ fun u s' hu R' => q v u ob' s' hΨ hu R'.toRep0)
theorem sb_tupG (G : Gt K p loose mg mb c) {value slice : Expr} {l : Addr} {ss : List Str} {i : Int} {z : Str} (ht : GTup K l ss) (h0 : 0 ≤ i) (hb : i < 2 ^ 40) (h1 : ss[i.toNat]? = some z)
    (hs : ∀ o i, subscripted slice false o i = operate [o, i] (getItem o i) := by intro _ _; with_unfolding_all rfl) : Sb prog w c lo ob value slice (.val (.ref l)) (.int i) (.str z) := fun ou iu s Q E ho hi R q => by
  cases ho; obtain ⟨t2, rfl⟩ := hi
  obtain ⟨o, us, n, g1, g2, g3, g4⟩ := ht
  obtain ⟨m, F, _⟩ := R.1.fr
  have hT : IsTup s.heap l us.toArray := ⟨_, F.keep _ _ (g1 _ G.X), g2, n, g3⟩
  obtain ⟨t, ht⟩ := StrsAre.at g4 h1
  have hlt : i.toNat < us.length := (List.getElem?_eq_some_iff.mp ht).1
  exact tail_any hT.typeIs slot_tuple_getitem.lookup (getItem_tuple hT (by omega) (by omega) (seqIndex_of h0 (by simp only [List.size_toArray]; omega)) (by simpa using ht) (q _ _ ⟨t, rfl⟩ R.1)) (hs _ _)
theorem sb_tuple {value slice : Expr} {l : Addr} {vs : List PV} {i : Int} {v : PV} (hm : (l, SeqO "tuple" vs) ∈ ob) (h0 : 0 ≤ i) (hb : i < 2 ^ 40) (h1 : vs[i.toNat]? = some v)
    (hs : ∀ o i, subscripted slice false o i = operate [o, i] (getItem o i) := by intro _ _; with_unfolding_all rfl) : Sb prog w c lo ob value slice (.val (.ref l)) (.int i) v := fun ou iu s Q E ho hi R q => by
  cases ho; obtain ⟨t2, rfl⟩ := hi
  obtain ⟨o, g1, g2⟩ := R.1.get hm
  obtain ⟨us, hT, hu⟩ := SeqO.isTup g1 g2
  obtain ⟨u, e, hv⟩ := hu.get h1
  have hlt : i.toNat < us.length := (List.getElem?_eq_some_iff.mp e).1
  exact tail_any hT.typeIs slot_tuple_getitem.lookup (getItem_tuple hT (by omega) (by omega) (seqIndex_of h0 (by simp only [List.size_toArray]; omega)) (by simpa using e) (q _ _ hv R.1)) (hs _ _)
/-- two tuples that say the same -/
theorem op_eq_tuple (hun : c.A.units < cLine) {a b : Addr} {vs : List PV} (ha : (a, SeqO "tuple" vs) ∈ ob) (hb : (b, SeqO "tuple" vs) ∈ ob) (hv : ∀ v ∈ vs, Flt v) : Op prog w c lo ob (compareOp .Eq) (.val (.ref a)) (.val (.ref b)) (.val (.bool true)) := fun ua ub s Q E h1 h2 R q => by
  cases h1; cases h2
  obtain ⟨o, g1, g2⟩ := R.1.get ha
  obtain ⟨us, ⟨o1, k1, k2, n1, k3⟩, hu⟩ := SeqO.isTup g1 g2
  obtain ⟨o', g1', g2'⟩ := R.1.get hb
  obtain ⟨us', ⟨o2, k1', k2', n2, k3'⟩, hu'⟩ := SeqO.isTup g1' g2'
  have l1 := hu.length
  have l2 := hu'.length
  refine SeqAt.eq_tupleAt (e := fun _ => true) ⟨o1, k1, k2, n1, k3⟩ ⟨o2, k1', k2', n2, k3'⟩ hun (fun j h1 h2 => ?_) ?_
  · have hj : j < vs.length := by simp only [List.size_toArray] at h1; omega
    obtain ⟨u, e, hv1⟩ := hu.get (i := j) (a := vs[j]) (List.getElem?_eq_getElem hj)
    obtain ⟨u', e', hv2⟩ := hu'.get (i := j) (a := vs[j]) (List.getElem?_eq_getElem hj)
    have e1 : us.toArray[j] = u := by
      have : us[j]? = some us.toArray[j] := by simp
      rw [e] at this; exact (Option.some.inj this).symm
    have e2 : us'.toArray[j] = u' := by
      have : us'[j]? = some us'.toArray[j] := by simp
      rw [e'] at this; exact (Option.some.inj this).symm
    rw [e1, e2]
    exact flt_eq (hv _ (List.getElem_mem hj)) hv1 hv2
  · have : ((List.range (min us.toArray.size us'.toArray.size)).all (fun _ => true) && us.toArray.size == us'.toArray.size) = true := by
      simp [l1.symm.trans l2]
    rw [this]
    exact q _ _ rfl R.1
theorem cl_tupleL {l : Addr} {vs : List PV} (hm : (l, SeqO "list" vs) ∈ ob) (hn : vs.length ≤ 1000) {Ψ : PV → Ob → Prop} (hΨ : ∀ T, Ψ (.val (.ref T)) ((T, SeqO "tuple" vs) :: ob)) : Cl prog w c lo ob (.type "tuple") [.val (.ref l)] Ψ := fun us s Q E hu R q => by
  cases hu with | cons h1 hs => ?_
  cases hs; cases h1
  obtain ⟨o, g1, g2⟩ := R.1.get hm
  obtain ⟨us, hp, hu⟩ := SeqO.isList g1 g2
  have hl : s.heap.IsList l us.toArray := by obtain ⟨n, h⟩ := hp; exact ⟨_, h, rfl, n, rfl⟩
  have ln := hu.length
  refine call_tuple_list hl (fun h' hk => ?_) (by rw [sizeLine_eq]; simp only [List.size_toArray]; omega)
  refine q _ _ _ _ (hΨ h'.objs.size) rfl ?_
  have R1 := R.1.ext (h' := h') hk s.toks
  exact R1.new (a := h'.objs.size) (o := { cls := .type "tuple", data := .seq us.toArray }) (P := SeqO "tuple" vs) (h' := h'.push _) (by show h'.get? _ = none; simp [Heap.get?]) (fun b o e => Heap.get?_push_of_some _ e) (Heap.get?_push_size _ rfl) ⟨us, 0, rfl, hu⟩ s.toks
end
end Mine
end
section
open PySem.Calls
set_option maxHeartbeats 4000000
namespace Mine

local macro_rules | `(tactic| walk_at "my has") => `(tactic| with_reducible (repeat (first | exact Has.here | apply Has.there)))
local macro_rules | `(tactic| walk_at "my put") => `(tactic| with_reducible (repeat (first | exact Put.here | apply Put.there)))
local macro_rules | `(tactic| walk_at "my lit") => `(tactic| with_reducible (first | exact lit_sq | exact lit_dq | exact lit_E | exact lit_bs | exact lit_mi | exact lit_dl | exact lit_co | exact lit_eq | exact lit_qm | exact lit_pc | exact lit_lp | exact lit_rp | exact lit_s | exact lit_us | exact lit_nl | exact lit_ce | exact lit_ps | exact lit_rs | exact lit_em | exact rfl))
local macro_rules | `(tactic| walk_at "my op") => `(tactic| with_reducible (first | exact op_eq_int | exact op_ne_int | exact op_lt_int | exact op_gt_int | exact op_le_int | exact op_eq_str | exact op_ne_str | exact op_in_str | exact op_notin_str | exact op_eq_none_str | exact op_ne_none_str | exact op_ne_bool | exact op_is_none | exact op_is_none_str | exact op_add_int | exact op_iadd_int | exact op_sub_int | exact op_eq_opt | exact op_ne_opt | exact op_none_opt))
local macro_rules | `(tactic| walk_at "my nu") => `(tactic| first | (intro h; cases h; done) | exact PVo_ne _)
local macro_rules | `(tactic| walk_at "my ev") => `(tactic| first
  | with_reducible exact ev_int | ((with_reducible refine' ev_str ?h1); (case h1 => walk_at "my lit")) | with_reducible exact ev_none | with_reducible exact ev_bool
  | ((with_reducible refine' ev_nm ?k1 ?h1 ?u1); (case k1 => assumption); (case h1 => walk_at "my has"; done); (case u1 => walk_at "my nu"))
  | with_reducible refine' ev_bin ?_ ?_ ?_ | ((with_reducible refine' ev_cmp ?_ ?_ ?_ ?m1); (case m1 => exact rfl)) | ((with_reducible refine' tr_cmp ?_ ?_ ?_ ?m1); (case m1 => exact rfl)) | with_reducible refine' tr_not ?_ | with_reducible refine' tr_op ?_
  | with_reducible refine' tra_and ?_ ?_ | with_reducible exact tra_and_nil | with_reducible refine' tra_or ?_ ?_ | with_reducible exact tra_or_nil
  | with_reducible refine' ev_neg ?_
  | walk_at "my op" | ((with_reducible refine' evl_cons1 ?_ ?_ ?m1); (case m1 => exact rfl)) | with_reducible refine' evl_nil ?_ | (guard_target =~ (_ = _ → _); intro _))
local macro_rules | `(tactic| walk_at "my evs") => `(tactic| repeat' (walk_at "my ev"))
local macro_rules | `(tactic| walk_at "my blt") => `(tactic| first | exact ev_globB (by assumption) (by kernel_rfl) boot_len (by decide +kernel) (by kernel_rfl) (by decide +kernel) | exact ev_globB (by assumption) (by kernel_rfl) boot_str (by decide +kernel) (by kernel_rfl) (by decide +kernel) | exact ev_globB (by assumption) (by kernel_rfl) boot_range (by decide +kernel) (by kernel_rfl) (by decide +kernel))
local macro_rules | `(tactic| walk_at "my fn") => `(tactic| exact ev_glob (by assumption) (by kernel_rfl) (by kernel_rfl) (by decide +kernel))
local macro_rules | `(tactic| walk_at "my puts") => `(tactic| (repeat (apply Puts.cons; (focus (walk_at "my put"; done)))); exact Puts.nil)
local macro_rules | `(tactic| walk_at "my nils") => `(tactic| repeat (first | with_reducible refine seq_nil ?_ | with_reducible refine wx_nil ?_))
local macro_rules | `(tactic| walk_at "my nnils") => `(tactic| repeat (first | with_reducible refine seqn_nil ?_ | with_reducible refine wxn_nil ?_))
local macro_rules | `(tactic| walk_at "my meth") => `(tactic| (apply ev_of_x; first | with_reducible apply evx_meth1 | with_reducible apply evx_meth0 | apply evx_meth1 | apply evx_meth0))

abbrev KvR (q : Str × PV) (r : Str × Value) : Prop := q.1 = r.1 ∧ q.2.is r.2
def storedP (ks : List (Str × PV)) (k : Str) (v : PV) : List (Str × PV) := if ks.any (fun q => decide (q.1 = k)) then ks.map (fun q => if q.1 = k then (q.1, v) else q) else ks ++ [(k, v)]
theorem kv_any {ks : List (Str × PV)} {kvs : List (Str × Value)} (h : All2 KvR ks kvs) (k : Str) : ks.any (fun q => decide (q.1 = k)) = kvs.any (fun q => decide (q.1 = k)) := by
  induction h with
  | nil => rfl
  | @cons q r ks kvs hq _ ih => simp only [List.any_cons, ih, hq.1]
theorem kv_map {ks : List (Str × PV)} {kvs : List (Str × Value)} (h : All2 KvR ks kvs) (k : Str) {v : PV} {y : Value} (hv : v.is y) : All2 KvR (ks.map fun q => if q.1 = k then (q.1, v) else q) (kvs.map fun q => if q.1 = k then (q.1, y) else q) := by
  induction h with
  | nil => exact .nil
  | @cons q r ks kvs hq _ ih =>
    refine .cons ?_ ih
    show KvR (if q.1 = k then (q.1, v) else q) (if r.1 = k then (r.1, y) else r)
    by_cases e : q.1 = k
    · rw [if_pos e, if_pos (hq.1 ▸ e)]; exact ⟨hq.1, hv⟩
    · rw [if_neg e, if_neg (hq.1 ▸ e)]; exact hq
theorem kv_stored {ks : List (Str × PV)} {kvs : List (Str × Value)} (h : All2 KvR ks kvs) (k : Str) {v : PV} {y : Value} (hv : v.is y) : All2 KvR (storedP ks k v) (stored kvs k y) := by
  unfold storedP stored
  rw [kv_any h k]
  split
  · exact kv_map h k hv
  · exact h.append (.cons ⟨rfl, hv⟩ .nil)
theorem lkD_map (k : Str) (v : PV) (z : Str) : ∀ ks : List (Str × PV), lkD (ks.map fun q => if q.1 = k then (q.1, v) else q) z = if z = k then (lkD ks z).map fun _ => v else lkD ks z
  | [] => by unfold lkD; split <;> rfl
  | q :: r => by
    have ih := lkD_map k v z r
    unfold lkD at *
    simp only [List.map_cons, List.find?_cons]
    by_cases hq : q.1 = k
    · rw [if_pos hq]
      by_cases hz : q.1 = z
      · have e : z = k := hz.symm.trans hq
        rw [if_pos e]
        simp [hz]
      · simp only [hz, decide_false]
        exact ih
    · rw [if_neg hq]
      by_cases hz : q.1 = z
      · have e : ¬ z = k := fun e => hq (hz.trans e)
        rw [if_neg e]
        simp [hz]
      · simp only [hz, decide_false]
        exact ih
theorem lkD_any (k : Str) : ∀ ks : List (Str × PV), (lkD ks k).isSome = ks.any (fun q => decide (q.1 = k))
  | [] => rfl
  | q :: r => by
    have ih := lkD_any k r
    unfold lkD at *
    simp only [List.find?_cons, List.any_cons]
    by_cases hq : q.1 = k
    · simp [hq]
    · simp only [hq, decide_false, Bool.false_or]; exact ih
theorem lkD_app (k : Str) (v : PV) (z : Str) : ∀ ks : List (Str × PV), (lkD ks k).isSome = false → lkD (ks ++ [(k, v)]) z = if z = k then some v else lkD ks z
  | [], _ => by
    unfold lkD
    by_cases h : z = k
    · subst h; simp
    · have h' : ¬ k = z := fun e => h e.symm
      simp [h, h']
  | q :: r, hn => by
    unfold lkD at *
    simp only [List.find?_cons] at hn
    by_cases hq : q.1 = k
    · simp [hq] at hn
    · simp only [hq, decide_false] at hn
      have ih := lkD_app k v z r hn
      unfold lkD at ih
      simp only [List.cons_append, List.find?_cons]
      by_cases hz : q.1 = z
      · have e : ¬ z = k := fun e => hq (hz.trans e)
        simp [hz, e]
      · simp only [hz, decide_false]; exact ih
theorem lkD_stored (ks : List (Str × PV)) (k : Str) (v : PV) (z : Str) : lkD (storedP ks k v) z = if z = k then some v else lkD ks z := by
  unfold storedP
  by_cases h : ks.any (fun q => decide (q.1 = k)) = true
  · rw [if_pos h, lkD_map]
    by_cases hz : z = k
    · rw [if_pos hz, if_pos hz]
      have : (lkD ks z).isSome = true := by rw [hz, lkD_any]; exact h
      obtain ⟨y, e⟩ := Option.isSome_iff_exists.mp this
      rw [e]; rfl
    · rw [if_neg hz, if_neg hz]
  · rw [if_neg h]
    exact lkD_app k v z ks (by rw [lkD_any]; exact Bool.eq_false_iff.mpr h)
theorem storedP_len (ks : List (Str × PV)) (k : Str) (v : PV) : (storedP ks k v).length ≤ ks.length + 1 := by
  unfold storedP; split <;> simp
theorem storedP_mem {ks : List (Str × PV)} {k : Str} {v : PV} {q : Str × PV} (h : q ∈ storedP ks k v) : q ∈ ks ∨ q.2 = v := by
  unfold storedP at h
  split at h
  · obtain ⟨q', h1, h2⟩ := List.mem_map.mp h
    split at h2
    · right; rw [← h2]
    · left; rw [← h2]; exact h1
  · rcases List.mem_append.mp h with h | h
    · exact .inl h
    · right; rw [List.mem_singleton.mp h]
theorem not_modules {h₀ h : Heap} {L : Addr} {m : Str → Option Value} (F : Fr h₀ L h m) (x : h₀.NoLimit) {d : Addr} (hd : h.objs.size ≤ d) : (d == sysModules) = false := by
  have h1 := modules_low x
  have h2 := F.ns.lt
  have h3 := F.above
  have : sysModules < d := Nat.lt_of_lt_of_le h1 (Nat.le_trans h3 (Nat.le_trans (Nat.le_of_lt h2) hd))
  exact beq_eq_false_iff_ne.mpr (Nat.ne_of_gt this)
section
variable {prog : Program} {w : World} {K : Frag} {p : Program} {loose : List Str} {mg mb : Str → Option Value} {c : Cf} {lo lo' : Lo} {ob ob' : Ob} {pos p' : Pos} {X : EPost} {Φ : Post}
/-- dict(d) -/
theorem cl_dict (G : Gt K p loose mg mb c) {d : Addr} {ks : List (Str × PV)} (hm : (d, DictO prog w d ks) ∈ ob) (hn : ks.length ≤ 1000) {Ψ : PV → Ob → Prop} (hΨ : ∀ d2, Ψ (.val (.ref d2)) ((d2, DictO prog w d2 ks) :: ob)) : Cl prog w c lo ob (.type "dict") [.val (.ref d)] Ψ := fun us s Q E hu R q => by
  cases hu with | cons h1 hs => ?_
  cases hs; cases h1
  obtain ⟨o, g1, hd1, hd2⟩ := R.1.get hm
  obtain ⟨kvs, hdo, hall⟩ := DictO.dictOf (d := d) g1 ⟨hd1, hd2⟩
  obtain ⟨m, F, _⟩ := R.1.fr
  refine kt_call_dict hd1 hdo (by rw [sizeLine_eq, ← hall.length]; omega) fun h' hdo' hs' => ?_
  obtain ⟨o', ho', hio⟩ := Heap.dictOf_iff.mp hdo'
  refine q _ _ _ _ (hΨ _) rfl (R.1.new (a := s.heap.objs.size) (o := o') (h' := h') (by simp [Heap.get?]) (fun b o e => hs'.extBut b o (Nat.ne_of_lt (Heap.lt_size e)) (Heap.get?_push_of_some _ e)) ho' ⟨not_modules F G.T.nolimit (Nat.le_refl _), kvs, hio, hall⟩ s.toks)
/-- d[k] = v -/
theorem ws_setitem {o i e : Expr} {d : Addr} {ks : List (Str × PV)} {z : Str} {v : PV} (he : Ev prog w c lo ob e v) (ho : Ev prog w c lo ob o (.val (.ref d))) (hi : Ev prog w c lo ob i (.str z)) (hm : (d, DictO prog w d ks) ∈ ob) (hn : ks.length ≤ 1000) (U : Put d (DictO prog w d (storedP ks z v)) ob ob') (hΦ : Φ .next lo ob')
    (hs : swapsWith e (some (.Subscript o i p')) pos.line c.env = pure false) : WS prog w c lo ob X (.Assign [.Subscript o i p'] e pos) Φ := fun s Q E R q _ _ =>
  wpAny_Assign_Subscript (he.use R fun u s₁ hu R₁ => ho.use R₁ fun ou s₂ hou R₂ => hi.use R₂ fun iu s₃ hiu R₃ => by
    cases hou
    obtain ⟨t, rfl⟩ := hiu
    obtain ⟨oo, g1, hd1, hd2⟩ := R₃.1.get hm
    obtain ⟨kvs, hdo, hall⟩ := DictO.dictOf (d := d) g1 ⟨hd1, hd2⟩
    refine wpAny_setItem_pairs (strKind_is prog w _ _) hdo (fun h' hdo' hs' => ?_) (by rw [sizeLine_eq, ← hall.length]; omega)
    obtain ⟨o', ho', hio⟩ := Heap.dictOf_iff.mp hdo'
    exact q _ _ _ _ _ hΦ rfl (R₃.1.upd U (fun b o hb e => (hs'.2 b hb).trans e) ho' ⟨hd1, _, hio, kv_stored hall z hu⟩ _)) hs
/-- {k: v} written -/
theorem hits_all {A : Around} {s : Shared} {ks : List (Str × PV)} {kb : List (Str × Value)} (hv : ∀ q ∈ ks, Flt q.2) : ∀ {ks' : List (Str × PV)} {ka : List (Str × Value)}, All2 KvR ks' ka → (∀ q ∈ ks', q ∈ ks) → (∀ q ∈ ks, ∃ y, valueAt kb q.1 = some y ∧ q.2.is y) → KeqHits A s kb ka true
  | _, _, .nil, _, _ => .nil
  | (k, pv) :: _, (k', u) :: _, .cons ⟨h1, h2⟩ hs, hsub, hb => by
    have h1 : k = k' := h1
    subst h1
    obtain ⟨y, e, hy⟩ := hb (k, pv) (hsub _ (.head _))
    have := KeqHits.hit (A := A) (s := s) e (flt_eq (hv (k, pv) (hsub _ (.head _))) h2 hy) (hits_all hv hs (fun q hq => hsub q (.tail _ hq)) hb)
    exact this
theorem op_eq_dict (hun : c.A.units < cLine) {a b : Addr} {ks : List (Str × PV)} (ha : (a, DictO prog w a ks) ∈ ob) (hb : (b, DictO prog w b ks) ∈ ob) (hv : ∀ q ∈ ks, Flt q.2) : Op prog w c lo ob (compareOp .Eq) (.val (.ref a)) (.val (.ref b)) (.val (.bool true)) := fun ua ub s Q E h1 h2 R q => by
  cases h1; cases h2
  obtain ⟨o, g1, hd1, hd2⟩ := R.1.get ha
  obtain ⟨ka, hda, halla⟩ := DictO.dictOf (d := a) g1 ⟨hd1, hd2⟩
  obtain ⟨o', g1', hd1', hd2'⟩ := R.1.get hb
  obtain ⟨kb, hdb, hallb⟩ := DictO.dictOf (d := b) g1' ⟨hd1', hd2'⟩
  have hn : (kb.map (·.1)).Nodup := by obtain ⟨_, _, _, _, _, _, _, _, hn⟩ := hdb; exact hn
  have hat : ∀ q ∈ ks, ∃ y, valueAt kb q.1 = some y ∧ q.2.is y := by
    intro q hq
    have key : ∀ {ks : List (Str × PV)} {kb : List (Str × Value)}, All2 KvR ks kb → (kb.map (·.1)).Nodup → ∀ q ∈ ks, ∃ y, valueAt kb q.1 = some y ∧ q.2.is y := by
      intro ks kb h
      induction h with
      | nil => intro _ q hq; cases hq
      | @cons q0 r ks kb h0 _ ih =>
        intro hn q hq
        have hn1 := List.nodup_cons.mp hn
        rcases List.mem_cons.mp hq with rfl | hq
        · exact ⟨r.2, by unfold valueAt; simp [h0.1], h0.2⟩
        · obtain ⟨y, e, hy⟩ := ih hn1.2 q hq
          refine ⟨y, ?_, hy⟩
          unfold valueAt at e ⊢
          rw [List.find?_cons]
          have : ¬ r.1 = q.1 := fun e' => by
            obtain ⟨f, hf1, hf2⟩ := Option.map_eq_some_iff.mp e
            have hf3 := List.find?_some hf1
            have hf4 := List.mem_of_find?_eq_some hf1
            have hf3 : f.1 = q.1 := by simpa using hf3
            exact hn1.1 (List.mem_map.mpr ⟨f, hf4, hf3.trans e'.symm⟩)
          simp only [this, decide_false]; exact e
    exact key hallb hn q hq
  refine keq_eq (knd := strKind prog w) hd1 hd1' hda hdb hun (fun _ => hits_all hv halla (fun q hq => hq) hat) ?_
  have e : (ka.length == kb.length && true) = true := by
    rw [← halla.length, ← hallb.length]; simp
  rw [e]
  exact q _ _ rfl R.1
end
end Mine
end
section
open PySem.Calls
set_option maxHeartbeats 4000000
namespace Mine

local macro_rules | `(tactic| walk_at "my has") => `(tactic| with_reducible (repeat (first | exact Has.here | apply Has.there)))
local macro_rules | `(tactic| walk_at "my put") => `(tactic| with_reducible (repeat (first | exact Put.here | apply Put.there)))
local macro_rules | `(tactic| walk_at "my lit") => `(tactic| with_reducible (first | exact lit_sq | exact lit_dq | exact lit_E | exact lit_bs | exact lit_mi | exact lit_dl | exact lit_co | exact lit_eq | exact lit_qm | exact lit_pc | exact lit_lp | exact lit_rp | exact lit_s | exact lit_us | exact lit_nl | exact lit_ce | exact lit_ps | exact lit_rs | exact lit_em | exact rfl))
local macro_rules | `(tactic| walk_at "my op") => `(tactic| with_reducible (first | exact op_eq_int | exact op_ne_int | exact op_lt_int | exact op_gt_int | exact op_le_int | exact op_eq_str | exact op_ne_str | exact op_in_str | exact op_notin_str | exact op_eq_none_str | exact op_ne_none_str | exact op_ne_bool | exact op_is_none | exact op_is_none_str | exact op_add_int | exact op_iadd_int | exact op_sub_int | exact op_eq_opt | exact op_ne_opt | exact op_none_opt))
local macro_rules | `(tactic| walk_at "my nu") => `(tactic| first | (intro h; cases h; done) | exact PVo_ne _)
local macro_rules | `(tactic| walk_at "my ev") => `(tactic| first
  | with_reducible exact ev_int | ((with_reducible refine' ev_str ?h1); (case h1 => walk_at "my lit")) | with_reducible exact ev_none | with_reducible exact ev_bool
  | ((with_reducible refine' ev_nm ?k1 ?h1 ?u1); (case k1 => assumption); (case h1 => walk_at "my has"; done); (case u1 => walk_at "my nu"))
  | with_reducible refine' ev_bin ?_ ?_ ?_ | ((with_reducible refine' ev_cmp ?_ ?_ ?_ ?m1); (case m1 => exact rfl)) | ((with_reducible refine' tr_cmp ?_ ?_ ?_ ?m1); (case m1 => exact rfl)) | with_reducible refine' tr_not ?_ | with_reducible refine' tr_op ?_
  | with_reducible refine' tra_and ?_ ?_ | with_reducible exact tra_and_nil | with_reducible refine' tra_or ?_ ?_ | with_reducible exact tra_or_nil
  | with_reducible refine' ev_neg ?_
  | walk_at "my op" | ((with_reducible refine' evl_cons1 ?_ ?_ ?m1); (case m1 => exact rfl)) | with_reducible refine' evl_nil ?_ | (guard_target =~ (_ = _ → _); intro _))
local macro_rules | `(tactic| walk_at "my evs") => `(tactic| repeat' (walk_at "my ev"))
local macro_rules | `(tactic| walk_at "my blt") => `(tactic| first | exact ev_globB (by assumption) (by kernel_rfl) boot_len (by decide +kernel) (by kernel_rfl) (by decide +kernel) | exact ev_globB (by assumption) (by kernel_rfl) boot_str (by decide +kernel) (by kernel_rfl) (by decide +kernel) | exact ev_globB (by assumption) (by kernel_rfl) boot_range (by decide +kernel) (by kernel_rfl) (by decide +kernel))
local macro_rules | `(tactic| walk_at "my fn") => `(tactic| exact ev_glob (by assumption) (by kernel_rfl) (by kernel_rfl) (by decide +kernel))
local macro_rules | `(tactic| walk_at "my puts") => `(tactic| (repeat (apply Puts.cons; (focus (walk_at "my put"; done)))); exact Puts.nil)
local macro_rules | `(tactic| walk_at "my nils") => `(tactic| repeat (first | with_reducible refine seq_nil ?_ | with_reducible refine wx_nil ?_))
local macro_rules | `(tactic| walk_at "my nnils") => `(tactic| repeat (first | with_reducible refine seqn_nil ?_ | with_reducible refine wxn_nil ?_))
local macro_rules | `(tactic| walk_at "my meth") => `(tactic| (apply ev_of_x; first | with_reducible apply evx_meth1 | with_reducible apply evx_meth0 | apply evx_meth1 | apply evx_meth0))

/-- an expression of a comprehension's scope -/
def EvE (prog : Program) (w : World) (c : Cf) (env' : Env) (lo : Lo) (ob : Ob) (e : Expr) (Φ : PV → Ob → Prop) : Prop := ∀ (s : Shared) (Q E : Value → Shared → Prop), Rep c lo ob s → (∀ v u ob' s', Φ v ob' → v.is u → Rep0 c lo ob' s' → Q u s') → wpAny (model prog w) c.A (eval e env') Q E s
theorem EvE.use {prog : Program} {w : World} {c : Cf} {env' : Env} {lo : Lo} {ob : Ob} {e : Expr} {Φ : PV → Ob → Prop} (h : EvE prog w c env' lo ob e Φ) {s : Shared} {Q E : Value → Shared → Prop} (R : Rep c lo ob s) (q : ∀ v u ob' s', Φ v ob' → v.is u → Rep c lo ob' s' → Q u s') : wpAny (model prog w) c.A (eval e env') Q E s :=
  wpAny_with_toks R.tk (h _ _ _ R fun v u ob' s' hΦ hu R' ht => q v u ob' s' hΦ hu ⟨R', ht⟩)
def NsAny : OP := fun o => ∃ m, LCg.NsObj o m
def RangeO (n : Nat) : OP := fun o => ∃ t u v, o = { cls := .type "range", dict := none, data := .fields #[.int 0 t, .int n u, .int 1 v], slots := #[] }
def RItO (x left : Int) : OP := fun o => o = { cls := .type "range_iterator", dict := none, data := .fields #[rawInt x, rawInt left, rawInt 1], slots := #[] }
section
variable {prog : Program} {w : World} {K : Frag} {p : Program} {loose : List Str} {mg mb : Str → Option Value} {c : Cf} {lo lo' : Lo} {ob ob' : Ob} {pos p' : Pos} {X : EPost} {Φ : Post}
theorem cl_range {n : Nat} {Ψ : PV → Ob → Prop} (hΨ : ∀ r, Ψ (.val (.ref r)) ((r, RangeO n) :: ob)) : Cl prog w c lo ob (.type "range") [.int n] Ψ := fun us s Q E hu R q => by
  cases hu with | cons h1 hs => ?_
  cases hs; obtain ⟨t, rfl⟩ := h1
  exact call_range_1 (q _ _ _ _ (hΨ _) rfl (R.1.new (a := s.heap.objs.size) (o := { cls := .type "range", data := .fields #[.int 0 s.toks, .int n t, .int 1 (s.toks + 1)] }) (P := RangeO n) (by simp [Heap.get?]) (fun b o e => Heap.get?_push_of_some _ e) (Heap.get?_push_size _ rfl) ⟨_, _, _, rfl⟩ _))
theorem evx_lc_range (G : Gt K p loose mg mb c) {elt iter : Expr} {x : Str} {px : Pos} {scope : Scope} {cl : List (Str × Addr)} {obs : Nat → Ob} {f : Nat → Str} {n : Nat} {Ψ : PV → Ob → Prop} (hn : n ≤ 1000)
    (hit : EvX prog w c lo ob iter (fun v ob' => ∃ r, v = .val (.ref r) ∧ ob' = (r, RangeO n) :: obs 0))
    (helt : ∀ i, i < n → ∀ C (pre : Ob), EvE prog w c (compEnvC scope cl C c.env) lo (pre ++ obs i) elt (fun v ob' => v = .str (f i) ∧ ob' = pre ++ obs (i + 1)))
    (hclos : closureFor scope c.env = pure cl) (hcell : ∀ y ∈ scope.names, y.2 ≠ .cell) (hkind : scope.kind = .function)
    (hnames : ∀ y ∈ scope.names, y.2 = .local → scope.names.lookup y.1 = some .local) (hx : scope.names.lookup x = some .local)
    (hΨ : ∀ D, Ψ (.val (.ref D)) ((D, SeqO "list" ((List.range n).map fun i => .str (f i))) :: obs n))
    (hs : ∀ x, foldedSetIterable iter c.env x = pure x) : EvX prog w c lo ob (.ListComp elt [⟨.Name x px, iter, [], 0⟩] scope pos) Ψ := fun s Q E R q => by
  have hh := G.hand
  rw [eval_ListComp]
  refine wpAny_comprehension_free (use := none) rfl hs hclos hkind hnames (hit.use R fun v u ob' s₁ hv hu R₁ => ?_)
  obtain ⟨r, rfl, rfl⟩ := hv
  cases hu
  obtain ⟨or, hor, t, u, v, rfl⟩ := R₁.1.get (.head _)
  have hsz : Builtin.Range.rangeSize 0 (n : Int) 1 = n := by rw [rangeSize_one]; split <;> omega
  refine wpAny_pyIter_range hor (small_one (by omega) (by omega) (by omega) (by omega)) ?_
  rw [hsz]
  have R2 : Rep0 c lo ((s₁.heap.objs.size, RItO 0 n) :: (r, RangeO n) :: obs 0) { s₁ with heap := s₁.heap.push { cls := .type "range_iterator", data := .fields #[rawInt 0, rawInt n, rawInt 1] } } :=
    R₁.1.new (a := s₁.heap.objs.size) (o := { cls := .type "range_iterator", data := .fields #[rawInt 0, rawInt n, rawInt 1] }) (P := RItO 0 n) (by simp [Heap.get?]) (fun b o e => Heap.get?_push_of_some _ e) (Heap.get?_push_size _ rfl) rfl s₁.toks
  generalize hI : s₁.heap.objs.size = I at *
  generalize hH1 : s₁.heap.push { cls := .type "range_iterator", data := .fields #[rawInt 0, rawInt n, rawInt 1] } = H1 at *
  refine wpAny_newObj_type ?_
  have R3 : Rep0 c lo ((H1.objs.size, SeqO "list" []) :: (I, RItO 0 n) :: (r, RangeO n) :: obs 0) { s₁ with heap := H1.push { cls := .type "list", dict := none, data := .seq ([] : List Value).toArray } } :=
    R2.new (a := H1.objs.size) (o := { cls := .type "list", dict := none, data := .seq ([] : List Value).toArray }) (P := SeqO "list" []) (by show H1.get? _ = none; simp [Heap.get?]) (fun b o e => Heap.get?_push_of_some _ e) (Heap.get?_push_size _ rfl) ⟨[], 0, rfl, .nil⟩ s₁.toks
  generalize hD : H1.objs.size = D at *
  show wpAny _ _ _ _ _ { s₁ with heap := H1.push { cls := .type "list", dict := none, data := .seq ([] : List Value).toArray } }
  generalize hH2 : H1.push { cls := .type "list", dict := none, data := .seq ([] : List Value).toArray } = H2 at *
  refine wpAny_newFunctionEnv hcell (by intro y hy; simp at hy) (fun h₁ hns₁ hsb₁ => ?_) hkind
  obtain ⟨oC, heC, hoC⟩ := LCg.ns_obj hns₁
  have R4 : Rep0 c lo ((H2.objs.size, NsAny) :: (D, SeqO "list" []) :: (I, RItO 0 n) :: (r, RangeO n) :: obs 0) { s₁ with heap := h₁, toks := s₁.toks } :=
    R3.new (a := H2.objs.size) (o := oC) (P := NsAny) (h' := h₁) (by show H2.get? _ = none; simp [Heap.get?]) (fun b o e => hsb₁.extBut b o (Nat.ne_of_lt (Heap.lt_size e)) (Heap.get?_push_of_some _ e)) heC ⟨_, hoC⟩ s₁.toks
  show codeAny _ _ (.compStart _ 0 (.ref I) (.ref D) (compEnvC scope cl H2.objs.size c.env)) (compPost _ _ _ none Q (.ref D) H2.objs.size) _
  generalize H2.objs.size = C at *
  have W : Walks prog w c.A I [I] [I] n (fun i v => ∃ t, v = .int ((0 : Int) + (i : Int)) t) (fun i h => IsRangeIter h I ((0 : Int) + (i : Nat) * 1) ((n : Int) - (i : Nat)) 1) := LCg.range_walks hh 0 n
  have loop : codeAny (model prog w) c.A (.compLoop (.ListComp elt [⟨.Name x px, iter, [], 0⟩] scope pos) 0 (.ref I) (.ref D) (compEnvC scope cl C c.env)) (compPost (model prog w) c.A E none Q (.ref D) C) { s₁ with heap := h₁, toks := s₁.toks } := by
    refine codeAny_compLoop_tests (fun k s' => ∃ i, i ≤ n ∧ k = n + 1 - i ∧ Rep c lo ((C, NsAny) :: (D, SeqO "list" ((List.range i).map fun i => .str (f i))) :: (I, RItO ((0 : Int) + (i : Nat) * 1) ((n : Int) - (i : Nat))) :: (r, RangeO n) :: obs i) s') ?_ (n + 1)
      ⟨0, Nat.zero_le _, rfl, by simpa using R4, R₁.tk⟩
    rintro k s' ⟨i, hi, rfl, R'⟩
    obtain ⟨oI, hoI, rfl⟩ := R'.1.get (.tail _ (.tail _ (.head _)))
    have nd := R'.1.obs.1
    by_cases hlt : i < n
    · refine wpAny_with_toks R'.tk (W.item i _ _ _ hlt hoI fun v h₂ tk₂ hPv hst₂ hk₂ ht => ?_)
      have R5 : Rep0 c lo ((C, NsAny) :: (D, SeqO "list" ((List.range i).map fun i => .str (f i))) :: (I, RItO ((0 : Int) + ((i + 1 : Nat) : Nat) * 1) ((n : Int) - ((i + 1 : Nat) : Nat))) :: (r, RangeO n) :: obs i) { s' with heap := h₂, toks := tk₂ } :=
        R'.1.upd (P := RItO ((0 : Int) + ((i + 1 : Nat) : Nat) * 1) ((n : Int) - ((i + 1 : Nat) : Nat))) (.there (.there .here)) (fun b o hb e => hk₂ b o (by simpa using hb) e) hst₂ rfl tk₂
      obtain ⟨oC2, heC2, m2, hoC2⟩ := R5.get (.head _)
      refine wpAny_assign_Name (wpAny_storeName_local (lookup_relabel_local hx) (hoC2.ns heC2) (fun h₃ hn₃ hs₃ => ?_) (by simp [compEnvC, relabel, hkind]))
      refine wpAny_tests_nil ?_
      simp only [if_true]
      obtain ⟨oC3, heC3, hoC3⟩ := LCg.ns_obj hn₃
      have R6 : Rep c lo ((C, NsAny) :: (D, SeqO "list" ((List.range i).map fun i => .str (f i))) :: (I, RItO ((0 : Int) + ((i + 1 : Nat) : Nat) * 1) ((n : Int) - ((i + 1 : Nat) : Nat))) :: (r, RangeO n) :: obs i) { s' with heap := h₃, toks := tk₂ + 1 } :=
        ⟨R5.upd (P := NsAny) .here (fun b o hb e => hs₃.extBut b o hb e) heC3 ⟨_, hoC3⟩ (tk₂ + 1), by show 1 ≤ tk₂ + 1; omega⟩
      refine (helt i hlt C [(C, NsAny), (D, SeqO "list" ((List.range i).map fun i => .str (f i))), (I, RItO ((0 : Int) + ((i + 1 : Nat) : Nat) * 1) ((n : Int) - ((i + 1 : Nat) : Nat))), (r, RangeO n)]).use R6 fun v2 u2 ob2 s₄ hv2 hu2 R7 => ?_
      obtain ⟨rfl, rfl⟩ := hv2
      refine (cl_append (prog := prog) (w := w) (lo := lo) (l := D) (vs := (List.range i).map fun i => .str (f i)) (v := .str (f i)) (ob' := (C, NsAny) :: (D, SeqO "list" ((List.range (i + 1)).map fun i => .str (f i))) :: (I, RItO ((0 : Int) + ((i + 1 : Nat) : Nat) * 1) ((n : Int) - ((i + 1 : Nat) : Nat))) :: (r, RangeO n) :: obs (i + 1)) (Φ := fun v ob' => ob' = (C, NsAny) :: (D, SeqO "list" ((List.range (i + 1)).map fun i => .str (f i))) :: (I, RItO ((0 : Int) + ((i + 1 : Nat) : Nat) * 1) ((n : Int) - ((i + 1 : Nat) : Nat))) :: (r, RangeO n) :: obs (i + 1)) (.tail _ (.head _)) (by simp; omega) ?_ rfl).use (.cons rfl (.cons hu2 .nil)) R7 fun v3 u3 ob3 s₅ hv3 hu3 R8 => ?_
      · rw [List.range_succ, List.map_append]; exact .there .here
      · subst hv3
        exact ⟨n + 1 - (i + 1), by omega, i + 1, hlt, rfl, R8⟩
    · obtain rfl : i = n := by omega
      refine W.done _ _ _ hoI fun h₂ tk₂ hk₂ => ?_
      have n1 := List.nodup_cons.mp nd
      have n2 := List.nodup_cons.mp n1.2
      have n3 := List.nodup_cons.mp n2.2
      obtain ⟨oC2, heC2, m2, hoC2⟩ := R'.1.get (.head _)
      have hCI : C ≠ I := fun e => n1.1 (by rw [e]; exact .tail _ (.head _))
      refine ⟨m2, hoC2.ns (hk₂ _ _ (by simpa using hCI) heC2), fun h'' hs'' => ?_⟩
      refine q _ _ _ _ (hΨ D) rfl ?_
      have R9 : Rep0 c lo ((D, SeqO "list" ((List.range i).map fun i => .str (f i))) :: obs i) s' := R'.1.sub (((((List.sublist_cons_self _ _).trans (List.sublist_cons_self _ _))).cons_cons _).trans (List.sublist_cons_self _ _))
      refine R9.moved (fun b o hb e => ?_) rfl R'.1.gens
      obtain ⟨_, _, c1, c2, _⟩ := R'.1.obs.2 _ (.head _)
      obtain ⟨_, _, i1, i2, _⟩ := R'.1.obs.2 _ (.tail _ (.tail _ (.head _)))
      have hbI : b ≠ I := by
        rintro rfl
        rcases hb with hb | hb | hb
        · rcases List.mem_cons.mp hb with e2 | hb
          · exact n2.1 (by rw [← e2]; exact .head _)
          · exact n3.1 (.tail _ hb)
        · exact i1 hb
        · have i2 : c.h₀.get? b = none := i2
          rw [i2] at hb; cases hb
      have hbC : b ≠ C := by
        rintro rfl
        rcases hb with hb | hb | hb
        · rcases List.mem_cons.mp hb with e2 | hb
          · exact n1.1 (by rw [e2]; exact .head _)
          · exact n1.1 (.tail _ (.tail _ (.tail _ hb)))
        · exact c1 hb
        · have c2 : c.h₀.get? b = none := c2
          rw [c2] at hb; cases hb
      exact hs''.extBut b o hbC (hk₂ b o (by simpa using hbI) e)
  have hst0 : IsRangeIter h₁ I ((0 : Int) + ((0 : Nat) : Nat) * 1) ((n : Int) - ((0 : Nat) : Nat)) 1 := by
    obtain ⟨oI, hoI, e⟩ := R4.get (.tail _ (.tail _ (.head _)))
    rw [e] at hoI
    simpa using hoI
  exact codeAny_compStart_list loop (W.self 0 _ _ _ hst0 loop)
end
end Mine
end
section
open PySem.Calls
set_option maxHeartbeats 4000000
namespace Mine

local macro_rules | `(tactic| walk_at "my has") => `(tactic| with_reducible (repeat (first | exact Has.here | apply Has.there)))
local macro_rules | `(tactic| walk_at "my put") => `(tactic| with_reducible (repeat (first | exact Put.here | apply Put.there)))
local macro_rules | `(tactic| walk_at "my lit") => `(tactic| with_reducible (first | exact lit_sq | exact lit_dq | exact lit_E | exact lit_bs | exact lit_mi | exact lit_dl | exact lit_co | exact lit_eq | exact lit_qm | exact lit_pc | exact lit_lp | exact lit_rp | exact lit_s | exact lit_us | exact lit_nl | exact lit_ce | exact lit_ps | exact lit_rs | exact lit_em | exact rfl))
local macro_rules | `(tactic| walk_at "my op") => `(tactic| with_reducible (first | exact op_eq_int | exact op_ne_int | exact op_lt_int | exact op_gt_int | exact op_le_int | exact op_eq_str | exact op_ne_str | exact op_in_str | exact op_notin_str | exact op_eq_none_str | exact op_ne_none_str | exact op_ne_bool | exact op_is_none | exact op_is_none_str | exact op_add_int | exact op_iadd_int | exact op_sub_int | exact op_eq_opt | exact op_ne_opt | exact op_none_opt))
local macro_rules | `(tactic| walk_at "my nu") => `(tactic| first | (intro h; cases h; done) | exact PVo_ne _)
local macro_rules | `(tactic| walk_at "my ev") => `(tactic| first
  | with_reducible exact ev_int | ((with_reducible refine' ev_str ?h1); (case h1 => walk_at "my lit")) | with_reducible exact ev_none | with_reducible exact ev_bool
  | ((with_reducible refine' ev_nm ?k1 ?h1 ?u1); (case k1 => assumption); (case h1 => walk_at "my has"; done); (case u1 => walk_at "my nu"))
  | with_reducible refine' ev_bin ?_ ?_ ?_ | ((with_reducible refine' ev_cmp ?_ ?_ ?_ ?m1); (case m1 => exact rfl)) | ((with_reducible refine' tr_cmp ?_ ?_ ?_ ?m1); (case m1 => exact rfl)) | with_reducible refine' tr_not ?_ | with_reducible refine' tr_op ?_
  | with_reducible refine' tra_and ?_ ?_ | with_reducible exact tra_and_nil | with_reducible refine' tra_or ?_ ?_ | with_reducible exact tra_or_nil
  | with_reducible refine' ev_neg ?_
  | walk_at "my op" | ((with_reducible refine' evl_cons1 ?_ ?_ ?m1); (case m1 => exact rfl)) | with_reducible refine' evl_nil ?_ | (guard_target =~ (_ = _ → _); intro _))
local macro_rules | `(tactic| walk_at "my evs") => `(tactic| repeat' (walk_at "my ev"))
local macro_rules | `(tactic| walk_at "my blt") => `(tactic| first | exact ev_globB (by assumption) (by kernel_rfl) boot_len (by decide +kernel) (by kernel_rfl) (by decide +kernel) | exact ev_globB (by assumption) (by kernel_rfl) boot_str (by decide +kernel) (by kernel_rfl) (by decide +kernel) | exact ev_globB (by assumption) (by kernel_rfl) boot_range (by decide +kernel) (by kernel_rfl) (by decide +kernel))
local macro_rules | `(tactic| walk_at "my fn") => `(tactic| exact ev_glob (by assumption) (by kernel_rfl) (by kernel_rfl) (by decide +kernel))
local macro_rules | `(tactic| walk_at "my puts") => `(tactic| (repeat (apply Puts.cons; (focus (walk_at "my put"; done)))); exact Puts.nil)
local macro_rules | `(tactic| walk_at "my nils") => `(tactic| repeat (first | with_reducible refine seq_nil ?_ | with_reducible refine wx_nil ?_))
local macro_rules | `(tactic| walk_at "my nnils") => `(tactic| repeat (first | with_reducible refine seqn_nil ?_ | with_reducible refine wxn_nil ?_))
local macro_rules | `(tactic| walk_at "my meth") => `(tactic| (apply ev_of_x; first | with_reducible apply evx_meth1 | with_reducible apply evx_meth0 | apply evx_meth1 | apply evx_meth0))

/-- a cell that nothing has been put into -/
def CellU : OP := fun o => o.data = .cell none
section
variable {prog : Program} {w : World} {K : Frag} {p : Program} {loose : List Str} {mg mb : Str → Option Value} {c : Cf} {lo lo' : Lo} {ob ob' : Ob} {pos p' : Pos} {X : EPost} {Φ : Post}
/-- y = e, y a cell -/
theorem ws_setcell (Kf : c.env.scope.kind = .function) {e : Expr} {y : Str} {cell : Addr} (hy : c.env.kindOf y = some .cell) (hc : c.env.cells.lookup y = some cell)
    (h : EvX prog w c lo ob e (fun v ob' => (cell, CellU) ∈ ob' ∧ ∃ ob'', Put cell (CellO v) ob' ob'' ∧ Φ .next lo ob'')) (hs : swapsWith e (some (.Name y p')) pos.line c.env = pure false) : WS prog w c lo ob X (.Assign [.Name y p'] e pos) Φ := fun s Q E R q _ _ =>
  wpAny_Assign_Name (h.use R fun v u ob' s' ⟨hm, ob'', U, hΦ⟩ hu R' => by
    obtain ⟨o, ho, hd⟩ := R'.1.get hm
    refine wpAny_storeName_cell Kf hy hc ⟨o, ho, hd⟩ fun h' hv hsb => ?_
    obtain ⟨o', ho', hd'⟩ := hv
    exact q _ _ _ _ _ hΦ rfl (R'.1.upd U (fun b o hb e => (hsb.2 b hb).trans e) ho' ⟨u, hd', hu⟩ s'.toks)) hs
theorem all2_of {α β : Type} {R : α → β → Prop} : ∀ (n : Nat) (vs : List α) (ys : List β), vs.length = n → ys.length = n → (∀ (j : Nat) v, vs[j]? = some v → ∃ y, ys[j]? = some y ∧ R v y) → All2 R vs ys
  | 0, vs, ys, h1, h2, _ => by rw [List.eq_nil_of_length_eq_zero h1, List.eq_nil_of_length_eq_zero h2]; exact .nil
  | n + 1, [], ys, h1, _, _ => by simp at h1
  | n + 1, v :: vs, [], _, h2, _ => by simp at h2
  | n + 1, v :: vs, y :: ys, h1, h2, h3 => by
    obtain ⟨y', hy, hvy⟩ := h3 0 v rfl
    simp at hy; subst hy
    exact .cons hvy (all2_of n vs ys (by simpa using h1) (by simpa using h2) fun j v' hj => by have := h3 (j + 1) v' (by simpa using hj); simpa using this)
theorem Paired.at {α β : Type} {F : α → β → Prop} {as : List α} {bs : List β} (h : Paired F as bs) : ∀ {j : Nat} {a : α}, as[j]? = some a → ∃ b, bs[j]? = some b ∧ F a b := by
  induction h with
  | nil => intro j a e; simp at e
  | @cons a b as bs h _ ih =>
    intro j x e
    cases j with
    | zero => simp at e; exact ⟨b, by simp, e ▸ h⟩
    | succ j => simp at e; obtain ⟨b', h1, h2⟩ := ih e; exact ⟨b', by simpa using h1, h2⟩
theorem Paired.len {α β : Type} {F : α → β → Prop} {as : List α} {bs : List β} (h : Paired F as bs) : as.length = bs.length := by
  induction h with
  | nil => rfl
  | cons _ _ ih => simp [ih]
/-- [d[x] for x in names] -/
theorem evx_lc_get (G : Gt K p loose mg mb c) {iter : Expr} {xa xp : Str} {pa pp px epos : Pos} {scope : Scope} {cl : List (Str × Addr)} {l d cell : Addr} {ns : List Str} {ks : List (Str × PV)} {vals : List PV} {Ψ : PV → Ob → Prop}
    (hit : Ev prog w c lo ob iter (.val (.ref l))) (hl : (l, SeqO "list" (ns.map .str)) ∈ ob) (hn : ns.length ≤ 1000) (hv : All2 (fun z v => lkD ks z = some v) ns vals) (hcell : (cell, CellO (.val (.ref d))) ∈ ob) (hd : (d, DictO prog w d ks) ∈ ob)
    (hcc : cl.lookup xa = some cell) (hclos : closureFor scope c.env = pure cl) (hnc : ∀ y ∈ scope.names, y.2 ≠ .cell) (hkind : scope.kind = .function)
    (hnames : ∀ y ∈ scope.names, y.2 = .local → scope.names.lookup y.1 = some .local) (hx : scope.names.lookup xp = some .local)
    (hxa : ∀ C, (compEnvC scope cl C c.env).kindOf xa = some .cell) (hda : (xa == ("__debug__" : Str)) = false) (hdp : (xp == ("__debug__" : Str)) = false)
    (hΨ : ∀ D, Ψ (.val (.ref D)) ((D, SeqO "list" vals) :: ob)) (hs : ∀ x, foldedSetIterable iter c.env x = pure x) :
    EvX prog w c lo ob (.ListComp (.Subscript (.Name xa pa) (.Name xp pp) epos) [⟨.Name xp px, iter, [], 0⟩] scope pos) Ψ := fun s Q E R q => by
  refine wpAny_ListComp_free (fun _ => true) (fun v y => ∃ z t pv, v = .str z t ∧ lkD ks z = some pv ∧ pv.is y) hclos hnc hkind hnames hx (hit.use R fun u s₂ hu R₂ => ?_) hs
  cases hu
  obtain ⟨o, h1, h2⟩ := R₂.1.get hl
  obtain ⟨us, hp, hus⟩ := SeqO.isList h1 h2
  have hil : s₂.heap.IsList l us.toArray := by obtain ⟨n, h⟩ := hp; exact ⟨_, h, rfl, n, rfl⟩
  have hlt : l < s₂.heap.objs.size := Heap.lt_size h1
  have hstrs := All2.strs hus
  have hlen : us.length = ns.length := StrsAre.len hstrs
  obtain ⟨oc, hoc, uc, hcd1, hcd2⟩ := R₂.1.get hcell
  cases hcd2
  obtain ⟨od, hod, hdD⟩ := R₂.1.get hd
  obtain ⟨kvs, hdo, hall⟩ := DictO.dictOf hod hdD
  refine wpAny_pyIter_list hil ?_
  refine ⟨s₂.heap.objs.size, [s₂.heap.objs.size, l], [s₂.heap.objs.size], us.toArray.size, _, _, rfl, Walks.list G.hand _ _ (Nat.ne_of_lt hlt) us.toArray, by rw [sizeLine_eq]; simp only [List.size_toArray]; omega, ⟨⟨_, Heap.get?_push_size _ rfl, rfl, rfl⟩, hil.push _⟩, ?_, ⟨?_, ?_⟩, ?_⟩
  · intro b hb
    show b < (s₂.heap.push _).objs.size
    rw [Heap.size_push]
    rcases List.mem_cons.mp hb with rfl | hb
    · exact Nat.lt_succ_self _
    · rw [List.mem_singleton.mp hb]; exact Nat.lt_succ_of_lt hlt
  · intro C i v s₃ m₃ E' hC hP hns hm hk ht
    exact wpAny_tests_nil ⟨rfl, s₃.heap, s₃.toks, rfl, fun _ _ e => e⟩
  · intro C i v s₃ m₃ E' hC hP _ hns hm hk ht
    have kp : ∀ b o, s₂.heap.get? b = some o → s₃.heap.get? b = some o := fun b o e => hk b o (by simpa using Nat.ne_of_lt (Heap.lt_size e)) (Heap.get?_push_of_some _ e)
    have hi4 : us[i]? = some v := by simpa using hP
    have hilt : i < us.length := (List.getElem?_eq_some_iff.mp hi4).1
    obtain ⟨uz, e1, e2⟩ := hus.get (i := i) (a := .str (ns[i]'(by omega))) (by simp [hlen ▸ hilt])
    rw [hi4] at e1
    cases e1
    obtain ⟨tz, rfl⟩ := e2
    obtain ⟨pv, e3, e4⟩ := hv.get (i := i) (a := ns[i]'(by omega)) (List.getElem?_eq_getElem _)
    obtain ⟨ud, hud, hpv⟩ := lkD_at hall e4
    have hdt : s₃.heap.DictOf (strKind prog w) d kvs := by
      obtain ⟨o', es, ep, ho', r⟩ := hdo
      exact ⟨o', es, ep, kp _ _ ho', r⟩
    refine Subscript_ (wpAny_Name (wpAny_loadName_cell hkind (hxa C) hcc ⟨oc, kp _ _ hoc, hcd1⟩ ?_) hda)
    refine wpAny_Name (wpAny_loadName_local hkind (lookup_relabel_local hx) hns hm ?_) hdp
    exact tail_any hdt.typeIs slot_dict_getitem.lookup (wpAny_getItem_of (strKind_is prog w _ _) hdt.mapOf hud ⟨⟨_, tz, pv, rfl, e4, hpv⟩, s₃.heap, s₃.toks + 1, rfl, fun _ _ e => e⟩) rfl
  · intro D h' tk ys vs hD _ hpl hvl hP hF hk
    have e : vs = us := by simpa using list_of_places hvl hP
    subst e
    have hD2 : s₂.heap.get? D = none := by
      cases e : s₂.heap.get? D with
      | none => rfl
      | some o' => rw [Heap.get?_push_of_some _ e] at hD; cases hD
    obtain ⟨m, F, _⟩ := R₂.1.fr
    have R3 : Rep0 c lo ob { s₂ with heap := h', toks := tk } := R₂.1.moved (fun b o _ e => hk b o (by simpa using Nat.ne_of_lt (Heap.lt_size e)) (Heap.get?_push_of_some _ e)) rfl R₂.1.gens
    obtain ⟨n', hn'⟩ := hpl
    rw [List.filter_eq_self.mpr (fun _ _ => rfl)] at hF
    refine q _ _ _ _ (hΨ D) rfl (R3.reg (P := SeqO "list" vals) hn' ⟨ys.toList, n', by simp, ?_⟩ (Obs.fresh F R₂.1.obs hD2))
    have hvl2 := hv.length
    have hyl := Paired.len hF
    refine all2_of _ _ _ rfl (by omega) fun j pv hj => ?_
    have hjl : j < vals.length := (List.getElem?_eq_some_iff.mp hj).1
    obtain ⟨uz, e1, e2⟩ := hus.get (i := j) (a := .str (ns[j]'(by omega))) (by simp [show j < ns.length by omega])
    obtain ⟨y, hy, z, t, pv2, e3, e4, e5⟩ := Paired.at hF e1
    obtain ⟨t2, e6⟩ := e2
    rw [e6] at e3
    cases e3
    obtain ⟨pv3, e7, e8⟩ := hv.get (i := j) (a := ns[j]'(by omega)) (List.getElem?_eq_getElem _)
    rw [hj] at e7; cases e7
    rw [e8] at e4; cases e4
    exact ⟨y, hy, e5⟩
theorem stored_told {z : Str} {l : List Value} {kvs : List (Str × Value)} (h : StoredAll (fun v k => ∃ t, v = Value.str k t) (fun v y => ∃ n t t', v = Value.str n t ∧ y = Value.str (z ++ n) t') l kvs) :
    ∃ ks : List (Str × PV), All2 KvR ks kvs ∧ (∀ n t, Value.str n t ∈ l → lkD ks n = some (.str (z ++ n))) ∧ (∀ q ∈ ks, Flt q.2) ∧ ks.length ≤ l.length := by
  induction h with
  | nil => exact ⟨[], .nil, fun n t h => (nomatch h), fun q h => (nomatch h), Nat.le_refl _⟩
  | @snoc l kvs v k y _ h1 h2 ih =>
    obtain ⟨ks, i1, i2, i3, i4⟩ := ih
    obtain ⟨t, rfl⟩ := h1
    obtain ⟨n, t1, t2, e, rfl⟩ := h2
    cases e
    refine ⟨storedP ks k (.str (z ++ k)), kv_stored i1 k ⟨t2, rfl⟩, fun n t' hm => ?_, fun q hq => ?_, ?_⟩
    · rw [lkD_stored]
      by_cases e : n = k
      · rw [if_pos e, e]
      · rw [if_neg e]
        rcases List.mem_append.mp hm with hm | hm
        · exact i2 n t' hm
        · have := List.mem_singleton.mp hm
          cases this; exact absurd rfl e
    · rcases storedP_mem hq with hq | hq
      · exact i3 q hq
      · rw [hq]; trivial
    · have := storedP_len ks k (.str (z ++ k))
      rw [List.length_append, List.length_singleton]; omega
/-- {x: z + x for x in names} -/
theorem evx_dictcomp (G : Gt K p loose mg mb c) {iter : Expr} {xp z : Str} {p1 p2 px pc pv : Pos} {k : Nat} {scope : Scope} {cl : List (Str × Addr)} {l : Addr} {ns : List Str} {Ψ : PV → Ob → Prop}
    (hit : Ev prog w c lo ob iter (.val (.ref l))) (hl : (l, SeqO "list" (ns.map .str)) ∈ ob) (hn : ns.length ≤ 1000) (hz : ∀ n ∈ ns, z.length + n.length ≤ 2 ^ 24)
    (hclos : closureFor scope c.env = pure cl) (hnc : ∀ y ∈ scope.names, y.2 ≠ .cell) (hkind : scope.kind = .function)
    (hnames : ∀ y ∈ scope.names, y.2 = .local → scope.names.lookup y.1 = some .local) (hx : scope.names.lookup xp = some .local) (hdp : (xp == ("__debug__" : Str)) = false)
    (hΨ : ∀ D ks, (∀ n ∈ ns, lkD ks n = some (.str (z ++ n))) → (∀ q ∈ ks, Flt q.2) → ks.length ≤ ns.length → Ψ (.val (.ref D)) ((D, DictO prog w D ks) :: ob)) (hs : ∀ x, foldedSetIterable iter c.env x = pure x) :
    EvX prog w c lo ob (.DictComp (.Name xp p1) (.BinOp (.Constant (.str z) k pc) .Add (.Name xp p2) pv) [⟨.Name xp px, iter, [], 0⟩] scope pos) Ψ := fun s Q E R q => by
  rw [arm_eval_DictComp]
  refine wpAny_comprehension_free (use := none) rfl hs hclos hkind hnames (hit.use R fun u s₂ hu R₂ => ?_)
  cases hu
  obtain ⟨o, h1, h2⟩ := R₂.1.get hl
  obtain ⟨us, hp, hus⟩ := SeqO.isList h1 h2
  have hil : s₂.heap.IsList l us.toArray := by obtain ⟨n, h⟩ := hp; exact ⟨_, h, rfl, n, rfl⟩
  have hlt : l < s₂.heap.objs.size := Heap.lt_size h1
  have hstrs := All2.strs hus
  have hlen : us.length = ns.length := StrsAre.len hstrs
  have hat : ∀ (i : Nat) v, us.toArray[i]? = some v → ∃ n ∈ ns, ∃ t, v = .str n t := by
    intro i v hP
    have hi4 : us[i]? = some v := by simpa using hP
    have hilt : i < us.length := (List.getElem?_eq_some_iff.mp hi4).1
    obtain ⟨uz, e1, e2⟩ := hus.get (i := i) (a := .str (ns[i]'(by omega))) (by simp [hlen ▸ hilt])
    rw [hi4] at e1
    cases e1
    exact ⟨_, List.getElem_mem _, e2⟩
  refine wpAny_pyIter_list hil ?_
  have R3 : Rep0 c lo ((s₂.heap.objs.size, LItO l) :: ob) { s₂ with heap := s₂.heap.push { cls := .type "list_iterator", data := .fields #[.ref l, .int 0 0] } } :=
    R₂.1.new (a := s₂.heap.objs.size) (o := { cls := .type "list_iterator", data := .fields #[.ref l, .int 0 0] }) (P := LItO l) (by simp [Heap.get?]) (fun b o e => Heap.get?_push_of_some _ e) (Heap.get?_push_size _ rfl) rfl s₂.toks
  have hIl : s₂.heap.objs.size ≠ l := Nat.ne_of_gt hlt
  generalize hI : s₂.heap.objs.size = I at *
  generalize hH1 : s₂.heap.push { cls := .type "list_iterator", data := .fields #[.ref l, .int 0 0] } = H1 at *
  refine wpAny_newObj_type ?_
  obtain ⟨m3, F3, _⟩ := R3.fr
  have hnew : (H1.push { cls := .type "dict", dict := none, data := .dict #[] }).DictOf (strKind prog w) H1.objs.size [] := Heap.DictOf.new H1
  obtain ⟨oD, hoD, hioD⟩ := Heap.dictOf_iff.mp hnew
  have R4 : Rep0 c lo ((H1.objs.size, DictO prog w H1.objs.size []) :: (I, LItO l) :: ob) { s₂ with heap := H1.push { cls := .type "dict", dict := none, data := .dict #[] } } :=
    R3.new (a := H1.objs.size) (o := oD) (P := DictO prog w H1.objs.size []) (by show H1.get? _ = none; simp [Heap.get?]) (fun b o e => Heap.get?_push_of_some _ e) hoD ⟨not_modules F3 G.T.nolimit (Nat.le_refl _), [], hioD, .nil⟩ s₂.toks
  generalize hD : H1.objs.size = D at *
  show wpAny _ _ _ _ _ { s₂ with heap := H1.push { cls := .type "dict", dict := none, data := .dict #[] } }
  generalize hH2 : H1.push { cls := .type "dict", dict := none, data := .dict #[] } = H2 at *
  refine wpAny_newFunctionEnv hnc (by intro y hy; simp at hy) (fun h₁ hns₁ hsb₁ => ?_) hkind
  obtain ⟨oC, heC, hoC⟩ := LCg.ns_obj hns₁
  have R5 : Rep0 c lo ((H2.objs.size, NsAny) :: (D, DictO prog w D []) :: (I, LItO l) :: ob) { s₂ with heap := h₁, toks := s₂.toks } :=
    R4.new (a := H2.objs.size) (o := oC) (P := NsAny) (h' := h₁) (by show H2.get? _ = none; simp [Heap.get?]) (fun b o e => hsb₁.extBut b o (Nat.ne_of_lt (Heap.lt_size e)) (Heap.get?_push_of_some _ e)) heC ⟨_, hoC⟩ s₂.toks
  show codeAny _ _ (.compStart _ 0 (.ref I) (.ref D) (compEnvC scope cl H2.objs.size c.env)) (compPost _ _ _ none Q (.ref D) H2.objs.size) _
  generalize H2.objs.size = C at *
  have W : Walks prog w c.A I [I, l] [I] us.toArray.size (fun i v => us.toArray[i]? = some v) (fun i h => h.IsListIter I l i ∧ h.IsList l us.toArray) := Walks.list G.hand _ _ hIl.symm us.toArray
  have nd := R5.obs.1
  have n1 := List.nodup_cons.mp nd
  have n2 := List.nodup_cons.mp n1.2
  have n3 := List.nodup_cons.mp n2.2
  have hlm : l ∈ ob.map (·.1) := List.mem_map.mpr ⟨_, hl, rfl⟩
  have hDC : D ≠ C := fun e => n1.1 (by rw [← e]; exact .head _)
  have hIC : I ≠ C := fun e => n1.1 (by rw [← e]; exact .tail _ (.head _))
  have hlC : l ≠ C := fun e => n1.1 (by rw [← e]; exact .tail _ (.tail _ hlm))
  have hID : I ≠ D := fun e => n2.1 (by rw [← e]; exact .head _)
  have hlD : l ≠ D := fun e => n2.1 (by rw [← e]; exact .tail _ hlm)
  obtain ⟨oD5, hoD5, hdm, kvs0, hio5, hall5⟩ := R5.get (.tail _ (.head _))
  cases hall5
  obtain ⟨oI5, hoI5, rfl⟩ := R5.get (.tail _ (.tail _ (.head _)))
  have hil5 : h₁.IsList l us.toArray := by
    obtain ⟨ol5, hol5, _⟩ := R5.get (.tail _ (.tail _ (.tail _ hl)))
    obtain ⟨oo, hoo, hcc⟩ := hil
    have e1 : s₂.heap.get? l = some oo := hoo
    have e2 : H1.get? l = some oo := by rw [← hH1]; exact Heap.get?_push_of_some _ e1
    have e3 : H2.get? l = some oo := by rw [← hH2]; exact Heap.get?_push_of_some _ e2
    exact ⟨oo, hsb₁.extBut _ _ hlC (Heap.get?_push_of_some _ e3), hcc⟩
  have loop : codeAny (model prog w) c.A (.compLoop (.DictComp (.Name xp p1) (.BinOp (.Constant (.str z) k pc) .Add (.Name xp p2) pv) [⟨.Name xp px, iter, [], 0⟩] scope pos) 0 (.ref I) (.ref D) (compEnvC scope cl C c.env)) (compPost (model prog w) c.A E none Q (.ref D) C) { s₂ with heap := h₁, toks := s₂.toks } := by
    refine codeAny_compLoop_walkD (hsz := by rw [sizeLine_eq]; simp only [List.size_toArray]; omega) (knd := strKind prog w) (cenv := compEnvC scope cl C c.env) W (fun _ => true) (fun v k => ∃ t, v = .str k t) (fun v y => ∃ n t t', v = .str n t ∧ y = .str (z ++ n) t')
      (lookup_relabel_local hx) (by simp [compEnvC, relabel, hkind]) hDC ?_ ?_ ⟨⟨_, hoI5, rfl, rfl⟩, hil5⟩ (Heap.dictOf_iff.mpr ⟨oD5, hoD5, hio5⟩) hns₁ ?_ ?_ ?_ ?_
    · intro hm
      rcases List.mem_cons.mp hm with e | hm
      · exact hID e.symm
      · exact hlD (List.mem_singleton.mp hm).symm
    · intro hm
      have hm : C ∈ [I, l] := hm
      rcases List.mem_cons.mp hm with e | hm
      · exact hIC e.symm
      · exact hlC (List.mem_singleton.mp hm).symm
    · intro i v s₃ m₃ hP hns hm hk
      exact wpAny_tests_nil ⟨rfl, s₃.heap, s₃.toks, rfl, fun _ _ e => e⟩
    · intro i v s₃ m₃ hP _ hns hm hk
      obtain ⟨n, _, t, rfl⟩ := hat i v hP
      exact wpAny_Name (wpAny_loadName_local hkind (lookup_relabel_local hx) hns hm ⟨⟨n, strKind_is prog w _ _, t, rfl⟩, s₃.heap, s₃.toks, rfl, fun _ _ e => e⟩) hdp
    · intro i v s₃ m₃ hP _ hns hm hk
      obtain ⟨n, hn, t, rfl⟩ := hat i v hP
      refine wpAny_BinOp (wpAny_Constant_str (wpAny_Name (wpAny_loadName_local hkind (lookup_relabel_local hx) hns hm ?_) hdp))
      exact PyProof.Rows.add_str (fun t' tk => ⟨⟨n, t, t', rfl, rfl⟩, s₃.heap, tk, rfl, fun _ _ e => e⟩) (by rw [sizeLine_eq]; exact hz n hn)
    · intro h' tk m' kvs vs hn' hdo hvl hP hF hk
      have e : vs = us := by simpa using list_of_places hvl hP
      subst e
      rw [List.filter_eq_self.mpr (fun _ _ => rfl)] at hF
      obtain ⟨ks, k1, k2, k3, k4⟩ := stored_told hF
      refine ⟨m', hn', fun h'' hs'' => ?_⟩
      have hdo2 := hdo.extBut hs''.extBut hDC
      obtain ⟨o', ho', hio⟩ := Heap.dictOf_iff.mp hdo2
      obtain ⟨_, _, c1, c2, _⟩ := R5.obs.2 _ (.head _)
      obtain ⟨_, _, d1, d2, _⟩ := R5.obs.2 _ (.tail _ (.head _))
      obtain ⟨_, _, i1, i2, _⟩ := R5.obs.2 _ (.tail _ (.tail _ (.head _)))
      have c2 : c.h₀.get? C = none := c2
      have d2 : c.h₀.get? D = none := d2
      have i2 : c.h₀.get? I = none := i2
      have R6 : Rep0 c lo ob { s₂ with heap := h'', toks := tk } := by
        refine Rep0.moved (R5.sub (((List.sublist_cons_self _ _).trans (List.sublist_cons_self _ _)).trans (List.sublist_cons_self _ _))) (fun b o hb e => ?_) rfl R5.gens
        have hbC : b ≠ C := by
          rintro rfl
          rcases hb with hb | hb | hb
          · exact n1.1 (.tail _ (.tail _ hb))
          · exact c1 hb
          · rw [c2] at hb; cases hb
        have hbD : b ≠ D := by
          rintro rfl
          rcases hb with hb | hb | hb
          · exact n2.1 (.tail _ hb)
          · exact d1 hb
          · rw [d2] at hb; cases hb
        have hbI : b ≠ I := by
          rintro rfl
          rcases hb with hb | hb | hb
          · exact n3.1 hb
          · exact i1 hb
          · rw [i2] at hb; cases hb
        exact hs''.extBut b o hbC (hk b o hbC (by simpa using hbI) hbD e)
      refine q _ _ _ _ (hΨ D ks (fun n hn => ?_) k3 (by omega)) rfl (R6.reg (P := DictO prog w D ks) ho' ⟨hdm, kvs, hio, k1⟩ ⟨fun hm => n2.1 (.tail _ hm), d1, d2⟩)
      obtain ⟨i, hi, e⟩ := List.mem_iff_getElem.mp hn
      obtain ⟨uz, e1, t, e2⟩ := hus.get (i := i) (a := .str n) (by simp [hi, e])
      exact k2 n t (by rw [← e2]; exact List.mem_of_getElem? e1)
  exact codeAny_compStart_dict loop (W.self 0 _ _ _ ⟨⟨_, hoI5, rfl, rfl⟩, hil5⟩ loop)
end
end Mine
end
section
open PySem.Calls
set_option maxHeartbeats 4000000
namespace Mine

local macro_rules | `(tactic| walk_at "my has") => `(tactic| with_reducible (repeat (first | exact Has.here | apply Has.there)))
local macro_rules | `(tactic| walk_at "my put") => `(tactic| with_reducible (repeat (first | exact Put.here | apply Put.there)))
local macro_rules | `(tactic| walk_at "my lit") => `(tactic| with_reducible (first | exact lit_sq | exact lit_dq | exact lit_E | exact lit_bs | exact lit_mi | exact lit_dl | exact lit_co | exact lit_eq | exact lit_qm | exact lit_pc | exact lit_lp | exact lit_rp | exact lit_s | exact lit_us | exact lit_nl | exact lit_ce | exact lit_ps | exact lit_rs | exact lit_em | exact rfl))
local macro_rules | `(tactic| walk_at "my op") => `(tactic| with_reducible (first | exact op_eq_int | exact op_ne_int | exact op_lt_int | exact op_gt_int | exact op_le_int | exact op_eq_str | exact op_ne_str | exact op_in_str | exact op_notin_str | exact op_eq_none_str | exact op_ne_none_str | exact op_ne_bool | exact op_is_none | exact op_is_none_str | exact op_add_int | exact op_iadd_int | exact op_sub_int | exact op_eq_opt | exact op_ne_opt | exact op_none_opt))
local macro_rules | `(tactic| walk_at "my nu") => `(tactic| first | (intro h; cases h; done) | exact PVo_ne _)
local macro_rules | `(tactic| walk_at "my ev") => `(tactic| first
  | with_reducible exact ev_int | ((with_reducible refine' ev_str ?h1); (case h1 => walk_at "my lit")) | with_reducible exact ev_none | with_reducible exact ev_bool
  | ((with_reducible refine' ev_nm ?k1 ?h1 ?u1); (case k1 => assumption); (case h1 => walk_at "my has"; done); (case u1 => walk_at "my nu"))
  | with_reducible refine' ev_bin ?_ ?_ ?_ | ((with_reducible refine' ev_cmp ?_ ?_ ?_ ?m1); (case m1 => exact rfl)) | ((with_reducible refine' tr_cmp ?_ ?_ ?_ ?m1); (case m1 => exact rfl)) | with_reducible refine' tr_not ?_ | with_reducible refine' tr_op ?_
  | with_reducible refine' tra_and ?_ ?_ | with_reducible exact tra_and_nil | with_reducible refine' tra_or ?_ ?_ | with_reducible exact tra_or_nil
  | with_reducible refine' ev_neg ?_
  | walk_at "my op" | ((with_reducible refine' evl_cons1 ?_ ?_ ?m1); (case m1 => exact rfl)) | with_reducible refine' evl_nil ?_ | (guard_target =~ (_ = _ → _); intro _))
local macro_rules | `(tactic| walk_at "my evs") => `(tactic| repeat' (walk_at "my ev"))
local macro_rules | `(tactic| walk_at "my blt") => `(tactic| first | exact ev_globB (by assumption) (by kernel_rfl) boot_len (by decide +kernel) (by kernel_rfl) (by decide +kernel) | exact ev_globB (by assumption) (by kernel_rfl) boot_str (by decide +kernel) (by kernel_rfl) (by decide +kernel) | exact ev_globB (by assumption) (by kernel_rfl) boot_range (by decide +kernel) (by kernel_rfl) (by decide +kernel))
local macro_rules | `(tactic| walk_at "my fn") => `(tactic| exact ev_glob (by assumption) (by kernel_rfl) (by kernel_rfl) (by decide +kernel))
local macro_rules | `(tactic| walk_at "my puts") => `(tactic| (repeat (apply Puts.cons; (focus (walk_at "my put"; done)))); exact Puts.nil)
local macro_rules | `(tactic| walk_at "my nils") => `(tactic| repeat (first | with_reducible refine seq_nil ?_ | with_reducible refine wx_nil ?_))
local macro_rules | `(tactic| walk_at "my nnils") => `(tactic| repeat (first | with_reducible refine seqn_nil ?_ | with_reducible refine wxn_nil ?_))
local macro_rules | `(tactic| walk_at "my meth") => `(tactic| (apply ev_of_x; first | with_reducible apply evx_meth1 | with_reducible apply evx_meth0 | apply evx_meth1 | apply evx_meth0))

section
variable {prog : Program} {w : World} {K : Frag} {p : Program} {loose : List Str} {mg mb : Str → Option Value} {c : Cf} {lo lo' : Lo} {ob ob' : Ob} {pos p' : Pos} {X : EPost} {Φ : Post} {env' : Env} {x : Str} {k : Nat}
theorem eve_glob (G : Gt K p loose mg mb c) {v : Value} {Ψ : PV → Ob → Prop} (hk : env'.scope.kind = .function) (hg : env'.globals = mainGlobals) (e : nsIn K mainGlobals x = some (some v)) (hx : env'.kindOf x = some .globalImplicit) (hd : (x == ("__debug__" : Str)) = false) (hΨ : Ψ (.val v) ob) : EvE prog w c env' lo ob (.Name x pos) Ψ := fun s Q E R q => by
  obtain ⟨m, F, _⟩ := R.1.fr
  refine Calls.Name_function_global hk hx (Calls.loadGlobal_global (mg := mg) (v := v) ?_ ?_ (q _ _ _ _ hΨ rfl R.1)) hd
  · rw [hg]; exact G.T.g.keeps F.keep
  · exact mg_of G.X G.T.g e
theorem eve_cell {cell : Addr} {v : PV} {Ψ : PV → Ob → Prop} (hk : env'.scope.kind = .function) (hc : env'.cells.lookup x = some cell) (hm : (cell, CellO v) ∈ ob) (hx : env'.kindOf x = some .cell) (hd : (x == ("__debug__" : Str)) = false) (hΨ : Ψ v ob) : EvE prog w c env' lo ob (.Name x pos) Ψ := fun s Q E R q => by
  obtain ⟨o, h1, u, h2, h3⟩ := R.1.get hm
  exact wpAny_Name (wpAny_loadName_cell hk hx hc ⟨o, h1, h2⟩ (q _ _ _ _ hΨ h3 R.1)) hd
theorem eve_int {i : Int} {Ψ : PV → Ob → Prop} (hΨ : Ψ (.int i) ob) : EvE prog w c env' lo ob (.Constant (.int i) k pos) Ψ := fun s Q E R q => wpAny_Constant_int (q _ _ _ _ hΨ ⟨_, rfl⟩ (R.1.toks _))
/-- f(a, b) of a def without cells -/
theorem eve_call2 {f a b : Expr} {fa : Addr} {o : Obj} {fd : FuncData} {va vb : PV} {Ψ : PV → Ob → Prop} (hf : EvE prog w c env' lo ob f fun v ob' => v = .val (.ref fa) ∧ ob' = ob) (ho : c.h₀.get? fa = some o) (hd : o.data = .func fd)
    (ha : EvE prog w c env' lo ob a fun v ob' => v = va ∧ ob' = ob) (hb : EvE prog w c env' lo ob b fun v ob' => v = vb ∧ ob' = ob) (h : Cl prog w c lo ob (.ref fa) [va, vb] Ψ)
    (hc : eval (.Call f [a, b] [] pos) env' = (do callWith pos (← eval f env') [] (backTo pos (starEach [a, b] env')) (backToKw pos (keywordEach [] env'))))
    (he : starEach [a, b] env' = (false, eval a env') :: starEach [b] env') (he2 : starEach [b] env' = (false, eval b env') :: starEach [] env') : EvE prog w c env' lo ob (.Call f [a, b] [] pos) Ψ := fun s Q E R q =>
  Call_ (hf.use R fun v u ob1 s₁ hv hu R₁ => by
    obtain ⟨rfl, rfl⟩ := hv
    cases hu
    refine callWith_def hd (args_cons (ha.use R₁ fun v u1 ob2 s₂ hv hu1 R₂ => ?_) he) he
    obtain ⟨rfl, rfl⟩ := hv
    refine args_cons (hb.use R₂ fun v u2 ob3 s₃ hv hu2 R₃ => ?_) he2
    obtain ⟨rfl, rfl⟩ := hv
    refine args_nil ⟨?_, h.use (.cons hu1 (.cons hu2 .nil)) R₃ fun v u ob' s' a b R' => q v u ob' s' a b R'.1⟩
    obtain ⟨m, F, _⟩ := R₃.1.fr
    exact F.keep _ _ ho) hc
theorem eve_sub {value slice : Expr} {o : PV} {Ψ : PV → Ob → Prop} (ho : EvE prog w c env' lo ob value fun v ob' => v = o ∧ ob' = ob) (hi : EvE prog w c env' lo ob slice (fun i ob' => ∃ r, Sb prog w c lo ob' value slice o i r ∧ Ψ r ob')) : EvE prog w c env' lo ob (.Subscript value slice pos) Ψ := fun s Q E R q =>
  Subscript_ (ho.use R fun v ou ob1 s₁ hv hou R₁ => by
    obtain ⟨rfl, rfl⟩ := hv
    exact hi.use R₁ fun i iu ob' s₂ ⟨r, h, hΨ⟩ hiu R₂ => h.use hou hiu R₂ fun u s' a R' => q r u ob' s' hΨ a R'.1)
theorem evx_cmp {l r : Expr} {op : CmpOp} {a : PV} {Ψ : PV → Ob → Prop} (hl : Ev prog w c lo ob l a) (hr : EvX prog w c lo ob r (fun b ob' => ∃ v, Op prog w c lo ob' (compareOp op) a b v ∧ Ψ v ob')) (hm : behindInMarks op r = false) : EvX prog w c lo ob (.Compare l [op] [r] pos) Ψ := fun s Q E R q =>
  wpAny_Compare1 (hl.use R fun ua s₁ ha R₁ => hr.use R₁ fun b ub ob' s₂ ⟨v, ho, hΨ⟩ hb R₂ => ho.use ha hb R₂ fun u s' hu R' => q v u ob' s' hΨ hu R'.toRep0) hm
theorem clN_monoX {X' : EPost} {f : Value} {vs : List PV} {Ψ : PV → Ob → Prop} (h : ClN prog w c lo ob X f vs Ψ) (k : ∀ e s', X e s' → X' e s') : ClN prog w c lo ob X' f vs Ψ := fun g T us s Q E hu R q x => h g T us s Q E hu R q fun e s' z => x e s' (k e s' z)
theorem clN_mono {f : Value} {vs : List PV} {Ψ Ψ' : PV → Ob → Prop} (h : ClN prog w c lo ob X f vs Ψ) (k : ∀ v ob', Ψ v ob' → Ψ' v ob') : ClN prog w c lo ob X f vs Ψ' := fun g T us s Q E hu R q x => h g T us s Q E hu R (fun v u ob' s' g' T' hΦ => q v u ob' s' g' T' (k _ _ hΦ)) x
theorem Flown.sub {ob1 ob2 : Ob} (h : List.Sublist ob2 ob1) {e : Value} {s : Shared} (x : Flown c lo ob1 e s) : Flown c lo ob2 e s := by
  obtain ⟨s1, g1, e', outer, base, t, a1, a2, a3, a4, a5, a6⟩ := x
  exact ⟨s1, g1, e', outer, base, t, a1, a2, a3.sub h, a4, fun b o e1 e2 e3 => a5 b o e1 e2 (e3.imp_right fun hm => (h.map _).subset hm), a6⟩
theorem evx_sub {e : Expr} {Ψ : PV → Ob → Prop} (h : EvX prog w c lo ob e fun v ob' => ∃ ob2, List.Sublist ob2 ob' ∧ Ψ v ob2) : EvX prog w c lo ob e Ψ := fun s Q E R q => h s Q E R fun v u ob' s' ⟨ob2, a, hΦ⟩ hu R' => q v u ob2 s' hΦ hu (R'.sub a)
end
end Mine
end
section
open PySem.Calls
set_option maxHeartbeats 4000000
namespace Mine

local macro_rules | `(tactic| walk_at "my has") => `(tactic| with_reducible (repeat (first | exact Has.here | apply Has.there)))
local macro_rules | `(tactic| walk_at "my put") => `(tactic| with_reducible (repeat (first | exact Put.here | apply Put.there)))
local macro_rules | `(tactic| walk_at "my lit") => `(tactic| with_reducible (first | exact lit_sq | exact lit_dq | exact lit_E | exact lit_bs | exact lit_mi | exact lit_dl | exact lit_co | exact lit_eq | exact lit_qm | exact lit_pc | exact lit_lp | exact lit_rp | exact lit_s | exact lit_us | exact lit_nl | exact lit_ce | exact lit_ps | exact lit_rs | exact lit_em | exact rfl))
local macro_rules | `(tactic| walk_at "my op") => `(tactic| with_reducible (first | exact op_eq_int | exact op_ne_int | exact op_lt_int | exact op_gt_int | exact op_le_int | exact op_eq_str | exact op_ne_str | exact op_in_str | exact op_notin_str | exact op_eq_none_str | exact op_ne_none_str | exact op_ne_bool | exact op_is_none | exact op_is_none_str | exact op_add_int | exact op_iadd_int | exact op_sub_int | exact op_eq_opt | exact op_ne_opt | exact op_none_opt))
local macro_rules | `(tactic| walk_at "my nu") => `(tactic| first | (intro h; cases h; done) | exact PVo_ne _)
local macro_rules | `(tactic| walk_at "my ev") => `(tactic| first
  | with_reducible exact ev_int | ((with_reducible refine' ev_str ?h1); (case h1 => walk_at "my lit")) | with_reducible exact ev_none | with_reducible exact ev_bool
  | ((with_reducible refine' ev_nm ?k1 ?h1 ?u1); (case k1 => assumption); (case h1 => walk_at "my has"; done); (case u1 => walk_at "my nu"))
  | with_reducible refine' ev_bin ?_ ?_ ?_ | ((with_reducible refine' ev_cmp ?_ ?_ ?_ ?m1); (case m1 => exact rfl)) | ((with_reducible refine' tr_cmp ?_ ?_ ?_ ?m1); (case m1 => exact rfl)) | with_reducible refine' tr_not ?_ | with_reducible refine' tr_op ?_
  | with_reducible refine' tra_and ?_ ?_ | with_reducible exact tra_and_nil | with_reducible refine' tra_or ?_ ?_ | with_reducible exact tra_or_nil
  | with_reducible refine' ev_neg ?_
  | walk_at "my op" | ((with_reducible refine' evl_cons1 ?_ ?_ ?m1); (case m1 => exact rfl)) | with_reducible refine' evl_nil ?_ | (guard_target =~ (_ = _ → _); intro _))
local macro_rules | `(tactic| walk_at "my evs") => `(tactic| repeat' (walk_at "my ev"))
local macro_rules | `(tactic| walk_at "my blt") => `(tactic| first | exact ev_globB (by assumption) (by kernel_rfl) boot_len (by decide +kernel) (by kernel_rfl) (by decide +kernel) | exact ev_globB (by assumption) (by kernel_rfl) boot_str (by decide +kernel) (by kernel_rfl) (by decide +kernel) | exact ev_globB (by assumption) (by kernel_rfl) boot_range (by decide +kernel) (by kernel_rfl) (by decide +kernel))
local macro_rules | `(tactic| walk_at "my fn") => `(tactic| exact ev_glob (by assumption) (by kernel_rfl) (by kernel_rfl) (by decide +kernel))
local macro_rules | `(tactic| walk_at "my puts") => `(tactic| (repeat (apply Puts.cons; (focus (walk_at "my put"; done)))); exact Puts.nil)
local macro_rules | `(tactic| walk_at "my nils") => `(tactic| repeat (first | with_reducible refine seq_nil ?_ | with_reducible refine wx_nil ?_))
local macro_rules | `(tactic| walk_at "my nnils") => `(tactic| repeat (first | with_reducible refine seqn_nil ?_ | with_reducible refine wxn_nil ?_))
local macro_rules | `(tactic| walk_at "my meth") => `(tactic| (apply ev_of_x; first | with_reducible apply evx_meth1 | with_reducible apply evx_meth0 | apply evx_meth1 | apply evx_meth0))

def five : List Str := [sQ, sN, sD, sF, sP]
theorem walkStep_names {t : List Nat} {S S' : WSt} (h : walkStep t S = .go S') : (S'.names = S.names ∨ ∃ x, S'.names = addN S.names x ∧ x.length ≤ t.length) ∧ (S'.style = S.style ∨ S'.style = sF) := by
  unfold walkStep at h
  simp only at h
  split at h
  · cases h; exact ⟨.inl rfl, .inl rfl⟩
  split at h
  · cases h; exact ⟨.inl rfl, .inl rfl⟩
  split at h
  · cases h; exact ⟨.inl rfl, .inl rfl⟩
  split at h
  · cases h
    refine ⟨.inr ⟨_, rfl, ?_⟩, .inl rfl⟩
    rw [tx_len]; unfold cut; rw [List.length_drop, List.length_take]; omega
  split at h
  · split at h
    · cases h
    · cases h
      refine ⟨.inr ⟨_, rfl, ?_⟩, .inl rfl⟩
      rw [tx_len]
      refine Nat.le_trans (List.length_filter_le _ _) ?_
      unfold cut; rw [List.length_drop, List.length_take]; omega
  split at h
  · split at h
    · cases h; exact ⟨.inl rfl, .inr rfl⟩
    split at h
    · cases h; exact ⟨.inl rfl, .inr rfl⟩
    · cases h
  · cases h; exact ⟨.inl rfl, .inl rfl⟩
theorem walkStep_stop {t : List Nat} {S : WSt} {told : List Nat} {ns : List Str} {st : Str} (h : walkStep t S = .stop (some (told, ns, st))) : ∃ x, ns = S.names ++ [x] ∧ x.length ≤ t.length ∧ st = S.style := by
  unfold walkStep at h
  simp only at h
  split at h
  · cases h
  split at h
  · cases h
  split at h
  · cases h
  split at h
  · cases h
  split at h
  · split at h
    · cases h
      refine ⟨_, rfl, ?_, rfl⟩
      rw [tx_len]
      refine Nat.le_trans (List.length_filter_le _ _) ?_
      rw [List.length_drop]; omega
    · cases h
  split at h
  · split at h
    · cases h
    split at h
    · cases h
    · cases h
  · cases h
theorem addN_mem {ns : List Str} {x z : Str} (h : z ∈ addN ns x) : z ∈ ns ∨ z = x := by
  unfold addN at h
  split at h
  · exact .inl h
  · rcases List.mem_append.mp h with h | h
    · exact .inl h
    · exact .inr (List.mem_singleton.mp h)
theorem walkF_names {t : List Nat} (hl : t.length ≤ 1000) {told : List Nat} {ns : List Str} {st : Str} : ∀ n W, t.length - W.at_ = n → WInv W → W.names.length ≤ t.length → (∀ z ∈ W.names, z.length ≤ t.length) → W.style ∈ five → walkF t W = some (told, ns, st) → ns.length ≤ t.length ∧ (∀ z ∈ ns, z.length ≤ t.length) ∧ st ∈ five := by
  intro n
  induction n using Nat.strongRecOn with | ind n ih => ?_
  intro W hn I h1 h2 h3 hw
  by_cases hlt : W.at_ < t.length
  · cases hs : walkStep t W with
    | go S' =>
      rw [walkF_go hlt hs] at hw
      have hgt := walkStep_lt hs
      obtain ⟨k1, k2⟩ := walkStep_names hs
      refine ih (t.length - S'.at_) (by omega) S' rfl (walkStep_inv hl hlt I hs) ?_ ?_ ?_ hw
      · rcases k1 with e | ⟨x, e, _⟩
        · rw [e]; exact h1
        · rw [e]
          have := addN_len W.names x
          have := I.names
          omega
      · rcases k1 with e | ⟨x, e, hx⟩
        · rw [e]; exact h2
        · rw [e]; intro z hz
          rcases addN_mem hz with hz | rfl
          · exact h2 z hz
          · exact hx
      · rcases k2 with e | e
        · rw [e]; exact h3
        · rw [e]; exact .tail _ (.tail _ (.tail _ (.head _)))
    | stop r =>
      rw [walkF_stop hlt hs] at hw
      rw [hw] at hs
      obtain ⟨x, rfl, hx, rfl⟩ := walkStep_stop hs
      refine ⟨?_, ?_, h3⟩
      · have := I.names
        simp; omega
      · intro z hz
        rcases List.mem_append.mp hz with hz | hz
        · exact h2 z hz
        · rw [List.mem_singleton.mp hz]; exact hx
  · rw [walkF_end hlt] at hw
    cases hw
    exact ⟨h1, h2, h3⟩
theorem five_any {sty : Str} (h : sty ∈ five) : [sQ, sN, sD, sF, sP].any (· == sty) = true := List.any_eq_true.mpr ⟨sty, h, by simp⟩
theorem law_same {t : List Nat} {sty : Str} (hal : ∀ z ∈ t, z ∈ signs) (hlast : ∀ k ch, t[k]? = some ch → t[k + 1]? = none → ch = 32) (hs : sty ∈ five) : Same (runM (S0 sty) t) (walkF t ⟨sty, [], [], 0, 0⟩) := by
  have := law_run hal hlast t.length 0 ⟨sty, [], [], 0, 0⟩ (S0 sty) (by simp) ⟨rfl, rfl, rfl, rfl, rfl, rfl, fun _ => ⟨rfl, rfl, rfl⟩⟩ (five_any hs)
  rwa [List.drop_zero] at this
theorem isPos_five : ∀ sty ∈ five, isPos sty = (sty != sD && (sty != sP && true)) := by decide +kernel
theorem sign_cp : ∀ z ∈ signs, z < 16 ^ 8 := by decide +kernel
theorem nextF_bound (ds : List Int) (k : Int) {lim : Int} (h : 0 < lim) : 0 ≤ nextF ds k lim ∧ nextF ds k lim < lim := by
  unfold nextF
  split
  · exact ⟨Int.fmod_nonneg_of_pos _ h, Int.fmod_lt_of_pos _ h⟩
  · exact ⟨Int.fmod_nonneg_of_pos _ h, Int.fmod_lt_of_pos _ h⟩
theorem J_sgs (z : Nat → Nat) : ∀ l : List Nat, J (l.map fun i => sg (z i)) = l.map z
  | [] => rfl
  | a :: r => by
    show [z a] ++ J (r.map fun i => sg (z i)) = z a :: r.map z
    rw [J_sgs z r]; rfl
end Mine
end
section
open PySem.Calls
set_option maxHeartbeats 4000000
namespace Mine

local macro_rules | `(tactic| walk_at "my has") => `(tactic| with_reducible (repeat (first | exact Has.here | apply Has.there)))
local macro_rules | `(tactic| walk_at "my put") => `(tactic| with_reducible (repeat (first | exact Put.here | apply Put.there)))
local macro_rules | `(tactic| walk_at "my lit") => `(tactic| with_reducible (first | exact lit_sq | exact lit_dq | exact lit_E | exact lit_bs | exact lit_mi | exact lit_dl | exact lit_co | exact lit_eq | exact lit_qm | exact lit_pc | exact lit_lp | exact lit_rp | exact lit_s | exact lit_us | exact lit_nl | exact lit_ce | exact lit_ps | exact lit_rs | exact lit_em | exact rfl))
local macro_rules | `(tactic| walk_at "my op") => `(tactic| with_reducible (first | exact op_eq_int | exact op_ne_int | exact op_lt_int | exact op_gt_int | exact op_le_int | exact op_eq_str | exact op_ne_str | exact op_in_str | exact op_notin_str | exact op_eq_none_str | exact op_ne_none_str | exact op_ne_bool | exact op_is_none | exact op_is_none_str | exact op_add_int | exact op_iadd_int | exact op_sub_int | exact op_eq_opt | exact op_ne_opt | exact op_none_opt))
local macro_rules | `(tactic| walk_at "my nu") => `(tactic| first | (intro h; cases h; done) | exact PVo_ne _)
local macro_rules | `(tactic| walk_at "my ev") => `(tactic| first
  | with_reducible exact ev_int | ((with_reducible refine' ev_str ?h1); (case h1 => walk_at "my lit")) | with_reducible exact ev_none | with_reducible exact ev_bool
  | ((with_reducible refine' ev_nm ?k1 ?h1 ?u1); (case k1 => assumption); (case h1 => walk_at "my has"; done); (case u1 => walk_at "my nu"))
  | with_reducible refine' ev_bin ?_ ?_ ?_ | ((with_reducible refine' ev_cmp ?_ ?_ ?_ ?m1); (case m1 => exact rfl)) | ((with_reducible refine' tr_cmp ?_ ?_ ?_ ?m1); (case m1 => exact rfl)) | with_reducible refine' tr_not ?_ | with_reducible refine' tr_op ?_
  | with_reducible refine' tra_and ?_ ?_ | with_reducible exact tra_and_nil | with_reducible refine' tra_or ?_ ?_ | with_reducible exact tra_or_nil
  | with_reducible refine' ev_neg ?_
  | walk_at "my op" | ((with_reducible refine' evl_cons1 ?_ ?_ ?m1); (case m1 => exact rfl)) | with_reducible refine' evl_nil ?_ | (guard_target =~ (_ = _ → _); intro _))
local macro_rules | `(tactic| walk_at "my evs") => `(tactic| repeat' (walk_at "my ev"))
local macro_rules | `(tactic| walk_at "my blt") => `(tactic| first | exact ev_globB (by assumption) (by kernel_rfl) boot_len (by decide +kernel) (by kernel_rfl) (by decide +kernel) | exact ev_globB (by assumption) (by kernel_rfl) boot_str (by decide +kernel) (by kernel_rfl) (by decide +kernel) | exact ev_globB (by assumption) (by kernel_rfl) boot_range (by decide +kernel) (by kernel_rfl) (by decide +kernel))
local macro_rules | `(tactic| walk_at "my fn") => `(tactic| exact ev_glob (by assumption) (by kernel_rfl) (by kernel_rfl) (by decide +kernel))
local macro_rules | `(tactic| walk_at "my puts") => `(tactic| (repeat (apply Puts.cons; (focus (walk_at "my put"; done)))); exact Puts.nil)
local macro_rules | `(tactic| walk_at "my nils") => `(tactic| repeat (first | with_reducible refine seq_nil ?_ | with_reducible refine wx_nil ?_))
local macro_rules | `(tactic| walk_at "my nnils") => `(tactic| repeat (first | with_reducible refine seqn_nil ?_ | with_reducible refine wxn_nil ?_))
local macro_rules | `(tactic| walk_at "my meth") => `(tactic| (apply ev_of_x; first | with_reducible apply evx_meth1 | with_reducible apply evx_meth0 | apply evx_meth1 | apply evx_meth0))

noncomputable def loEnv (P : Params) (L : Addr) : Env := envOfC (fdOf P 170).qualname (fdOf P 170).scope L 170 (fdOf P 170).code
theorem gt_signs (P : Params) : GTup (Mine.hd.heap_39 P) 114 (signs.map sg) := ⟨_, _, _, fun h X => X 114 _ rfl, rfl, rfl, .cons _ _ (.cons _ _ (.cons _ _ (.cons _ _ (.cons _ _ (.cons _ _ (.cons _ _ (.cons _ _ (.cons _ _ (.cons _ _ (.cons _ _ (.cons _ _ (.cons _ _ (.cons _ _ (.cons _ _ (.cons _ _ (.cons _ _ (.cons _ _ (.cons _ _ .nil))))))))))))))))))⟩
theorem gt_styles (P : Params) : GTup (Mine.hd.heap_39 P) 116 five := ⟨_, _, _, fun h X => X 116 _ rfl, rfl, rfl, .cons _ _ (.cons _ _ (.cons _ _ (.cons _ _ (.cons _ _ .nil))))⟩
def tryE : Expr := match (bd 22).getD 6 (.Pass ⟨0, 0, 0, 0⟩) with | .Try [.Assign _ e _] _ _ _ _ => e | _ => .Name "" ⟨0, 0, 0, 0⟩
/-- what the law binds to a name -/
def valOf (n : Str) : PV := if n = Str.ofString "other" then .int 1 else .str (Str.ofString "value of " ++ n)
abbrev olo (sty : Str) (t : List Nat) (due names told : PV) : Lo := [(Str.ofString "style", .str sty), (Str.ofString "text", .str (tx t)), (Str.ofString "due", due), (Str.ofString "names", names), (Str.ofString "told", told)]
section
variable {prog : Program} {w : World} {p : Program} {loose : List Str} {mean : ExcName → Option Value} {mg mb : Str → Option Value} {c : Cf} {lo lo' : Lo} {ob ob0 : Ob} {pos : Pos} {X : EPost} {Φ : Post}
theorem put_app {κ β : Type} {k : κ} {v : β} {r r' : List (κ × β)} (U : Put k v r r') : ∀ pre : List (κ × β), Put k v (pre ++ r) (pre ++ r')
  | [] => U
  | _ :: l => .there (put_app U l)
theorem one_args (G : Gu (Mine.hd.heap_39 w.params) p loose mean mg mb c) {L : Addr} (he : c.env = loEnv w.params L) {sty : Str} {t : List Nat} {due : PV} {nl : Addr} {pre : Ob} {ns : List Str} (hl : (nl, SeqO "list" (ns.map .str)) ∈ pre) (hn : ns.length ≤ 990) (hz : ∀ n ∈ ns, n.length ≤ 1000)
    (hK : ∀ Dd ks, (∀ n ∈ ns, lkD ks n = some (valOf n)) → (∀ q ∈ ks, Flt q.2) → ks.length ≤ 1000 → WXn prog w c (olo sty t due (.val (.ref nl)) .un) ((Dd, DictO prog w Dd ks) :: (pre ++ (L + 2, CellO (.val (.ref Dd))) :: ob0)) X ((bd 22).drop 6) Φ) :
    WXn prog w c (olo sty t due (.val (.ref nl)) .un) (pre ++ (L + 2, CellU) :: ob0) X ((bd 22).drop 4) Φ := by
  obtain ⟨A, env, h₀, os⟩ := c
  simp only at he
  subst he
  have K' := G.kind
  have Kg : ∀ g, (Cf.at ⟨A, loEnv w.params L, h₀, os⟩ g).env.scope.kind = .function := fun _ => K'
  show WXn _ _ _ [(_, _), (_, _), (_, _), (_, .val (.ref nl)), (_, _)] _ _ _ _
  refine wxn_old ?_
  intro g T
  have K1 := Kg g
  refine ws_setcell K1 (cell := L + 2) (by kernel_rfl) (by kernel_rfl) ?_ ?_
  · refine evx_dictcomp (G.turn T).gt (l := nl) (ns := ns) (cl := []) ?_ (List.mem_append_left _ hl) (by omega) (fun n hn => ?_) ?_ ?_ ?_ ?_ ?_ ?_ ?_ ?_
    · walk_at "my evs"
    · have := hz n hn
      have e : (Str.ofString "value of ").length = 9 := by decide +kernel
      show (Str.ofString "value of ").length + n.length ≤ _
      rw [e]; omega
    · rfl
    · decide +kernel
    · rfl
    · decide +kernel
    · kernel_rfl
    · decide +kernel
    · intro Dd ks k1 k2 k3
      refine ⟨.tail _ (List.mem_append_right _ (.head _)), (Dd, DictO prog w Dd ks) :: (pre ++ (L + 2, CellO (.val (.ref Dd))) :: ob0), .there (put_app .here _), ?_⟩
      show WXn _ _ _ _ _ _ _ _
      clear T K1
      refine wxn_old ?_
      intro g T
      have K1 := Kg g
      refine ws_setitem (ks := ks) (d := Dd) (z := Str.ofString "other") (v := .int 1) (ob' := (Dd, DictO prog w Dd (storedP ks (Str.ofString "other") (.int 1))) :: (pre ++ (L + 2, CellO (.val (.ref Dd))) :: ob0)) ?_ ?_ ?_ (.head _) (by omega) .here ?_ ?_
      · walk_at "my evs"
      · exact ev_cell K1 (by kernel_rfl) (.tail _ (List.mem_append_right _ (.head _))) (by kernel_rfl) (by decide +kernel)
      · exact ev_str rfl
      · show WXn _ _ _ _ _ _ _ _
        refine hK Dd _ (fun n hn => ?_) (fun q hq => ?_) ?_
        · rw [lkD_stored]
          unfold valOf
          by_cases e : n = Str.ofString "other"
          · rw [if_pos e, if_pos e]
          · rw [if_neg e, if_neg e]; exact k1 n hn
        · rcases storedP_mem hq with hq | hq
          · exact k2 q hq
          · rw [hq]; trivial
        · have := storedP_len ks (Str.ofString "other") (.int 1)
          omega
      · rfl
    · intro _; rfl
  · rfl
/-- convert_paramstyle(style, text, dict(args)) -/
theorem one_call (G : Gu (Mine.hd.heap_39 w.params) p loose mean mg mb c) {L : Addr} (he : c.env = loEnv w.params L) (hroom : c.A.depth + 3 < recursionLimit) (C : CodeHd c.h₀ 112 108) {sty : Str} {t : List Nat} {due : PV} {nl Dd c' cg : Addr} {ks : List (Str × PV)} {Ψ : PV → Ob → Prop}
    (hD : (Dd, DictO prog w Dd ks) ∈ ob) (hcell : (L + 2, CellO (.val (.ref Dd))) ∈ ob) (hks : ks.length ≤ 1000) (hP : (108, TabO (ps2 c' cg)) ∈ ob) (hc' : (c', CodeO lamQ) ∈ ob) (hl : t.length < 900) (hcp : ∀ z ∈ t, z < 16 ^ 8) (hlast : ∀ k ch, t[k]? = some ch → t[k + 1]? = none → ch ≠ 58)
    (h1 : ∀ S', runM (S0 sty) t = some S' → isPos S'.style = true → ∀ T d2, Ψ (.val (.ref T)) ((T, SeqO "tuple" [.str (tx (J S'.out)), .val (.ref d2)]) :: (d2, DictO prog w d2 ks) :: ob))
    (h2 : ∀ S', runM (S0 sty) t = some S' → isPos S'.style = false → ∃ vals, All2 (fun z v => lkD ks z = some v) S'.phs vals ∧ ∀ T T2 d2, Ψ (.val (.ref T)) ((T, SeqO "tuple" [.str (tx (J S'.out)), .val (.ref T2)]) :: (T2, SeqO "tuple" vals) :: (d2, DictO prog w d2 ks) :: ob)) :
    EvXn prog w c (olo sty t due (.val (.ref nl)) .un) ob (fun e s => runM (S0 sty) t = none ∧ Flown c (olo sty t due (.val (.ref nl)) .un) ob e s) tryE Ψ := by
  obtain ⟨A, env, h₀, os⟩ := c
  simp only at he
  subst he
  have K' := G.kind
  have Kg : ∀ g, (Cf.at ⟨A, loEnv w.params L, h₀, os⟩ g).env.scope.kind = .function := fun _ => K'
  refine evxn_callF (a := 113) ?_ ?_ ?_ ?_ ?_
  · intro g T
    exact ev_glob (G.turn T).gt (by kernel_rfl) (by kernel_rfl) (by decide +kernel)
  · intro g T
    obtain ⟨o, h1, h2⟩ := gt_fn (fn_cv w.params) (G.turn T).gt.X
    exact ⟨o, _, h1, h2⟩
  · intro g T
    have K1 := Kg g
    refine evl_cons1 (v := .str sty) ?_ ?_ ?_
    · show Ev _ _ _ [(_, .str sty), (_, .str (tx t)), (_, _), (_, .val (.ref nl)), (_, _)] _ _ _
      walk_at "my evs"
    · refine evl_cons1 (v := .str (tx t)) ?_ ?_ ?_
      · show Ev _ _ _ [(_, .str sty), (_, .str (tx t)), (_, _), (_, .val (.ref nl)), (_, _)] _ _ _
        walk_at "my evs"
      · refine evl_cons ?_ ?_
        · apply evx_callT
          · exact ev_globB (G.turn T).gt (by kernel_rfl) boot_dict (by decide +kernel) (by kernel_rfl) (by decide +kernel)
          · refine evl_cons1 (v := .val (.ref Dd)) ?_ ?_ ?_
            · exact ev_cell K1 (by kernel_rfl) hcell (by kernel_rfl) (by decide +kernel)
            · refine evl_nil ?_
              refine cl_dict (G.turn T).gt hD hks fun d2 => ?_
              refine evl_nil ?_
              refine clN_monoX (cl_cv1 (ks := ks) G hroom C (.tail _ hP) (.tail _ hc') (.head _) hl hcp hlast ?_ ?_) fun e s z => ⟨z.1, z.2.sub (List.sublist_cons_self _ _)⟩
              · intro S' a b T; exact h1 S' a b T d2
              · intro S' a b
                obtain ⟨vals, hv, hT⟩ := h2 S' a b
                exact ⟨vals, hv, fun T T2 => hT T T2 d2⟩
            · rfl
          all_goals rfl
        · rfl
      · rfl
    · rfl
  · rfl
  · rfl
end
end Mine
end
section
open PySem.Calls
set_option maxHeartbeats 4000000
namespace Mine

local macro_rules | `(tactic| walk_at "my has") => `(tactic| with_reducible (repeat (first | exact Has.here | apply Has.there)))
local macro_rules | `(tactic| walk_at "my put") => `(tactic| with_reducible (repeat (first | exact Put.here | apply Put.there)))
local macro_rules | `(tactic| walk_at "my lit") => `(tactic| with_reducible (first | exact lit_sq | exact lit_dq | exact lit_E | exact lit_bs | exact lit_mi | exact lit_dl | exact lit_co | exact lit_eq | exact lit_qm | exact lit_pc | exact lit_lp | exact lit_rp | exact lit_s | exact lit_us | exact lit_nl | exact lit_ce | exact lit_ps | exact lit_rs | exact lit_em | exact rfl))
local macro_rules | `(tactic| walk_at "my op") => `(tactic| with_reducible (first | exact op_eq_int | exact op_ne_int | exact op_lt_int | exact op_gt_int | exact op_le_int | exact op_eq_str | exact op_ne_str | exact op_in_str | exact op_notin_str | exact op_eq_none_str | exact op_ne_none_str | exact op_ne_bool | exact op_is_none | exact op_is_none_str | exact op_add_int | exact op_iadd_int | exact op_sub_int | exact op_eq_opt | exact op_ne_opt | exact op_none_opt))
local macro_rules | `(tactic| walk_at "my nu") => `(tactic| first | (intro h; cases h; done) | exact PVo_ne _)
local macro_rules | `(tactic| walk_at "my ev") => `(tactic| first
  | with_reducible exact ev_int | ((with_reducible refine' ev_str ?h1); (case h1 => walk_at "my lit")) | with_reducible exact ev_none | with_reducible exact ev_bool
  | ((with_reducible refine' ev_nm ?k1 ?h1 ?u1); (case k1 => assumption); (case h1 => walk_at "my has"; done); (case u1 => walk_at "my nu"))
  | with_reducible refine' ev_bin ?_ ?_ ?_ | ((with_reducible refine' ev_cmp ?_ ?_ ?_ ?m1); (case m1 => exact rfl)) | ((with_reducible refine' tr_cmp ?_ ?_ ?_ ?m1); (case m1 => exact rfl)) | with_reducible refine' tr_not ?_ | with_reducible refine' tr_op ?_
  | with_reducible refine' tra_and ?_ ?_ | with_reducible exact tra_and_nil | with_reducible refine' tra_or ?_ ?_ | with_reducible exact tra_or_nil
  | with_reducible refine' ev_neg ?_
  | walk_at "my op" | ((with_reducible refine' evl_cons1 ?_ ?_ ?m1); (case m1 => exact rfl)) | with_reducible refine' evl_nil ?_ | (guard_target =~ (_ = _ → _); intro _))
local macro_rules | `(tactic| walk_at "my evs") => `(tactic| repeat' (walk_at "my ev"))
local macro_rules | `(tactic| walk_at "my blt") => `(tactic| first | exact ev_globB (by assumption) (by kernel_rfl) boot_len (by decide +kernel) (by kernel_rfl) (by decide +kernel) | exact ev_globB (by assumption) (by kernel_rfl) boot_str (by decide +kernel) (by kernel_rfl) (by decide +kernel) | exact ev_globB (by assumption) (by kernel_rfl) boot_range (by decide +kernel) (by kernel_rfl) (by decide +kernel))
local macro_rules | `(tactic| walk_at "my fn") => `(tactic| exact ev_glob (by assumption) (by kernel_rfl) (by kernel_rfl) (by decide +kernel))
local macro_rules | `(tactic| walk_at "my puts") => `(tactic| (repeat (apply Puts.cons; (focus (walk_at "my put"; done)))); exact Puts.nil)
local macro_rules | `(tactic| walk_at "my nils") => `(tactic| repeat (first | with_reducible refine seq_nil ?_ | with_reducible refine wx_nil ?_))
local macro_rules | `(tactic| walk_at "my nnils") => `(tactic| repeat (first | with_reducible refine seqn_nil ?_ | with_reducible refine wxn_nil ?_))
local macro_rules | `(tactic| walk_at "my meth") => `(tactic| (apply ev_of_x; first | with_reducible apply evx_meth1 | with_reducible apply evx_meth0 | apply evx_meth1 | apply evx_meth0))

section
variable {prog : Program} {w : World} {p : Program} {loose : List Str} {mean : ExcName → Option Value} {mg mb : Str → Option Value} {c : Cf} {lo lo' : Lo} {ob ob0 obz : Ob} {pos : Pos}
abbrev SubΦ (Φ : PV → Ob → Prop) : PV → Ob → Prop := fun v ob' => ∃ obz, List.Sublist obz ob' ∧ Φ v obz
theorem exm44 (P : Params) : exmOne (Mine.hd.heap_39 P) (.ref 44) (.ref 44) = some true := by kernel_rfl
theorem one_none (G : Gu (Mine.hd.heap_39 w.params) p loose mean mg mb c) {L : Addr} (he : c.env = loEnv w.params L) (hroom : c.A.depth + 3 < recursionLimit) (C : CodeHd c.h₀ 112 108) {sty : Str} {t : List Nat} {c' cg : Addr} {Φ : PV → Ob → Prop}
    (hP : (108, TabO (ps2 c' cg)) ∈ ob0) (hc' : (c', CodeO lamQ) ∈ ob0) (hl : t.length < 900) (hcp : ∀ z ∈ t, z < 16 ^ 8) (hlast : ∀ k ch, t[k]? = some ch → t[k + 1]? = none → ch ≠ 58)
    (hrun : runM (S0 sty) t = none) (hsub : List.Sublist obz ob0) (hT : Φ (.val (.bool true)) obz) :
    WXn prog w c (olo sty t (.val .none) .un .un) ((L + 2, CellU) :: ob0) NoX ((bd 22).drop 3) (RetΦ (SubΦ Φ)) := by
  have hargs := fun (nl : Addr) hK => one_args (prog := prog) (ob0 := ob0) (sty := sty) (t := t) (due := .val .none) (X := NoX) (Φ := RetΦ (SubΦ Φ)) G he (nl := nl) (pre := [(nl, SeqO "list" [])]) (ns := []) (.head _) (by simp) (by simp) hK
  have hcall := fun (nl Dd : Addr) (ks : List (Str × PV)) (hks : ks.length ≤ 1000) => one_call (prog := prog) (Ψ := fun v ob' => False) (ob := (Dd, DictO prog w Dd ks) :: ([(nl, SeqO "list" [])] ++ (L + 2, CellO (.val (.ref Dd))) :: ob0)) (sty := sty) (t := t) (due := .val .none) (nl := nl) G he hroom C (.head _) (.tail _ (.tail _ (.head _))) hks (.tail _ (.tail _ (.tail _ hP))) (.tail _ (.tail _ (.tail _ hc'))) hl hcp hlast
    (fun S' h => by rw [hrun] at h; cases h) (fun S' h => by rw [hrun] at h; cases h)
  obtain ⟨A, env, h₀, os⟩ := c
  simp only at he
  subst he
  have K' := G.kind
  have Kg : ∀ g, (Cf.at ⟨A, loEnv w.params L, h₀, os⟩ g).env.scope.kind = .function := fun _ => K'
  show WXn _ _ _ [(_, _), (_, _), (_, _), (_, _), (_, _)] _ _ _ _
  refine wxn_old ?_
  intro g T
  have K1 := Kg g
  refine ws_setx K1 ?_
  · refine evx_ite (y := true) ?_ ?_ ?_
    · show Tr _ _ _ _ _ _ (Value.none == Value.none)
      walk_at "my evs"
    · intro _
      refine evx_list ?_
      refine evl_nil ?_
      refine ⟨Nat.zero_le _, fun nl => ?_⟩
      apply exPut
      · walk_at "my put"
      show WXn _ _ _ _ _ _ _ _
      clear T K1
      refine hargs nl fun Dd ks k1 k2 k3 => ?_
      refine wxn_cons ?_
      refine wsn_try_flown (P := runM (S0 sty) t = none) G ?_ (exm44 _) ?_ ?_ (wse_setxn K' (e := tryE) (evxn_mono (hcall nl Dd ks k3) fun v ob' h => h.elim)) fun _ g T ee => ?_
      · kernel_rfl
      · kernel_rfl
      · decide +kernel
      · have K1 : (Cf.mk (A.mark (some (.ref ee))) (loEnv w.params L) g os).env.scope.kind = .function := K'
        show WX _ _ _ [(_, .str sty), (_, .str (tx t)), (_, .val .none), (_, .val (.ref nl)), (_, _)] _ _ _ _
        refine wx_cons ?_
        apply ws_ret (v := .val (.bool (Value.none == Value.none)))
        · walk_at "my evs"
        · exact ⟨obz, hsub.trans ((List.sublist_cons_self _ _).trans ((List.sublist_cons_self _ _).trans (List.sublist_cons_self _ _))), hT⟩
    · intro h; cases h
theorem one_some (G : Gu (Mine.hd.heap_39 w.params) p loose mean mg mb c) {L : Addr} (he : c.env = loEnv w.params L) (hroom : c.A.depth + 3 < recursionLimit) (hun : c.A.units < cLine) (C : CodeHd c.h₀ 112 108) {sty : Str} {t : List Nat} {c' cg : Addr} {Φ : PV → Ob → Prop}
    (hP : (108, TabO (ps2 c' cg)) ∈ ob0) (hc' : (c', CodeO lamQ) ∈ ob0) (hl : t.length < 900) (hcp : ∀ z ∈ t, z < 16 ^ 8) (hlast : ∀ k ch, t[k]? = some ch → t[k + 1]? = none → ch ≠ 58)
    {told : List Nat} {ns : List Str} {st : Str} {S' : MS} (hrun : runM (S0 sty) t = some S') (hJ : J S'.out = told) (hph : S'.phs = ns) (hst : S'.style = st) (h5 : st ∈ five) (hn : ns.length ≤ 990) (hz : ∀ n ∈ ns, n.length ≤ 1000) (hsub : List.Sublist obz ob0) (hT : Φ (.val (.bool true)) obz) (a nl : Addr) :
    WXn prog w c (olo sty t (.val (.ref a)) .un .un) ((a, SeqO "tuple" [.str (tx told), .val (.ref nl), .str st]) :: (nl, SeqO "list" (ns.map .str)) :: (L + 2, CellU) :: ob0) NoX ((bd 22).drop 3) (RetΦ (SubΦ Φ)) := by
  subst hJ hph hst
  have hargs := fun hK => one_args (prog := prog) (ob0 := ob0) (sty := sty) (t := t) (due := .val (.ref a)) (X := NoX) (Φ := RetΦ (SubΦ Φ)) G he (nl := nl) (pre := [(a, SeqO "tuple" [.str (tx (J S'.out)), .val (.ref nl), .str S'.style]), (nl, SeqO "list" (S'.phs.map .str))]) (ns := S'.phs) (.tail _ (.head _)) hn hz hK
  -- behind the call
  have hend : ∀ (T : Addr) (tv : PV) (obq : Ob), (T, SeqO "tuple" [.str (tx (J S'.out)), tv]) ∈ obq → (a, SeqO "tuple" [.str (tx (J S'.out)), .val (.ref nl), .str S'.style]) ∈ obq → List.Sublist obz obq → tv ≠ .un →
      (∀ g, Tn c g → isPos S'.style = true → ∃ Dd, (L + 2, CellO (.val (.ref Dd))) ∈ obq ∧ ∀ lo, Op prog w (c.at g) lo obq (compareOp .Eq) tv (.val (.ref Dd)) (.val (.bool true))) →
      (∀ g, Tn c g → isPos S'.style = false → ∃ Dd ks vals, (nl, SeqO "list" (S'.phs.map .str)) ∈ obq ∧ (L + 2, CellO (.val (.ref Dd))) ∈ obq ∧ (Dd, DictO prog w Dd ks) ∈ obq ∧ All2 (fun z v => lkD ks z = some v) S'.phs vals ∧ ∀ lo T3 D3, Op prog w (c.at g) lo ((T3, SeqO "tuple" vals) :: (D3, SeqO "list" vals) :: obq) (compareOp .Eq) tv (.val (.ref T3)) (.val (.bool true))) →
      WXn prog w c (olo sty t (.val (.ref a)) (.val (.ref nl)) (.val (.ref T))) obq NoX ((bd 22).drop 7) (RetΦ (SubΦ Φ)) := by
    intro T tv obq m1 m2 hs htv hpos hneg
    obtain ⟨A, env, h₀, os⟩ := c
    simp only at he
    subst he
    have K' := G.kind
    have Kg : ∀ g, (Cf.at ⟨A, loEnv w.params L, h₀, os⟩ g).env.scope.kind = .function := fun _ => K'
    show WXn _ _ _ [(_, .str sty), (_, .str (tx t)), (_, .val (.ref a)), (_, .val (.ref nl)), (_, .val (.ref T))] _ _ _ _
    refine wxn_cons ?_
    refine wsn_if (y := (Value.ref a == Value.none) || ((tx (J S'.out) != tx (J S'.out)) || false)) ?_ ?_ ?_
    · intro g T
      have K1 := Kg g
      refine tr_op ?_
      apply tra_or
      · walk_at "my evs"
      · intro _
        apply tra_or
        · apply tr_cmp
          · apply ev_sub
            · walk_at "my evs"
            · walk_at "my evs"
            · exact sb_tuple m1 (by decide) (by decide) rfl
          · apply ev_sub
            · walk_at "my evs"
            · walk_at "my evs"
            · exact sb_tuple m2 (by decide) (by decide) rfl
          · exact op_ne_str
          · rfl
        · intro _; exact tra_or_nil
    · intro h; simp at h
    intro _
    walk_at "my nnils"
    refine wxn_old ?_
    intro g T
    have K1 := Kg g
    refine ws_retx ?_
    apply evx_cmp (a := tv)
    · apply ev_sub
      · walk_at "my evs"
      · walk_at "my evs"
      · exact sb_tuple m1 (by decide) (by decide) rfl
    · refine evx_ite (y := (S'.style != sD && (S'.style != sP && true))) ?_ ?_ ?_
      · refine tr_op ?_
        apply tra_and
        · apply tr_cmp
          · apply ev_sub
            · walk_at "my evs"
            · walk_at "my evs"
            · exact sb_tuple m2 (by decide) (by decide) rfl
          · exact ev_str rfl
          · exact op_ne_str
          · rfl
        · intro _
          apply tra_and
          · apply tr_cmp
            · apply ev_sub
              · walk_at "my evs"
              · walk_at "my evs"
              · exact sb_tuple m2 (by decide) (by decide) rfl
            · exact ev_str rfl
            · exact op_ne_str
            · rfl
          · intro _; exact tra_and_nil
      · intro hp
        rw [← isPos_five _ h5] at hp
        obtain ⟨Dd, k1, k2⟩ := hpos g T hp
        apply evx_of (v := .val (.ref Dd))
        · exact ev_cell K1 (by kernel_rfl) k1 (by kernel_rfl) (by decide +kernel)
        · exact ⟨_, k2 _, obz, hs, hT⟩
      · intro hp
        rw [← isPos_five _ h5] at hp
        obtain ⟨Dd, ks, vals, k0, k1, k2, k3, k4⟩ := hneg g T hp
        apply evx_callT
        · exact ev_globB (G.turn T).gt (by kernel_rfl) boot_tuple (by decide +kernel) (by kernel_rfl) (by decide +kernel)
        · refine evl_cons ?_ ?_
          · refine evx_lc_get (G.turn T).gt (l := nl) (d := Dd) (cell := L + 2) (ns := S'.phs) (ks := ks) (vals := vals) (cl := [(Str.ofString "args", L + 2)]) ?_ k0 (by omega) k3 k1 k2 ?_ ?_ ?_ ?_ ?_ ?_ ?_ ?_ ?_ ?_ ?_
            · walk_at "my evs"
            · kernel_rfl
            · rfl
            · decide +kernel
            · rfl
            · decide +kernel
            · kernel_rfl
            · intro C; kernel_rfl
            · decide +kernel
            · decide +kernel
            · intro D3
              refine evl_nil ?_
              refine cl_tupleL (.head _) (by rw [← k3.length]; omega) fun T3 => ?_
              exact ⟨_, k4 _ T3 D3, obz, hs.trans ((List.sublist_cons_self _ _).trans (List.sublist_cons_self _ _)), hT⟩
            · intro _; rfl
          · rfl
        all_goals rfl
    · rfl
  have hcall := fun (Dd : Addr) (ks : List (Str × PV)) (k1 : ∀ n ∈ S'.phs, lkD ks n = some (valOf n)) (k2 : ∀ q ∈ ks, Flt q.2) (hks : ks.length ≤ 1000) => one_call (prog := prog) (Ψ := fun v ob' => ∃ T, v = .val (.ref T) ∧ WXn prog w c (olo sty t (.val (.ref a)) (.val (.ref nl)) (.val (.ref T))) ob' NoX ((bd 22).drop 7) (RetΦ (SubΦ Φ)))
    (ob := (Dd, DictO prog w Dd ks) :: ([(a, SeqO "tuple" [.str (tx (J S'.out)), .val (.ref nl), .str S'.style]), (nl, SeqO "list" (S'.phs.map .str))] ++ (L + 2, CellO (.val (.ref Dd))) :: ob0)) (sty := sty) (t := t) (due := .val (.ref a)) (nl := nl) G he hroom C (.head _) (.tail _ (.tail _ (.tail _ (.head _)))) hks (.tail _ (.tail _ (.tail _ (.tail _ hP)))) (.tail _ (.tail _ (.tail _ (.tail _ hc')))) hl hcp hlast
    (fun S2 h hp T d2 => by
      rw [hrun] at h; cases h
      have hunits : ∀ g, (c.at g).A.units < cLine := fun _ => hun
      exact ⟨T, rfl, hend T _ _ (.head _) (.tail _ (.tail _ (.tail _ (.head _)))) (hsub.trans ((((((List.sublist_cons_self _ _).trans (List.sublist_cons_self _ _)).trans (List.sublist_cons_self _ _)).trans (List.sublist_cons_self _ _)).trans (List.sublist_cons_self _ _)).trans (List.sublist_cons_self _ _))) (by intro h; cases h)
        (fun g Tg _ => ⟨Dd, .tail _ (.tail _ (.tail _ (.tail _ (.tail _ (.head _))))), fun lo => op_eq_dict (hunits g) (.tail _ (.head _)) (.tail _ (.tail _ (.head _))) k2⟩) fun g Tg h => by rw [hp] at h; cases h⟩)
    (fun S2 h hp => by
      rw [hrun] at h; cases h
      have hunits : ∀ g, (c.at g).A.units < cLine := fun _ => hun
      have hall : All2 (fun z v => lkD ks z = some v) S'.phs (S'.phs.map valOf) := by
        refine all2_of _ _ _ rfl (by simp) fun j v hj => ?_
        exact ⟨valOf v, by simp [hj], k1 v (List.mem_of_getElem? hj)⟩
      refine ⟨S'.phs.map valOf, hall, fun T T2 d2 => ⟨T, rfl, hend T _ _ (.head _) (.tail _ (.tail _ (.tail _ (.tail _ (.head _))))) (hsub.trans (((((((List.sublist_cons_self _ _).trans (List.sublist_cons_self _ _)).trans (List.sublist_cons_self _ _)).trans (List.sublist_cons_self _ _)).trans (List.sublist_cons_self _ _)).trans (List.sublist_cons_self _ _)).trans (List.sublist_cons_self _ _))) (by intro h; cases h) (fun g Tg h => by rw [hp] at h; cases h) fun g Tg _ => ?_⟩⟩
      refine ⟨Dd, ks, S'.phs.map valOf, .tail _ (.tail _ (.tail _ (.tail _ (.tail _ (.head _))))), .tail _ (.tail _ (.tail _ (.tail _ (.tail _ (.tail _ (.head _)))))), .tail _ (.tail _ (.tail _ (.head _))), hall, fun lo T3 D3 => ?_⟩
      refine op_eq_tuple (hunits g) (.tail _ (.tail _ (.tail _ (.head _)))) (.head _) fun v hv => ?_
      obtain ⟨n, _, rfl⟩ := List.mem_map.mp hv
      unfold valOf; split <;> trivial)
  obtain ⟨A, env, h₀, os⟩ := c
  simp only at he
  subst he
  have K' := G.kind
  have Kg : ∀ g, (Cf.at ⟨A, loEnv w.params L, h₀, os⟩ g).env.scope.kind = .function := fun _ => K'
  show WXn _ _ _ [(_, .str sty), (_, .str (tx t)), (_, .val (.ref a)), (_, _), (_, _)] _ _ _ _
  refine wxn_old ?_
  intro g T
  have K1 := Kg g
  refine ws_setx K1 ?_
  · refine evx_ite (y := false) ?_ ?_ ?_
    · show Tr _ _ _ _ _ _ (Value.ref a == Value.none)
      walk_at "my evs"
    · intro h; cases h
    · intro _
      apply evx_of (v := .val (.ref nl))
      · apply ev_sub
        · walk_at "my evs"
        · walk_at "my evs"
        · exact sb_tuple (.head _) (by decide) (by decide) rfl
      apply exPut
      · walk_at "my put"
      show WXn _ _ _ _ _ _ _ _
      clear T K1
      refine hargs fun Dd ks k1 k2 k3 => ?_
      refine wxn_cons ?_
      refine wsn_try_flown (P := runM (S0 sty) t = none) G ?_ (exm44 _) ?_ ?_ (wse_setxn K' (e := tryE) (evxn_mono (hcall Dd ks k1 k2 k3) fun v ob' h => ?_)) fun h => by rw [hrun] at h; cases h
      · kernel_rfl
      · kernel_rfl
      · decide +kernel
      · obtain ⟨T, rfl, h⟩ := h
        exact ⟨olo sty t (.val (.ref a)) (.val (.ref nl)) (.val (.ref T)), .there (.there (.there (.there .here))), rfl, h⟩
end
end Mine
end
section
open PySem.Calls
set_option maxHeartbeats 4000000
namespace Mine

local macro_rules | `(tactic| walk_at "my has") => `(tactic| with_reducible (repeat (first | exact Has.here | apply Has.there)))
local macro_rules | `(tactic| walk_at "my put") => `(tactic| with_reducible (repeat (first | exact Put.here | apply Put.there)))
local macro_rules | `(tactic| walk_at "my lit") => `(tactic| with_reducible (first | exact lit_sq | exact lit_dq | exact lit_E | exact lit_bs | exact lit_mi | exact lit_dl | exact lit_co | exact lit_eq | exact lit_qm | exact lit_pc | exact lit_lp | exact lit_rp | exact lit_s | exact lit_us | exact lit_nl | exact lit_ce | exact lit_ps | exact lit_rs | exact lit_em | exact rfl))
local macro_rules | `(tactic| walk_at "my op") => `(tactic| with_reducible (first | exact op_eq_int | exact op_ne_int | exact op_lt_int | exact op_gt_int | exact op_le_int | exact op_eq_str | exact op_ne_str | exact op_in_str | exact op_notin_str | exact op_eq_none_str | exact op_ne_none_str | exact op_ne_bool | exact op_is_none | exact op_is_none_str | exact op_add_int | exact op_iadd_int | exact op_sub_int | exact op_eq_opt | exact op_ne_opt | exact op_none_opt))
local macro_rules | `(tactic| walk_at "my nu") => `(tactic| first | (intro h; cases h; done) | exact PVo_ne _)
local macro_rules | `(tactic| walk_at "my ev") => `(tactic| first
  | with_reducible exact ev_int | ((with_reducible refine' ev_str ?h1); (case h1 => walk_at "my lit")) | with_reducible exact ev_none | with_reducible exact ev_bool
  | ((with_reducible refine' ev_nm ?k1 ?h1 ?u1); (case k1 => assumption); (case h1 => walk_at "my has"; done); (case u1 => walk_at "my nu"))
  | with_reducible refine' ev_bin ?_ ?_ ?_ | ((with_reducible refine' ev_cmp ?_ ?_ ?_ ?m1); (case m1 => exact rfl)) | ((with_reducible refine' tr_cmp ?_ ?_ ?_ ?m1); (case m1 => exact rfl)) | with_reducible refine' tr_not ?_ | with_reducible refine' tr_op ?_
  | with_reducible refine' tra_and ?_ ?_ | with_reducible exact tra_and_nil | with_reducible refine' tra_or ?_ ?_ | with_reducible exact tra_or_nil
  | with_reducible refine' ev_neg ?_
  | walk_at "my op" | ((with_reducible refine' evl_cons1 ?_ ?_ ?m1); (case m1 => exact rfl)) | with_reducible refine' evl_nil ?_ | (guard_target =~ (_ = _ → _); intro _))
local macro_rules | `(tactic| walk_at "my evs") => `(tactic| repeat' (walk_at "my ev"))
local macro_rules | `(tactic| walk_at "my blt") => `(tactic| first | exact ev_globB (by assumption) (by kernel_rfl) boot_len (by decide +kernel) (by kernel_rfl) (by decide +kernel) | exact ev_globB (by assumption) (by kernel_rfl) boot_str (by decide +kernel) (by kernel_rfl) (by decide +kernel) | exact ev_globB (by assumption) (by kernel_rfl) boot_range (by decide +kernel) (by kernel_rfl) (by decide +kernel))
local macro_rules | `(tactic| walk_at "my fn") => `(tactic| exact ev_glob (by assumption) (by kernel_rfl) (by kernel_rfl) (by decide +kernel))
local macro_rules | `(tactic| walk_at "my puts") => `(tactic| (repeat (apply Puts.cons; (focus (walk_at "my put"; done)))); exact Puts.nil)
local macro_rules | `(tactic| walk_at "my nils") => `(tactic| repeat (first | with_reducible refine seq_nil ?_ | with_reducible refine wx_nil ?_))
local macro_rules | `(tactic| walk_at "my nnils") => `(tactic| repeat (first | with_reducible refine seqn_nil ?_ | with_reducible refine wxn_nil ?_))
local macro_rules | `(tactic| walk_at "my meth") => `(tactic| (apply ev_of_x; first | with_reducible apply evx_meth1 | with_reducible apply evx_meth0 | apply evx_meth1 | apply evx_meth0))

theorem sum_one : ∀ l : List Nat, (l.map fun _ => 1).sum = l.length
  | [] => rfl
  | a :: r => by rw [List.map_cons, List.sum_cons, sum_one r, List.length_cons]; omega
theorem lit_sp : Str.ofString " " = tx [32] := by decide +kernel
theorem lit_em2 : Str.ofString "" = (⟨#[]⟩ : Str) := by decide +kernel
noncomputable abbrev zsg (ds : List Int) (k : Int) (i : Nat) : Nat := signs.getD (nextF ds (k + 2 + i) 19).toNat 0
theorem zsg_get (ds : List Int) (k : Int) (i : Nat) : (signs.map sg)[(nextF ds (k + 2 + i) 19).toNat]? = some (sg (zsg ds k i)) := by
  obtain ⟨h1, h2⟩ := nextF_bound ds (k + 2 + i) (lim := 19) (by decide)
  have h3 : (nextF ds (k + 2 + i) 19).toNat < signs.length := by show _ < 19; omega
  rw [List.getElem?_map, getD_get h3]; rfl
theorem zsg_mem (ds : List Int) (k : Int) (i : Nat) : zsg ds k i ∈ signs := by
  obtain ⟨h1, h2⟩ := nextF_bound ds (k + 2 + i) (lim := 19) (by decide)
  have h3 : (nextF ds (k + 2 + i) 19).toNat < signs.length := by show _ < 19; omega
  exact List.mem_of_getElem? (getD_get h3)
theorem five_get (ds : List Int) (k : Int) : ∃ z, five[(nextF ds k 5).toNat]? = some z ∧ z ∈ five := by
  obtain ⟨h1, h2⟩ := nextF_bound ds k (lim := 5) (by decide)
  have h3 : (nextF ds k 5).toNat < five.length := by show _ < 5; omega
  exact ⟨_, List.getElem?_eq_getElem h3, List.getElem_mem h3⟩
section
variable {prog : Program} {w : World} {p : Program} {loose : List Str} {mean : ExcName → Option Value} {mg mb : Str → Option Value} {c : Cf} {lo lo' : Lo} {ob ob0 obz : Ob} {pos : Pos} {X : EPost} {Φ : Post}
theorem one_text (G : Gu (Mine.hd.heap_39 w.params) p loose mean mg mb c) {L : Addr} (he : c.env = loEnv w.params L) (hroom : c.A.depth + 3 < recursionLimit) {l D : Addr} {ds : List Int} {obf : Int → Ob} {k : Int} {sty : Str}
    (hU : ∀ k k', Put l (ListW [.val (.ref D), .int k']) (obf k) (obf k')) (hD : ∀ k, (D, SeqO "list" (ds.map .int)) ∈ obf k) (hk : 0 ≤ k) (hk2 : k < 2 ^ 29) (hds : ds.length < 2 ^ 29)
    (hK : ∀ t0 : List Nat, (∀ z ∈ t0, z ∈ signs) → t0.length ≤ 19 → ∀ k', k ≤ k' → k' ≤ k + 29 → WXn prog w c (olo sty (t0 ++ [32]) .un .un .un) ((L + 2, CellU) :: (L + 1, CellO (.val (.ref l))) :: obf k') X ((bd 22).drop 2) Φ) :
    WXn prog w c [(Str.ofString "style", .str sty), (Str.ofString "text", .un), (Str.ofString "due", .un), (Str.ofString "names", .un), (Str.ofString "told", .un)] ((L + 2, CellU) :: (L + 1, CellO (.val (.ref l))) :: obf (k + 1)) X ((bd 22).drop 1) Φ := by
  have hm : ∀ k, (l, ListW [.val (.ref D), .int k]) ∈ obf k := fun k => (hU k k).mem2
  have hroom' : c.A.depth < recursionLimit := by omega
  obtain ⟨A, env, h₀, os⟩ := c
  simp only at he hroom'
  subst he
  have K' := G.kind
  have Kg : ∀ g, (Cf.at ⟨A, loEnv w.params L, h₀, os⟩ g).env.scope.kind = .function := fun _ => K'
  refine wxn_old ?_
  intro g T
  have K1 := Kg g
  obtain ⟨n, hn, hn2⟩ : ∃ n : Nat, nextF ds (k + 1) 19 = (n : Int) ∧ n < 19 := by
    obtain ⟨h1, h2⟩ := nextF_bound ds (k + 1) (lim := 19) (by decide)
    exact ⟨_, (Int.toNat_of_nonneg h1).symm, by omega⟩
  refine ws_setx K1 ?_
  · apply evx_sub
    apply evx_binL
    refine evx_mono (Φ := fun v ob' => v = .str (tx ((List.range n).map (zsg ds k))) ∧ ∃ D1, ob' = (D1, SeqO "list" (((List.range n).map fun i => sg (zsg ds k i)).map .str)) :: (L + 2, CellU) :: (L + 1, CellO (.val (.ref l))) :: obf (k + 2 + n)) ?_ ?_
    · apply evx_meth1 (ov := .str ⟨#[]⟩)
      · exact ev_str lit_em2
      · exact gm_join
      · refine evl_cons ?_ ?_
        · refine evx_lc_range (G.turn T).gt (n := n) (cl := [(Str.ofString "state", L + 1)]) (obs := fun i => (L + 2, CellU) :: (L + 1, CellO (.val (.ref l))) :: obf (k + 2 + i)) (f := fun i => sg (zsg ds k i)) (by omega) ?_ ?_ ?_ ?_ ?_ ?_ ?_ ?_ ?_
          · apply evx_callT
            · exact ev_globB (G.turn T).gt (by kernel_rfl) boot_range (by decide +kernel) (by kernel_rfl) (by decide +kernel)
            · refine evl_cons ?_ ?_
              · refine evx_fn (G.turn T).gt (fn_next w.params) ?_ ?_ ?_ ?_
                · exact ev_glob (G.turn T).gt (by kernel_rfl) (by kernel_rfl) (by decide +kernel)
                · refine evl_cons1 (v := .val (.ref l)) ?_ ?_ ?_
                  · exact ev_cell K1 (by kernel_rfl) (.tail _ (.head _)) (by kernel_rfl) (by decide +kernel)
                  · refine evl_cons1 (v := .int 19) ?_ ?_ ?_
                    · exact ev_int
                    · refine evl_nil ?_
                      refine cl_next (G.turn T).gt hroom' (.tail _ (.tail _ (hm _))) (.there (.there (hU _ (k + 1 + 1)))) (.tail _ (.tail _ (hD _))) (by omega) (by omega) (by decide) hds ?_
                      refine evl_nil ?_
                      rw [hn]
                      refine cl_range fun r => ⟨r, rfl, ?_⟩
                      have e : k + 2 + ((0 : Nat) : Int) = k + 1 + 1 := by omega
                      show _ = _ :: _ :: _ :: obf (k + 2 + ((0 : Nat) : Int))
                      rw [e]
                    · rfl
                  · rfl
                · rfl
                · rfl
              · rfl
            · rfl
            · rfl
            · rfl
          · intro i hi C pre
            apply eve_sub
            · exact eve_glob (G.turn T).gt (v := .ref 114) rfl rfl (by kernel_rfl) (by kernel_rfl) (by decide +kernel) ⟨rfl, rfl⟩
            · obtain ⟨o, h1, h2⟩ := gt_fn (fn_next w.params) (G.turn T).gt.X
              refine eve_call2 (fa := 123) (va := .val (.ref l)) (vb := .int 19) ?_ h1 h2 ?_ ?_ ?_ ?_ ?_ ?_
              · exact eve_glob (G.turn T).gt rfl rfl (by kernel_rfl) (by kernel_rfl) (by decide +kernel) ⟨rfl, rfl⟩
              · exact eve_cell rfl (by kernel_rfl) (List.mem_append_right _ (.tail _ (.head _))) (by kernel_rfl) (by decide +kernel) ⟨rfl, rfl⟩
              · exact eve_int ⟨rfl, rfl⟩
              · have e : k + 2 + ((i + 1 : Nat) : Int) = k + 2 + i + 1 := by omega
                refine cl_next (G.turn T).gt hroom' (List.mem_append_right _ (.tail _ (.tail _ (hm _)))) (put_app (.there (.there (hU _ (k + 2 + i + 1)))) _) (List.mem_append_right _ (.tail _ (.tail _ (hD _)))) (by omega) (by omega) (by decide) hds ?_
                obtain ⟨b1, b2⟩ := nextF_bound ds (k + 2 + i) (lim := 19) (by decide)
                refine ⟨_, sb_tupG (G.turn T).gt (gt_signs _) b1 (by omega) (zsg_get ds k i), rfl, ?_⟩
                show _ = pre ++ _ :: _ :: obf (k + 2 + ((i + 1 : Nat) : Int))
                rw [e]
              · rfl
              · rfl
              · rfl
          · kernel_rfl
          · decide +kernel
          · rfl
          · decide +kernel
          · kernel_rfl
          · intro D1
            have e : ((List.range n).map fun i => PV.str (sg (zsg ds k i))) = ((List.range n).map fun i => sg (zsg ds k i)).map PV.str := by rw [List.map_map]; rfl
            rw [e]
            refine evl_nil ?_
            refine cl_join (.head _) ?_ ⟨?_, D1, rfl⟩
            · rw [List.map_map]
              have : ((List.range n).map ((fun s : Str => s.length) ∘ fun i => sg (zsg ds k i))).sum ≤ n := by
                have h : ((List.range n).map ((fun s : Str => s.length) ∘ fun i => sg (zsg ds k i))) = (List.range n).map fun _ => 1 := List.map_congr_left fun _ _ => rfl
                rw [h, sum_one, List.length_range]; exact Nat.le_refl _
              have h0 : ((⟨#[]⟩ : Str).length) = 0 := rfl
              rw [h0]; omega
            · show PV.str (Txt.join _ _) = _
              rw [join_J, J_sgs]
          · intro _; rfl
        · rfl
      · rfl
      · rfl
      · rfl
    · rintro v ob' ⟨rfl, D1, rfl⟩
      refine ⟨_, _, ev_str lit_sp, op_add_tx ?_, _, List.sublist_cons_self _ _, ?_⟩
      · simp; omega
      apply exPut
      · walk_at "my put"
      refine hK _ ?_ ?_ _ ?_ ?_
      · intro z hz
        obtain ⟨i, _, rfl⟩ := List.mem_map.mp hz
        exact zsg_mem ds k i
      · simp; omega
      · omega
      · omega
end
end Mine
end
section
open PySem.Calls
set_option maxHeartbeats 4000000
namespace Mine

local macro_rules | `(tactic| walk_at "my has") => `(tactic| with_reducible (repeat (first | exact Has.here | apply Has.there)))
local macro_rules | `(tactic| walk_at "my put") => `(tactic| with_reducible (repeat (first | exact Put.here | apply Put.there)))
local macro_rules | `(tactic| walk_at "my lit") => `(tactic| with_reducible (first | exact lit_sq | exact lit_dq | exact lit_E | exact lit_bs | exact lit_mi | exact lit_dl | exact lit_co | exact lit_eq | exact lit_qm | exact lit_pc | exact lit_lp | exact lit_rp | exact lit_s | exact lit_us | exact lit_nl | exact lit_ce | exact lit_ps | exact lit_rs | exact lit_em | exact rfl))
local macro_rules | `(tactic| walk_at "my op") => `(tactic| with_reducible (first | exact op_eq_int | exact op_ne_int | exact op_lt_int | exact op_gt_int | exact op_le_int | exact op_eq_str | exact op_ne_str | exact op_in_str | exact op_notin_str | exact op_eq_none_str | exact op_ne_none_str | exact op_ne_bool | exact op_is_none | exact op_is_none_str | exact op_add_int | exact op_iadd_int | exact op_sub_int | exact op_eq_opt | exact op_ne_opt | exact op_none_opt))
local macro_rules | `(tactic| walk_at "my nu") => `(tactic| first | (intro h; cases h; done) | exact PVo_ne _)
local macro_rules | `(tactic| walk_at "my ev") => `(tactic| first
  | with_reducible exact ev_int | ((with_reducible refine' ev_str ?h1); (case h1 => walk_at "my lit")) | with_reducible exact ev_none | with_reducible exact ev_bool
  | ((with_reducible refine' ev_nm ?k1 ?h1 ?u1); (case k1 => assumption); (case h1 => walk_at "my has"; done); (case u1 => walk_at "my nu"))
  | with_reducible refine' ev_bin ?_ ?_ ?_ | ((with_reducible refine' ev_cmp ?_ ?_ ?_ ?m1); (case m1 => exact rfl)) | ((with_reducible refine' tr_cmp ?_ ?_ ?_ ?m1); (case m1 => exact rfl)) | with_reducible refine' tr_not ?_ | with_reducible refine' tr_op ?_
  | with_reducible refine' tra_and ?_ ?_ | with_reducible exact tra_and_nil | with_reducible refine' tra_or ?_ ?_ | with_reducible exact tra_or_nil
  | with_reducible refine' ev_neg ?_
  | walk_at "my op" | ((with_reducible refine' evl_cons1 ?_ ?_ ?m1); (case m1 => exact rfl)) | with_reducible refine' evl_nil ?_ | (guard_target =~ (_ = _ → _); intro _))
local macro_rules | `(tactic| walk_at "my evs") => `(tactic| repeat' (walk_at "my ev"))
local macro_rules | `(tactic| walk_at "my blt") => `(tactic| first | exact ev_globB (by assumption) (by kernel_rfl) boot_len (by decide +kernel) (by kernel_rfl) (by decide +kernel) | exact ev_globB (by assumption) (by kernel_rfl) boot_str (by decide +kernel) (by kernel_rfl) (by decide +kernel) | exact ev_globB (by assumption) (by kernel_rfl) boot_range (by decide +kernel) (by kernel_rfl) (by decide +kernel))
local macro_rules | `(tactic| walk_at "my fn") => `(tactic| exact ev_glob (by assumption) (by kernel_rfl) (by kernel_rfl) (by decide +kernel))
local macro_rules | `(tactic| walk_at "my puts") => `(tactic| (repeat (apply Puts.cons; (focus (walk_at "my put"; done)))); exact Puts.nil)
local macro_rules | `(tactic| walk_at "my nils") => `(tactic| repeat (first | with_reducible refine seq_nil ?_ | with_reducible refine wx_nil ?_))
local macro_rules | `(tactic| walk_at "my nnils") => `(tactic| repeat (first | with_reducible refine seqn_nil ?_ | with_reducible refine wxn_nil ?_))
local macro_rules | `(tactic| walk_at "my meth") => `(tactic| (apply ev_of_x; first | with_reducible apply evx_meth1 | with_reducible apply evx_meth0 | apply evx_meth1 | apply evx_meth0))

section
variable {prog : Program} {w : World} {p : Program} {loose : List Str} {mean : ExcName → Option Value} {mg mb : Str → Option Value} {c : Cf} {lo lo' : Lo} {ob ob0 obz : Ob} {pos : Pos} {X : EPost} {Φ : Post}
abbrev loc1 : Lo := [(Str.ofString "style", .un), (Str.ofString "text", .un), (Str.ofString "due", .un), (Str.ofString "names", .un), (Str.ofString "told", .un)]
theorem one_style (G : Gu (Mine.hd.heap_39 w.params) p loose mean mg mb c) {L : Addr} (he : c.env = loEnv w.params L) (hroom : c.A.depth + 3 < recursionLimit) {l D : Addr} {ds : List Int} {obf : Int → Ob} {k : Int}
    (hU : ∀ k k', Put l (ListW [.val (.ref D), .int k']) (obf k) (obf k')) (hD : ∀ k, (D, SeqO "list" (ds.map .int)) ∈ obf k) (hk : 0 ≤ k) (hk2 : k < 2 ^ 29) (hds : ds.length < 2 ^ 29)
    (hK : ∀ sty ∈ five, WXn prog w c [(Str.ofString "style", .str sty), (Str.ofString "text", .un), (Str.ofString "due", .un), (Str.ofString "names", .un), (Str.ofString "told", .un)] ((L + 2, CellU) :: (L + 1, CellO (.val (.ref l))) :: obf (k + 1)) X ((bd 22).drop 1) Φ) :
    WXn prog w c loc1 ((L + 2, CellU) :: (L + 1, CellO (.val (.ref l))) :: obf k) X (bd 22) Φ := by
  have hm : ∀ k, (l, ListW [.val (.ref D), .int k]) ∈ obf k := fun k => (hU k k).mem2
  have hroom' : c.A.depth < recursionLimit := by omega
  obtain ⟨A, env, h₀, os⟩ := c
  simp only at he hroom'
  subst he
  have K' := G.kind
  have Kg : ∀ g, (Cf.at ⟨A, loEnv w.params L, h₀, os⟩ g).env.scope.kind = .function := fun _ => K'
  obtain ⟨z, hz, hz5⟩ := five_get ds k
  obtain ⟨b1, b2⟩ := nextF_bound ds k (lim := 5) (by decide)
  refine wxn_old ?_
  intro g T
  have K1 := Kg g
  refine ws_setx K1 ?_
  · apply evx_subx (o := .val (.ref 116))
    · exact ev_glob (G.turn T).gt (by kernel_rfl) (by kernel_rfl) (by decide +kernel)
    · refine evx_fn (G.turn T).gt (fn_next w.params) ?_ ?_ ?_ ?_
      · exact ev_glob (G.turn T).gt (by kernel_rfl) (by kernel_rfl) (by decide +kernel)
      · refine evl_cons1 (v := .val (.ref l)) ?_ ?_ ?_
        · exact ev_cell K1 (by kernel_rfl) (.tail _ (.head _)) (by kernel_rfl) (by decide +kernel)
        · refine evl_cons1 (v := .int 5) ?_ ?_ ?_
          · exact ev_int
          · refine evl_nil ?_
            refine cl_next (G.turn T).gt hroom' (.tail _ (.tail _ (hm _))) (.there (.there (hU _ (k + 1)))) (.tail _ (.tail _ (hD _))) (by omega) (by omega) (by decide) hds ?_
            refine ⟨_, sb_tupG (G.turn T).gt (gt_styles _) b1 (by omega) hz, ?_⟩
            apply exPut
            · walk_at "my put"
            exact @hK z hz5
          · rfl
        · rfl
      · rfl
      · rfl
theorem one_walk (G : Gu (Mine.hd.heap_39 w.params) p loose mean mg mb c) {L : Addr} (he : c.env = loEnv w.params L) (hroom : c.A.depth + 3 < recursionLimit) {sty : Str} {t : List Nat} (ht : t.length ≤ 1000)
    (hN : walkF t ⟨sty, [], [], 0, 0⟩ = none → WXn prog w c (olo sty t (.val .none) .un .un) ob X ((bd 22).drop 3) Φ)
    (hS : ∀ told ns st, walkF t ⟨sty, [], [], 0, 0⟩ = some (told, ns, st) → ∀ a nl, WXn prog w c (olo sty t (.val (.ref a)) .un .un) ((a, SeqO "tuple" [.str (tx told), .val (.ref nl), .str st]) :: NmO nl ns ob) X ((bd 22).drop 3) Φ) :
    WXn prog w c (olo sty t .un .un .un) ob X ((bd 22).drop 2) Φ := by
  obtain ⟨A, env, h₀, os⟩ := c
  simp only at he
  subst he
  have K' := G.kind
  have Kg : ∀ g, (Cf.at ⟨A, loEnv w.params L, h₀, os⟩ g).env.scope.kind = .function := fun _ => K'
  show WXn _ _ _ [(_, .str sty), (_, .str (tx t)), (_, _), (_, _), (_, _)] _ _ _ _
  refine wxn_old ?_
  intro g T
  have K1 := Kg g
  refine ws_setx K1 ?_
  · refine evx_fn (G.turn T).gt (fn_walk w.params) ?_ ?_ ?_ ?_
    · exact ev_glob (G.turn T).gt (by kernel_rfl) (by kernel_rfl) (by decide +kernel)
    · refine evl_cons1 (v := .str sty) ?_ ?_ ?_
      · walk_at "my evs"
      · refine evl_cons1 (v := .str (tx t)) ?_ ?_ ?_
        · walk_at "my evs"
        · refine evl_nil ?_
          refine cl_walk (G.turn T).gt (show A.depth + 2 < _ by simp only at hroom; omega) ht (fun h => ?_) fun told ns st h a nl => ?_
          · apply exPut
            · walk_at "my put"
            exact hN h
          · apply exPut
            · walk_at "my put"
            exact hS told ns st h a nl
        · rfl
      · rfl
    · rfl
    · rfl
theorem one_last {t0 : List Nat} : ∀ k ch, (t0 ++ [32])[k]? = some ch → (t0 ++ [32])[k + 1]? = none → ch = 32 := by
  intro k ch h1 h2
  have hk : k + 1 ≥ (t0 ++ [32]).length := List.getElem?_eq_none_iff.mp h2
  have hk2 : k < (t0 ++ [32]).length := (List.getElem?_eq_some_iff.mp h1).1
  simp at hk hk2
  have : k = t0.length := by omega
  subst this
  simpa using h1.symm
/-- the body of _law_one, whole -/
theorem one_body (G : Gu (Mine.hd.heap_39 w.params) p loose mean mg mb c) {L : Addr} (he : c.env = loEnv w.params L) (hroom : c.A.depth + 3 < recursionLimit) (hun : c.A.units < cLine) (C : CodeHd c.h₀ 112 108) {l D c' cg : Addr} {ds : List Int} {obf : Int → Ob} {k : Int} {Φ : PV → Ob → Prop}
    (hU : ∀ k k', Put l (ListW [.val (.ref D), .int k']) (obf k) (obf k')) (hD : ∀ k, (D, SeqO "list" (ds.map .int)) ∈ obf k) (hk : 0 ≤ k) (hk2 : k < 2 ^ 29) (hds : ds.length < 2 ^ 29)
    (hP : ∀ k, (108, TabO (ps2 c' cg)) ∈ obf k) (hc' : ∀ k, (c', CodeO lamQ) ∈ obf k) (hT : ∀ k', k ≤ k' → k' ≤ k + 30 → Φ (.val (.bool true)) (obf k')) :
    WXn prog w c loc1 ((L + 2, CellU) :: (L + 1, CellO (.val (.ref l))) :: obf k) NoX (bd 22) (RetΦ (SubΦ Φ)) := by
  refine one_style G he hroom hU hD hk hk2 hds fun sty h5 => ?_
  refine one_text G he hroom hU hD hk hk2 hds fun t0 hz hl k' k1 k2 => ?_
  have hlen : (t0 ++ [32]).length ≤ 20 := by simp; omega
  have hal : ∀ z ∈ t0 ++ [32], z ∈ signs := fun z h => by
    rcases List.mem_append.mp h with h | h
    · exact hz z h
    · rw [List.mem_singleton.mp h]; decide
  have hcp : ∀ z ∈ t0 ++ [32], z < 16 ^ 8 := fun z h => sign_cp z (hal z h)
  have hlast : ∀ k ch, (t0 ++ [32])[k]? = some ch → (t0 ++ [32])[k + 1]? = none → ch ≠ 58 := fun k ch a b => by rw [one_last k ch a b]; decide
  have hsame := law_same (sty := sty) hal (fun k ch => one_last k ch) h5
  have hsub : List.Sublist (obf k') ((L + 1, CellO (.val (.ref l))) :: obf k') := List.sublist_cons_self _ _
  refine one_walk G he hroom (by omega) (fun hw => ?_) fun told ns st hw a nl => ?_
  · rw [hw] at hsame
    exact one_none G he hroom C (.tail _ (hP _)) (.tail _ (hc' _)) (by omega) hcp hlast hsame hsub (hT k' k1 (by omega))
  · rw [hw] at hsame
    obtain ⟨n1, n2, n3⟩ := walkF_names (t := t0 ++ [32]) (by omega) _ ⟨sty, [], [], 0, 0⟩ rfl ⟨Nat.zero_le _, Nat.zero_le _, Nat.zero_le _⟩ (Nat.zero_le _) (fun _ h => nomatch h) h5 hw
    obtain ⟨S, hr, e1, e2, e3⟩ := hsame
    exact one_some G he hroom hun C (.tail _ (hP _)) (.tail _ (hc' _)) (by omega) hcp hlast hr e1 e2 e3 n3 (by omega) (fun n hn => by have := n2 n hn; omega) hsub (hT k' k1 (by omega)) a nl
end
end Mine
end
section
open PySem.Calls
set_option maxHeartbeats 4000000
namespace Mine

local macro_rules | `(tactic| walk_at "my has") => `(tactic| with_reducible (repeat (first | exact Has.here | apply Has.there)))
local macro_rules | `(tactic| walk_at "my put") => `(tactic| with_reducible (repeat (first | exact Put.here | apply Put.there)))
local macro_rules | `(tactic| walk_at "my lit") => `(tactic| with_reducible (first | exact lit_sq | exact lit_dq | exact lit_E | exact lit_bs | exact lit_mi | exact lit_dl | exact lit_co | exact lit_eq | exact lit_qm | exact lit_pc | exact lit_lp | exact lit_rp | exact lit_s | exact lit_us | exact lit_nl | exact lit_ce | exact lit_ps | exact lit_rs | exact lit_em | exact rfl))
local macro_rules | `(tactic| walk_at "my op") => `(tactic| with_reducible (first | exact op_eq_int | exact op_ne_int | exact op_lt_int | exact op_gt_int | exact op_le_int | exact op_eq_str | exact op_ne_str | exact op_in_str | exact op_notin_str | exact op_eq_none_str | exact op_ne_none_str | exact op_ne_bool | exact op_is_none | exact op_is_none_str | exact op_add_int | exact op_iadd_int | exact op_sub_int | exact op_eq_opt | exact op_ne_opt | exact op_none_opt))
local macro_rules | `(tactic| walk_at "my nu") => `(tactic| first | (intro h; cases h; done) | exact PVo_ne _)
local macro_rules | `(tactic| walk_at "my ev") => `(tactic| first
  | with_reducible exact ev_int | ((with_reducible refine' ev_str ?h1); (case h1 => walk_at "my lit")) | with_reducible exact ev_none | with_reducible exact ev_bool
  | ((with_reducible refine' ev_nm ?k1 ?h1 ?u1); (case k1 => assumption); (case h1 => walk_at "my has"; done); (case u1 => walk_at "my nu"))
  | with_reducible refine' ev_bin ?_ ?_ ?_ | ((with_reducible refine' ev_cmp ?_ ?_ ?_ ?m1); (case m1 => exact rfl)) | ((with_reducible refine' tr_cmp ?_ ?_ ?_ ?m1); (case m1 => exact rfl)) | with_reducible refine' tr_not ?_ | with_reducible refine' tr_op ?_
  | with_reducible refine' tra_and ?_ ?_ | with_reducible exact tra_and_nil | with_reducible refine' tra_or ?_ ?_ | with_reducible exact tra_or_nil
  | with_reducible refine' ev_neg ?_
  | walk_at "my op" | ((with_reducible refine' evl_cons1 ?_ ?_ ?m1); (case m1 => exact rfl)) | with_reducible refine' evl_nil ?_ | (guard_target =~ (_ = _ → _); intro _))
local macro_rules | `(tactic| walk_at "my evs") => `(tactic| repeat' (walk_at "my ev"))
local macro_rules | `(tactic| walk_at "my blt") => `(tactic| first | exact ev_globB (by assumption) (by kernel_rfl) boot_len (by decide +kernel) (by kernel_rfl) (by decide +kernel) | exact ev_globB (by assumption) (by kernel_rfl) boot_str (by decide +kernel) (by kernel_rfl) (by decide +kernel) | exact ev_globB (by assumption) (by kernel_rfl) boot_range (by decide +kernel) (by kernel_rfl) (by decide +kernel))
local macro_rules | `(tactic| walk_at "my fn") => `(tactic| exact ev_glob (by assumption) (by kernel_rfl) (by kernel_rfl) (by decide +kernel))
local macro_rules | `(tactic| walk_at "my puts") => `(tactic| (repeat (apply Puts.cons; (focus (walk_at "my put"; done)))); exact Puts.nil)
local macro_rules | `(tactic| walk_at "my nils") => `(tactic| repeat (first | with_reducible refine seq_nil ?_ | with_reducible refine wx_nil ?_))
local macro_rules | `(tactic| walk_at "my nnils") => `(tactic| repeat (first | with_reducible refine seqn_nil ?_ | with_reducible refine wxn_nil ?_))
local macro_rules | `(tactic| walk_at "my meth") => `(tactic| (apply ev_of_x; first | with_reducible apply evx_meth1 | with_reducible apply evx_meth0 | apply evx_meth1 | apply evx_meth0))

theorem fn_one (P : Params) : Fn0 (Mine.hd.heap_39 P) 170 (fdOf P 170) (bd 22) := ⟨⟨_, _, _, rfl⟩, rfl, rfl, rfl, rfl, by kernel_rfl, rfl, rfl, rfl⟩
theorem bind_one (P : Params) (v : Value) : bindArgs (fdOf P 170) ⟨[v], []⟩ = pure [(Str.ofString "state", v)] := by kernel_rfl
theorem cells_one (P : Params) (n : Nat) : cellsFrom n (fdOf P 170).scope.names [] = [(Str.ofString "args", n + 1), (Str.ofString "state", n)] := by kernel_rfl
theorem one_l (P : Params) (L : Addr) (u : Value) : ∀ y ∈ loc1.map (·.1), bindL (envOfC (fdOf P 170).qualname (fdOf P 170).scope L 170 (fdOf P 170).code).kindOf [(Str.ofString "state", u)] (fun _ => none) y = none := by
  repeat (refine forall_cons (by kernel_rfl) ?_)
  exact forall_nil
theorem one_c1 (P : Params) (L : Addr) (u : Value) : bindC (envOfC (fdOf P 170).qualname (fdOf P 170).scope L 170 (fdOf P 170).code).kindOf [(Str.ofString "state", u)] (fun _ => none) (Str.ofString "state") = some u := by kernel_rfl
theorem one_c2 (P : Params) (L : Addr) (u : Value) : bindC (envOfC (fdOf P 170).qualname (fdOf P 170).scope L 170 (fdOf P 170).code).kindOf [(Str.ofString "state", u)] (fun _ => none) (Str.ofString "args") = none := by kernel_rfl
theorem one_loc (P : Params) : ∀ y ∈ loc1.map (·.1), (fdOf P 170).scope.names.lookup y = some .local ∧ (y == ("__debug__" : Str)) = false := by
  have e : (fdOf P 170).scope = sc 22 := rfl
  rw [e]; decide +kernel
section
variable {prog : Program} {w : World} {p : Program} {loose : List Str} {mean : ExcName → Option Value} {mg mb : Str → Option Value} {c : Cf} {lo lo' : Lo} {ob ob0 obz : Ob} {pos : Pos} {Φ : Post}
theorem cl_one (G : Gu (Mine.hd.heap_39 w.params) p loose mean mg mb c) (hroom : c.A.depth + 4 < recursionLimit) (hun : c.A.units + 3 < cLine) (C : CodeHd c.h₀ 112 108) {l D c' cg : Addr} {ds : List Int} {obf : Int → Ob} {k : Int} {Φ : PV → Ob → Prop}
    (hU : ∀ k k', Put l (ListW [.val (.ref D), .int k']) (obf k) (obf k')) (hD : ∀ k, (D, SeqO "list" (ds.map .int)) ∈ obf k) (hk : 0 ≤ k) (hk2 : k < 2 ^ 29) (hds : ds.length < 2 ^ 29)
    (hP : ∀ k, (108, TabO (ps2 c' cg)) ∈ obf k) (hc' : ∀ k, (c', CodeO lamQ) ∈ obf k) (hT : ∀ k', k ≤ k' → k' ≤ k + 30 → Φ (.val (.bool true)) (obf k')) :
    ClN prog w c lo (obf k) NoX (.ref 170) [.val (.ref l)] Φ := fun g T us s Q E hu R q xx => by
  cases hu with | @cons _ u1 _ _ hu1 hu => ?_
  cases hu
  cases hu1
  refine wpAny_call (code_fnN (c := c.at g) (A' := c.A) (binds := [(Str.ofString "state", .ref l)]) (lo2 := loc1) (obc := fun L => [(L + 2, CellU), (L + 1, CellO (.val (.ref l)))]) (X := fun _ => NoX) (Φ := SubΦ Φ)
    (G.turn T) (fn_one _) rfl G.hand (by omega) (@BindsTo.of_eq _ _ _ _ (bind_one _ _)) ?_ ?_ ?_ ?_ ?_ ?_ ?_ (fun L g2 G2 st => ?_) R (fun v u ob' s' g' T' hΦ hv R' => ?_) fun L e s' hL hG2 x => ?_)
  · intro n
    exact forall_cons (.inr ⟨by kernel_rfl, by rw [cells_one]; kernel_rfl⟩) forall_nil
  · rw [cells_one]; decide +kernel
  · intro L q hq
    have h1 := one_l w.params L (.ref l) q.1 (List.mem_map.mpr ⟨q, hq, rfl⟩)
    have h2 : q.2 = .un := by
      revert q
      repeat (refine forall_cons (fun _ => rfl) ?_)
      exact forall_nil
    rw [h2]; trivial
  · decide +kernel
  · intro q hq
    exact one_loc _ _ (List.mem_map.mpr ⟨q, hq, rfl⟩)
  · intro L cells x
    rw [cells_one] at x
    obtain ⟨o, o', rfl, h1, h2⟩ := x.two
    rw [one_c2] at h1
    rw [one_c1] at h2
    exact forall_cons ⟨_, .head _, h1⟩ (forall_cons ⟨_, .tail _ (.head _), _, h2, rfl⟩ forall_nil)
  · intro L; simp
  · refine one_body G2 rfl ?_ ?_ ((codeHd_turn G C T).keeps st) hU hD hk hk2 hds hP hc' hT
    · show (c.A.deeper _).depth + 3 < _
      rw [depth_deeper]; omega
    · show (c.A.deeper _).units < _
      exact hun
  · obtain ⟨obz, hs, hΦ⟩ := hΦ
    exact q v u obz s' g' (T.trans T') hΦ hv (R'.sub hs)
  · exact x.elim
end
end Mine
end
section
open PySem.Calls
set_option maxHeartbeats 4000000
namespace Mine

local macro_rules | `(tactic| walk_at "my has") => `(tactic| with_reducible (repeat (first | exact Has.here | apply Has.there)))
local macro_rules | `(tactic| walk_at "my put") => `(tactic| with_reducible (repeat (first | exact Put.here | apply Put.there)))
local macro_rules | `(tactic| walk_at "my lit") => `(tactic| with_reducible (first | exact lit_sq | exact lit_dq | exact lit_E | exact lit_bs | exact lit_mi | exact lit_dl | exact lit_co | exact lit_eq | exact lit_qm | exact lit_pc | exact lit_lp | exact lit_rp | exact lit_s | exact lit_us | exact lit_nl | exact lit_ce | exact lit_ps | exact lit_rs | exact lit_em | exact rfl))
local macro_rules | `(tactic| walk_at "my op") => `(tactic| with_reducible (first | exact op_eq_int | exact op_ne_int | exact op_lt_int | exact op_gt_int | exact op_le_int | exact op_eq_str | exact op_ne_str | exact op_in_str | exact op_notin_str | exact op_eq_none_str | exact op_ne_none_str | exact op_ne_bool | exact op_is_none | exact op_is_none_str | exact op_add_int | exact op_iadd_int | exact op_sub_int | exact op_eq_opt | exact op_ne_opt | exact op_none_opt))
local macro_rules | `(tactic| walk_at "my nu") => `(tactic| first | (intro h; cases h; done) | exact PVo_ne _)
local macro_rules | `(tactic| walk_at "my ev") => `(tactic| first
  | with_reducible exact ev_int | ((with_reducible refine' ev_str ?h1); (case h1 => walk_at "my lit")) | with_reducible exact ev_none | with_reducible exact ev_bool
  | ((with_reducible refine' ev_nm ?k1 ?h1 ?u1); (case k1 => assumption); (case h1 => walk_at "my has"; done); (case u1 => walk_at "my nu"))
  | with_reducible refine' ev_bin ?_ ?_ ?_ | ((with_reducible refine' ev_cmp ?_ ?_ ?_ ?m1); (case m1 => exact rfl)) | ((with_reducible refine' tr_cmp ?_ ?_ ?_ ?m1); (case m1 => exact rfl)) | with_reducible refine' tr_not ?_ | with_reducible refine' tr_op ?_
  | with_reducible refine' tra_and ?_ ?_ | with_reducible exact tra_and_nil | with_reducible refine' tra_or ?_ ?_ | with_reducible exact tra_or_nil
  | with_reducible refine' ev_neg ?_
  | walk_at "my op" | ((with_reducible refine' evl_cons1 ?_ ?_ ?m1); (case m1 => exact rfl)) | with_reducible refine' evl_nil ?_ | (guard_target =~ (_ = _ → _); intro _))
local macro_rules | `(tactic| walk_at "my evs") => `(tactic| repeat' (walk_at "my ev"))
local macro_rules | `(tactic| walk_at "my blt") => `(tactic| first | exact ev_globB (by assumption) (by kernel_rfl) boot_len (by decide +kernel) (by kernel_rfl) (by decide +kernel) | exact ev_globB (by assumption) (by kernel_rfl) boot_str (by decide +kernel) (by kernel_rfl) (by decide +kernel) | exact ev_globB (by assumption) (by kernel_rfl) boot_range (by decide +kernel) (by kernel_rfl) (by decide +kernel))
local macro_rules | `(tactic| walk_at "my fn") => `(tactic| exact ev_glob (by assumption) (by kernel_rfl) (by kernel_rfl) (by decide +kernel))
local macro_rules | `(tactic| walk_at "my puts") => `(tactic| (repeat (apply Puts.cons; (focus (walk_at "my put"; done)))); exact Puts.nil)
local macro_rules | `(tactic| walk_at "my nils") => `(tactic| repeat (first | with_reducible refine seq_nil ?_ | with_reducible refine wx_nil ?_))
local macro_rules | `(tactic| walk_at "my nnils") => `(tactic| repeat (first | with_reducible refine seqn_nil ?_ | with_reducible refine wxn_nil ?_))
local macro_rules | `(tactic| walk_at "my meth") => `(tactic| (apply ev_of_x; first | with_reducible apply evx_meth1 | with_reducible apply evx_meth0 | apply evx_meth1 | apply evx_meth0))

theorem ints_take {vs : List Value} {ns : List Int} (h : IntsAre vs ns) : All2 PV.is (ns.map .int) vs := by
  induction h with
  | nil => exact .nil
  | cons n t _ ih => exact .cons ⟨t, rfl⟩ ih
noncomputable def lawEnv (L fa : Addr) (cd : Value) : Env := envOf (Str.ofString "law") (sc 23) L fa cd
section
variable {prog : Program} {w : World} {K : Frag} {p : Program} {loose : List Str} {mean : ExcName → Option Value} {mg mb : Str → Option Value} {c : Cf} {lo lo' : Lo} {ob ob0 obz : Ob} {pos : Pos} {X : EPost} {Φ : Post}
/-- the front of a list of the ground's -/
theorem evx_front {xn : Str} {np sp : Pos} {l : Addr} {vs : List Value} {ns : List Int} {up : Expr} {n : Nat} {Ψ : PV → Ob → Prop} (hv : Ev prog w c lo ob (.Name xn np) (.val (.ref l))) (hl : c.h₀.IsList l vs.toArray) (hi : IntsAre vs ns) (hn : ns.length ≤ 1000) (hu : Ev prog w c lo ob up (.int n))
    (h : ∀ a, Ψ (.val (.ref a)) ((a, SeqO "list" ((ns.take n).map .int)) :: ob)) : EvX prog w c lo ob (.Subscript (.Name xn np) (.Slice none (some up) none sp) pos) Ψ := fun s Q E R q =>
  Subscript_ (hv.use R fun u s₁ hu1 R₁ => wpAny_Slice (part_n fun ui hui => part_i hu R₁ fun uj s₃ huj R₃ => part_none (by
    cases hu1
    obtain ⟨m, F, _⟩ := R₃.1.fr
    obtain ⟨ol, hol, hcl, nl, hdl⟩ := hl
    have hl : s₃.heap.IsList l vs.toArray := ⟨ol, F.keep _ _ hol, hcl, nl, hdl⟩
    have hlen := hi.length
    refine subscriptTail_ops (ops := [.ref s₃.heap.objs.size, .ref l]) (Heap.IsList.typeIs (s := { s₃ with heap := s₃.heap.push { cls := .type "slice", data := .fields #[ui, uj, .none] } }) (hl.push _)) list_getitem_lookup
      (wpAny_getItem_list_slice (hl.push _) (Heap.IsSliceOf.new ..) hui huj .none (by simp) ?_ (by rw [sizeLine_eq]; simp only [List.size_toArray]; omega)) ?_ ?_
    · have h1 : (s₃.heap.push { cls := .type "slice", data := .fields #[ui, uj, .none] }).objs.size = s₃.heap.objs.size + 1 := Heap.size_push ..
      show Q (.ref (s₃.heap.push _).objs.size) _
      rw [h1]
      have hp := slice_ints_uptoW hi (y := (n : Int)) (by omega)
      rw [Int.toNat_natCast] at hp
      exact q _ _ _ _ (h _) rfl (R₃.1.newFresh _ _ ⟨_, 0, rfl, ints_take hp⟩ rfl)
    · rfl
    · intro r; rfl)))
theorem evx_listW {es : List Expr} {Φ : PV → Ob → Prop} (h : EvL prog w c lo ob es (fun vs ob' => vs.length ≤ 1000 ∧ ∀ a, Φ (.val (.ref a)) ((a, ListW vs) :: ob'))) : EvX prog w c lo ob (.List es pos) Φ := fun s Q E R q =>
  List_ (h.use R fun vs us ob' s₁ hΦ hus R₁ => wpAny_newObj_type (q _ _ _ _ (hΦ.2 _) rfl (R₁.new (a := s₁.heap.objs.size) (o := { cls := .type "list", data := .seq us.toArray }) (P := ListW vs) (by simp [Heap.get?]) (fun b o e => Heap.get?_push_of_some _ e) (Heap.get?_push_size _ rfl) ⟨rfl, us, 0, rfl, hus⟩ s₁.toks))
    (by show us.toArray.size ≤ sizeLine; rw [List.size_toArray, ← hus.length, sizeLine_eq]; have := hΦ.1; omega))
/-- {'a': 1} -/
theorem evx_dict1 (G : Gt K p loose mg mb c) {z : Str} {i : Int} {k k2 : Nat} {p1 p2 : Pos} {Ψ : PV → Ob → Prop} (h : ∀ d, Ψ (.val (.ref d)) ((d, DictO prog w d [(z, .int i)]) :: ob)) :
    EvX prog w c lo ob (.Dict [some (.Constant (.str z) k p1)] [.Constant (.int i) k2 p2] pos) Ψ := fun s Q E R q =>
  Dict_lits_str (D := [(.str z, .int i)]) rfl rfl (by simp [strKeysOf]) rfl rfl (by simp) (by simp) fun a o h₁ tk ha ho ht ext => by
    obtain ⟨kvs, h1, h2⟩ := ht
    obtain ⟨m, F, _⟩ := R.1.fr
    have hn : s.heap.get? a = none := by
      cases e : s.heap.get? a with
      | none => rfl
      | some o => exact absurd (Heap.lt_size e) (Nat.not_lt.mpr ha)
    refine q _ _ _ _ (h a) rfl (R.1.new (a := a) (o := o) (P := DictO prog w a [(z, .int i)]) (h' := h₁) hn ext ho ⟨?_, kvs, h1, ?_⟩ tk)
    · exact not_modules F G.T.nolimit ha
    · generalize hD : [(PyData.str z, PyData.int i)] = D at h2
      cases h2 with
      | nil => cases hD
      | cons f r =>
        cases hD
        cases r
        obtain ⟨t, rfl⟩ := f.int_inv
        exact .cons ⟨rfl, t, rfl⟩ .nil
theorem op_eq_tup2 (hun : c.A.units + 1 < cLine) {a b a2 b2 : Addr} {x : Str} {vs : List PV} (ha : (a, SeqO "tuple" [.str x, .val (.ref a2)]) ∈ ob) (ha2 : (a2, SeqO "tuple" vs) ∈ ob) (hv : ∀ v ∈ vs, Flt v) :
    Op prog w c lo ((b, SeqO "tuple" [.str x, .val (.ref b2)]) :: (b2, SeqO "tuple" vs) :: ob) (compareOp .Eq) (.val (.ref a)) (.val (.ref b)) (.val (.bool true)) := fun ua ub s Q E h1 h2 R q => by
  cases h1; cases h2
  have hne : a2 ≠ b2 := fun e => by
    have n1 := List.nodup_cons.mp R.1.obs.1
    have n2 := List.nodup_cons.mp n1.2
    exact n2.1 (e ▸ List.mem_map.mpr ⟨_, ha2, rfl⟩)
  obtain ⟨o, g1, g2⟩ := R.1.get (.tail _ (.tail _ ha))
  obtain ⟨us, ⟨o1, k1, k2, n1, k3⟩, hu⟩ := SeqO.isTup g1 g2
  obtain ⟨o', g1', g2'⟩ := R.1.get (.head _)
  obtain ⟨us', ⟨o2, k1', k2', n2, k3'⟩, hu'⟩ := SeqO.isTup g1' g2'
  obtain ⟨qo, f1, f2⟩ := R.1.get (.tail _ (.tail _ ha2))
  obtain ⟨vs1, ⟨q1, m1, m2, m3, m4⟩, hw⟩ := SeqO.isTup f1 f2
  obtain ⟨q', f1', f2'⟩ := R.1.get (.tail _ (.head _))
  obtain ⟨vs2, ⟨q2, m1', m2', m3', m4'⟩, hw'⟩ := SeqO.isTup f1' f2'
  have l1 := hw.length
  have l2 := hw'.length
  cases hu with | cons e1 hu => ?_
  cases hu with | cons e2 hu => ?_
  cases hu
  cases hu' with | cons e1' hu' => ?_
  cases hu' with | cons e2' hu' => ?_
  cases hu'
  cases e2; cases e2'
  have inner : SeqAt.EqAt c.A.in1 s (.ref a2) (.ref b2) true := by
    refine SeqAt.EqAt.of_refs hne ?_
    have h := SeqAt.RcAt.tuples (A := c.A.in1) (s := s) (e := fun _ => true) ⟨q1, m1, m2, m3, m4⟩ ⟨q2, m1', m2', m3', m4'⟩ hun (fun j h1 h2 => ?_)
    · have e : ((List.range (min vs1.toArray.size vs2.toArray.size)).all (fun _ => true) && vs1.toArray.size == vs2.toArray.size) = true := by
        simp [l1.symm.trans l2]
      rwa [e] at h
    · have hj : j < vs.length := by simp only [List.size_toArray] at h1; omega
      obtain ⟨u, e, hv1⟩ := hw.get (i := j) (a := vs[j]) (List.getElem?_eq_getElem hj)
      obtain ⟨u', e', hv2⟩ := hw'.get (i := j) (a := vs[j]) (List.getElem?_eq_getElem hj)
      have e1 : vs1.toArray[j] = u := by
        have : vs1[j]? = some vs1.toArray[j] := by simp
        rw [e] at this; exact (Option.some.inj this).symm
      have e2 : vs2.toArray[j] = u' := by
        have : vs2[j]? = some vs2.toArray[j] := by simp
        rw [e'] at this; exact (Option.some.inj this).symm
      rw [e1, e2]
      exact flt_eq (hv _ (List.getElem_mem hj)) hv1 hv2
  refine SeqAt.eq_tupleAt (e := fun _ => true) ⟨o1, k1, k2, n1, k3⟩ ⟨o2, k1', k2', n2, k3'⟩ (by omega) (fun j h1 h2 => ?_) (q _ _ rfl R.1)
  have hj : j < 2 := h1
  match j, hj with
  | 0, _ => exact flt_eq (v := .str x) trivial e1 e1'
  | 1, _ => exact inner
end
end Mine
end
section
open PySem.Calls
set_option maxHeartbeats 4000000
namespace Mine

local macro_rules | `(tactic| walk_at "my has") => `(tactic| with_reducible (repeat (first | exact Has.here | apply Has.there)))
local macro_rules | `(tactic| walk_at "my put") => `(tactic| with_reducible (repeat (first | exact Put.here | apply Put.there)))
local macro_rules | `(tactic| walk_at "my lit") => `(tactic| with_reducible (first | exact lit_sq | exact lit_dq | exact lit_E | exact lit_bs | exact lit_mi | exact lit_dl | exact lit_co | exact lit_eq | exact lit_qm | exact lit_pc | exact lit_lp | exact lit_rp | exact lit_s | exact lit_us | exact lit_nl | exact lit_ce | exact lit_ps | exact lit_rs | exact lit_em | exact rfl))
local macro_rules | `(tactic| walk_at "my op") => `(tactic| with_reducible (first | exact op_eq_int | exact op_ne_int | exact op_lt_int | exact op_gt_int | exact op_le_int | exact op_eq_str | exact op_ne_str | exact op_in_str | exact op_notin_str | exact op_eq_none_str | exact op_ne_none_str | exact op_ne_bool | exact op_is_none | exact op_is_none_str | exact op_add_int | exact op_iadd_int | exact op_sub_int | exact op_eq_opt | exact op_ne_opt | exact op_none_opt))
local macro_rules | `(tactic| walk_at "my nu") => `(tactic| first | (intro h; cases h; done) | exact PVo_ne _)
local macro_rules | `(tactic| walk_at "my ev") => `(tactic| first
  | with_reducible exact ev_int | ((with_reducible refine' ev_str ?h1); (case h1 => walk_at "my lit")) | with_reducible exact ev_none | with_reducible exact ev_bool
  | ((with_reducible refine' ev_nm ?k1 ?h1 ?u1); (case k1 => assumption); (case h1 => walk_at "my has"; done); (case u1 => walk_at "my nu"))
  | with_reducible refine' ev_bin ?_ ?_ ?_ | ((with_reducible refine' ev_cmp ?_ ?_ ?_ ?m1); (case m1 => exact rfl)) | ((with_reducible refine' tr_cmp ?_ ?_ ?_ ?m1); (case m1 => exact rfl)) | with_reducible refine' tr_not ?_ | with_reducible refine' tr_op ?_
  | with_reducible refine' tra_and ?_ ?_ | with_reducible exact tra_and_nil | with_reducible refine' tra_or ?_ ?_ | with_reducible exact tra_or_nil
  | with_reducible refine' ev_neg ?_
  | walk_at "my op" | ((with_reducible refine' evl_cons1 ?_ ?_ ?m1); (case m1 => exact rfl)) | with_reducible refine' evl_nil ?_ | (guard_target =~ (_ = _ → _); intro _))
local macro_rules | `(tactic| walk_at "my evs") => `(tactic| repeat' (walk_at "my ev"))
local macro_rules | `(tactic| walk_at "my blt") => `(tactic| first | exact ev_globB (by assumption) (by kernel_rfl) boot_len (by decide +kernel) (by kernel_rfl) (by decide +kernel) | exact ev_globB (by assumption) (by kernel_rfl) boot_str (by decide +kernel) (by kernel_rfl) (by decide +kernel) | exact ev_globB (by assumption) (by kernel_rfl) boot_range (by decide +kernel) (by kernel_rfl) (by decide +kernel))
local macro_rules | `(tactic| walk_at "my fn") => `(tactic| exact ev_glob (by assumption) (by kernel_rfl) (by kernel_rfl) (by decide +kernel))
local macro_rules | `(tactic| walk_at "my puts") => `(tactic| (repeat (apply Puts.cons; (focus (walk_at "my put"; done)))); exact Puts.nil)
local macro_rules | `(tactic| walk_at "my nils") => `(tactic| repeat (first | with_reducible refine seq_nil ?_ | with_reducible refine wx_nil ?_))
local macro_rules | `(tactic| walk_at "my nnils") => `(tactic| repeat (first | with_reducible refine seqn_nil ?_ | with_reducible refine wxn_nil ?_))
local macro_rules | `(tactic| walk_at "my meth") => `(tactic| (apply ev_of_x; first | with_reducible apply evx_meth1 | with_reducible apply evx_meth0 | apply evx_meth1 | apply evx_meth0))

def lawT : List Nat := [115, 101, 108, 101, 99, 116, 32, 58, 97, 44, 32, 39, 58, 98, 39, 44, 32, 58, 97]
def lawU : List Nat := [115, 101, 108, 101, 99, 116, 32, 36, 49, 44, 32, 39, 58, 98, 39, 44, 32, 36, 49]
theorem lit_lawT : Str.ofString "select :a, ':b', :a" = tx lawT := by decide +kernel
theorem lit_lawU : Str.ofString "select $1, ':b', $1" = tx lawU := by decide +kernel
theorem lit_named : Str.ofString "named" = sD := by decide +kernel
theorem lit_a : Str.ofString "a" = sg 97 := by decide +kernel
theorem law_toldB : (match runM (S0 sD) lawT with | some S => !isPos S.style && (J S.out == lawU) && (S.phs == [sg 97]) | none => false) = true := by decide +kernel
theorem law_told : ∃ S, runM (S0 sD) lawT = some S ∧ isPos S.style = false ∧ J S.out = lawU ∧ S.phs = [sg 97] := by
  have h := law_toldB
  split at h
  · rename_i S hS
    simp only [Bool.and_eq_true, Bool.not_eq_true', beq_iff_eq] at h
    exact ⟨S, hS, h.1.1, h.1.2, h.2⟩
  · cases h
section
variable {prog : Program} {w : World} {p : Program} {loose : List Str} {mean : ExcName → Option Value} {mg mb : Str → Option Value} {c : Cf} {lo lo' : Lo} {ob ob0 obz : Ob} {pos : Pos} {X : EPost} {Φ : Post}
abbrev lawLo (l : Addr) (st td : PV) : Lo := [(Str.ofString "script", .val (.ref l)), (Str.ofString "state", st), (Str.ofString "told", td)]
theorem law_s0 (G : Gu (Mine.hd.heap_39 w.params) p loose mean mg mb c) {L fa : Addr} {cd : Value} (he : c.env = lawEnv L fa cd) {l : Addr} {vs : List Value} {ns : List Int} (hl : c.h₀.IsList l vs.toArray) (hi : IntsAre vs ns) (hn : ns.length ≤ 1000)
    (hK : ∀ S D, WXn prog w c (lawLo l (.val (.ref S)) .un) ((S, ListW [.val (.ref D), .int 0]) :: (D, SeqO "list" ((ns.take 60).map .int)) :: ob) X ((bd 23).drop 1) Φ) :
    WXn prog w c (lawLo l .un .un) ob X (bd 23) Φ := by
  obtain ⟨A, env, h₀, os⟩ := c
  simp only at he
  subst he
  have K' := G.kind
  have Kg : ∀ g, (Cf.at ⟨A, lawEnv L fa cd, h₀, os⟩ g).env.scope.kind = .function := fun _ => K'
  show WXn _ _ _ [(_, .val (.ref l)), (_, _), (_, _)] _ _ _ _
  refine wxn_old ?_
  intro g T
  have K1 := Kg g
  have hlg : g.IsList l vs.toArray := by
    obtain ⟨o, h1, h2⟩ := hl
    obtain ⟨A₀, base, outer, B, hA, XB, TB, D⟩ := G.bel
    have T' : KtsTurn (outer.filterMap (·.frame)) h₀ g := by
      have := T; unfold Tn fsOf at this; rw [hA] at this; exact this
    refine ⟨o, T'.other _ _ h1 fun hm => ?_, h2⟩
    obtain ⟨o', es, n, a1, a2⟩ := D _ hm
    obtain ⟨_, n2, a3⟩ := h2
    have a1 : h₀.get? l = some o' := a1
    rw [h1] at a1; cases a1
    rw [a3] at a2; cases a2
  refine ws_setx K1 ?_
  · refine evx_listW ?_
    refine evl_cons ?_ ?_
    · refine evx_front (n := 60) ?_ hlg hi hn ?_ ?_
      · walk_at "my evs"
      · exact ev_int
      · intro D
        refine evl_cons1 (v := .int 0) ?_ ?_ ?_
        · exact ev_int
        · refine evl_nil ?_
          refine ⟨Nat.le_of_ble_eq_true rfl, fun S => ?_⟩
          apply exPut
          · walk_at "my put"
          exact hK S D
        · rfl
    · rfl
theorem law_s1 (G : Gu (Mine.hd.heap_39 w.params) p loose mean mg mb c) {L fa : Addr} {cd : Value} (he : c.env = lawEnv L fa cd) (hroom : c.A.depth + 3 < recursionLimit) (C : CodeHd c.h₀ 112 108) {l S D : Addr} {P1 P2 : OP}
    (hK : ∀ T T2 c' cg d, WXn prog w c (lawLo l (.val (.ref S)) (.val (.ref T))) ((T, SeqO "tuple" [.str (tx lawU), .val (.ref T2)]) :: (T2, SeqO "tuple" [.int 1]) :: (c', CodeO lamQ) :: (d, DictO prog w d [(sg 97, .int 1)]) :: (S, P1) :: (D, P2) :: [(108, TabO (ps2 c' cg))]) NoX ((bd 23).drop 2) Φ) :
    WXn prog w c (lawLo l (.val (.ref S)) .un) ((S, P1) :: (D, P2) :: [(108, TabO #[])]) NoX ((bd 23).drop 1) Φ := by
  obtain ⟨S', hS, hp, hJ, hph⟩ := law_told
  obtain ⟨A, env, h₀, os⟩ := c
  simp only at he
  subst he
  have K' := G.kind
  have Kg : ∀ g, (Cf.at ⟨A, lawEnv L fa cd, h₀, os⟩ g).env.scope.kind = .function := fun _ => K'
  show WXn _ _ _ [(_, .val (.ref l)), (_, _), (_, _)] _ _ _ _
  refine wxn_cons ?_
  apply wsn_setxn K'
  · refine evxn_callF (a := 113) ?_ ?_ ?_ ?_ ?_
    · intro g T
      exact ev_glob (G.turn T).gt (by kernel_rfl) (by kernel_rfl) (by decide +kernel)
    · intro g T
      obtain ⟨o, h1, h2⟩ := gt_fn (fn_cv w.params) (G.turn T).gt.X
      exact ⟨o, _, h1, h2⟩
    · intro g T
      refine evl_cons1 (v := .str sD) ?_ ?_ ?_
      · exact ev_str lit_named
      · refine evl_cons1 (v := .str (tx lawT)) ?_ ?_ ?_
        · exact ev_str lit_lawT
        · refine evl_cons ?_ ?_
          · refine evx_dict1 (G.turn T).gt fun d => ?_
            refine evl_nil ?_
            rw [lit_a]
            refine clN_monoX (cl_cv0 (S' := S') (vals := [.int 1]) (ks := [(sg 97, .int 1)]) (ob1 := fun c' => (d, DictO prog w d [(sg 97, .int 1)]) :: (S, P1) :: (D, P2) :: [(108, TabO (ps1 c'))]) (ob2 := fun c' cg => (d, DictO prog w d [(sg 97, .int 1)]) :: (S, P1) :: (D, P2) :: [(108, TabO (ps2 c' cg))]) G hroom C (.tail _ (.tail _ (.tail _ (.head _)))) (fun c' => .there (.there (.there .here))) (fun c' cg => .there (.there (.there .here))) (fun c' cg => .head _) ?_ ?_ ?_ hS hp ?_ ?_) fun e s z => by rw [hS] at z; cases z.1
            · decide
            · decide +kernel
            · intro k ch h1 h2 h3
              subst h3
              have : k = 18 := by
                have a := (List.getElem?_eq_some_iff.mp h1).1
                have b := List.getElem?_eq_none_iff.mp h2
                have e : lawT.length = 19 := rfl
                omega
              subst this
              cases h1
            · rw [hph]; exact .cons rfl .nil
            · intro T T2 c' cg
              rw [hJ]
              apply exPut
              · walk_at "my put"
              exact hK T T2 c' cg d
          · rfl
        · rfl
      · rfl
    · rfl
    · rfl
end
end Mine
end
section
open PySem.Calls
set_option maxHeartbeats 4000000
namespace Mine

local macro_rules | `(tactic| walk_at "my has") => `(tactic| with_reducible (repeat (first | exact Has.here | apply Has.there)))
local macro_rules | `(tactic| walk_at "my put") => `(tactic| with_reducible (repeat (first | exact Put.here | apply Put.there)))
local macro_rules | `(tactic| walk_at "my lit") => `(tactic| with_reducible (first | exact lit_sq | exact lit_dq | exact lit_E | exact lit_bs | exact lit_mi | exact lit_dl | exact lit_co | exact lit_eq | exact lit_qm | exact lit_pc | exact lit_lp | exact lit_rp | exact lit_s | exact lit_us | exact lit_nl | exact lit_ce | exact lit_ps | exact lit_rs | exact lit_em | exact rfl))
local macro_rules | `(tactic| walk_at "my op") => `(tactic| with_reducible (first | exact op_eq_int | exact op_ne_int | exact op_lt_int | exact op_gt_int | exact op_le_int | exact op_eq_str | exact op_ne_str | exact op_in_str | exact op_notin_str | exact op_eq_none_str | exact op_ne_none_str | exact op_ne_bool | exact op_is_none | exact op_is_none_str | exact op_add_int | exact op_iadd_int | exact op_sub_int | exact op_eq_opt | exact op_ne_opt | exact op_none_opt))
local macro_rules | `(tactic| walk_at "my nu") => `(tactic| first | (intro h; cases h; done) | exact PVo_ne _)
local macro_rules | `(tactic| walk_at "my ev") => `(tactic| first
  | with_reducible exact ev_int | ((with_reducible refine' ev_str ?h1); (case h1 => walk_at "my lit")) | with_reducible exact ev_none | with_reducible exact ev_bool
  | ((with_reducible refine' ev_nm ?k1 ?h1 ?u1); (case k1 => assumption); (case h1 => walk_at "my has"; done); (case u1 => walk_at "my nu"))
  | with_reducible refine' ev_bin ?_ ?_ ?_ | ((with_reducible refine' ev_cmp ?_ ?_ ?_ ?m1); (case m1 => exact rfl)) | ((with_reducible refine' tr_cmp ?_ ?_ ?_ ?m1); (case m1 => exact rfl)) | with_reducible refine' tr_not ?_ | with_reducible refine' tr_op ?_
  | with_reducible refine' tra_and ?_ ?_ | with_reducible exact tra_and_nil | with_reducible refine' tra_or ?_ ?_ | with_reducible exact tra_or_nil
  | with_reducible refine' ev_neg ?_
  | walk_at "my op" | ((with_reducible refine' evl_cons1 ?_ ?_ ?m1); (case m1 => exact rfl)) | with_reducible refine' evl_nil ?_ | (guard_target =~ (_ = _ → _); intro _))
local macro_rules | `(tactic| walk_at "my evs") => `(tactic| repeat' (walk_at "my ev"))
local macro_rules | `(tactic| walk_at "my blt") => `(tactic| first | exact ev_globB (by assumption) (by kernel_rfl) boot_len (by decide +kernel) (by kernel_rfl) (by decide +kernel) | exact ev_globB (by assumption) (by kernel_rfl) boot_str (by decide +kernel) (by kernel_rfl) (by decide +kernel) | exact ev_globB (by assumption) (by kernel_rfl) boot_range (by decide +kernel) (by kernel_rfl) (by decide +kernel))
local macro_rules | `(tactic| walk_at "my fn") => `(tactic| exact ev_glob (by assumption) (by kernel_rfl) (by kernel_rfl) (by decide +kernel))
local macro_rules | `(tactic| walk_at "my puts") => `(tactic| (repeat (apply Puts.cons; (focus (walk_at "my put"; done)))); exact Puts.nil)
local macro_rules | `(tactic| walk_at "my nils") => `(tactic| repeat (first | with_reducible refine seq_nil ?_ | with_reducible refine wx_nil ?_))
local macro_rules | `(tactic| walk_at "my nnils") => `(tactic| repeat (first | with_reducible refine seqn_nil ?_ | with_reducible refine wxn_nil ?_))
local macro_rules | `(tactic| walk_at "my meth") => `(tactic| (apply ev_of_x; first | with_reducible apply evx_meth1 | with_reducible apply evx_meth0 | apply evx_meth1 | apply evx_meth0))

section
variable {prog : Program} {w : World} {p : Program} {loose : List Str} {mean : ExcName → Option Value} {mg mb : Str → Option Value} {c : Cf} {lo lo' : Lo} {ob ob0 obz : Ob} {pos : Pos} {X : EPost} {Φ : Post}
abbrev lawOb (bb b2 T T2 c' cg d S D : Addr) (prog : Program) (w : World) (ds : List Int) (k : Int) : Ob := (bb, SeqO "tuple" [.str (tx lawU), .val (.ref b2)]) :: (b2, SeqO "tuple" [.int 1]) :: (T, SeqO "tuple" [.str (tx lawU), .val (.ref T2)]) :: (T2, SeqO "tuple" [.int 1]) :: (c', CodeO lamQ) :: (d, DictO prog w d [(sg 97, .int 1)]) :: (S, ListW [.val (.ref D), .int k]) :: (D, SeqO "list" (ds.map .int)) :: [(108, TabO (ps2 c' cg))]
abbrev LawΦ : PV → Ob → Prop := fun v ob' => v = .val (.bool true) ∧ ∃ ps, (108, TabO ps) ∈ ob'
theorem law_s2 (G : Gu (Mine.hd.heap_39 w.params) p loose mean mg mb c) {L fa : Addr} {cd : Value} (he : c.env = lawEnv L fa cd) (hroom : c.A.depth + 4 < recursionLimit) (hun : c.A.units + 3 < cLine) (C : CodeHd c.h₀ 112 108) {l S D T T2 c' cg d : Addr} {ds : List Int} (hds : ds.length < 2 ^ 29) :
    WXn prog w c (lawLo l (.val (.ref S)) (.val (.ref T))) ((T, SeqO "tuple" [.str (tx lawU), .val (.ref T2)]) :: (T2, SeqO "tuple" [.int 1]) :: (c', CodeO lamQ) :: (d, DictO prog w d [(sg 97, .int 1)]) :: (S, ListW [.val (.ref D), .int 0]) :: (D, SeqO "list" (ds.map .int)) :: [(108, TabO (ps2 c' cg))]) NoX ((bd 23).drop 2) (RetΦ LawΦ) := by
  have one := fun (bb b2 : Addr) (lo : Lo) (k : Int) (h0 : 0 ≤ k) (h1 : k < 2 ^ 29) (Ψ : PV → Ob → Prop) hT => cl_one (prog := prog) (w := w) (lo := lo) (c := c) (l := S) (D := D) (c' := c') (cg := cg) (ds := ds) (obf := lawOb bb b2 T T2 c' cg d S D prog w ds) (k := k) (Φ := Ψ) G hroom hun C
    (fun k k' => .there (.there (.there (.there (.there (.there .here)))))) (fun k => .tail _ (.tail _ (.tail _ (.tail _ (.tail _ (.tail _ (.tail _ (.head _)))))))) h0 h1 hds
    (fun k => .tail _ (.tail _ (.tail _ (.tail _ (.tail _ (.tail _ (.tail _ (.tail _ (.head _))))))))) (fun k => .tail _ (.tail _ (.tail _ (.tail _ (.head _))))) hT
  obtain ⟨A, env, h₀, os⟩ := c
  simp only at he hun
  subst he
  have K' := G.kind
  have Kg : ∀ g, (Cf.at ⟨A, lawEnv L fa cd, h₀, os⟩ g).env.scope.kind = .function := fun _ => K'
  have hf : ∀ g, Tn ⟨A, lawEnv L fa cd, h₀, os⟩ g → ∀ (lo : Lo) (ob : Ob) (ps : Pos), Ev prog w (Cf.at ⟨A, lawEnv L fa cd, h₀, os⟩ g) lo ob (.Name (Str.ofString "_law_one") ps) (.val (.ref 170)) := fun g T lo ob ps => ev_glob (G.turn T).gt (by kernel_rfl) (by kernel_rfl) (by decide +kernel)
  have ho : ∀ g, Tn ⟨A, lawEnv L fa cd, h₀, os⟩ g → ∃ o fd, g.get? 170 = some o ∧ o.data = .func fd := fun g T => by
    obtain ⟨o, h1, h2⟩ := gt_fn (fn_one w.params) (G.turn T).gt.X
    exact ⟨o, _, h1, h2⟩
  show WXn _ _ _ [(_, .val (.ref l)), (_, _), (_, _)] _ _ _ _
  refine wxn_cons ?_
  refine wsn_retxn ?_
  refine evxn_and ?_
  refine evxn_old ?_
  intro g Tg
  have K1 := Kg g
  refine evx_cmp (a := .val (.ref T)) ?_ ?_ ?_
  · walk_at "my evs"
  · refine evx_tuple ?_
    refine evl_cons1 (v := .str (tx lawU)) ?_ ?_ ?_
    · exact ev_str lit_lawU
    · refine evl_cons ?_ ?_
      · refine evx_tuple ?_
        refine evl_cons1 (v := .int 1) ?_ ?_ ?_
        · exact ev_int
        · refine evl_nil ?_
          refine ⟨Nat.le_of_ble_eq_true rfl, fun b2 => ?_⟩
          refine evl_nil ?_
          refine ⟨Nat.le_of_ble_eq_true rfl, fun bb => ?_⟩
          refine ⟨.val (.bool true), op_eq_tup2 (show A.units + 1 < _ by omega) (.head _) (.tail _ (.head _)) (fun v hv => ?_), rfl, ?_⟩
          · rw [List.mem_singleton.mp hv]; trivial
          clear Tg K1
          have hst : ∀ g, Tn ⟨A, lawEnv L fa cd, h₀, os⟩ g → ∀ (ob : Ob) (ps : Pos), Ev prog w (Cf.at ⟨A, lawEnv L fa cd, h₀, os⟩ g) (lawLo l (.val (.ref S)) (.val (.ref T))) ob (.Name (Str.ofString "state") ps) (.val (.ref S)) := fun g Tg ob ps => by
            have K1 := Kg g
            show Ev _ _ _ [(_, .val (.ref l)), (_, _), (_, _)] _ _ _
            walk_at "my evs"
          refine evxn_and ?_
          refine evxn_callF (a := 170) (fun g T => hf g T _ _ _) ho (fun g T => ?_) rfl rfl
          refine evl_cons1 (v := .val (.ref S)) ?_ ?_ ?_
          · exact hst g T _ _
          · refine evl_nil ?_
            refine one bb b2 _ 0 (by decide) (by decide) _ fun k' h1 h2 => ⟨rfl, ?_⟩
            refine evxn_and1 ?_
            refine evxn_callF (a := 170) (fun g T => hf g T _ _ _) ho (fun g T => ?_) rfl rfl
            refine evl_cons1 (v := .val (.ref S)) ?_ ?_ ?_
            · exact hst g T _ _
            · refine evl_nil ?_
              refine one bb b2 _ k' (by omega) (by omega) _ fun k2 h3 h4 => ?_
              exact ⟨rfl, _, .tail _ (.tail _ (.tail _ (.tail _ (.tail _ (.tail _ (.tail _ (.tail _ (.head _))))))))⟩
            · rfl
          · rfl
        · rfl
      · rfl
    · rfl
  · rfl
theorem law_body (G : Gu (Mine.hd.heap_39 w.params) p loose mean mg mb c) {L fa : Addr} {cd : Value} (he : c.env = lawEnv L fa cd) (hroom : c.A.depth + 4 < recursionLimit) (hun : c.A.units + 3 < cLine) (C : CodeHd c.h₀ 112 108) {l : Addr} {vs : List Value} {ns : List Int} (hl : c.h₀.IsList l vs.toArray) (hi : IntsAre vs ns) (hn : ns.length ≤ 63) :
    WXn prog w c (lawLo l .un .un) [(108, TabO #[])] NoX (bd 23) (RetΦ LawΦ) :=
  law_s0 G he hl hi (by omega) fun S D => law_s1 G he (by omega) C fun T T2 c' cg d => law_s2 G he hroom hun C (by simp; omega)
end
end Mine
end
section
open PySem.Calls
set_option maxHeartbeats 4000000
namespace Mine

local macro_rules | `(tactic| walk_at "my has") => `(tactic| with_reducible (repeat (first | exact Has.here | apply Has.there)))
local macro_rules | `(tactic| walk_at "my put") => `(tactic| with_reducible (repeat (first | exact Put.here | apply Put.there)))
local macro_rules | `(tactic| walk_at "my lit") => `(tactic| with_reducible (first | exact lit_sq | exact lit_dq | exact lit_E | exact lit_bs | exact lit_mi | exact lit_dl | exact lit_co | exact lit_eq | exact lit_qm | exact lit_pc | exact lit_lp | exact lit_rp | exact lit_s | exact lit_us | exact lit_nl | exact lit_ce | exact lit_ps | exact lit_rs | exact lit_em | exact rfl))
local macro_rules | `(tactic| walk_at "my op") => `(tactic| with_reducible (first | exact op_eq_int | exact op_ne_int | exact op_lt_int | exact op_gt_int | exact op_le_int | exact op_eq_str | exact op_ne_str | exact op_in_str | exact op_notin_str | exact op_eq_none_str | exact op_ne_none_str | exact op_ne_bool | exact op_is_none | exact op_is_none_str | exact op_add_int | exact op_iadd_int | exact op_sub_int | exact op_eq_opt | exact op_ne_opt | exact op_none_opt))
local macro_rules | `(tactic| walk_at "my nu") => `(tactic| first | (intro h; cases h; done) | exact PVo_ne _)
local macro_rules | `(tactic| walk_at "my ev") => `(tactic| first
  | with_reducible exact ev_int | ((with_reducible refine' ev_str ?h1); (case h1 => walk_at "my lit")) | with_reducible exact ev_none | with_reducible exact ev_bool
  | ((with_reducible refine' ev_nm ?k1 ?h1 ?u1); (case k1 => assumption); (case h1 => walk_at "my has"; done); (case u1 => walk_at "my nu"))
  | with_reducible refine' ev_bin ?_ ?_ ?_ | ((with_reducible refine' ev_cmp ?_ ?_ ?_ ?m1); (case m1 => exact rfl)) | ((with_reducible refine' tr_cmp ?_ ?_ ?_ ?m1); (case m1 => exact rfl)) | with_reducible refine' tr_not ?_ | with_reducible refine' tr_op ?_
  | with_reducible refine' tra_and ?_ ?_ | with_reducible exact tra_and_nil | with_reducible refine' tra_or ?_ ?_ | with_reducible exact tra_or_nil
  | with_reducible refine' ev_neg ?_
  | walk_at "my op" | ((with_reducible refine' evl_cons1 ?_ ?_ ?m1); (case m1 => exact rfl)) | with_reducible refine' evl_nil ?_ | (guard_target =~ (_ = _ → _); intro _))
local macro_rules | `(tactic| walk_at "my evs") => `(tactic| repeat' (walk_at "my ev"))
local macro_rules | `(tactic| walk_at "my blt") => `(tactic| first | exact ev_globB (by assumption) (by kernel_rfl) boot_len (by decide +kernel) (by kernel_rfl) (by decide +kernel) | exact ev_globB (by assumption) (by kernel_rfl) boot_str (by decide +kernel) (by kernel_rfl) (by decide +kernel) | exact ev_globB (by assumption) (by kernel_rfl) boot_range (by decide +kernel) (by kernel_rfl) (by decide +kernel))
local macro_rules | `(tactic| walk_at "my fn") => `(tactic| exact ev_glob (by assumption) (by kernel_rfl) (by kernel_rfl) (by decide +kernel))
local macro_rules | `(tactic| walk_at "my puts") => `(tactic| (repeat (apply Puts.cons; (focus (walk_at "my put"; done)))); exact Puts.nil)
local macro_rules | `(tactic| walk_at "my nils") => `(tactic| repeat (first | with_reducible refine seq_nil ?_ | with_reducible refine wx_nil ?_))
local macro_rules | `(tactic| walk_at "my nnils") => `(tactic| repeat (first | with_reducible refine seqn_nil ?_ | with_reducible refine wxn_nil ?_))
local macro_rules | `(tactic| walk_at "my meth") => `(tactic| (apply ev_of_x; first | with_reducible apply evx_meth1 | with_reducible apply evx_meth0 | apply evx_meth1 | apply evx_meth0))

theorem law_nd : [Str.ofString "script", Str.ofString "state", Str.ofString "told"].Nodup := by decide +kernel
theorem law_d1 : (Str.ofString "script" == ("__debug__" : Str)) = false := by decide +kernel
theorem law_d2 : (Str.ofString "state" == ("__debug__" : Str)) = false := by decide +kernel
theorem law_d3 : (Str.ofString "told" == ("__debug__" : Str)) = false := by decide +kernel
theorem law_fin {prog : Program} {w : World} {p : Program} {loose : List Str} {mean : ExcName → Option Value} {mg mb : Str → Option Value} {hs : Heap} {s : Shared} {L fa l : Addr} {cd : Value} {vs : List Value} {ns : List Int} {Q : Flow → Shared → Prop} {E : Value → Shared → Prop}
    (hT : TabsAt [(112, 108)] hs) (X : (Mine.hd.heap_39 w.params).In (ghostOf hs [(112, 108)])) (T : Top p loose mean mg mb (ghostOf hs [(112, 108)])) (B : Below callerA (ghostOf hs [(112, 108)]) [] (ghostOf hs [(112, 108)]))
    (F : Fr (ghostOf hs [(112, 108)]) L s.heap fun x => List.lookup x [(Str.ofString "script", Value.ref l)].reverse) (hl : (ghostOf hs [(112, 108)]).IsList l vs.toArray) (C : CodeHd (ghostOf hs [(112, 108)]) 112 108) (N : News (ghostOf hs [(112, 108)]) L s.heap [(108, tabObj #[])])
    (hi : IntsAre vs ns) (hn : ns.length ≤ 63) (hg : AllBare s.gens) (ht : 1 ≤ s.toks)
    (q : ∀ s', OldK hs s'.heap → s'.os = s.os → AllBare s'.gens → Q (.ret (.bool true)) s') :
    wpAny (model prog w) (callerA.deeper (lawEnv L fa cd)) (execs (bd 23) (lawEnv L fa cd)) Q E s := by
  have G : Gu (Mine.hd.heap_39 w.params) p loose mean mg mb ⟨callerA.deeper (lawEnv L fa cd), lawEnv L fa cd, ghostOf hs [(112, 108)], s.os⟩ :=
    ⟨rfl, rfl, rfl, rfl, rfl, callerA, ghostOf hs [(112, 108)], [], B, rfl, X, T, fun b hb => nomatch hb⟩
  have R : Rep (Cf.at ⟨callerA.deeper (lawEnv L fa cd), lawEnv L fa cd, ghostOf hs [(112, 108)], s.os⟩ (ghostOf hs [(112, 108)])) (lawLo l .un .un) [(108, TabO #[])] s := by
    refine ⟨⟨⟨_, F, ?_⟩, ⟨by simp, ?_⟩, law_nd, ?_, rfl, hg⟩, ht⟩
    · refine forall_cons ?_ (forall_cons trivial (forall_cons trivial forall_nil))
      show PV.at _ _
      exact PV.at_of (show (PV.val (.ref l)).is (.ref l) from rfl)
    · refine forall_cons ?_ forall_nil
      obtain ⟨h1, h2, h3⟩ := N (108, tabObj #[]) (.head _)
      exact ⟨_, h1, h2, h3, rfl⟩
    · exact forall_cons ⟨by kernel_rfl, law_d1⟩ (forall_cons ⟨by kernel_rfl, law_d2⟩ (forall_cons ⟨by kernel_rfl, law_d3⟩ forall_nil))
  have H := law_body (prog := prog) (L := L) (fa := fa) (cd := cd) (l := l) (vs := vs) (ns := ns) G rfl (by show (callerA.deeper _).depth + 4 < _; rw [depth_deeper]; decide) (by show 4 + 3 + 3 < 9900; decide) C hl hi hn
  refine wpAny_mono (H _ Tn.refl s Q (fun _ _ => False) R (fun o f lo' ob' s' g' T' hΦ hf R' => ?_) (fun _ _ z => z.elim) PassesOwn.never) (fun _ _ z => z) (fun _ _ z => z.elim)
  cases o with
  | next => obtain ⟨h, _⟩ := hΦ; cases h
  | cont => exact hΦ.elim
  | brk => exact hΦ.elim
  | ret v =>
    obtain ⟨rfl, ps, hm⟩ := hΦ
    obtain ⟨u, rfl, hu⟩ := hf
    cases hu
    obtain ⟨m, F', _⟩ := R'.fr
    obtain ⟨o8, h8, e8⟩ := R'.get hm
    have hP : s'.heap.get? 108 = some (tabObj ps) := by rw [h8, e8]
    have T2 : KtsTurn ([] : List Addr) (ghostOf hs [(112, 108)]) g' := T'
    have keep : ∀ b o, b ≠ 108 → hs.get? b = some o → s'.heap.get? b = some o := fun b o hb e =>
      F'.keep b o (T2.other b o (ghost_ne e (by simpa using hb)) (fun hm => nomatch hm))
    have h0 := hT (112, 108) (.head _)
    refine q s' ⟨fun b o e => ?_, fun b o e => ?_⟩ R'.os R'.gens
    · by_cases hb : b = 108
      · subst hb
        have e2 : hs.get? 108 = some (tabObj #[]) := h0.2
        rw [e2] at e; cases e
        refine .inr (.inl ⟨(h0.1.tab h0.2).isCodeTable, rfl, #[], ps, rfl, ?_⟩)
        rw [Array.empty_append]; exact hP
      · exact .inl (keep b o hb e)
    · by_cases hb : b = 108
      · subst hb; exact ⟨_, hP⟩
      · exact ⟨o, keep b o hb e⟩
end Mine
end
set_option maxRecDepth 100000 in
set_option maxHeartbeats 8000000 in
theorem PySem.Challenge.cw_fp5018_01_holds : PySem.Challenge.rw_fp5018_01.Holds := by
  exact Mine.hd (by
    k_fill
    intro w s₀ s₁ mg mb G Y fa o pm cd doc dV kV ho hd hcd hD hmg hg args vals as hpre hlay hrd hwl hlo
    have KX := km_in_of Y
    km_tabs Y
    have X := (Ground.X G).1
    have V := (Ground.X G).2
    refine Ground.open G ?_
    intro T B D TE TW
    try (refine guard_noD D (by decide +kernel) ?_; clear D)
    km_lay T hmg ho hd cd
    clear hmg
    wrow_args hpre hlay hrd hwl hlo
    first | refine callC_kw (enter_call ?_) | refine enter_call ?_
    w_top on
    w_call any ho hd hcd hD T F
    clear hd
    kn_ghosts F T
    refine Mine.law_fin (fa := fa) (cd := cd) hT9 (by assumption) (by assumption) (by assumption) (by assumption) lifted codeHd (by assumption) (by assumption) (by omega) (.of_eq hg) (Nat.le_add_left _ _) ?_
    intro s' hK hos hgens
    refine ⟨.inl ⟨_, .bool true, [], rfl, fun _ => rfl, .bool true, ?_, fun _ => ⟨.nil, fun _ h => nomatch h⟩⟩, hK, hos, hgens⟩
    kernel_rfl)
