import PyProof.Rows.All
import Wide.All
import OpenK.AllK
import Wide.FinOn
import PySem.Challenge.RW_ox0165_01
set_option Elab.async false
section
open PySem PySem.W PyProof.Rows
namespace Mine
set_option maxRecDepth 100000
set_option maxHeartbeats 8000000
abbrev VW : Program := view PySem.Challenge.pw_ox0165_01 [0, 2, 3, 4, 5, 6, 7, 8, 9, 11, 12, 13, 14, 16, 18, 19, 20, 21, 23, 24, 25, 26, 27, 28, 29, 30]
theorem said0 : PySem.Challenge.rw_ox0165_01.wellSaid = true := by
  rw [Fast.te9446332074065402090]
  kernel_rfl
local macro_rules | `(tactic| o_law) => `(tactic| refine holds_law said0 fun said => ?_)
local macro_rules | `(tactic| o_head $H) => `(tactic| (
  refine holds_open (q := VW) (loose := [Str.ofString "_tuplegetter", Str.ofString "_MIN_DIFF_LEN", Str.ofString "safe_repr", Str.ofString "Mismatch", Str.ofString "_Mismatch"])
    (Xt := fun s => xlAt VW [(Str.ofString "_MIN_DIFF_LEN", WData.int 41)] s && recOk (RowW.records PySem.Challenge.rw_ox0165_01.row.toRowW) s) (XP := XL VW [(Str.ofString "_MIN_DIFF_LEN", WData.int 41)])
    (Yf := Hook.obs $H) (Ya := Hook.val $H) (YP := Hook.says $H) (N := 4232) (fun w => by unfold openEnds fencedOpening topFrom; rw [Fast.te10274390034422433532, Fast.te14289696077712309145, Fast.te14082659384304107361, Fast.te4187177175401517315, Fast.te1435165496053646825, Fast.te8920871248978507458, Fast.te14364793385576792824]; kernel_rfl) (Hook.of $H) (Hook.keeps $H) (fun s e => xl_of s (Bool.and_eq_true_iff.mp e).1) XL.keeps (by rfl) (by rfl) (by rfl)
    (fun s e => recFacts_of (Bool.and_eq_true_iff.mp e).2) (by rfl) (by first | assumption | decide +kernel) (by decide +kernel) ⟨rfl, rfl, rfl, rfl, rfl, by decide +kernel⟩ ?$(Lean.mkIdent `hw) ?$(Lean.mkIdent `hc)))
open_top hd for PySem.Challenge.rw_ox0165_01
end Mine

end
section
open PySem PySem.W PyProof.Rows
set_option maxRecDepth 100000
namespace Mine

abbrev PG : Program := PySem.Challenge.pw_ox0165_01
noncomputable abbrev KF (w : World) : Frag := hd.heap_1 w.params

def Keeps (h h' : Heap) : Prop := ∀ b o, h.get? b = some o → h'.get? b = some o
def KeepsX (X : Addr → Prop) (h h' : Heap) : Prop := ∀ b o, ¬ X b → h.get? b = some o → h'.get? b = some o
theorem Keeps.refl (h : Heap) : Keeps h h := fun _ _ e => e
theorem Keeps.trans {a b c : Heap} (x : Keeps a b) (y : Keeps b c) : Keeps a c := fun _ _ e => y _ _ (x _ _ e)
theorem Keeps.x {X : Addr → Prop} {a b : Heap} (x : Keeps a b) : KeepsX X a b := fun _ _ _ e => x _ _ e
theorem Keeps.push (h : Heap) (o : Obj) : Keeps h (h.push o) := fun _ _ e => Heap.get?_push_of_some o e
theorem KeepsX.trans {X : Addr → Prop} {a b c : Heap} (x : KeepsX X a b) (y : KeepsX X b c) : KeepsX X a c := fun _ _ n e => y _ _ n (x _ _ n e)
theorem KeepsX.sameBut {X : Addr → Prop} {b : Addr} {h h' : Heap} (hs : Heap.SameBut b h h') (hb : X b) : KeepsX X h h' := fun a _ n e => (hs.2 a (fun q => n (q ▸ hb))).trans e

mutual
inductive RdD (h : Heap) (X : Addr → Prop) : Value → PyData → Prop
  | none : RdD h X .none .none
  | bool (b) : RdD h X (.bool b) (.bool b)
  | int (i t) : RdD h X (.int i t) (.int i)
  | str (x t) : RdD h X (.str x t) (.str x)
  | list {a vs n xs} : ¬ X a → h.get? a = some { cls := .type "list", data := .seq vs n } → RdAll h X vs.toList xs → RdD h X (.ref a) (.list xs)
  | tuple {a vs n xs} : ¬ X a → h.get? a = some { cls := .type "tuple", data := .seq vs n } → RdAll h X vs.toList xs → RdD h X (.ref a) (.tuple xs)
inductive RdAll (h : Heap) (X : Addr → Prop) : List Value → List PyData → Prop
  | nil : RdAll h X [] []
  | cons {v vs d ds} : RdD h X v d → RdAll h X vs ds → RdAll h X (v :: vs) (d :: ds)
end

theorem RdD.mono {h h' : Heap} {X X' : Addr → Prop} (hk : ∀ b o, ¬ X b → h.get? b = some o → h'.get? b = some o) (hx : ∀ b, ¬ X b → (h.get? b).isSome → ¬ X' b) {v : Value} {d : PyData} (r : RdD h X v d) : RdD h' X' v d := by
  refine RdD.rec (motive_1 := fun v d _ => RdD h' X' v d) (motive_2 := fun vs ds _ => RdAll h' X' vs ds) .none .bool .int .str ?_ ?_ .nil ?_ r
  · intro a vs n xs hn ho _ ih; exact .list (hx _ hn (by rw [ho]; rfl)) (hk _ _ hn ho) ih
  · intro a vs n xs hn ho _ ih; exact .tuple (hx _ hn (by rw [ho]; rfl)) (hk _ _ hn ho) ih
  · intro v vs d ds _ _ a b; exact .cons a b
theorem RdAll.mono {h h' : Heap} {X X' : Addr → Prop} (hk : ∀ b o, ¬ X b → h.get? b = some o → h'.get? b = some o) (hx : ∀ b, ¬ X b → (h.get? b).isSome → ¬ X' b) : ∀ {vs : List Value} {ds : List PyData}, RdAll h X vs ds → RdAll h' X' vs ds
  | _, _, .nil => .nil
  | _, _, .cons a b => .cons (a.mono hk hx) (b.mono hk hx)
theorem RdD.keeps {h h' : Heap} {X : Addr → Prop} (hk : KeepsX X h h') {v : Value} {d : PyData} (r : RdD h X v d) : RdD h' X v d := r.mono hk fun _ n _ => n
theorem RdAll.keeps {h h' : Heap} {X : Addr → Prop} (hk : KeepsX X h h') {vs : List Value} {ds : List PyData} (r : RdAll h X vs ds) : RdAll h' X vs ds := r.mono hk fun _ n _ => n
theorem RdD.less {h : Heap} {X X' : Addr → Prop} (hx : ∀ b, X' b → X b) {v : Value} {d : PyData} (r : RdD h X v d) : RdD h X' v d := r.mono (fun _ _ _ e => e) fun b n _ q => n (hx b q)
theorem RdAll.less {h : Heap} {X X' : Addr → Prop} (hx : ∀ b, X' b → X b) {vs : List Value} {ds : List PyData} (r : RdAll h X vs ds) : RdAll h X' vs ds := r.mono (fun _ _ _ e => e) fun b n _ q => n (hx b q)
theorem RdD.reads {h : Heap} {X : Addr → Prop} {v : Value} {d : PyData} (r : RdD h X v d) : ∃ as, Reads h v d as := by
  refine RdD.rec (motive_1 := fun v d _ => ∃ as, Reads h v d as) (motive_2 := fun vs ds _ => ∃ as, ReadsAll h vs ds as) ⟨_, .none⟩ (fun b => ⟨_, .bool b⟩) (fun i t => ⟨_, .int i t⟩) (fun x t => ⟨_, .str x t⟩) ?_ ?_ ⟨_, .nil⟩ ?_ r
  · intro a vs n xs _ ho _ ih; obtain ⟨as, ih⟩ := ih; exact ⟨_, .list ho rfl rfl ih⟩
  · intro a vs n xs _ ho _ ih; obtain ⟨as, ih⟩ := ih; exact ⟨_, .tuple ho rfl rfl ih⟩
  · intro v vs d ds _ _ a b; obtain ⟨as, a⟩ := a; obtain ⟨bs, b⟩ := b; exact ⟨_, .cons a b⟩
theorem RdAll.reads {h : Heap} {X : Addr → Prop} : ∀ {vs : List Value} {ds : List PyData}, RdAll h X vs ds → ∃ as, ReadsAll h vs ds as
  | _, _, .nil => ⟨_, .nil⟩
  | _, _, .cons a b => let ⟨_, a⟩ := a.reads; let ⟨_, b⟩ := b.reads; ⟨_, .cons a b⟩
theorem RdAll.length {h : Heap} {X : Addr → Prop} : ∀ {vs : List Value} {ds : List PyData}, RdAll h X vs ds → vs.length = ds.length
  | _, _, .nil => rfl
  | _, _, .cons _ b => congrArg (· + 1) b.length
theorem RdAll.append {h : Heap} {X : Addr → Prop} : ∀ {vs ws : List Value} {ds es : List PyData}, RdAll h X vs ds → RdAll h X ws es → RdAll h X (vs ++ ws) (ds ++ es)
  | _, _, _, _, .nil, y => y
  | _, _, _, _, .cons a b, y => .cons a (b.append y)
theorem RdAll.get {h : Heap} {X : Addr → Prop} : ∀ {vs : List Value} {ds : List PyData}, RdAll h X vs ds → ∀ {i : Nat} {d : PyData}, ds[i]? = some d → ∃ v, vs[i]? = some v ∧ RdD h X v d
  | _, _, .nil, _, _, e => by simp at e
  | _, _, .cons a b, 0, _, e => by simp at e; subst e; exact ⟨_, rfl, a⟩
  | _, _, .cons a b, i + 1, _, e => by simp at e; obtain ⟨v, h1, h2⟩ := b.get e; exact ⟨v, by simpa using h1, h2⟩

/-- what is known of a value -/
inductive AV where
  | dat (d : PyData)
  | val (v : Value)
  | such (P : Heap → (Addr → Prop) → Value → Prop) (hk : ∀ h h' X X' v, (∀ b o, ¬ X b → h.get? b = some o → h'.get? b = some o) → (∀ b, ¬ X b → (h.get? b).isSome → ¬ X' b) → P h X v → P h' X' v)

def RdA (h : Heap) (X : Addr → Prop) (v : Value) : AV → Prop
  | .dat d => RdD h X v d
  | .val u => v = u
  | .such P _ => P h X v
theorem RdA.mono {h h' : Heap} {X X' : Addr → Prop} (hk : ∀ b o, ¬ X b → h.get? b = some o → h'.get? b = some o) (hx : ∀ b, ¬ X b → (h.get? b).isSome → ¬ X' b) {v : Value} : ∀ {a : AV}, RdA h X v a → RdA h' X' v a
  | .dat _, r => RdD.mono hk hx r
  | .val _, r => r
  | .such _ m, r => m _ _ _ _ _ hk hx r
theorem RdA.keeps {h h' : Heap} {X : Addr → Prop} (hk : KeepsX X h h') {v : Value} {a : AV} (r : RdA h X v a) : RdA h' X v a := r.mono hk fun _ n _ => n
theorem RdA.less {h : Heap} {X X' : Addr → Prop} (hx : ∀ b, X' b → X b) {v : Value} {a : AV} (r : RdA h X v a) : RdA h X' v a := r.mono (fun _ _ _ e => e) fun b n _ q => n (hx b q)
inductive RdAs (h : Heap) (X : Addr → Prop) : List Value → List AV → Prop
  | nil : RdAs h X [] []
  | cons {v vs d ds} : RdA h X v d → RdAs h X vs ds → RdAs h X (v :: vs) (d :: ds)
theorem RdAs.mono {h h' : Heap} {X X' : Addr → Prop} (hk : ∀ b o, ¬ X b → h.get? b = some o → h'.get? b = some o) (hx : ∀ b, ¬ X b → (h.get? b).isSome → ¬ X' b) {vs : List Value} {as : List AV} (r : RdAs h X vs as) : RdAs h' X' vs as := by
  induction r with
  | nil => exact .nil
  | cons a _ ih => exact .cons (a.mono hk hx) ih
theorem RdAs.keeps {h h' : Heap} {X : Addr → Prop} (hk : KeepsX X h h') {vs : List Value} {as : List AV} (r : RdAs h X vs as) : RdAs h' X vs as := r.mono hk fun _ n _ => n
theorem RdAs.all {h : Heap} {X : Addr → Prop} : ∀ {vs : List Value} {ds : List PyData}, RdAs h X vs (ds.map AV.dat) → RdAll h X vs ds
  | [], [], .nil => .nil
  | _ :: _, _ :: _, .cons a b => .cons a b.all

/-- the heap holds the text's own objects -/
structure Good (w : World) (h : Heap) : Prop where
  K : (KF w).In h
  b : ∃ mb, h.Ns builtinsNs mb ∧ ∀ x : Str, x ≠ "__name__" → mb x = bootBuiltins x
  m : ∃ mg bm ob, BMod h mainGlobals mg bm ob
theorem Good.keeps {w : World} {h h' : Heap} (g : Good w h) (hk : Keeps h h') : Good w h' := ⟨g.K.keeps hk, (let ⟨mb, a, b⟩ := g.b; ⟨mb, a.keeps hk, b⟩), let ⟨mg, bm, ob, x⟩ := g.m; ⟨mg, bm, ob, x.keeps hk⟩⟩
theorem Good.statics {w : World} {h : Heap} (g : Good w h) : h.Ns cStatics (fun _ => none) :=
  ⟨_, #[], 0, g.K 2 _ rfl, rfl, fun _ he => by simp at he, fun _ => rfl⟩
theorem Good.nolimit {w : World} {h : Heap} (g : Good w h) : h.NoLimit := ⟨_, g.statics, rfl⟩

def Room (n : Nat) (A : Around) : Prop := A.depth + n < recursionLimit ∧ A.units + 20 * n + 300 < cLine ∧ (100 ≤ n → A.guards = some []) ∧ A.handled = none
theorem Room.less {n m : Nat} {A : Around} (r : Room n A) (h : m ≤ n) : Room m A := ⟨by have := r.1; omega, by have := r.2.1; omega, fun q => r.2.2.1 (by omega), r.2.2.2⟩
theorem Room.deeper {n : Nat} {A : Around} (r : Room (n + 1) A) (env : Env) : Room n (A.deeper env) := ⟨by have := r.1; show A.depth + 1 + n < _; omega, by have := r.2.1; show A.units + 3 + 20 * n + 300 < _; omega, fun q => r.2.2.1 (by omega), r.2.2.2⟩
theorem Room.in1 {n : Nat} {A : Around} (r : Room (n + 1) A) : Room n A.in1 := ⟨by have := r.1; show A.depth + n < _; omega, by have := r.2.1; show A.units + 1 + 20 * n + 300 < _; omega, fun q => r.2.2.1 (by omega), r.2.2.2⟩
theorem Room.depth {n : Nat} {A : Around} (r : Room n A) : A.depth < recursionLimit := by have := r.1; omega
theorem Room.units {n : Nat} {A : Around} (r : Room n A) : A.units < cLine := by have := r.2.1; omega

abbrev Sto := Str → Option AV
def Sto.set (σ : Sto) (x : Str) (a : AV) : Sto := fun y => if y = x then some a else σ y

structure Fit (sc : Scope) (env : Env) : Prop where
  scope : env.scope = sc
  kind : sc.kind = .function
  globals : env.globals = mainGlobals
  builtins : env.builtins = builtinsNs

structure EnvAt (w : World) (env : Env) (h₀ : Heap) (X : Addr → Prop) (h : Heap) (σ : Sto) : Prop where
  good : Good w h₀
  keep : Keeps h₀ h
  alive : ∀ a, X a → (h.get? a).isSome
  hidL : X env.locals
  above : h₀.get? env.locals = none
  loc : ∃ m, h.Ns env.locals m ∧ ∀ x a, σ x = some a → env.kindOf x = some .local → ∃ v, m x = some v ∧ RdA h X v a
  cel : ∀ x, env.kindOf x = some .cell ∨ env.kindOf x = some .free → ∃ c o ov, env.cells.lookup x = some c ∧ X c ∧ c ≠ env.locals ∧ h.get? c = some o ∧ o.data = .cell ov ∧ ∀ a, σ x = some a → ∃ v, ov = some v ∧ RdA h X v a

theorem ne_of_none {h : Heap} {a b : Addr} {o : Obj} (ha : h.get? a = none) (hb : h.get? b = some o) : b ≠ a := fun e => by rw [e, ha] at hb; cases hb
theorem none_at_size' (h : Heap) : h.get? h.objs.size = none := by
  cases q : h.get? h.objs.size with
  | none => rfl
  | some o => exact absurd (Heap.lt_size q) (Nat.lt_irrefl _)
theorem EnvAt.goodH {w env h₀ X h σ} (H : EnvAt w env h₀ X h σ) : Good w h := H.good.keeps H.keep
theorem EnvAt.keeps {w env h₀ X h h' σ} (H : EnvAt w env h₀ X h σ) (hk : Keeps h h') : EnvAt w env h₀ X h' σ where
  good := H.good
  keep := H.keep.trans hk
  alive := fun a ha => by
    obtain ⟨o, ho⟩ := Option.isSome_iff_exists.mp (H.alive a ha)
    rw [hk _ _ ho]; rfl
  hidL := H.hidL
  above := H.above
  loc := by
    obtain ⟨m, hm, hr⟩ := H.loc
    refine ⟨m, hm.keeps hk, fun x a e k => ?_⟩
    obtain ⟨v, hv, r⟩ := hr x a e k
    exact ⟨v, hv, r.keeps hk.x⟩
  cel := fun x k => by
    obtain ⟨c, o, ov, h1, h2, h3, h4, h5, h6⟩ := H.cel x k
    refine ⟨c, o, ov, h1, h2, h3, hk _ _ h4, h5, fun a e => ?_⟩
    obtain ⟨v, hv, r⟩ := h6 a e
    exact ⟨v, hv, r.keeps hk.x⟩
theorem EnvAt.new {w env h₀ X h σ} (H : EnvAt w env h₀ X h σ) : ¬ X h.objs.size := fun q => by
  obtain ⟨o, ho⟩ := Option.isSome_iff_exists.mp (H.alive _ q)
  exact absurd (Heap.lt_size ho) (Nat.lt_irrefl _)

/-- the expression comes out as a -/
def Ev (w : World) (n : Nat) (sc : Scope) (σ : Sto) (e : Expr) (a : AV) : Prop :=
  ∀ (A : Around) (env : Env) (h₀ : Heap) (X : Addr → Prop) (s : Shared) (Q : Value → Shared → Prop) (E : Value → Shared → Prop), Room n A → Fit sc env → EnvAt w env h₀ X s.heap σ →
    (∀ v h' tk', Keeps s.heap h' → RdA h' X v a → Q v { s with heap := h', toks := tk' }) → wpAny (model PG w) A (eval e env) Q E s
/-- as a test it comes out as b -/
def EvT (w : World) (n : Nat) (sc : Scope) (σ : Sto) (e : Expr) (b : Bool) : Prop :=
  ∀ (A : Around) (env : Env) (h₀ : Heap) (X : Addr → Prop) (s : Shared) (Q : Bool → Shared → Prop) (E : Value → Shared → Prop), Room n A → Fit sc env → EnvAt w env h₀ X s.heap σ →
    (∀ h' tk', Keeps s.heap h' → Q b { s with heap := h', toks := tk' }) → wpAny (model PG w) A (isTrue e env (eval e env)) Q E s
/-- a row of expressions -/
def EvL (w : World) (n : Nat) (sc : Scope) (σ : Sto) (es : List Expr) (as : List AV) : Prop :=
  ∀ (A : Around) (env : Env) (h₀ : Heap) (X : Addr → Prop) (pos : Pos) (s : Shared) (Q : List Value → Shared → Prop) (E : Value → Shared → Prop), Room n A → Fit sc env → EnvAt w env h₀ X s.heap σ →
    (∀ vs h' tk', Keeps s.heap h' → RdAs h' X vs as → Q vs { s with heap := h', toks := tk' }) → wpAny (model PG w) A (spliced (backTo pos (starEach es env))) Q E s
/-- a call of the text's def at f -/
def Fn (w : World) (n : Nat) (f : Addr) (as : List AV) (r : AV) : Prop :=
  ∀ (A : Around) (X : Addr → Prop) (s : Shared) (vals : List Value) (Q : Value → Shared → Prop) (E : Value → Shared → Prop), Room n A → Good w s.heap → (∀ a, X a → (s.heap.get? a).isSome) → RdAs s.heap X vals as →
    (∀ v h' tk', Keeps s.heap h' → RdA h' X v r → Q v { s with heap := h', toks := tk' }) → wpAny (model PG w) A (call (.ref f) vals) Q E s
end Mine

end
section
open PySem PySem.W PyProof.Rows
set_option maxRecDepth 100000
namespace Mine

def Alive (X : Addr → Prop) (h : Heap) : Prop := ∀ a, X a → (h.get? a).isSome
theorem Alive.keeps {X : Addr → Prop} {h h' : Heap} (x : Alive X h) (hk : Keeps h h') : Alive X h' := fun a ha => by
  obtain ⟨o, ho⟩ := Option.isSome_iff_exists.mp (x a ha)
  rw [hk _ _ ho]; rfl
theorem Alive.new {X : Addr → Prop} {h : Heap} (x : Alive X h) : ¬ X h.objs.size := fun q => by
  obtain ⟨o, ho⟩ := Option.isSome_iff_exists.mp (x _ q)
  exact absurd (Heap.lt_size ho) (Nat.lt_irrefl _)
theorem Alive.new' {X : Addr → Prop} {h : Heap} {a : Addr} (x : Alive X h) (ha : h.objs.size ≤ a) : ¬ X a := fun q => by
  obtain ⟨o, ho⟩ := Option.isSome_iff_exists.mp (x _ q)
  exact absurd (Heap.lt_size ho) (Nat.not_lt.mpr ha)

def Does1 (w : World) (n : Nat) (t : Value → Sem Value) (a r : AV) : Prop :=
  ∀ (A : Around) (X : Addr → Prop) (s : Shared) (u : Value) (Q : Value → Shared → Prop) (E : Value → Shared → Prop), Room n A → Good w s.heap → Alive X s.heap → RdA s.heap X u a →
    (∀ v h' tk', Keeps s.heap h' → RdA h' X v r → Q v { s with heap := h', toks := tk' }) → wpAny (model PG w) A (t u) Q E s
def Does2 (w : World) (n : Nat) (t : Value → Value → Sem Value) (a b r : AV) : Prop :=
  ∀ (A : Around) (X : Addr → Prop) (s : Shared) (u v : Value) (Q : Value → Shared → Prop) (E : Value → Shared → Prop), Room n A → Good w s.heap → Alive X s.heap → RdA s.heap X u a → RdA s.heap X v b →
    (∀ v h' tk', Keeps s.heap h' → RdA h' X v r → Q v { s with heap := h', toks := tk' }) → wpAny (model PG w) A (t u v) Q E s
def DoesL (w : World) (n : Nat) (t : List Value → Sem Value) (as : List AV) (r : AV) : Prop :=
  ∀ (A : Around) (X : Addr → Prop) (s : Shared) (vals : List Value) (Q : Value → Shared → Prop) (E : Value → Shared → Prop), Room n A → Good w s.heap → Alive X s.heap → RdAs s.heap X vals as →
    (∀ v h' tk', Keeps s.heap h' → RdA h' X v r → Q v { s with heap := h', toks := tk' }) → wpAny (model PG w) A (t vals) Q E s
/-- its truth -/
def Truth (w : World) (n : Nat) (a : AV) (b : Bool) : Prop :=
  ∀ (A : Around) (X : Addr → Prop) (s : Shared) (u : Value) (Q : Bool → Shared → Prop) (E : Value → Shared → Prop), Room n A → Good w s.heap → Alive X s.heap → RdA s.heap X u a →
    (∀ h' tk', Keeps s.heap h' → Q b { s with heap := h', toks := tk' }) → wpAny (model PG w) A (truthy u) Q E s

section
variable {w : World} {n : Nat} {sc : Scope} {σ : Sto}

theorem Ev.run {e : Expr} {a : AV} (he : Ev w n sc σ e a) {A : Around} {env : Env} {h₀ : Heap} {X : Addr → Prop} {s : Shared} {Q : Value → Shared → Prop} {E : Value → Shared → Prop} (R : Room n A) (F : Fit sc env) (H : EnvAt w env h₀ X s.heap σ)
    (h : ∀ v h' tk', Keeps s.heap h' → EnvAt w env h₀ X h' σ → RdA h' X v a → Q v { s with heap := h', toks := tk' }) : wpAny (model PG w) A (eval e env) Q E s :=
  he A env h₀ X s Q E R F H fun v h' tk' k r => h v h' tk' k (H.keeps k) r
theorem EvT.run {e : Expr} {b : Bool} (he : EvT w n sc σ e b) {A : Around} {env : Env} {h₀ : Heap} {X : Addr → Prop} {s : Shared} {Q : Bool → Shared → Prop} {E : Value → Shared → Prop} (R : Room n A) (F : Fit sc env) (H : EnvAt w env h₀ X s.heap σ)
    (h : ∀ h' tk', Keeps s.heap h' → EnvAt w env h₀ X h' σ → Q b { s with heap := h', toks := tk' }) : wpAny (model PG w) A (isTrue e env (eval e env)) Q E s :=
  he A env h₀ X s Q E R F H fun h' tk' k => h h' tk' k (H.keeps k)
theorem EvL.run {es : List Expr} {as : List AV} (he : EvL w n sc σ es as) {A : Around} {env : Env} {h₀ : Heap} {X : Addr → Prop} {pos : Pos} {s : Shared} {Q : List Value → Shared → Prop} {E : Value → Shared → Prop} (R : Room n A) (F : Fit sc env) (H : EnvAt w env h₀ X s.heap σ)
    (h : ∀ vs h' tk', Keeps s.heap h' → EnvAt w env h₀ X h' σ → RdAs h' X vs as → Q vs { s with heap := h', toks := tk' }) : wpAny (model PG w) A (spliced (backTo pos (starEach es env))) Q E s :=
  he A env h₀ X pos s Q E R F H fun v h' tk' k r => h v h' tk' k (H.keeps k) r

-- constants
theorem Ev_int {i : Int} {k : Nat} {pos : Pos} : Ev w n sc σ (.Constant (.int i) k pos) (.dat (.int i)) :=
  fun _ _ _ _ s _ _ _ _ _ h => wpAny_Constant_int (h _ s.heap _ (Keeps.refl _) (.int _ _))
theorem Ev_str {x : Str} {k : Nat} {pos : Pos} : Ev w n sc σ (.Constant (.str x) k pos) (.dat (.str x)) :=
  fun _ _ _ _ s _ _ _ _ _ h => wpAny_Constant_str (h _ s.heap _ (Keeps.refl _) (.str _ _))
theorem Ev_bool {b : Bool} {k : Nat} {pos : Pos} : Ev w n sc σ (.Constant (.bool b) k pos) (.dat (.bool b)) :=
  fun _ _ _ _ s _ _ _ _ _ h => wpAny_Constant_bool (h _ s.heap s.toks (Keeps.refl _) (.bool _))
theorem Ev_none {k : Nat} {pos : Pos} : Ev w n sc σ (.Constant .none k pos) (.dat .none) :=
  fun _ _ _ _ s _ _ _ _ _ h => wpAny_Constant_none (h _ s.heap s.toks (Keeps.refl _) .none)

-- names
theorem Ev_local {x : Str} {pos : Pos} {a : AV} (hk : sc.names.lookup x = some .local) (hx : σ x = some a) (hd : (x == ("__debug__" : Str)) = false := by decide) : Ev w n sc σ (.Name x pos) a := by
  intro A env h₀ X s Q E _ F H h
  have hk' : env.kindOf x = some .local := by unfold Env.kindOf; rw [F.scope]; exact hk
  obtain ⟨m, hm, hr⟩ := H.loc
  obtain ⟨v, hv, r⟩ := hr x a hx hk'
  refine wpAny_Name ?_ hd
  unfold loadName
  simp only [Env.blockKind, F.scope, F.kind, hk', ScopeKind.isAnnotationScope, Bool.false_and, Bool.false_eq_true, if_false]
  refine wpAny_bind (wpAny_nsGet hm ?_)
  rw [hv]
  exact wpAny_pure (h v s.heap s.toks (Keeps.refl _) r)
theorem Ev_cell {x : Str} {pos : Pos} {a : AV} (hk : sc.names.lookup x = some .cell) (hx : σ x = some a) (hd : (x == ("__debug__" : Str)) = false := by decide) : Ev w n sc σ (.Name x pos) a := by
  intro A env h₀ X s Q E _ F H h
  have hk' : env.kindOf x = some .cell := by unfold Env.kindOf; rw [F.scope]; exact hk
  obtain ⟨c, o, ov, h1, _, _, h4, h5, h6⟩ := H.cel x (.inl hk')
  obtain ⟨v, hv, r⟩ := h6 a hx
  refine wpAny_Name ?_ hd
  unfold loadName
  simp only [Env.blockKind, F.scope, F.kind, hk', ScopeKind.isAnnotationScope, Bool.false_and, Bool.false_eq_true, if_false]
  unfold cellOf
  rw [h1]
  refine wpAny_bind (wpAny_pure ?_)
  unfold cellGet
  refine wpAny_bind (wpAny_bind (wpAny_load h4 ?_))
  rw [h5, hv]
  exact wpAny_pure (wpAny_pure (h v s.heap s.toks (Keeps.refl _) r))
theorem Ev_glob {x : Str} {pos : Pos} {v : Value} (hk : sc.names.lookup x = some .globalImplicit) (hx : nsIn (KF w) mainGlobals x = some (some v)) (hd : (x == ("__debug__" : Str)) = false := by decide) : Ev w n sc σ (.Name x pos) (.val v) := by
  intro A env h₀ X s Q E _ F H h
  have hk' : env.kindOf x = some .globalImplicit := by unfold Env.kindOf; rw [F.scope]; exact hk
  refine Calls.Name_function_global (by rw [F.scope]; exact F.kind) hk' ?_ hd
  unfold loadGlobal
  rw [F.globals]
  refine wpAny_bind (Looks.here (looks_nsIn H.goodH.K hx) ?_)
  exact wpAny_pure (h v s.heap s.toks (Keeps.refl _) rfl)
theorem Ev_globI {x : Str} {pos : Pos} {i : Int} {t : Tok} (hk : sc.names.lookup x = some .globalImplicit) (hx : nsIn (KF w) mainGlobals x = some (some (.int i t))) (hd : (x == ("__debug__" : Str)) = false := by decide) : Ev w n sc σ (.Name x pos) (.dat (.int i)) :=
  fun A env h₀ X s Q E R F H h => Ev_glob hk hx hd A env h₀ X s Q E R F H fun v h' tk' k r => h v h' tk' k (by cases r; exact .int _ _)
theorem Ev_builtin {x : Str} {pos : Pos} {v : Value} (hk : sc.names.lookup x = some .globalImplicit) (hx : nsIn (KF w) mainGlobals x = some none) (hb : bootBuiltins x = some v) (hn : x ≠ "__name__") (hd : (x == ("__debug__" : Str)) = false := by decide) : Ev w n sc σ (.Name x pos) (.val v) := by
  intro A env h₀ X s Q E _ F H h
  have hk' : env.kindOf x = some .globalImplicit := by unfold Env.kindOf; rw [F.scope]; exact hk
  refine Calls.Name_function_global (by rw [F.scope]; exact F.kind) hk' ?_ hd
  unfold loadGlobal
  rw [F.globals]
  refine wpAny_bind (Looks.here (looks_nsIn H.goodH.K hx) ?_)
  obtain ⟨mb, hm, hmb⟩ := H.goodH.b
  rw [F.builtins]
  refine wpAny_bind (wpAny_nsGet hm ?_)
  rw [hmb x hn, hb]
  exact wpAny_pure (h v s.heap s.toks (Keeps.refl _) rfl)

-- rows
theorem EvL_nil : EvL w n sc σ [] [] := fun _ _ _ _ _ s _ _ _ _ _ h => wpAny_items_nil (h _ s.heap s.toks (Keeps.refl _) .nil)
theorem EvL_cons {e : Expr} {es : List Expr} {a : AV} {as : List AV} (he : Ev w n sc σ e a) (hes : EvL w n sc σ es as) (hs : ∀ env, starEach (e :: es) env = (false, eval e env) :: starEach es env := by intro _; rfl) : EvL w n sc σ (e :: es) (a :: as) := by
  intro A env h₀ X pos s Q E R F H h
  rw [hs env]
  refine Calls.spliced_cons ?_
  refine he.run R F H fun v h' tk' k H' r => ?_
  refine hes.run (s := { s with heap := h', toks := tk' }) R F H' fun vs h'' tk'' k' _ rs => ?_
  exact h _ _ _ (k.trans k') (.cons (r.keeps k'.x) rs)

-- operations
theorem Ev_bin {op : Operator} {l r : Expr} {pos : Pos} {a b c : AV} (hl : Ev w n sc σ l a) (hr : Ev w n sc σ r b) (ho : Does2 w n (binaryOp op) a b c) : Ev w n sc σ (.BinOp l op r pos) c := by
  intro A env h₀ X s Q E R F H h
  refine wpAny_BinOp ?_
  refine hl.run R F H fun u h' tk' k H' ru => ?_
  refine hr.run (s := { s with heap := h', toks := tk' }) R F H' fun v h'' tk'' k' H'' rv => ?_
  exact ho A X _ u v _ _ R H''.goodH H''.alive (ru.keeps k'.x) rv fun v h3 tk3 k3 r3 => h v h3 tk3 ((k.trans k').trans k3) r3
theorem Ev_cmp {op : CmpOp} {l r : Expr} {pos : Pos} {a b c : AV} (hl : Ev w n sc σ l a) (hr : Ev w n sc σ r b) (ho : Does2 w n (compareOp op) a b c) (hm : behindInMarks op r = false := by with_unfolding_all rfl) : Ev w n sc σ (.Compare l [op] [r] pos) c := by
  intro A env h₀ X s Q E R F H h
  refine wpAny_Compare1 ?_ hm
  refine hl.run R F H fun u h' tk' k H' ru => ?_
  refine hr.run (s := { s with heap := h', toks := tk' }) R F H' fun v h'' tk'' k' H'' rv => ?_
  exact ho A X _ u v _ _ R H''.goodH H''.alive (ru.keeps k'.x) rv fun v h3 tk3 k3 r3 => h v h3 tk3 ((k.trans k').trans k3) r3
theorem Ev_un {op : UnaryOp} {e : Expr} {pos : Pos} {a c : AV} (he : Ev w n sc σ e a) (ho : Does1 w n (unaryOp op) a c) : Ev w n sc σ (.UnaryOp op e pos) c := by
  intro A env h₀ X s Q E R F H h
  refine wpAny_UnaryOp ?_
  refine he.run R F H fun u h' tk' k H' ru => ?_
  exact ho A X _ u _ _ R H'.goodH H'.alive ru fun v h3 tk3 k3 r3 => h v h3 tk3 (k.trans k3) r3

-- tests
theorem EvT_cmp {op : CmpOp} {l r : Expr} {pos : Pos} {a b : AV} {c : Bool} (hl : Ev w n sc σ l a) (hr : Ev w n sc σ r b) (ho : Does2 w n (compareOp op) a b (.dat (.bool c))) (hm : behindInMarks op r = false := by with_unfolding_all rfl) : EvT w n sc σ (.Compare l [op] [r] pos) c := by
  intro A env h₀ X s Q E R F H h
  refine wpAny_isTrue_Compare1 ?_ hm
  refine hl.run R F H fun u h' tk' k H' ru => ?_
  refine hr.run (s := { s with heap := h', toks := tk' }) R F H' fun v h'' tk'' k' H'' rv => ?_
  refine ho A X _ u v _ _ R H''.goodH H''.alive (ru.keeps k'.x) rv fun v h3 tk3 k3 r3 => ?_
  cases r3
  exact wpAny_truthy_bool (h h3 tk3 ((k.trans k').trans k3))
theorem EvT_of {e : Expr} {a : AV} {b : Bool} (he : Ev w n sc σ e a) (ht : Truth w n a b) (hp : ∀ env wh, isTrue e env wh = (do let v ← wh; standAt e.pos; holding [v] (truthy v)) := by intro _ _; rfl) : EvT w n sc σ e b := by
  intro A env h₀ X s Q E R F H h
  refine wpAny_isTrue_value (he.run R F H fun u h' tk' k H' ru => ?_) (hp _ _)
  exact ht A X _ u _ _ R H'.goodH H'.alive ru fun h3 tk3 k3 => h h3 tk3 (k.trans k3)
theorem EvT_not {e : Expr} {pos : Pos} {b : Bool} (he : EvT w n sc σ e b) : EvT w n sc σ (.UnaryOp .Not e pos) (!b) := by
  intro A env h₀ X s Q E R F H h
  exact wpAny_isTrue_Not (he.run R F H fun h' tk' k H' => h h' tk' k)
end
end Mine

end
section
open PySem PySem.W PyProof.Rows
set_option maxRecDepth 100000
namespace Mine
section
variable {w : World} {n : Nat} {sc : Scope} {σ : Sto}
abbrev cB (id : String) : List Value → Sem Value := fun vs => call (.builtin id) vs
abbrev cT (T : String) : List Value → Sem Value := fun vs => call (.type T) vs
abbrev I (i : Int) : AV := .dat (.int i)
abbrev S (x : Str) : AV := .dat (.str x)
abbrev B (b : Bool) : AV := .dat (.bool b)

-- ints
theorem op_add {a b : Int} : Does2 w n (binaryOp .Add) (I a) (I b) (I (a + b)) := fun A X s u v Q E _ _ _ ru rv h => by
  cases ru; cases rv; exact add_int (h _ s.heap _ (Keeps.refl _) (.int _ _))
theorem op_sub {a b : Int} : Does2 w n (binaryOp .Sub) (I a) (I b) (I (a - b)) := fun A X s u v Q E _ _ _ ru rv h => by
  cases ru; cases rv; exact sub_int (h _ s.heap _ (Keeps.refl _) (.int _ _))
theorem op_mul {a b : Int} (hm : IntMulOk a b) : Does2 w n (binaryOp .Mult) (I a) (I b) (I (a * b)) := fun A X s u v Q E _ _ _ ru rv h => by
  cases ru; cases rv; exact mul_int (h _ s.heap _ (Keeps.refl _) (.int _ _)) hm
theorem op_mod {a b : Int} (hb : b ≠ 0) : Does2 w n (binaryOp .Mod) (I a) (I b) (I (a.fmod b)) := fun A X s u v Q E _ _ _ ru rv h => by
  cases ru; cases rv; exact mod_int hb (h _ s.heap _ (Keeps.refl _) (.int _ _))
theorem op_fdiv {a b : Int} (hb : b ≠ 0) (hs : b.natAbs < 1073741824) : Does2 w n (binaryOp .FloorDiv) (I a) (I b) (I (a.fdiv b)) := fun A X s u v Q E _ _ _ ru rv h => by
  cases ru; cases rv; exact floordiv_int hb (h _ s.heap _ (Keeps.refl _) (.int _ _)) (.inl (PyProof.noPylong_small hs))
theorem op_pow {a b : Int} (h0 : 0 ≤ b) (h1 : b ≤ 1000000) (ha : a.natAbs < 2 ^ 64) : Does2 w n (binaryOp .Pow) (I a) (I b) (I (a ^ b.toNat)) := fun A X s u v Q E _ _ _ ru rv h => by
  cases ru; cases rv; exact pow_int_small h0 h1 ha (h _ s.heap _ (Keeps.refl _) (.int _ _))
theorem op_iadd {a b : Int} : Does2 w n (inplaceOp .Add) (I a) (I b) (I (a + b)) := fun A X s u v Q E _ _ _ ru rv h => by
  cases ru; cases rv; exact iadd_int (h _ s.heap _ (Keeps.refl _) (.int _ _))
theorem op_neg {a : Int} : Does1 w n (unaryOp .USub) (I a) (I (-a)) := fun A X s u Q E _ _ _ ru h => by
  cases ru; exact neg_int (h _ s.heap _ (Keeps.refl _) (.int _ _))
theorem op_lt {a b : Int} : Does2 w n (compareOp .Lt) (I a) (I b) (B (decide (a < b))) := fun A X s u v Q E _ _ _ ru rv h => by
  cases ru; cases rv; exact lt_int (h _ s.heap s.toks (Keeps.refl _) (.bool _))
theorem op_gt {a b : Int} : Does2 w n (compareOp .Gt) (I a) (I b) (B (decide (b < a))) := fun A X s u v Q E _ _ _ ru rv h => by
  cases ru; cases rv; exact gt_int (h _ s.heap s.toks (Keeps.refl _) (.bool _))
theorem op_le {a b : Int} : Does2 w n (compareOp .LtE) (I a) (I b) (B (decide (a ≤ b))) := fun A X s u v Q E _ _ _ ru rv h => by
  cases ru; cases rv; exact le_int (h _ s.heap s.toks (Keeps.refl _) (.bool _))
theorem op_eqI {a b : Int} : Does2 w n (compareOp .Eq) (I a) (I b) (B (a == b)) := fun A X s u v Q E _ _ _ ru rv h => by
  cases ru; cases rv; exact eq_int (h _ s.heap s.toks (Keeps.refl _) (.bool _))
theorem op_neI {a b : Int} : Does2 w n (compareOp .NotEq) (I a) (I b) (B (a != b)) := fun A X s u v Q E _ _ _ ru rv h => by
  cases ru; cases rv; exact ne_int (h _ s.heap s.toks (Keeps.refl _) (.bool _))
-- strs
theorem op_eqS {a b : Str} : Does2 w n (compareOp .Eq) (S a) (S b) (B (a == b)) := fun A X s u v Q E _ _ _ ru rv h => by
  cases ru; cases rv; exact eq_str (h _ s.heap s.toks (Keeps.refl _) (.bool _))
theorem op_neS {a b : Str} : Does2 w n (compareOp .NotEq) (S a) (S b) (B (a != b)) := fun A X s u v Q E _ _ _ ru rv h => by
  cases ru; cases rv; exact ne_str (h _ s.heap s.toks (Keeps.refl _) (.bool _))
theorem op_cat {a b : Str} (hz : a.length + b.length ≤ sizeLine) : Does2 w n (binaryOp .Add) (S a) (S b) (S (a ++ b)) := fun A X s u v Q E _ _ _ ru rv h => by
  cases ru; cases rv; exact SB.add (fun t' k => h _ s.heap _ (Keeps.refl _) (.str _ _)) hz
theorem op_smul {a : Str} {k : Int} (hok : MulOk a k) : Does2 w n (binaryOp .Mult) (S a) (I k) (S (Txt.mul a k)) := fun A X s u v Q E _ _ _ ru rv h => by
  cases ru; cases rv; exact SB.mul hok (fun t' k => h _ s.heap _ (Keeps.refl _) (.str _ _))
-- data
def Plain (d : PyData) : Prop := d.canLay0 = true ∧ d.depth ≤ 60
theorem op_eqD {a b : PyData} (ha : Plain a) (hb : Plain b) : Does2 w n (compareOp .Eq) (.dat a) (.dat b) (B (PyData.eqv a b)) := fun A X s u v Q E R _ _ ru rv h => by
  obtain ⟨as, ra⟩ := RdD.reads ru; obtain ⟨bs, rb⟩ := RdD.reads rv
  refine SeqAt.compareEq_reads ra rb ha.1 hb.1 ?_ (h _ s.heap s.toks (Keeps.refl _) (.bool _))
  have h1 : min a.depth b.depth ≤ a.depth := Nat.min_le_left _ _
  have := ha.2; have := R.2.1; omega
theorem op_inL {x : PyData} {xs : List PyData} (hx : Plain x) (hxs : Plain (.list xs)) : Does2 w n (compareOp .In) (.dat x) (.dat (.list xs)) (B (xs.any fun y => PyData.eqv y x)) := fun A X s u v Q E R _ _ ru rv h => by
  obtain ⟨as, ra⟩ := RdD.reads ru; obtain ⟨bs, rb⟩ := RdD.reads rv
  have hc : PyData.canLayAll0 xs = true := by simpa [PyData.canLay0] using hxs.1
  refine SeqAt.in_list_reads rb ra hc hx.1 ?_ (h _ s.heap s.toks (Keeps.refl _) (.bool _))
  have h1 : min (PyData.depthAll xs) x.depth ≤ x.depth := Nat.min_le_right _ _
  have := hx.2; have := R.2.1; omega
theorem op_notInL {x : PyData} {xs : List PyData} (hx : Plain x) (hxs : Plain (.list xs)) : Does2 w n (compareOp .NotIn) (.dat x) (.dat (.list xs)) (B (!xs.any fun y => PyData.eqv y x)) := fun A X s u v Q E R _ _ ru rv h => by
  obtain ⟨as, ra⟩ := RdD.reads ru; obtain ⟨bs, rb⟩ := RdD.reads rv
  have hc : PyData.canLayAll0 xs = true := by simpa [PyData.canLay0] using hxs.1
  refine SeqAt.notIn_list_reads rb ra hc hx.1 ?_ (h _ s.heap s.toks (Keeps.refl _) (.bool _))
  have h1 : min (PyData.depthAll xs) x.depth ≤ x.depth := Nat.min_le_right _ _
  have := hx.2; have := R.2.1; omega
-- truth
theorem tr_bool {b : Bool} : Truth w n (B b) b := fun A X s u Q E _ _ _ ru h => by cases ru; exact wpAny_truthy_bool (h s.heap s.toks (Keeps.refl _))
-- lens
theorem len_S {x : Str} (hf : x.length ≤ sizeLine) : DoesL w n (cB "len") [S x] (I x.length) := fun A X s vals Q E _ _ _ rs h => by
  cases rs with | cons r rs => cases rs; cases r; exact P.len_str (by rw [sizeLine_eq] at hf; omega) (h _ s.heap _ (Keeps.refl _) (.int _ _))
theorem len_L {xs : List PyData} (hf : xs.length ≤ sizeLine) : DoesL w n (cB "len") [.dat (.list xs)] (I xs.length) := fun A X s vals Q E _ _ _ rs h => by
  cases rs with | cons r rs =>
    cases rs; cases r with
    | list hn ho ra =>
      rename_i vs _
      have e : vs.size = xs.length := by have := ra.length; simpa using this
      refine len_list ⟨_, ho, rfl, _, rfl⟩ (by rw [e]; rw [sizeLine_eq] at hf; omega) ?_
      rw [e]
      exact h _ s.heap _ (Keeps.refl _) (.int _ _)
end
end Mine

end
section
open PySem PySem.W PyProof.Rows
set_option maxRecDepth 100000
namespace Mine
section
variable {w : World} {n : Nat} {sc : Scope} {σ : Sto}

/-- its type, and no dict of its own -/
def HasT (a : AV) (T : String) : Prop := ∀ (s : Shared) (X : Addr → Prop) (v : Value), RdA s.heap X v a → s.TypeIs v T ∧ ∀ l, v = .ref l → ∃ ob, s.heap.get? l = some ob ∧ ob.dict = none
theorem hasT_str {x : Str} : HasT (S x) "str" := fun s X v r => by cases r; exact ⟨typeIs_str _ _ _, fun _ e => nomatch e⟩
theorem hasT_int {x : Int} : HasT (I x) "int" := fun s X v r => by cases r; exact ⟨typeIs_int _ _ _, fun _ e => nomatch e⟩
theorem hasT_list {xs : List PyData} : HasT (.dat (.list xs)) "list" := fun s X v r => by
  cases r with | list _ ho _ => exact ⟨⟨_, ho, rfl⟩, fun l e => by cases e; exact ⟨_, ho, rfl⟩⟩
theorem hasT_tuple {xs : List PyData} : HasT (.dat (.tuple xs)) "tuple" := fun s X v r => by
  cases r with | tuple _ ho _ => exact ⟨⟨_, ho, rfl⟩, fun l e => by cases e; exact ⟨_, ho, rfl⟩⟩

-- displays
theorem Ev_tuple {es : List Expr} {k : Nat} {pos : Pos} {ds : List PyData} (he : EvL w n sc σ es (ds.map AV.dat)) (hz : ds.length ≤ sizeLine) : Ev w n sc σ (.Tuple es k pos) (.dat (.tuple ds)) := by
  intro A env h₀ X s Q E R F H h
  refine wpAny_Tuple (he.run R F H fun vs h' tk' k H' rs => ?_)
  have ra := rs.all
  refine ⟨by rw [ra.length]; exact hz, h _ (h'.push { cls := .type "tuple", data := .seq vs.toArray }) tk' (k.trans (Keeps.push _ _)) ?_⟩
  exact .tuple H'.new (Heap.get?_push_size _ rfl) (by simpa using ra.keeps (Keeps.push _ _).x)
theorem Ev_list {es : List Expr} {pos : Pos} {ds : List PyData} (he : EvL w n sc σ es (ds.map AV.dat)) (hz : ds.length ≤ sizeLine) : Ev w n sc σ (.List es pos) (.dat (.list ds)) := by
  intro A env h₀ X s Q E R F H h
  refine wpAny_List (he.run R F H fun vs h' tk' k H' rs => ?_)
  have ra := rs.all
  refine ⟨by rw [ra.length]; exact hz, h _ (h'.push { cls := .type "list", data := .seq vs.toArray }) tk' (k.trans (Keeps.push _ _)) ?_⟩
  exact .list H'.new (Heap.get?_push_size _ rfl) (by simpa using ra.keeps (Keeps.push _ _).x)

-- calls
theorem evalArgs_of {e : Expr} {es : List Expr} {as : List AV} (he : EvL w n sc σ (e :: es) as) {f : Value} {A : Around} {env : Env} {h₀ : Heap} {X : Addr → Prop} {pos : Pos} {s : Shared} {Q : Args → Shared → Prop} {E : Value → Shared → Prop} (R : Room n A) (F : Fit sc env) (H : EnvAt w env h₀ X s.heap σ)
    (hs : starEach (e :: es) env = (false, eval e env) :: starEach es env)
    (h : ∀ vs h' tk', Keeps s.heap h' → EnvAt w env h₀ X h' σ → RdAs h' X vs as → Q ⟨vs, []⟩ { s with heap := h', toks := tk' }) : wpAny (model PG w) A (evalArgs f true (backTo pos (starEach (e :: es) env)) []) Q E s := by
  have hr := he.run (pos := pos) (Q := fun vs s' => Q ⟨vs, []⟩ s') (E := E) R F H h
  rw [hs] at hr ⊢
  exact Calls.evalArgs_plain hr
theorem Ev_callB {x : Str} {p pos : Pos} {id : String} {e : Expr} {es : List Expr} {as : List AV} {r : AV} (hf : Ev w n sc σ (.Name x p) (.val (.builtin id))) (he : EvL w n sc σ (e :: es) as) (hd : DoesL w n (cB id) as r)
    (hs : ∀ env, starEach (e :: es) env = (false, eval e env) :: starEach es env := by intro _; rfl) (hp : ∀ env, (backTo pos (starEach (e :: es) env)).any (·.1) = false := by intro _; rfl) : Ev w n sc σ (.Call (.Name x p) (e :: es) [] pos) r := by
  intro A env h₀ X s Q E R F H h
  refine Call_Name rfl (hf.run R F H fun v h' tk' k H' rv => ?_)
  cases rv
  refine Calls.callWith_builtin (hp env) (evalArgs_of he (s := { s with heap := h', toks := tk' }) R F H' (hs env) fun vs h2 tk2 k2 H2 rs => ?_)
  exact hd A X _ vs _ _ R H2.goodH H2.alive rs fun v h3 tk3 k3 r3 => h v h3 tk3 ((k.trans k2).trans k3) r3
theorem Ev_callT {x : Str} {p pos : Pos} {T : String} {e : Expr} {es : List Expr} {as : List AV} {r : AV} (hf : Ev w n sc σ (.Name x p) (.val (.type T))) (he : EvL w n sc σ (e :: es) as) (hd : DoesL w n (cT T) as r)
    (hs : ∀ env, starEach (e :: es) env = (false, eval e env) :: starEach es env := by intro _; rfl) (hp : ∀ env, (backTo pos (starEach (e :: es) env)).any (·.1) = false := by intro _; rfl) : Ev w n sc σ (.Call (.Name x p) (e :: es) [] pos) r := by
  intro A env h₀ X s Q E R F H h
  refine Call_Name rfl (hf.run R F H fun v h' tk' k H' rv => ?_)
  cases rv
  refine PyProof.Rows.callWith_type (hp env) (evalArgs_of he (s := { s with heap := h', toks := tk' }) R F H' (hs env) fun vs h2 tk2 k2 H2 rs => ?_)
  exact hd A X _ vs _ _ R H2.goodH H2.alive rs fun v h3 tk3 k3 r3 => h v h3 tk3 ((k.trans k2).trans k3) r3
theorem Ev_callF {x : Str} {p pos : Pos} {f : Addr} {o : Obj} {fd : FuncData} {e : Expr} {es : List Expr} {as : List AV} {r : AV} (hf : Ev w n sc σ (.Name x p) (.val (.ref f))) (ho : (KF w).lookup f = some o) (hfd : o.data = .func fd) (he : EvL w n sc σ (e :: es) as) (hd : Fn w n f as r)
    (hs : ∀ env, starEach (e :: es) env = (false, eval e env) :: starEach es env := by intro _; rfl) : Ev w n sc σ (.Call (.Name x p) (e :: es) [] pos) r := by
  intro A env h₀ X s Q E R F H h
  refine Call_Name rfl (hf.run R F H fun v h' tk' k H' rv => ?_)
  cases rv
  refine Calls.callWith_function (o := o) (fd := fd) (evalArgs_of he (s := { s with heap := h', toks := tk' }) R F H' (hs env) fun vs h2 tk2 k2 H2 rs => ⟨⟨H2.goodH.K _ _ ho, hfd⟩, ?_⟩)
  exact hd A X _ vs _ _ R H2.goodH H2.alive rs fun v h3 tk3 k3 r3 => h v h3 tk3 ((k.trans k2).trans k3) r3
/-- a method of a built-in type, one argument -/
theorem Ev_meth1 {o e : Expr} {name : Str} {apos pos : Pos} {a b r : AV} {T id : String} (ho : Ev w n sc σ o a) (he : Ev w n sc σ e b) (hT : HasT a T) (pa : PlainAttrs T) (slot : Slot T name id) (hty : typeOf (.builtin id) = pure (.type "method_descriptor"))
    (hd : DoesL w n (cB id) [a, b] r)
    (hbase : ∀ env, attributeBase o name env (eval o env) = eval o env := by intro _; rfl) (hs : ∀ env, starEach [e] env = [(false, eval e env)] := by intro _; rfl) (hline : (apos.endLine == pos.line) = true := by rfl) :
    Ev w n sc σ (.Call (.Attribute o name apos) [e] [] pos) r := by
  intro A env h₀ X s Q E R F H h
  refine Call_method1 (hbase env) (hs env) hline (ho.run R F H fun v h' tk' k H' rv => ?_)
  obtain ⟨h1, h2⟩ := hT { s with heap := h', toks := tk' } X v rv
  refine ⟨T, id, pa, slot, hty, h1, h2, ?_⟩
  refine Calls.callWith_builtin rfl (Calls.evalArgs_plain (Calls.spliced_cons ?_))
  refine he.run (s := { s with heap := h', toks := tk' }) R F H' fun u h2 tk2 k2 H2 ru => Calls.spliced_nil ?_
  exact hd A X _ [v, u] _ _ R H2.goodH H2.alive (.cons (rv.keeps k2.x) (.cons ru .nil)) fun v h3 tk3 k3 r3 => h v h3 tk3 ((k.trans k2).trans k3) r3

-- branches
theorem Ev_ifexp {t b o : Expr} {pos : Pos} {c : Bool} {x : AV} (ht : EvT w n sc σ t c) (hb : c = true → Ev w n sc σ b x) (ho : c = false → Ev w n sc σ o x) : Ev w n sc σ (.IfExp t b o pos) x := by
  intro A env h₀ X s Q E R F H h
  refine wpAny_IfExp (ht.run R F H fun h' tk' k H' => ?_)
  cases hc : c with
  | true => exact (hb hc).run (s := { s with heap := h', toks := tk' }) R F H' fun v h2 tk2 k2 _ r => h v h2 tk2 (k.trans k2) r
  | false => exact (ho hc).run (s := { s with heap := h', toks := tk' }) R F H' fun v h2 tk2 k2 _ r => h v h2 tk2 (k.trans k2) r
theorem EvT_and {x y : Expr} {pos : Pos} {a b : Bool} (hx : EvT w n sc σ x a) (hy : a = true → EvT w n sc σ y b) : EvT w n sc σ (.BoolOp .And [x, y] pos) (a && b) := by
  intro A env h₀ X s Q E R F H h
  refine wpAny_isTrue_BoolOp (wpAny_allTrue_And_cons (hx.run R F H fun h' tk' k H' => ?_))
  cases ha : a with
  | false => exact h _ _ k |> fun q => by rw [ha] at q; exact q
  | true =>
    refine wpAny_allTrue_And_cons ((hy ha).run (s := { s with heap := h', toks := tk' }) R F H' fun h2 tk2 k2 _ => ?_)
    have q := h h2 tk2 (k.trans k2)
    rw [ha] at q
    cases hb : b with
    | false => rw [hb] at q; exact q
    | true => rw [hb] at q; exact wpAny_allTrue_And_nil q
theorem EvT_or {x y : Expr} {pos : Pos} {a b : Bool} (hx : EvT w n sc σ x a) (hy : a = false → EvT w n sc σ y b) : EvT w n sc σ (.BoolOp .Or [x, y] pos) (a || b) := by
  intro A env h₀ X s Q E R F H h
  refine wpAny_isTrue_BoolOp (wpAny_allTrue_Or_cons (hx.run R F H fun h' tk' k H' => ?_))
  cases ha : a with
  | true => exact h _ _ k |> fun q => by rw [ha] at q; exact q
  | false =>
    refine wpAny_allTrue_Or_cons ((hy ha).run (s := { s with heap := h', toks := tk' }) R F H' fun h2 tk2 k2 _ => ?_)
    have q := h h2 tk2 (k.trans k2)
    rw [ha] at q
    cases hb : b with
    | true => rw [hb] at q; exact q
    | false => rw [hb] at q; exact wpAny_allTrue_Or_nil q
theorem Ev_or {x y : Expr} {pos : Pos} {a b r : AV} {t : Bool} (hx : Ev w n sc σ x a) (ht : Truth w n a t) (h1 : t = true → a = r) (h2 : t = false → Ev w n sc σ y b ∧ b = r) : Ev w n sc σ (.BoolOp .Or [x, y] pos) r := by
  intro A env h₀ X s Q E R F H h
  refine wpAny_Or2 (hx.run R F H fun v h' tk' k H' rv => ?_)
  refine ht A X _ v _ _ R H'.goodH H'.alive rv fun h3 tk3 k3 => ?_
  cases hc : t with
  | true => rw [h1 hc] at rv; exact h v h3 tk3 (k.trans k3) (rv.keeps k3.x)
  | false =>
    obtain ⟨hy, e⟩ := h2 hc
    subst e
    exact hy.run (s := { s with heap := h3, toks := tk3 }) R F (H'.keeps k3) fun v h4 tk4 k4 _ r => h v h4 tk4 ((k.trans k3).trans k4) r

-- subscripts
theorem Ev_sub {v i : Expr} {pos : Pos} {a b r : AV} {T id : String} (hv : Ev w n sc σ v a) (hi : Ev w n sc σ i b) (hT : HasT a T) (hl : typeLookup (.type T) "__getitem__" = pure (some (.builtin id))) (hg : Does2 w n getItem a b r)
    (hs : ∀ o j, ∃ ops, subscripted i false o j = operate ops (getItem o j) := by intro _ _; exact ⟨_, rfl⟩) : Ev w n sc σ (.Subscript v i pos) r := by
  intro A env h₀ X s Q E R F H h
  refine Subscript_ (hv.run R F H fun u h' tk' k H' ru => ?_)
  refine hi.run (s := { s with heap := h', toks := tk' }) R F H' fun j h2 tk2 k2 H2 rj => ?_
  obtain ⟨ops, e⟩ := hs u j
  have ru' := ru.keeps k2.x
  refine tail_any (hT { s with heap := h2, toks := tk2 } X u ru').1 hl ?_ e
  exact hg A X _ u j _ _ R H2.goodH H2.alive ru' rj fun v h3 tk3 k3 r3 => h v h3 tk3 ((k.trans k2).trans k3) r3
def IsSl (lo hi st : Option Int) (h : Heap) (X : Addr → Prop) (v : Value) : Prop := ∃ a vl vu vs, v = .ref a ∧ ¬ X a ∧ h.get? a = some { cls := .type "slice", data := .fields #[vl, vu, vs] } ∧ IsPart vl lo ∧ IsPart vu hi ∧ IsPart vs st
def SL (lo hi st : Option Int) : AV := .such (IsSl lo hi st) fun h h' X X' v hk hx ⟨a, vl, vu, vs, e, hn, ho, p⟩ => ⟨a, vl, vu, vs, e, hx _ hn (by rw [ho]; rfl), hk _ _ hn ho, p⟩
inductive EvP (w : World) (n : Nat) (sc : Scope) (σ : Sto) : Option Expr → Option Int → Prop
  | none : EvP w n sc σ none none
  | some {e : Expr} {i : Int} : Ev w n sc σ e (I i) → EvP w n sc σ (some e) (some i)
theorem EvP.run {o : Option Expr} {i : Option Int} (he : EvP w n sc σ o i) {A : Around} {env : Env} {h₀ : Heap} {X : Addr → Prop} {s : Shared} {Q : Value → Shared → Prop} {E : Value → Shared → Prop} (R : Room n A) (F : Fit sc env) (H : EnvAt w env h₀ X s.heap σ)
    (h : ∀ v h' tk', Keeps s.heap h' → EnvAt w env h₀ X h' σ → IsPart v i → Q v { s with heap := h', toks := tk' }) : wpAny (model PG w) A (evalPart o env) Q E s := by
  cases he with
  | none => exact wpAny_pure (h _ s.heap s.toks (Keeps.refl _) H .none)
  | some he => exact he.run R F H fun v h' tk' k H' r => h v h' tk' k H' (by cases r; exact .int _ _)
theorem Ev_slice {lo hi st : Option Expr} {p : Pos} {l u t : Option Int} (hl : EvP w n sc σ lo l) (hu : EvP w n sc σ hi u) (ht : EvP w n sc σ st t) : Ev w n sc σ (.Slice lo hi st p) (SL l u t) := by
  intro A env h₀ X s Q E R F H h
  refine wpAny_Slice (hl.run R F H fun vl h1 tk1 k1 H1 pl => hu.run (s := { s with heap := h1, toks := tk1 }) R F H1 fun vu h2 tk2 k2 H2 pu => ht.run (s := { s with heap := h2, toks := tk2 }) R F H2 fun vs h3 tk3 k3 H3 ps => ?_)
  exact h _ (h3.push { cls := .type "slice", data := .fields #[vl, vu, vs] }) tk3 (((k1.trans k2).trans k3).trans (Keeps.push _ _)) ⟨_, vl, vu, vs, rfl, H3.new, Heap.get?_push_size _ rfl, pl, pu, ps⟩
theorem part_of {v : Value} {i : Option Int} (p : IsPart v i) : ∃ j : Option (Int × Tok), v = partValue j ∧ j.map (·.1) = i := by
  cases p with
  | none => exact ⟨none, rfl, rfl⟩
  | int i t => exact ⟨some (i, t), rfl, rfl⟩
theorem get_sl_str {x : Str} {l u : Option Int} (hz : x.length ≤ sizeLine) : Does2 w n getItem (S x) (SL l u none) (S (Txt.slice x l u)) := fun A X s o j Q E R _ _ ro rj h => by
  cases ro
  obtain ⟨a, vl, vu, vs, rfl, hn, ho, pl, pu, ps⟩ := rj
  obtain ⟨jl, rfl, rfl⟩ := part_of pl
  obtain ⟨ju, rfl, rfl⟩ := part_of pu
  cases ps
  refine wpAny_getItem_str_slice (l := jl) (u := ju) (st := none) ⟨_, ho, rfl, rfl⟩ rfl ?_
  exact post_val_or_str ⟨Nat.le_trans (Txt.slice_le x _ _) hz, fun t' k => h _ s.heap _ (Keeps.refl _) (.str _ _)⟩
theorem get_item_str {x : Str} {i : Int} (hf : fitsSsize i = true) (hin : (Txt.charAt x i).isSome = true) : Does2 w n getItem (S x) (I i) (S (Txt.item x i)) := fun A X s o j Q E R _ _ ro rj h => by
  cases ro; cases rj
  exact SB.getItem hf hin (h _ s.heap _ (Keeps.refl _) (.str _ _))
theorem get_item_list {xs : List PyData} {i : Int} {d : PyData} (h0 : 0 ≤ i) (hf : i < 2 ^ 63) (hx : xs[i.toNat]? = some d) : Does2 w n getItem (.dat (.list xs)) (I i) (.dat d) := fun A X s o j Q E R _ _ ro rj h => by
  cases rj
  cases ro with | list hn ho ra =>
    obtain ⟨v, hv, rv⟩ := ra.get hx
    exact wpAny_getItem_list ⟨_, ho, rfl, _, rfl⟩ h0 hf (by simpa using hv) (h _ s.heap s.toks (Keeps.refl _) rv)
theorem get_item_tuple {xs : List PyData} {i : Int} {d : PyData} {k : Nat} (hl : -2 ^ 63 ≤ i) (hf : i < 2 ^ 63) (hk : seqIndex? i xs.length = some k) (hx : xs[k]? = some d) : Does2 w n getItem (.dat (.tuple xs)) (I i) (.dat d) := fun A X s o j Q E R _ _ ro rj h => by
  cases rj
  cases ro with | tuple hn ho ra =>
    rename_i vs _
    have e : vs.size = xs.length := by have := ra.length; simpa using this
    obtain ⟨v, hv, rv⟩ := ra.get hx
    exact P.getItem_tuple ho hl hf (by rw [e]; exact hk) (by simpa using hv) (h _ s.heap s.toks (Keeps.refl _) rv)
end
end Mine

end
section
open PySem PySem.W PyProof.Rows
set_option maxRecDepth 100000
set_option linter.unusedVariables false
namespace Mine

/-- the frame's cells are its own -/
structure Own (env : Env) (h₀ : Heap) : Prop where
  above : ∀ x c, env.cells.lookup x = some c → h₀.get? c = none
  inj : ∀ x y c, env.cells.lookup x = some c → env.cells.lookup y = some c → x = y
  kind : ∀ x c, env.cells.lookup x = some c → env.kindOf x = some .cell

section
variable {w : World} {n : Nat} {sc : Scope} {σ : Sto} {A : Around} {env : Env} {h₀ : Heap} {X : Addr → Prop} {s : Shared} {E : Value → Shared → Prop}

theorem Room.hh {n : Nat} {A : Around} (r : Room n A) : A.handled = none := r.2.2.2
theorem isSome_sameBut {b a : Addr} {h h' : Heap} (hs : Heap.SameBut b h h') (hb : (h'.get? b).isSome) (ha : (h.get? a).isSome) : (h'.get? a).isSome := by
  by_cases e : a = b
  · subst e; exact hb
  · rw [hs.2 a e]; exact ha

theorem store_localS {x : Str} {v : Value} {a : AV} {Q : Unit → Shared → Prop} (F : Fit sc env) (H : EnvAt w env h₀ X s.heap σ) (hk : sc.names.lookup x = some .local) (r : RdA s.heap X v a)
    (h : ∀ h' tk', EnvAt w env h₀ X h' (σ.set x a) → KeepsX X s.heap h' → Heap.SameBut env.locals s.heap h' → Q () { s with heap := h', toks := tk' }) : wpAny (model PG w) A (storeName env x v) Q E s := by
  have hk' : env.kindOf x = some .local := by unfold Env.kindOf; rw [F.scope]; exact hk
  have hp : (env.scope.kind == .class || (env.scope.kind == .module && env.locals != env.globals)) = false := by rw [F.scope, F.kind]; rfl
  obtain ⟨m, hm, hr⟩ := H.loc
  rw [storeName_local hk' hp]
  refine wpAny_nsSet hm fun h' hn hs => ?_
  have kx : KeepsX X s.heap h' := .sameBut hs H.hidL
  have hLs : (h'.get? env.locals).isSome := by obtain ⟨o, _, _, ho, _⟩ := hn; rw [ho]; rfl
  refine h h' _ ⟨H.good, ?_, ?_, H.hidL, H.above, ⟨_, hn, ?_⟩, ?_⟩ kx hs
  · intro b o e
    have hb : b ≠ env.locals := ne_of_none H.above e
    exact (hs.2 b hb).trans (H.keep b o e)
  · exact fun b hb => isSome_sameBut hs hLs (H.alive b hb)
  · intro y c e k
    unfold Sto.set at e
    by_cases q : y = x
    · rw [if_pos q] at e ⊢; cases e; exact ⟨v, rfl, r.keeps kx⟩
    · rw [if_neg q] at e ⊢
      obtain ⟨u, hu, ru⟩ := hr y c e k
      exact ⟨u, hu, ru.keeps kx⟩
  · intro y k
    obtain ⟨c, o, ov, h1, h2, h3, h4, h5, h6⟩ := H.cel y k
    refine ⟨c, o, ov, h1, h2, h3, (hs.2 c h3).trans h4, h5, fun b e => ?_⟩
    have q : y ≠ x := by
      rintro rfl
      rw [hk'] at k
      rcases k with k | k <;> cases k
    unfold Sto.set at e
    rw [if_neg q] at e
    obtain ⟨u, hu, ru⟩ := h6 b e
    exact ⟨u, hu, ru.keeps kx⟩

theorem store_local {x : Str} {v : Value} {a : AV} {Q : Unit → Shared → Prop} (F : Fit sc env) (H : EnvAt w env h₀ X s.heap σ) (hk : sc.names.lookup x = some .local) (r : RdA s.heap X v a)
    (h : ∀ h' tk', EnvAt w env h₀ X h' (σ.set x a) → KeepsX X s.heap h' → Q () { s with heap := h', toks := tk' }) : wpAny (model PG w) A (storeName env x v) Q E s :=
  store_localS F H hk r fun h' tk' a b _ => h h' tk' a b

theorem store_cell {x : Str} {v : Value} {a : AV} {Q : Unit → Shared → Prop} (F : Fit sc env) (O : Own env h₀) (H : EnvAt w env h₀ X s.heap σ) (hk : sc.names.lookup x = some .cell) (r : RdA s.heap X v a)
    (h : ∀ h' tk', EnvAt w env h₀ X h' (σ.set x a) → KeepsX X s.heap h' → Q () { s with heap := h', toks := tk' }) : wpAny (model PG w) A (storeName env x v) Q E s := by
  have hk' : env.kindOf x = some .cell := by unfold Env.kindOf; rw [F.scope]; exact hk
  obtain ⟨c, o, ov, h1, h2, h3, h4, h5, h6⟩ := H.cel x (.inl hk')
  have e : storeName env x v = (do cellSet (← cellOf env x) (some v)) := by
    unfold storeName
    simp only [hk', F.scope, F.kind]
    rfl
  rw [e]
  unfold cellOf
  rw [h1]
  refine wpAny_bind (wpAny_pure ?_)
  unfold cellSet
  refine wpAny_bind (wpAny_load h4 ?_)
  rw [h5]
  refine wpAny_update h4 ?_
  have hs : Heap.SameBut c s.heap (s.heap.update c fun o => { o with data := .cell (some v) }) := Heap.SameBut.update ..
  have hg : (s.heap.update c fun o => { o with data := .cell (some v) }).get? c = some { o with data := .cell (some v) } := Heap.get?_update_self _ h4 rfl
  have kx : KeepsX X s.heap _ := .sameBut hs h2
  have hc : ((s.heap.update c fun o => { o with data := .cell (some v) }).get? c).isSome := by rw [hg]; rfl
  refine h _ s.toks ⟨H.good, ?_, ?_, H.hidL, H.above, ?_, ?_⟩ kx
  · intro b o e
    have hb : b ≠ c := ne_of_none (O.above _ _ h1) e
    exact (hs.2 b hb).trans (H.keep b o e)
  · exact fun b hb => isSome_sameBut hs hc (H.alive b hb)
  · obtain ⟨m, hm, hr⟩ := H.loc
    refine ⟨m, hm.sameBut hs h3.symm, fun y b e k => ?_⟩
    have q : y ≠ x := by rintro rfl; rw [hk'] at k; cases k
    unfold Sto.set at e
    rw [if_neg q] at e
    obtain ⟨u, hu, ru⟩ := hr y b e k
    exact ⟨u, hu, ru.keeps kx⟩
  · intro y k
    by_cases q : y = x
    · subst q
      refine ⟨c, _, some v, h1, h2, h3, hg, rfl, fun b e => ?_⟩
      unfold Sto.set at e
      rw [if_pos rfl] at e
      cases e
      exact ⟨v, rfl, r.keeps kx⟩
    · obtain ⟨c', o', ov', g1, g2, g3, g4, g5, g6⟩ := H.cel y k
      have hne : c' ≠ c := by rintro rfl; exact q (O.inj _ _ _ g1 h1)
      refine ⟨c', o', ov', g1, g2, g3, (hs.2 c' hne).trans g4, g5, fun b e => ?_⟩
      unfold Sto.set at e
      rw [if_neg q] at e
      obtain ⟨u, hu, ru⟩ := g6 b e
      exact ⟨u, hu, ru.keeps kx⟩

theorem store_any {x : Str} {v : Value} {a : AV} {Q : Unit → Shared → Prop} (F : Fit sc env) (O : Own env h₀) (H : EnvAt w env h₀ X s.heap σ) (hk : sc.names.lookup x = some .local ∨ sc.names.lookup x = some .cell) (r : RdA s.heap X v a)
    (h : ∀ h' tk', EnvAt w env h₀ X h' (σ.set x a) → KeepsX X s.heap h' → Q () { s with heap := h', toks := tk' }) : wpAny (model PG w) A (storeName env x v) Q E s :=
  hk.elim (fun k => store_local F H k r h) fun k => store_cell F O H k r h

-- statements
abbrev Run (w : World) (A : Around) (ss : List Stmt) (env : Env) (Q : Flow → Shared → Prop) (E : Value → Shared → Prop) (s : Shared) : Prop := wpAny (model PG w) A (execs ss env) Q E s

theorem st_assign {x : Str} {p pos : Pos} {e : Expr} {a : AV} {rest : List Stmt} {Q : Flow → Shared → Prop} (he : Ev w n sc σ e a) (hk : sc.names.lookup x = some .local ∨ sc.names.lookup x = some .cell) (R : Room n A) (F : Fit sc env) (O : Own env h₀) (H : EnvAt w env h₀ X s.heap σ)
    (h : ∀ h' tk', EnvAt w env h₀ X h' (σ.set x a) → Run w A rest env Q E { s with heap := h', toks := tk' })
    (hsw : swapsWith e (some (.Name x p)) pos.line env = pure false := by rfl) : Run w A (.Assign [.Name x p] e pos :: rest) env Q E s := by
  refine wpAny_execs_cons (wpAny_Assign_Name (he.run R F H fun v h' tk' k H' r => ?_) hsw)
  exact store_any F O H' hk r fun h2 tk2 H2 _ => h h2 tk2 H2
theorem st_aug {x : Str} {p pos : Pos} {op : Operator} {e : Expr} {a b c : AV} {rest : List Stmt} {Q : Flow → Shared → Prop} (hx : σ x = some a) (he : Ev w n sc σ e b) (ho : Does2 w n (inplaceOp op) a b c) (hk : sc.names.lookup x = some .local) (R : Room n A) (F : Fit sc env) (H : EnvAt w env h₀ X s.heap σ)
    (h : ∀ h' tk', EnvAt w env h₀ X h' (σ.set x c) → Run w A rest env Q E { s with heap := h', toks := tk' }) : Run w A (.AugAssign (.Name x p) op e pos :: rest) env Q E s := by
  refine wpAny_execs_cons (wpAny_AugAssign_Name ?_)
  have hk' : env.kindOf x = some .local := by unfold Env.kindOf; rw [F.scope]; exact hk
  obtain ⟨m, hm, hr⟩ := H.loc
  obtain ⟨v, hv, r⟩ := hr x a hx hk'
  refine wpAny_loadName_local (by rw [F.scope]; exact F.kind) hk' hm hv ?_
  refine he.run R F H fun u h' tk' k H' ru => ?_
  refine ho A X _ v u _ _ R H'.goodH H'.alive (r.keeps k.x) ru fun v3 h3 tk3 k3 r3 => ?_
  exact store_local (s := { s with heap := h3, toks := tk3 }) F (H'.keeps k3) hk r3 fun h4 tk4 H4 _ => h h4 tk4 H4
theorem st_if {t : Expr} {b o rest : List Stmt} {pos : Pos} {c : Bool} {Q : Flow → Shared → Prop} (ht : EvT w n sc σ t c) (R : Room n A) (F : Fit sc env) (H : EnvAt w env h₀ X s.heap σ)
    (h1 : c = true → ∀ h' tk', EnvAt w env h₀ X h' σ → Run w A b env (fun f s' => match f with | .next => Run w A rest env Q E s' | f => Q f s') E { s with heap := h', toks := tk' })
    (h2 : c = false → ∀ h' tk', EnvAt w env h₀ X h' σ → Run w A o env (fun f s' => match f with | .next => Run w A rest env Q E s' | f => Q f s') E { s with heap := h', toks := tk' }) : Run w A (.If t b o pos :: rest) env Q E s := by
  refine wpAny_execs_cons (wpAny_If (ht.run R F H fun h' tk' k H' => ?_))
  cases hc : c with
  | true => exact h1 hc h' tk' H'
  | false => exact h2 hc h' tk' H'
theorem st_nil {Q : Flow → Shared → Prop} (h : Q .next s) : Run w A [] env Q E s := wpAny_execs_nil h
theorem st_return {e : Expr} {pos : Pos} {rest : List Stmt} {a : AV} {Q : Flow → Shared → Prop} (he : Ev w n sc σ e a) (R : Room n A) (F : Fit sc env) (H : EnvAt w env h₀ X s.heap σ)
    (h : ∀ v h' tk', EnvAt w env h₀ X h' σ → RdA h' X v a → Q (.ret v) { s with heap := h', toks := tk' }) : Run w A (.Return (some e) pos :: rest) env Q E s :=
  wpAny_execs_cons (wpAny_Return_some (he.run R F H fun v h' tk' k H' r => h v h' tk' H' r))
theorem st_assert {e : Expr} {msg : Option Expr} {pos : Pos} {rest : List Stmt} {Q : Flow → Shared → Prop} (he : EvT w n sc σ e true) (R : Room n A) (F : Fit sc env) (H : EnvAt w env h₀ X s.heap σ)
    (h : ∀ h' tk', EnvAt w env h₀ X h' σ → Run w A rest env Q E { s with heap := h', toks := tk' }) : Run w A (.Assert e msg pos :: rest) env Q E s :=
  wpAny_execs_cons (wpAny_Assert_holds (he.run R F H fun h' tk' k H' => ⟨rfl, h h' tk' H'⟩))
/-- an expression whose value is no reference -/
theorem st_expr {e : Expr} {pos : Pos} {rest : List Stmt} {d : AV} {Q : Flow → Shared → Prop} (he : Ev w n sc σ e d) (hd : ∀ h X v a, RdA h X v d → v ≠ .ref a) (R : Room n A) (F : Fit sc env) (H : EnvAt w env h₀ X s.heap σ)
    (h : ∀ h' tk', EnvAt w env h₀ X h' σ → Run w A rest env Q E { s with heap := h', toks := tk' })
    (hs : swapsWith e none pos.line env = pure false := by rfl) : Run w A (.Expr e pos :: rest) env Q E s := by
  have hi : interactive env = false := by unfold interactive; rw [F.scope, F.kind]; rfl
  refine wpAny_execs_cons (wpAny_Expr (he.run R F H fun v h' tk' k H' r => ?_) hi hs)
  have hv : ∀ a, v ≠ .ref a := fun a => hd _ _ _ a r
  cases v <;> first | exact h h' tk' H' | exact absurd rfl (hv _)
end
end Mine

end
section
open PySem PySem.W PyProof.Rows
set_option maxRecDepth 100000
set_option linter.unusedVariables false
namespace Mine

def Sto.empty : Sto := fun _ => none
def Sto.ofL : List (Str × AV) → Sto := fun l => l.foldl (fun σ p => σ.set p.1 p.2) Sto.empty

/-- the body comes back with r -/
def Body (w : World) (n : Nat) (sc : Scope) (σ : Sto) (body : List Stmt) (r : AV) : Prop :=
  ∀ (A : Around) (env : Env) (h₀ : Heap) (X : Addr → Prop) (s : Shared) (Q : Flow → Shared → Prop) (E : Value → Shared → Prop), Room n A → Fit sc env → Own env h₀ → EnvAt w env h₀ X s.heap σ →
    (∀ v h' tk', Keeps h₀ h' → RdA h' X v r → Q (.ret v) { s with heap := h', toks := tk' }) → Run w A body env Q E s

structure CellsOk (h₁ h : Heap) (names : List (Str × NameKind)) (cs : List (Str × Addr)) : Prop where
  keep : Keeps h₁ h
  obj : ∀ x c, (x, c) ∈ cs → h.get? c = some { cls := .type "cell", data := .cell none } ∧ h₁.objs.size ≤ c ∧ c < h.objs.size
  nodup : (cs.map (·.2)).Nodup
  keys : ∀ x, (x, NameKind.cell) ∈ names → ∃ c, (x, c) ∈ cs
  back : ∀ x c, (x, c) ∈ cs → (x, NameKind.cell) ∈ names

theorem lookup_mem {x : Str} {c : Addr} : ∀ {cs : List (Str × Addr)}, cs.lookup x = some c → (x, c) ∈ cs
  | [], h => by cases h
  | (y, d) :: cs, h => by
    rw [List.lookup_cons] at h
    by_cases e : x == y
    · rw [e] at h
      have : x = y := by simpa using e
      subst this
      cases h; exact .head _
    · have : (x == y) = false := by simpa using e
      rw [this] at h
      exact .tail _ (lookup_mem h)
theorem lookup_some {x : Str} : ∀ {cs : List (Str × Addr)}, (∃ c, (x, c) ∈ cs) → ∃ c, cs.lookup x = some c
  | [], ⟨_, h⟩ => nomatch h
  | (y, d) :: cs, ⟨c, h⟩ => by
    rw [List.lookup_cons]
    by_cases e : x == y
    · rw [e]; exact ⟨d, rfl⟩
    · have e' : (x == y) = false := by simpa using e
      rw [e']
      cases h with
      | head => simp at e
      | tail _ h => exact lookup_some ⟨c, h⟩

section
variable {w : World} {A : Around} {E : Value → Shared → Prop}

theorem alloc_cells {L : Heap} (names : List (Str × NameKind)) {s : Shared} {Q : List (Str × Addr) → Shared → Prop} (hk : Keeps L s.heap) (hz : L.objs.size ≤ s.heap.objs.size)
    (h : ∀ cs h', CellsOk L h' names cs → Q cs { s with heap := h' }) :
    wpAny (model PG w) A (forIn names ([] : List (Str × Addr)) (fun (x : Str × NameKind) (cells : List (Str × Addr)) => (if x.2 == .cell then (do let a ← alloc { cls := .type "cell", data := .cell none }; pure (ForInStep.yield ((x.1, a) :: cells))) else pure (ForInStep.yield cells) : Sem (ForInStep (List (Str × Addr)))))) Q E s := by
  refine wpAny_forIn_list _ (fun rest cs s' => ∃ done h', names = done ++ rest ∧ s' = { s with heap := h' } ∧ CellsOk L h' done cs ∧ L.objs.size ≤ h'.objs.size) _ ?_ ?_ names [] ⟨[], s.heap, rfl, rfl, ⟨hk, fun _ _ h => (nomatch h), List.nodup_nil, fun _ h => (nomatch h), fun _ _ h => (nomatch h)⟩, hz⟩
  · rintro ⟨x, kd⟩ rest cs s' ⟨done, h', hn, rfl, C, hz⟩
    dsimp only
    by_cases hc : (kd == NameKind.cell) = true
    · rw [if_pos hc]
      have hkd : kd = .cell := by simpa using hc
      subst hkd
      refine wpAny_bind (wpAny_alloc (wpAny_pure ⟨done ++ [(x, .cell)], _, by simp [hn], rfl, ⟨C.keep.trans (Keeps.push _ _), ?_, ?_, ?_, ?_⟩, by rw [Heap.size_push]; exact Nat.le_succ_of_le hz⟩))
      · intro y c hm
        rcases List.mem_cons.mp hm with e | hm
        · cases e; exact ⟨Heap.get?_push_size _ rfl, hz, by rw [Heap.size_push]; exact Nat.lt_succ_self _⟩
        · obtain ⟨a, b, c'⟩ := C.obj y c hm
          exact ⟨Heap.get?_push_of_some _ a, b, by rw [Heap.size_push]; exact Nat.lt_succ_of_lt c'⟩
      · rw [List.map_cons, List.nodup_cons]
        refine ⟨fun hm => ?_, C.nodup⟩
        obtain ⟨⟨y, c⟩, hm, e⟩ := List.mem_map.mp hm
        have := (C.obj y c hm).2.2
        dsimp only at e
        rw [e] at this
        exact absurd this (Nat.lt_irrefl _)
      · intro y hy
        rcases List.mem_append.mp hy with hy | hy
        · obtain ⟨c, hc⟩ := C.keys y hy; exact ⟨c, .tail _ hc⟩
        · simp at hy; subst hy; exact ⟨_, .head _⟩
      · intro y c hm
        rcases List.mem_cons.mp hm with e | hm
        · cases e; simp
        · exact List.mem_append.mpr (.inl (C.back y c hm))
    · rw [if_neg hc]
      refine wpAny_pure ⟨done ++ [(x, kd)], h', by simp [hn], rfl, ⟨C.keep, C.obj, C.nodup, fun y hy => ?_, fun y c hm => List.mem_append.mpr (.inl (C.back y c hm))⟩, hz⟩
      rcases List.mem_append.mp hy with hy | hy
      · exact C.keys y hy
      · simp at hy; exact absurd (by rw [← hy.2]; rfl) hc
  · rintro cs s' ⟨done, h', hn, rfl, C, _⟩
    rw [List.append_nil] at hn
    subst hn
    exact h cs h' C

/-- a new frame: its own addresses are hidden -/
theorem new_env {n : Nat} {sc : Scope} {binds : List (Str × Value)} {as : List AV} {qual : Str} {f : Option Addr} {code : Value} {X : Addr → Prop} {s : Shared} {Q : Env → Shared → Prop}
    (G : Good w s.heap) (hX : Alive X s.heap) (hk : sc.kind = .function) (hfree : ∀ x, sc.names.lookup x ≠ some .free) (hcell : ∀ x, sc.names.lookup x = some .cell → (x, NameKind.cell) ∈ sc.names) (hcellB : ∀ p ∈ sc.names, p.2 = .cell → sc.names.lookup p.1 = some .cell)
    (hbk : ∀ p ∈ binds, sc.names.lookup p.1 = some .local ∨ sc.names.lookup p.1 = some .cell) (rs : RdAs s.heap X (binds.map (·.2)) as)
    (h : ∀ env X' h' tk', Fit sc env → env.code = code ∧ env.frame = some env.locals ∧ (∀ b, (s.heap.get? b).isSome → X' b → X b) → Own env s.heap → (∀ a, X a → X' a) → EnvAt w env s.heap X' h' (Sto.ofL ((binds.map (·.1)).zip as)) → Q env { s with heap := h', toks := tk' }) :
    wpAny (model PG w) A (newFunctionEnv sc mainGlobals [] binds qual f code none builtinsNs) Q E s := by
  unfold newFunctionEnv
  simp only [Option.isSome_none, Bool.false_eq_true, if_false]
  refine wpAny_bind (wpAny_alloc ?_)
  refine wpAny_bind (alloc_cells (L := s.heap.push { cls := .type "frame", data := .dict #[] }) sc.names (s := { s with heap := s.heap.push { cls := .type "frame", data := .dict #[] } }) (Keeps.refl _) (Nat.le_refl _) fun cs h1 C => ?_)
  dsimp only
  have hL1 : h1.get? s.heap.objs.size = some { cls := .type "frame", data := .dict #[] } := C.keep _ _ (Heap.get?_push_size _ rfl)
  have hsz : (s.heap.push { cls := .type "frame", data := .dict #[] }).objs.size = s.heap.objs.size + 1 := Heap.size_push _ _
  let X' : Addr → Prop := fun a => X a ∨ a = s.heap.objs.size ∨ ∃ x, (x, a) ∈ cs
  have hnew : ∀ a, (s.heap.get? a).isSome → ¬ X a → ¬ X' a := by
    intro a ha hn hx
    obtain ⟨o, ho⟩ := Option.isSome_iff_exists.mp ha
    have hlt := Heap.lt_size ho
    rcases hx with hx | hx | ⟨x, hx⟩
    · exact hn hx
    · rw [hx] at hlt; exact Nat.lt_irrefl _ hlt
    · have := (C.obj x a hx).2.1; rw [hsz] at this; exact absurd hlt (Nat.not_lt.mpr (Nat.le_of_succ_le this))
  have k0 : Keeps s.heap h1 := (Keeps.push _ _).trans C.keep
  have hlow : ∀ x c, cs.lookup x = some c → s.heap.objs.size < c := fun x c e => by have := (C.obj x c (lookup_mem e)).2.1; rw [hsz] at this; omega
  generalize henv : ({ scope := sc, locals := s.heap.objs.size, globals := mainGlobals, cells := cs, qual, func := f, code, frame := some s.heap.objs.size, builtins := builtinsNs } : Env) = env
  have F : Fit sc env := by subst henv; exact ⟨rfl, hk, rfl, rfl⟩
  have hcs : env.cells = cs := by subst henv; rfl
  have hloc : env.locals = s.heap.objs.size := by subst henv; rfl
  have O : Own env s.heap := by
    refine ⟨fun x c e => ?_, fun x y c e e' => ?_, fun x c e => ?_⟩
    · rw [hcs] at e
      cases q : s.heap.get? c with
      | none => rfl
      | some o => exact absurd (Heap.lt_size q) (Nat.not_lt.mpr (Nat.le_of_lt (hlow x c e)))
    · rw [hcs] at e e'
      have m1 := lookup_mem e
      have m2 := lookup_mem e'
      exact nodup_key C.nodup m1 m2
    · rw [hcs] at e
      have m := C.back x c (lookup_mem e)
      unfold Env.kindOf
      rw [F.scope]
      exact hcellB _ m rfl
  have H0 : EnvAt w env s.heap X' h1 Sto.empty := by
    refine ⟨G, k0, ?_, by rw [hloc]; exact .inr (.inl rfl), by rw [hloc]; exact none_at_size' _, ?_, ?_⟩
    · intro a ha
      rcases ha with ha | ha | ⟨x, ha⟩
      · obtain ⟨o, ho⟩ := Option.isSome_iff_exists.mp (hX a ha); rw [k0 _ _ ho]; rfl
      · rw [ha, hL1]; rfl
      · rw [(C.obj x a ha).1]; rfl
    · rw [hloc]
      exact ⟨fun _ => none, (Heap.Ns.new s.heap (.type "frame")).keeps C.keep, fun x a e => by cases e⟩
    · intro x kx
      have e : env.kindOf x = sc.names.lookup x := by unfold Env.kindOf; rw [F.scope]
      rw [e] at kx
      rcases kx with kx | kx
      · obtain ⟨c, hc⟩ := lookup_some (C.keys x (hcell x kx))
        have hm := lookup_mem hc
        refine ⟨c, _, none, by rw [hcs]; exact hc, .inr (.inr ⟨x, hm⟩), ?_, (C.obj x c hm).1, rfl, fun a e => by cases e⟩
        rw [hloc]; exact Nat.ne_of_gt (hlow x c hc)
      · exact absurd kx (hfree x)
  have rs1 : RdAs h1 X' (binds.map (·.2)) as := rs.mono (fun b o _ e => k0 b o e) fun b hn hs => hnew b hs hn
  have key : ∀ (bs : List (Str × Value)) (cs' : List AV) (σ : Sto) (s1 : Shared) (Q' : PUnit → Shared → Prop), (∀ p ∈ bs, sc.names.lookup p.1 = some .local ∨ sc.names.lookup p.1 = some .cell) → RdAs s1.heap X' (bs.map (·.2)) cs' → EnvAt w env s.heap X' s1.heap σ →
      (∀ h' tk', EnvAt w env s.heap X' h' (((bs.map (·.1)).zip cs').foldl (fun σ p => σ.set p.1 p.2) σ) → Q' ⟨⟩ { s1 with heap := h', toks := tk' }) →
      wpAny (model PG w) A (forIn bs (⟨⟩ : PUnit) fun p _ => do storeName env p.1 p.2; pure (ForInStep.yield ⟨⟩)) Q' E s1 := by
    intro bs
    induction bs with
    | nil =>
      intro cs' σ s1 Q' _ r H hQ
      cases r
      rw [List.forIn_nil]
      exact wpAny_pure (hQ s1.heap s1.toks H)
    | cons p bs ih =>
      intro cs' σ s1 Q' hb r H hQ
      rw [List.forIn_cons]
      cases r with
      | cons r1 r2 =>
        refine wpAny_bind (wpAny_bind (store_any F O H (hb p (.head _)) r1 fun h2 tk2 H2 kx => wpAny_pure ?_))
        refine ih _ _ { s1 with heap := h2, toks := tk2 } Q' (fun q hq => hb q (.tail _ hq)) (r2.keeps kx) H2 fun h3 tk3 H3 => hQ h3 tk3 H3
  refine wpAny_bind (key binds as Sto.empty { s with heap := h1 } _ hbk rs1 H0 fun h' tk' H' => ?_)
  exact wpAny_pure (h env X' h' tk' F (by subst henv; exact ⟨rfl, rfl, fun b hb hx => Classical.byContradiction fun hn => hnew b hb hn hx⟩) O (fun a ha => .inl ha) H')
where
  nodup_key : ∀ {cs : List (Str × Addr)}, (cs.map (·.2)).Nodup → ∀ {x y : Str} {c : Addr}, (x, c) ∈ cs → (y, c) ∈ cs → x = y
    | [], _, _, _, _, h, _ => nomatch h
    | (z, d) :: cs, hn, x, y, c, h1, h2 => by
      rw [List.map_cons, List.nodup_cons] at hn
      cases h1 with
      | head => cases h2 with
        | head => rfl
        | tail _ h2 => exact absurd (List.mem_map.mpr ⟨_, h2, rfl⟩) hn.1
      | tail _ h1 => cases h2 with
        | head => exact absurd (List.mem_map.mpr ⟨_, h1, rfl⟩) hn.1
        | tail _ h2 => exact nodup_key hn.2 h1 h2
end

/-- a def of the text, by its body -/
theorem Fn_of {w : World} {n : Nat} {f : Addr} {o : Obj} {fd : FuncData} {body : List Stmt} {xs : List Str} {as : List AV} {r : AV}
    (ho : (KF w).lookup f = some o) (hfd : o.data = .func fd) (hbody : fd.body = .stmts body) (hb : Body w n fd.scope (Sto.ofL (xs.zip as)) body r)
    (hbind : ∀ vals : List Value, vals.length = as.length → bindArgs fd ⟨vals, []⟩ = pure (xs.zip vals)) (hlen : xs.length = as.length)
    (hcode : codeIn (KF w) fd.code fd.qualname = true) (hg : fd.globals = mainGlobals) (hbi : fd.builtins = builtinsNs) (hcl : fd.closure = [])
    (hco : fd.scope.isCoroutine = false) (hgen : fd.scope.isGenerator = false) (hk : fd.scope.kind = .function)
    (hfree : ∀ p ∈ fd.scope.names, p.2 ≠ .free) (hxs : ∀ x ∈ xs, fd.scope.names.lookup x = some .local ∨ fd.scope.names.lookup x = some .cell) (hcb : ∀ p ∈ fd.scope.names, p.2 = .cell → fd.scope.names.lookup p.1 = some .cell := by decide) : Fn w (n + 1) f as r := by
  intro A X s vals Q E R G hX rs h
  have hlv : vals.length = as.length := by
    clear h hbind hb hlen
    induction rs with
    | nil => rfl
    | cons _ _ ih => simp [ih]
  refine wpAny_call (codeAny_call_function R.depth (G.K _ _ ho) hfd hco hgen hbody (codeRec_of G.K hcode) ?_)
  rw [hbind vals hlv]
  refine wpAny_pure ?_
  rw [hg, hbi, hcl]
  have e2 : (xs.zip vals).map (·.2) = vals := by rw [List.map_snd_zip]; omega
  have e1 : (xs.zip vals).map (·.1) = xs := by rw [List.map_fst_zip]; omega
  refine new_env (as := as) (n := n) G hX hk (fun x e => ?_) (fun x e => lookup_mem_kind e) hcb (fun p hp => hxs p.1 (List.of_mem_zip hp).1) (by rw [e2]; exact rs) fun env X' h' tk' F _ O hXX H => ?_
  · exact hfree _ (lookup_mem_kind e) rfl
  rw [e1] at H
  refine ⟨H.goodH.nolimit, codeAny_func ?_⟩
  refine hb _ env _ X' _ _ _ (R.deeper env) F O H fun v h2 tk2 k2 r2 => ?_
  exact h v h2 tk2 k2 (r2.less hXX)
where
  lookup_mem_kind : ∀ {l : List (Str × NameKind)} {x : Str} {k : NameKind}, l.lookup x = some k → (x, k) ∈ l
    | [], _, _, h => by cases h
    | (y, d) :: cs, x, k, h => by
      rw [List.lookup_cons] at h
      by_cases e : x == y
      · rw [e] at h
        have : x = y := by simpa using e
        subst this
        cases h; exact .head _
      · have : (x == y) = false := by simpa using e
        rw [this] at h
        exact .tail _ (lookup_mem_kind h)
end Mine

end
section
open PySem PySem.W PyProof.Rows
set_option maxRecDepth 100000
set_option linter.unusedVariables false
namespace Mine
section
variable {w : World} {n : Nat} {sc : Scope} {σ : Sto}
theorem do_type {a : AV} {T : String} (hT : HasT a T) (hnb : (Value.type T == Value.type "builtin_function_or_method") = false) : DoesL w n (cT "type") [a] (.val (.type T)) := fun A X s vals Q E _ _ _ rs h => by
  cases rs with | cons r rs =>
    cases rs
    exact call_type_of (hT s X _ r).1 hnb (h _ s.heap s.toks (Keeps.refl _) rfl)
theorem op_isT {p q : String} : Does2 w n (compareOp .Is) (.val (.type p)) (.val (.type q)) (B (p == q)) := fun A X s u v Q E _ _ _ ru rv h => by
  cases ru; cases rv
  have e : isSame (.type p) (.type q) = pure (Value.type p == Value.type q) := rfl
  have e2 : (Value.type p == Value.type q) = (p == q) := by
    by_cases hpq : p = q
    · subst hpq; rw [beq_self_eq_true, beq_self_eq_true]
    · have : Value.type p ≠ Value.type q := fun e => hpq (by cases e; rfl)
      rw [beq_eq_false_iff_ne.mpr this, beq_eq_false_iff_ne.mpr hpq]
  show wpAny (model PG w) A (do return .bool (← isSame (.type p) (.type q))) Q E s
  rw [e]
  refine wpAny_bind (wpAny_pure (wpAny_pure ?_))
  rw [e2]
  exact h _ s.heap s.toks (Keeps.refl _) (.bool _)
end

theorem fn_kind {w : World} {n : Nat} {x y : Str} : Fn w (n + 1) 78 [S x, S y] (S "") := by
  refine Fn_of (o := _) (fd := _) (body := _) (xs := ["name", "x"]) rfl rfl rfl ?_ ?_ rfl rfl rfl rfl rfl rfl rfl rfl ?_ ?_
  · intro A env h₀ X s Q E R F O H h
    refine st_assign (a := .val (.type "str")) (Ev_callT (Ev_builtin rfl rfl rfl (by decide)) (EvL_cons (Ev_local rfl rfl) EvL_nil) (do_type hasT_str rfl)) (.inl rfl) R F O H fun h' tk' H => ?_
    refine st_if (EvT_cmp (Ev_local rfl rfl) (Ev_builtin rfl rfl rfl (by decide)) op_isT) R F H (fun _ h' tk' H => ?_) (fun e => nomatch e)
    refine st_return Ev_str R F H fun v h' tk' H r => ?_
    exact h v h' tk' H.keep r
  · intro vals hv
    match vals, hv with
    | [a, b], _ => rfl
  · decide
  · decide
end Mine

end
section
open PySem PySem.W PyProof.Rows
set_option maxRecDepth 100000
set_option linter.unusedVariables false
namespace Mine

theorem EnvAt.moved {w : World} {env : Env} {h₀ h h' : Heap} {X : Addr → Prop} {σ : Sto} (H : EnvAt w env h₀ X h σ) {wr : List Addr} (hk : ∀ b o, b ∉ wr → h.get? b = some o → h'.get? b = some o)
    (hX : ∀ b ∈ wr, X b) (hL : env.locals ∉ wr) (hc : ∀ x c, (env.kindOf x = some .cell ∨ env.kindOf x = some .free) → env.cells.lookup x = some c → c ∉ wr) (h0 : ∀ b ∈ wr, h₀.get? b = none) (ha : ∀ b ∈ wr, (h'.get? b).isSome) : EnvAt w env h₀ X h' σ := by
  have kx : KeepsX X h h' := fun b o n e => hk b o (fun q => n (hX b q)) e
  refine ⟨H.good, fun b o e => ?_, fun a hx => ?_, H.hidL, H.above, ?_, fun x k => ?_⟩
  · exact hk b o (fun q => by rw [h0 b q] at e; cases e) (H.keep b o e)
  · by_cases q : a ∈ wr
    · exact ha a q
    · obtain ⟨o, ho⟩ := Option.isSome_iff_exists.mp (H.alive a hx)
      rw [hk a o q ho]; rfl
  · obtain ⟨m, hm, hr⟩ := H.loc
    refine ⟨m, hm.at fun o e => hk _ o hL e, fun x a e k => ?_⟩
    obtain ⟨v, hv, r⟩ := hr x a e k
    exact ⟨v, hv, r.keeps kx⟩
  · obtain ⟨c, o, ov, h1, h2, h3, h4, h5, h6⟩ := H.cel x k
    refine ⟨c, o, ov, h1, h2, h3, hk c o (hc x c k h1) h4, h5, fun a e => ?_⟩
    obtain ⟨v, hv, r⟩ := h6 a e
    exact ⟨v, hv, r.keeps kx⟩

def Sto.sets (σ : Sto) (xs : List Str) (as : List AV) : Sto := (xs.zip as).foldl (fun σ p => σ.set p.1 p.2) σ

structure Turns (w : World) (A : Around) (I : Addr) (fp wr : List Addr) (N : Nat) (target : Expr) (xs : List Str) (bnd : Nat → List AV) (St : Nat → Heap → Prop) (Src : Heap → (Addr → Prop) → Prop) : Prop where
  sub : ∀ b ∈ wr, b ∈ fp
  frame : ∀ i h h', St i h → (∀ b ∈ fp, ∀ o, h.get? b = some o → h'.get? b = some o) → St i h'
  live : ∀ i h, St i h → ∀ b ∈ wr, (h.get? b).isSome
  src : ∀ h h' X X', Src h X → (∀ b o, ¬ X b → h.get? b = some o → h'.get? b = some o) → (∀ b, ¬ X b → (h.get? b).isSome → ¬ X' b) → Src h' X'
  turn : ∀ i (sc : Scope) (env : Env) (h₀ : Heap) (X : Addr → Prop) (s : Shared) (σ : Sto) (Q : Unit → Shared → Prop) (E : Value → Shared → Prop), i < N → St i s.heap → Src s.heap X → Fit sc env → (∀ x ∈ xs, sc.names.lookup x = some .local) → EnvAt w env h₀ X s.heap σ →
    (∀ b ∈ wr, X b) → env.locals ∉ fp → (∀ x c, (env.kindOf x = some .cell ∨ env.kindOf x = some .free) → env.cells.lookup x = some c → c ∉ wr) → (∀ b ∈ wr, h₀.get? b = none) →
    (∀ h' tk', St (i + 1) h' → EnvAt w env h₀ X h' (σ.sets xs (bnd i)) → KeepsX X s.heap h' → (∀ b o, b ∉ wr → b ≠ env.locals → s.heap.get? b = some o → h'.get? b = some o) → Q () { s with heap := h', toks := tk' }) →
    wpAny (model PG w) A (pyNext (.ref I)) (fun r s1 => ∃ v, r = some v ∧ wpAny (model PG w) A (letOwnedTupleGo target (.ref I) v) (fun _ s2 => wpAny (model PG w) A (assign target env v) Q E s2) E s1) E s
  done : ∀ (s : Shared) (Q : Option Value → Shared → Prop) (E : Value → Shared → Prop), St N s.heap →
    (∀ h' tk, (∀ b o, b ∉ wr → s.heap.get? b = some o → h'.get? b = some o) → Q none { s with heap := h', toks := tk }) → wpAny (model PG w) A (pyNext (.ref I)) Q E s
  self : ∀ i (s : Shared) (Q : Value → Shared → Prop) (E : Value → Shared → Prop), St i s.heap → Q (.ref I) s → wpAny (model PG w) A (pyIter (.ref I)) Q E s

/-- one name, over a walk -/
theorem Turns.name {w : World} {A : Around} {I : Addr} {fp wr : List Addr} {N : Nat} {P : Nat → Value → Prop} {St : Nat → Heap → Prop} (W : Walks PG w A I fp wr N P St) {x : Str} {p : Pos} {bnd : Nat → AV} {Src : Heap → (Addr → Prop) → Prop}
    (live : ∀ i h, St i h → ∀ b ∈ wr, (h.get? b).isSome) (src : ∀ h h' X X', Src h X → (∀ b o, ¬ X b → h.get? b = some o → h'.get? b = some o) → (∀ b, ¬ X b → (h.get? b).isSome → ¬ X' b) → Src h' X') (hv : ∀ h X i v, Src h X → P i v → i < N → RdA h X v (bnd i)) :
    Turns w A I fp wr N (.Name x p) [x] (fun i => [bnd i]) St Src where
  sub := W.sub
  frame := W.frame
  live := live
  src := src
  turn := fun i sc env h₀ X s σ Q E hi hst hsrc F hx H hX hL hc h0 h => by
    refine W.item i s _ _ hi hst fun v h' tk hP hst' hk => ⟨v, rfl, wpAny_pure ?_⟩
    have H' := H.moved hk hX (fun q => hL (W.sub _ q)) hc h0 (live _ _ hst')
    have kx : KeepsX X s.heap h' := fun b o n e => hk b o (fun q => n (hX b q)) e
    refine assign_Name ?_
    have hr := hv h' X i v (src _ _ _ _ hsrc kx fun _ n _ => n) hP hi
    refine store_localS (s := { s with heap := h', toks := tk }) F H' (hx x (.head _)) hr fun h2 tk2 H2 kx2 sb => ?_
    refine h h2 tk2 (W.frame _ _ _ hst' fun b hb o e => (sb.2 b (fun q => hL (q ▸ hb))).trans e) H2 (kx.trans kx2) fun b o n1 n2 e => (sb.2 b n2).trans (hk b o n1 e)
  done := W.done
  self := W.self

/-- two names, over a walk that hands out pairs -/
theorem Turns.pair {w : World} {A : Around} (hh : A.handled = none) {I : Addr} {fp wr : List Addr} {N : Nat} {Pt : Nat → Array Value → Prop} {St : Nat → Heap → Prop} {Mid : Nat → Addr → Heap → Prop} (W : WalksT PG w A I fp wr N Pt St Mid) {x y : Str} {p q pt : Pos} {k : Nat} {bx bz : Nat → AV} {Src : Heap → (Addr → Prop) → Prop}
    (live : ∀ i h, St i h → ∀ b ∈ wr, (h.get? b).isSome) (src : ∀ h h' X X', Src h X → (∀ b o, ¬ X b → h.get? b = some o → h'.get? b = some o) → (∀ b, ¬ X b → (h.get? b).isSome → ¬ X' b) → Src h' X') (hv : ∀ h X i vals, Src h X → Pt i vals → i < N → ∃ u v, vals = #[u, v] ∧ RdA h X u (bx i) ∧ RdA h X v (bz i)) :
    Turns w A I fp wr N (.Tuple [.Name x p, .Name y q] k pt) [x, y] (fun i => [bx i, bz i]) St Src where
  sub := W.sub
  frame := W.frame
  live := live
  src := src
  turn := fun i sc env h₀ X s σ Q E hi hst hsrc F hx H hX hL hc h0 h => by
    refine W.item i s _ _ hi hst fun T vals h' tk hP hT htup hmid hk => ⟨_, rfl, ?_⟩
    refine W.go _ _ _ i T { s with heap := h', toks := tk } _ _ hmid fun h2 hst2 hk2 => ?_
    have hk12 : ∀ b o, b ∉ wr → s.heap.get? b = some o → h2.get? b = some o := fun b o n e => hk2 b o n (hk b o n e)
    have H2 := H.moved hk12 hX (fun q => hL (W.sub _ q)) hc h0 (live _ _ hst2)
    have kx : KeepsX X s.heap h2 := fun b o n e => hk12 b o (fun q => n (hX b q)) e
    obtain ⟨u, v, rfl, ru, rv⟩ := hv h2 X i vals (src _ _ _ _ hsrc kx fun _ n _ => n) hP hi
    have htup2 : IsTup h2 T #[u, v] := by
      obtain ⟨o, ho, r⟩ := htup
      exact ⟨o, hk2 T o (W.apart _ _ _ hmid) ho, r⟩
    refine assign_Tuple_tuple (s := { s with heap := h2, toks := tk }) hh htup2 rfl rfl fun h3 hx3 => ?_
    have k3 : Keeps h2 h3 := fun b o e => hx3 b o (Nat.ne_of_lt (Heap.lt_size e)) e
    show wpAny (model PG w) A (assignInOrder [assign (.Name x p) env, assign (.Name y q) env] [u, v]) Q E { s with heap := h3, toks := tk }
    refine wpAny_bind (wpAny_holding (assign_Name ?_))
    refine store_localS (s := { s with heap := h3, toks := tk }) F (H2.keeps k3) (hx x (.head _)) (ru.keeps k3.x) fun h4 tk4 H4 kx4 sb4 => ?_
    refine wpAny_bind (wpAny_holding (assign_Name ?_))
    refine store_localS (s := { s with heap := h4, toks := tk4 }) F H4 (hx y (.tail _ (.head _))) ((rv.keeps k3.x).keeps kx4) fun h5 tk5 H5 kx5 sb5 => wpAny_pure ?_
    refine h h5 tk5 ?_ H5 (((kx.trans k3.x).trans kx4).trans kx5) fun b o n1 n2 e => (sb5.2 b n2).trans ((sb4.2 b n2).trans (k3 _ _ (hk12 b o n1 e)))
    exact W.frame _ _ _ hst2 fun b hb o e => (sb5.2 b (fun q => hL (q ▸ hb))).trans ((sb4.2 b (fun q => hL (q ▸ hb))).trans (k3 _ _ e))
  done := W.done
  self := W.self

def XU (X : Addr → Prop) (l : List Addr) : Addr → Prop := fun b => X b ∨ b ∈ l

/-- the source of a loop -/
def EvIt (w : World) (n : Nat) (sc : Scope) (σ : Sto) (iter : Expr) (N : Nat) (target : Expr) (xs : List Str) (bnd : Nat → List AV) : Prop :=
  ∀ (A : Around) (env : Env) (h₀ : Heap) (X : Addr → Prop) (s : Shared) (Q : Value → Shared → Prop) (E : Value → Shared → Prop), Room n A → Fit sc env → EnvAt w env h₀ X s.heap σ →
    (∀ I fp wr St Src h' tk', Keeps s.heap h' → Turns w A I fp wr N target xs bnd St Src → St 0 h' → Src h' (XU X wr) → (∀ b ∈ wr, s.heap.get? b = none) → (∀ b ∈ fp, b ∉ wr → ¬ X b) → (∀ b ∈ fp, (h'.get? b).isSome) → Q (.ref I) { s with heap := h', toks := tk' }) →
    wpAny (model PG w) A (eval iter env) (fun v s1 => wpAny (model PG w) A (pyIter v) Q E s1) E s

theorem none_of_size {h h' : Heap} (hk : Keeps h h') {b : Addr} (hb : h'.objs.size ≤ b) : h.get? b = none := by
  cases q : h.get? b with
  | none => rfl
  | some o => exact absurd (Heap.lt_size (hk _ _ q)) (Nat.not_lt.mpr hb)

theorem items_get {h : Heap} {X : Addr → Prop} {vs : List Value} {ds : List PyData} (r : RdAll h X vs ds) {i : Nat} {v : Value} (hv : vs[i]? = some v) : ∃ d, ds[i]? = some d ∧ RdD h X v d := by
  have hl := r.length
  have hi : i < vs.length := by
    rcases Nat.lt_or_ge i vs.length with q | q
    · exact q
    · rw [List.getElem?_eq_none q] at hv; cases hv
  have hd : ds[i]? = some ds[i] := List.getElem?_eq_getElem (by omega)
  obtain ⟨u, hu, ru⟩ := r.get hd
  rw [hv] at hu; cases hu
  exact ⟨_, hd, ru⟩

theorem EvIt_list {w : World} {n : Nat} {sc : Scope} {σ : Sto} {iter : Expr} {ds : List PyData} (he : Ev w n sc σ iter (.dat (.list ds))) {x : Str} {p : Pos} : EvIt w n sc σ iter ds.length (.Name x p) [x] (fun i => [.dat (ds.getD i .none)]) := by
  intro A env h₀ X s Q E R F H h
  refine he.run R F H fun v h1 tk1 k1 H1 rv => ?_
  cases rv with | list hn ho ra =>
    rename_i a vs m
    refine wpAny_pyIter_list (s := { s with heap := h1, toks := tk1 }) ⟨_, ho, rfl, _, rfl⟩ ?_
    have hne : a ≠ h1.objs.size := Nat.ne_of_lt (Heap.lt_size ho)
    have hlen : vs.size = ds.length := by have := ra.length; simpa using this
    have kp := Keeps.push h1 { cls := .type "list_iterator", data := .fields #[.ref a, .int 0 0] }
    have W := Walks.list (prog := PG) (w := w) R.hh h1.objs.size a hne vs
    rw [hlen] at W
    refine h h1.objs.size [h1.objs.size, a] [h1.objs.size] _ (fun h X => RdAll h X vs.toList ds) _ tk1 (k1.trans kp) (Turns.name W ?_ ?_ ?_) ?_ ?_ ?_ ?_ ?_
    · intro i h' st b hb
      rcases List.mem_singleton.mp hb with rfl
      obtain ⟨o, ho', _⟩ := st.1
      rw [ho']; rfl
    · intro h h' X X' r hk hx; exact r.mono hk hx
    · intro h' X' i v r hv hi
      obtain ⟨d, hd, rd⟩ := items_get r (by simpa using hv)
      have e : ds.getD i .none = d := by rw [List.getD_eq_getElem?_getD, hd]; rfl
      show RdD h' X' v (ds.getD i .none)
      rw [e]; exact rd
    · exact ⟨⟨_, Heap.get?_push_size _ rfl, rfl, rfl⟩, _, Heap.get?_push_of_some _ ho, rfl, _, rfl⟩
    · refine ra.mono (fun b o _ e => kp _ _ e) fun b hn hs hx => ?_
      rcases hx with hx | hx
      · exact hn hx
      · rcases List.mem_singleton.mp hx with rfl
        obtain ⟨o, ho'⟩ := Option.isSome_iff_exists.mp hs
        exact absurd (Heap.lt_size ho') (Nat.lt_irrefl _)
    · intro b hb
      rcases List.mem_singleton.mp hb with rfl
      exact none_of_size k1 (Nat.le_refl _)
    · intro b hb hnb
      rcases List.mem_cons.mp hb with rfl | hb
      · exact absurd (List.mem_singleton.mpr rfl) hnb
      · rcases List.mem_singleton.mp hb with rfl
        exact hn
    · intro b hb
      rcases List.mem_cons.mp hb with rfl | hb
      · rw [Heap.get?_push_size _ rfl]; rfl
      · rcases List.mem_singleton.mp hb with rfl
        rw [kp _ _ ho]; rfl
theorem EvIt_tuple {w : World} {n : Nat} {sc : Scope} {σ : Sto} {iter : Expr} {ds : List PyData} (he : Ev w n sc σ iter (.dat (.tuple ds))) {x : Str} {p : Pos} : EvIt w n sc σ iter ds.length (.Name x p) [x] (fun i => [.dat (ds.getD i .none)]) := by
  intro A env h₀ X s Q E R F H h
  refine he.run R F H fun v h1 tk1 k1 H1 rv => ?_
  cases rv with | tuple hn ho ra =>
    rename_i a vs m
    refine wpAny_pyIter_tuple (s := { s with heap := h1, toks := tk1 }) ⟨_, ho, rfl, _, rfl⟩ ?_
    have hne : a ≠ h1.objs.size := Nat.ne_of_lt (Heap.lt_size ho)
    have hlen : vs.size = ds.length := by have := ra.length; simpa using this
    have kp := Keeps.push h1 { cls := .type "tuple_iterator", data := .fields #[.ref a, .int 0 0] }
    have W := Walks.tuple (prog := PG) (w := w) R.hh h1.objs.size a hne vs
    rw [hlen] at W
    refine h h1.objs.size [h1.objs.size, a] [h1.objs.size] _ (fun h X => RdAll h X vs.toList ds) _ tk1 (k1.trans kp) (Turns.name W ?_ ?_ ?_) ?_ ?_ ?_ ?_ ?_
    · intro i h' st b hb
      rcases List.mem_singleton.mp hb with rfl
      obtain ⟨o, ho', _⟩ := st.1
      rw [ho']; rfl
    · intro h h' X X' r hk hx; exact r.mono hk hx
    · intro h' X' i v r hv hi
      obtain ⟨d, hd, rd⟩ := items_get r (by simpa using hv)
      have e : ds.getD i .none = d := by rw [List.getD_eq_getElem?_getD, hd]; rfl
      show RdD h' X' v (ds.getD i .none)
      rw [e]; exact rd
    · exact ⟨⟨_, Heap.get?_push_size _ rfl, rfl, rfl⟩, _, Heap.get?_push_of_some _ ho, rfl, _, rfl⟩
    · refine ra.mono (fun b o _ e => kp _ _ e) fun b hn hs hx => ?_
      rcases hx with hx | hx
      · exact hn hx
      · rcases List.mem_singleton.mp hx with rfl
        obtain ⟨o, ho'⟩ := Option.isSome_iff_exists.mp hs
        exact absurd (Heap.lt_size ho') (Nat.lt_irrefl _)
    · intro b hb
      rcases List.mem_singleton.mp hb with rfl
      exact none_of_size k1 (Nat.le_refl _)
    · intro b hb hnb
      rcases List.mem_cons.mp hb with rfl | hb
      · exact absurd (List.mem_singleton.mpr rfl) hnb
      · rcases List.mem_singleton.mp hb with rfl
        exact hn
    · intro b hb
      rcases List.mem_cons.mp hb with rfl | hb
      · rw [Heap.get?_push_size _ rfl]; rfl
      · rcases List.mem_singleton.mp hb with rfl
        rw [kp _ _ ho]; rfl
/-- enumerate of a list -/
theorem EvIt_enum {w : World} {n : Nat} {sc : Scope} {σ : Sto} {f : Str} {pf pos : Pos} {arg : Expr} {ds : List PyData} (hf : Ev w n sc σ (.Name f pf) (.val (.type "enumerate"))) (he : Ev w n sc σ arg (.dat (.list ds))) {x y : Str} {p q pt : Pos} {k : Nat}
    (hs : ∀ env, starEach [arg] env = [(false, eval arg env)] := by intro _; rfl) :
    EvIt w n sc σ (.Call (.Name f pf) [arg] [] pos) ds.length (.Tuple [.Name x p, .Name y q] k pt) [x, y] (fun i => [.dat (.int i), .dat (ds.getD i .none)]) := by
  intro A env h₀ X s Q E R F H h
  refine Call_Name rfl (hf.run R F H fun v h' tk' k0 H0 rv => ?_)
  cases rv
  refine PyProof.Rows.callWith_type (by rw [hs env]; rfl) ?_
  rw [hs env]
  refine Calls.evalArgs_plain (Calls.spliced_cons (he.run (s := { s with heap := h', toks := tk' }) R F H0 fun v h1 tk1 k1 H1 rv => Calls.spliced_nil ?_))
  cases rv with | list hn ho ra =>
    rename_i a vs m
    refine call_enumerate_1 (s := { s with heap := h1, toks := tk1 }) ho fun h2 he2 hit2 hz2 k2 => ?_
    refine wpAny_pyIter_enum (s := { s with heap := h2, toks := tk1 }) he2 ?_
    have hlt := Heap.lt_size ho
    have hne : a ≠ h1.objs.size := Nat.ne_of_lt hlt
    have hne1 : a ≠ h1.objs.size + 1 := Nat.ne_of_lt (Nat.lt_succ_of_lt hlt)
    have hlen : vs.size = ds.length := by have := ra.length; simpa using this
    have W := WalksT.enumerate (prog := PG) (w := w) R.hh (h1.objs.size + 1) h1.objs.size a (Nat.succ_ne_self _) hne1 hne vs
    rw [hlen] at W
    have kk : Keeps s.heap h1 := k0.trans k1
    refine h (h1.objs.size + 1) [h1.objs.size + 1, h1.objs.size, a] [h1.objs.size + 1, h1.objs.size] _ (fun h X => RdAll h X vs.toList ds) _ tk1 (kk.trans k2) (Turns.pair R.hh W ?_ ?_ ?_) ?_ ?_ ?_ ?_ ?_
    · intro i h' st b hb
      obtain ⟨⟨old, e1⟩, ⟨o, e2, _⟩, _⟩ := st
      rcases List.mem_cons.mp hb with rfl | hb
      · rw [e1]; rfl
      · rcases List.mem_singleton.mp hb with rfl
        rw [e2]; rfl
    · intro h h' X X' r hk hx; exact r.mono hk hx
    · intro h' X' i vals r hv hi
      obtain ⟨t, u, hu, rfl⟩ := hv
      obtain ⟨d, hd, rd⟩ := items_get r (by simpa using hu)
      have e : ds.getD i .none = d := by rw [List.getD_eq_getElem?_getD, hd]; rfl
      refine ⟨_, _, rfl, .int _ _, ?_⟩
      show RdD h' X' u (ds.getD i .none)
      rw [e]; exact rd
    · exact ⟨⟨_, he2⟩, hit2, _, k2 _ _ ho, rfl, _, rfl⟩
    · refine ra.mono (fun b o _ e => k2 _ _ e) fun b hn hs hx => ?_
      obtain ⟨o, ho'⟩ := Option.isSome_iff_exists.mp hs
      have hb := Heap.lt_size ho'
      rcases hx with hx | hx
      · exact hn hx
      · rcases List.mem_cons.mp hx with rfl | hx
        · exact absurd hb (Nat.not_lt.mpr (Nat.le_succ _))
        · rcases List.mem_singleton.mp hx with rfl
          exact absurd hb (Nat.lt_irrefl _)
    · intro b hb
      rcases List.mem_cons.mp hb with rfl | hb
      · exact none_of_size kk (Nat.le_succ _)
      · rcases List.mem_singleton.mp hb with rfl
        exact none_of_size kk (Nat.le_refl _)
    · intro b hb hnb
      rcases List.mem_cons.mp hb with rfl | hb
      · exact absurd (.head _) hnb
      · rcases List.mem_cons.mp hb with rfl | hb
        · exact absurd (.tail _ (.head _)) hnb
        · rcases List.mem_singleton.mp hb with rfl
          exact hn
    · intro b hb
      rcases List.mem_cons.mp hb with rfl | hb
      · rw [he2]; rfl
      · rcases List.mem_cons.mp hb with rfl | hb
        · obtain ⟨o, e2, _⟩ := hit2; rw [e2]; rfl
        · rcases List.mem_singleton.mp hb with rfl
          rw [k2 _ _ ho]; rfl
end Mine

end
section
open PySem PySem.W PyProof.Rows
set_option maxRecDepth 100000
set_option linter.unusedVariables false
namespace Mine

def relabelS (scope sc : Scope) : Scope := { scope with names := scope.names.map fun (n, k) => if (k == .free && sc.kind == .function && sc.names.lookup n == some .cell) then (n, .cell) else (n, k) }
theorem relabel_eq {scope sc : Scope} {env : Env} (e : env.scope = sc) : relabel scope env = relabelS scope sc := by
  unfold relabel relabelS Env.kindOf
  rw [e]
/-- what the comprehension's block sees of the frame's names -/
def Sto.seen (σ : Sto) (scope : Scope) : Sto := fun x => if scope.names.lookup x = some .free then σ x else none

def closL (env : Env) : List (Str × NameKind) → List (Str × Addr) → List (Str × Addr)
  | [], cs => cs
  | (x, k) :: r, cs => closL env r (if k == .free then (x, (env.cells.lookup x).getD 0) :: cs else cs)
theorem closureFor_eq {scope : Scope} {env : Env} (hc : ∀ y ∈ scope.names, y.2 = .free → ∃ c, env.cells.lookup y.1 = some c) : closureFor scope env = pure (closL env scope.names []) := by
  unfold closureFor
  have key : ∀ (names : List (Str × NameKind)) (cs : List (Str × Addr)), (∀ y ∈ names, y.2 = .free → ∃ c, env.cells.lookup y.1 = some c) →
      (forIn names cs fun (x : Str × NameKind) (r : List (Str × Addr)) => (do if (x.2 == .free) = true then (do let a ← cellOf env x.1; pure (ForInStep.yield ((x.1, a) :: r))) else pure (ForInStep.yield r) : Sem (ForInStep (List (Str × Addr))))) = (pure (closL env names cs) : Sem _) := by
    intro names
    induction names with
    | nil => intro cs _; rfl
    | cons y r ih =>
      intro cs hy
      obtain ⟨x, k⟩ := y
      rw [List.forIn_cons]
      by_cases hk : (k == NameKind.free) = true
      · have hk' : k = .free := by simpa using hk
        obtain ⟨c, hc⟩ := hy (x, k) (.head _) hk'
        dsimp only at hc ⊢
        rw [if_pos hk]
        have hce : cellOf env x = pure c := by unfold cellOf; rw [hc]
        rw [hce]
        show (forIn r ((x, c) :: cs) _ : Sem _) = _
        rw [ih _ fun y hy' => hy y (.tail _ hy')]
        simp only [closL, hk, if_true, hc, Option.getD_some]
      · dsimp only
        rw [if_neg hk]
        show (forIn r cs _ : Sem _) = _
        rw [ih _ fun y hy' => hy y (.tail _ hy')]
        have : (k == NameKind.free) = false := by simpa using hk
        simp only [closL, this, Bool.false_eq_true, if_false]
  have := key scope.names [] hc
  show (forIn scope.names [] _ >>= fun cs => pure cs) = _
  first
    | (rw [this]; rfl)
    | (simp only [bind_pure]; exact this)
theorem closL_lookup {env : Env} {x : Str} : ∀ (names : List (Str × NameKind)) (cs : List (Str × Addr)), (∀ y ∈ names, y.2 = .free → ∃ c, env.cells.lookup y.1 = some c) → ((∃ c, cs.lookup x = some c ∧ env.cells.lookup x = some c) ∨ (cs.lookup x = none ∧ (x, NameKind.free) ∈ names)) → ∃ c, (closL env names cs).lookup x = some c ∧ env.cells.lookup x = some c
  | [], cs, _, h => by
    rcases h with h | h
    · exact h
    · exact nomatch h.2
  | (y, k) :: r, cs, hy, h => by
    unfold closL
    refine closL_lookup r _ (fun z hz => hy z (.tail _ hz)) ?_
    by_cases hk : (k == NameKind.free) = true
    · rw [if_pos hk]
      have hk' : k = .free := by simpa using hk
      obtain ⟨c, hc⟩ := hy (y, k) (.head _) hk'
      rw [List.lookup_cons]
      by_cases e : x == y
      · have : x = y := by simpa using e
        subst this
        rw [e]
        dsimp only at hc ⊢
        rw [hc]
        exact .inl ⟨c, rfl, rfl⟩
      · have e' : (x == y) = false := by simpa using e
        rw [e']
        rcases h with h | ⟨h1, h2⟩
        · exact .inl h
        · refine .inr ⟨h1, ?_⟩
          cases h2 with
          | head => simp at e
          | tail _ h2 => exact h2
    · rw [if_neg hk]
      rcases h with h | ⟨h1, h2⟩
      · exact .inl h
      · refine .inr ⟨h1, ?_⟩
        cases h2 with
        | head => exact absurd rfl hk
        | tail _ h2 => exact h2
theorem closL_sub {env : Env} {x : Str} {c : Addr} : ∀ (names : List (Str × NameKind)) (cs : List (Str × Addr)), (∀ y ∈ names, y.2 = .free → ∃ c, env.cells.lookup y.1 = some c) → (∀ x c, cs.lookup x = some c → env.cells.lookup x = some c) → (closL env names cs).lookup x = some c → env.cells.lookup x = some c
  | [], cs, _, h, e => h x c e
  | (y, k) :: r, cs, hy, h, e => by
    unfold closL at e
    refine closL_sub r _ (fun z hz => hy z (.tail _ hz)) ?_ e
    intro z d hd
    by_cases hk : (k == NameKind.free) = true
    · rw [if_pos hk] at hd
      have hk' : k = .free := by simpa using hk
      obtain ⟨c', hc⟩ := hy (y, k) (.head _) hk'
      rw [List.lookup_cons] at hd
      by_cases e : z == y
      · have : z = y := by simpa using e
        subst this
        rw [e] at hd
        dsimp only at hc hd
        rw [hc] at hd ⊢
        exact hd
      · have e' : (z == y) = false := by simpa using e
        rw [e'] at hd
        exact h z d hd
    · rw [if_neg hk] at hd
      exact h z d hd

/-- the tests of a comprehension -/
inductive EvI (w : World) (n : Nat) (sc : Scope) (σ : Sto) : List Expr → Bool → Prop
  | nil : EvI w n sc σ [] true
  | one {c : Expr} {b : Bool} : EvT w n sc σ c b → EvI w n sc σ [c] b
theorem EvI.run {w : World} {n : Nat} {sc : Scope} {σ : Sto} {ifs : List Expr} {b : Bool} (he : EvI w n sc σ ifs b) {A : Around} {env : Env} {h₀ : Heap} {X : Addr → Prop} {s : Shared} {Q : Bool → Shared → Prop} {E : Value → Shared → Prop} (R : Room n A) (F : Fit sc env) (H : EnvAt w env h₀ X s.heap σ)
    (h : ∀ h' tk', Keeps s.heap h' → EnvAt w env h₀ X h' σ → Q b { s with heap := h', toks := tk' }) :
    wpAny (model PG w) A (forIn ifs true fun c r => if r = true then do let ok ← isTrue c env (eval c env); pure (ForInStep.yield ok) else pure (ForInStep.yield r)) Q E s := by
  cases he with
  | nil => exact wpAny_tests_nil (h s.heap s.toks (Keeps.refl _) H)
  | one ht => exact wpAny_tests_one (ht.run R F H h)

theorem compLoop_gen {w : World} {A : Around} {R : Result → Shared → Prop} {s : Shared} {elt target iter : Expr} {ifs : List Expr} {scope : Scope} {pos : Pos} {it acc : Value} {env : Env} (I : Nat → Shared → Prop)
    (turn : ∀ n s, I n s → wpAny (model PG w) A (pyNext it) (fun r s₁ => match r with
      | none => R (.ok .next) s₁
      | some v => wpAny (model PG w) A (letOwnedTupleGo target it v) (fun _ s₁' => wpAny (model PG w) A (assign target env v) (fun _ s₂ =>
          wpAny (model PG w) A (forIn ifs true fun c r => if r = true then do let ok ← isTrue c env (eval c env); pure (ForInStep.yield ok) else pure (ForInStep.yield r)) (fun ok s₃ =>
            if ok = true then wpAny (model PG w) A (eval elt env) (fun x s₄ =>
              wpAny (model PG w) A (call (.builtin "list.append") [acc, x]) (fun _ s₅ => ∃ m, m < n ∧ I m s₅) (notedBy (model PG w) A env fun e s' => R (.error e) s') s₄) (notedBy (model PG w) A env fun e s' => R (.error e) s') s₃
            else ∃ m, m < n ∧ I m s₃) (notedBy (model PG w) A env fun e s' => R (.error e) s') s₂) (notedBy (model PG w) A env fun e s' => R (.error e) s') s₁') (notedBy (model PG w) A env fun e s' => R (.error e) s') s₁) (notedBy (model PG w) A env fun e s' => R (.error e) s') s)
    (n : Nat) (h : I n s) : codeAny (model PG w) A (.compLoop (.ListComp elt [⟨target, iter, ifs, 0⟩] scope pos) 0 it acc env) R s := by
  refine codeAny_loop rfl I (fun n s hI => ?_) n h
  show wpAny _ A ((compTurn (.ListComp elt [⟨target, iter, ifs, 0⟩] scope pos) 0 it acc env).onRaise (fun x => do noteFrame x env; theTreesLotGoes x)) _ _ s
  refine wpAny_noted ?_
  rw [compTurn_list]
  refine wpAny_bind (wpAny_standAt (wpAny_bind (wpAny_mono (turn n s hI) (fun r s₁ h₁ => ?_) fun _ _ h' => h')))
  cases r with
  | none => exact wpAny_pure h₁
  | some v =>
    refine wpAny_bind (wpAny_mono h₁ (fun _ s₁' h₁' => ?_) fun _ _ h' => h')
    refine wpAny_bind (wpAny_mono h₁' (fun _ s₂ h₂ => wpAny_bind (wpAny_mono h₂ (fun ok s₃ h₃ => ?_) fun _ _ h' => h')) fun _ _ h' => h')
    cases ok with
    | false => exact wpAny_pure ⟨rfl, h₃⟩
    | true =>
      exact wpAny_bind (wpAny_bind (wpAny_mono h₃ (fun x s₄ h₄ => wpAny_bind (wpAny_mono h₄ (fun _ s₅ h₅ => wpAny_pure (wpAny_pure ⟨rfl, h₅⟩)) fun _ _ h' => h')) fun _ _ h' => h'))

def pickN (p : Nat → Bool) (g : Nat → PyData) (i : Nat) : List PyData := ((List.range i).filter p).map g
theorem pickN_succ (p : Nat → Bool) (g : Nat → PyData) (i : Nat) : pickN p g (i + 1) = pickN p g i ++ (if p i then [g i] else []) := by
  unfold pickN
  rw [List.range_succ, List.filter_append, List.map_append]
  by_cases h : p i <;> simp [h]
theorem pickN_len (p : Nat → Bool) (g : Nat → PyData) (i : Nat) : (pickN p g i).length ≤ i := by
  unfold pickN
  rw [List.length_map]
  exact Nat.le_trans (List.length_filter_le _ _) (by simp)

theorem sets_other {xs : List Str} {x : Str} (hx : x ∉ xs) : ∀ {as : List AV} {σ : Sto}, (σ.sets xs as) x = σ x := by
  induction xs with
  | nil => intro as σ; rfl
  | cons y xs ih =>
    intro as σ
    cases as with
    | nil => rfl
    | cons a as =>
      show ((σ.set y a).sets xs as) x = σ x
      rw [ih (fun h => hx (.tail _ h))]
      unfold Sto.set
      rw [if_neg (fun e : x = y => hx (by rw [e]; exact .head _))]
theorem EnvAt.weak {w env h₀ X h} {σ σ' : Sto} (H : EnvAt w env h₀ X h σ) (hs : ∀ x a, σ' x = some a → σ x = some a) : EnvAt w env h₀ X h σ' := by
  refine ⟨H.good, H.keep, H.alive, H.hidL, H.above, ?_, fun x k => ?_⟩
  · obtain ⟨m, hm, hr⟩ := H.loc
    exact ⟨m, hm, fun x a e k => hr x a (hs x a e) k⟩
  · obtain ⟨c, o, ov, h1, h2, h3, h4, h5, h6⟩ := H.cel x k
    exact ⟨c, o, ov, h1, h2, h3, h4, h5, fun a e => h6 a (hs x a e)⟩

theorem lookup_relabel {sc : Scope} {x : Str} : ∀ {names : List (Str × NameKind)}, (∀ y ∈ names, y.2 ≠ .cell) → ∀ {k : NameKind},
    (names.map fun (n, k) => if (k == NameKind.free && sc.kind == .function && sc.names.lookup n == some .cell) then (n, NameKind.cell) else (n, k)).lookup x = some k → (k = .cell ∨ k = .free) → names.lookup x = some .free
  | [], _, _, h, _ => by simp at h
  | (n, j) :: r, hn, k, h, hk => by
    have ih := @lookup_relabel sc x r (fun y hy => hn y (.tail _ hy)) k
    rw [List.map_cons] at h
    by_cases hc : (j == NameKind.free && sc.kind == .function && sc.names.lookup n == some .cell) = true
    · dsimp only at h
      rw [if_pos hc] at h
      have hj : j = .free := by
        have := (Bool.and_eq_true_iff.mp (Bool.and_eq_true_iff.mp hc).1).1
        simpa using this
      rw [List.lookup_cons] at h ⊢
      cases e : x == n with
      | true => rw [hj]
      | false => rw [e] at h; exact ih h hk
    · dsimp only at h
      rw [if_neg hc] at h
      rw [List.lookup_cons] at h ⊢
      cases e : x == n with
      | true =>
        rw [e] at h
        dsimp only at h ⊢
        cases h
        rcases hk with hk | hk
        · exact absurd hk (hn (n, j) (.head _))
        · rw [hk]
      | false => rw [e] at h; exact ih h hk
end Mine

end
section
open PySem PySem.W PyProof.Rows
set_option maxRecDepth 100000
set_option linter.unusedVariables false
namespace Mine

/-- what is asked of a comprehension's block -/
structure CompOk (sc scope : Scope) (xs : List Str) : Prop where
  kind : scope.kind = .function
  nocell : ∀ y ∈ scope.names, y.2 ≠ .cell
  names : ∀ y ∈ scope.names, y.2 = .local → scope.names.lookup y.1 = some .local
  vars : ∀ x ∈ xs, scope.names.lookup x = some .local
  free : ∀ y ∈ scope.names, y.2 = .free → sc.names.lookup y.1 = some .cell ∨ sc.names.lookup y.1 = some .free

theorem lookup_kind_mem : ∀ {l : List (Str × NameKind)} {x : Str} {k : NameKind}, l.lookup x = some k → (x, k) ∈ l
  | [], _, _, h => by cases h
  | (y, d) :: cs, x, k, h => by
    rw [List.lookup_cons] at h
    by_cases e : x == y
    · rw [e] at h
      have : x = y := by simpa using e
      subst this
      cases h; exact .head _
    · have : (x == y) = false := by simpa using e
      rw [this] at h
      exact .tail _ (lookup_kind_mem h)

section
variable {w : World} {n : Nat} {sc : Scope} {σ : Sto} {A : Around} {env : Env} {h₀ : Heap} {X : Addr → Prop} {s : Shared} {E : Value → Shared → Prop}

theorem comp_core {elt iter target : Expr} {ifs : List Expr} {scope : Scope} {pos p0 : Pos} {use : Option (Value → Sem Unit)} {Q : Value → Shared → Prop} {N : Nat} {xs : List Str} {bnd : Nat → List AV} {p : Nat → Bool} {g : Nat → PyData}
    (hit : EvIt w n sc σ iter N target xs bnd) (C : CompOk sc scope xs) (hN : N ≤ sizeLine)
    (htest : ∀ i, i < N → EvI w n (relabelS scope sc) ((σ.seen scope).sets xs (bnd i)) ifs (p i))
    (helt : ∀ i, i < N → p i = true → Ev w n (relabelS scope sc) ((σ.seen scope).sets xs (bnd i)) elt (.dat (g i)))
    (R : Room n A) (F : Fit sc env) (H : EnvAt w env h₀ X s.heap σ)
    (h : ∀ (acc cl : Addr) h' tk', Keeps s.heap h' → s.heap.get? cl = none → (h'.get? cl).isSome → (∃ m, h'.Ns cl m) → RdD h' (XU X [cl]) (.ref acc) (.list (pickN p g N)) → compPost (model PG w) A E use Q (.ref acc) cl (.ok .next) { s with heap := h', toks := tk' })
    (hs : ∀ x, foldedSetIterable iter env x = pure x) :
    wpAny (model PG w) A (comprehension (.ListComp elt [⟨target, iter, ifs, 0⟩] scope pos) scope env p0 (newList []) false (eval iter env) use) Q E s := by
  have hcells : ∀ y ∈ scope.names, y.2 = .free → ∃ c, env.cells.lookup y.1 = some c := by
    intro y hy hf
    have hk : env.kindOf y.1 = some .cell ∨ env.kindOf y.1 = some .free := by unfold Env.kindOf; rw [F.scope]; exact C.free y hy hf
    obtain ⟨c, _, _, hc, _⟩ := H.cel y.1 hk
    exact ⟨c, hc⟩
  refine wpAny_comprehension_free (g := ⟨target, iter, ifs, 0⟩) (gs := []) rfl hs (closureFor_eq hcells) C.kind C.names ?_
  refine hit A env h₀ X s _ _ R F H fun I fp wr St Src h1 tk1 k1 T st0 src0 hwr hfp hlive => ?_
  refine wpAny_newObj_type ?_
  refine wpAny_newFunctionEnv C.nocell (by intro y hy; cases hy) (fun h2 hns2 hsb2 => ?_) C.kind
  dsimp only at hns2 hsb2 ⊢
  generalize hacc : h1.objs.size = acc at *
  generalize hP : h1.push { cls := .type "list", dict := none, data := .seq ([] : List Value).toArray } = h1' at *
  have hsz1 : h1'.objs.size = acc + 1 := by rw [← hP, Heap.size_push, hacc]
  rw [hsz1] at hns2 hsb2 ⊢
  have k11 : Keeps h1 h1' := by rw [← hP]; exact Keeps.push _ _
  have hlt1 : ∀ b, (h1.get? b).isSome → b < acc := fun b hb => by
    obtain ⟨o, ho⟩ := Option.isSome_iff_exists.mp hb
    have := Heap.lt_size ho; rw [hacc] at this; exact this
  have k2 : ∀ b o, b ≠ acc + 1 → h1'.get? b = some o → h2.get? b = some o := fun b o hb e => hsb2.extBut b o hb (Heap.get?_push_of_some _ e)
  have k12 : Keeps h1 h2 := fun b o e => k2 b o (Nat.ne_of_lt (Nat.lt_succ_of_lt (hlt1 b (by rw [e]; rfl)))) (k11 _ _ e)
  have ha1 : h1'.get? acc = some { cls := .type "list", data := .seq #[] 0 } := by rw [← hP, ← hacc]; exact Heap.get?_push_size _ rfl
  have hacc2 : h2.PlainList acc #[] := ⟨0, k2 acc _ (Nat.ne_of_lt (Nat.lt_succ_self _)) ha1⟩
  have hC2 : (h2.get? (acc + 1)).isSome := by obtain ⟨o, _, _, ho, _⟩ := hns2; rw [ho]; rfl
  have hCne : acc + 1 ≠ acc := Nat.succ_ne_self _
  have hold : ∀ b, (s.heap.get? b).isSome → b < acc := fun b hb => by
    obtain ⟨o, ho⟩ := Option.isSome_iff_exists.mp hb
    exact hlt1 b (by rw [k1 _ _ ho]; rfl)
  have nacc : s.heap.get? acc = none := by
    cases q : s.heap.get? acc with
    | none => rfl
    | some o => exact absurd (hold acc (by rw [q]; rfl)) (Nat.lt_irrefl _)
  have nC : s.heap.get? (acc + 1) = none := by
    cases q : s.heap.get? (acc + 1) with
    | none => rfl
    | some o => exact absurd (hold (acc + 1) (by rw [q]; rfl)) (Nat.not_lt.mpr (Nat.le_succ _))
  let X2 : Addr → Prop := XU X (acc :: (acc + 1) :: wr)
  have hX2new : ∀ b, ¬ X b → (s.heap.get? b).isSome → ¬ X2 b := by
    intro b hn hb hx
    have hb' := hold b hb
    rcases hx with hx | hx
    · exact hn hx
    · rcases List.mem_cons.mp hx with rfl | hx
      · exact Nat.lt_irrefl _ hb'
      · rcases List.mem_cons.mp hx with rfl | hx
        · exact absurd hb' (Nat.not_lt.mpr (Nat.le_succ _))
        · rw [hwr b hx] at hb; cases hb
  have hfpC : acc + 1 ∉ fp := fun q => absurd (hlt1 _ (hlive _ q)) (Nat.not_lt.mpr (Nat.le_succ _))
  have hfpA : acc ∉ fp := fun q => absurd (hlt1 _ (hlive _ q)) (Nat.lt_irrefl _)
  have hwrA : acc ∉ wr := fun q => hfpA (T.sub _ q)
  generalize hce : (compEnvC scope (closL env scope.names []) (acc + 1) env) = cenv
  have eqc : ({ newEnv scope (acc + 1) env.globals (closL env scope.names []) env.qual none Value.none (some env) builtinsNs with scope := relabel scope env } : Env) = cenv := by rw [← hce]; rfl
  have F' : Fit (relabelS scope sc) cenv := by
    rw [← hce]
    exact ⟨relabel_eq F.scope, C.kind, F.globals, F.builtins⟩
  have hloc : cenv.locals = acc + 1 := by rw [← hce]; rfl
  have hcl : cenv.cells = closL env scope.names [] := by rw [← hce]; rfl
  have hcellsub : ∀ x c, cenv.cells.lookup x = some c → env.cells.lookup x = some c := fun x c e => by
    rw [hcl] at e
    exact closL_sub scope.names [] hcells (fun _ _ e => by cases e) e
  have kk : Keeps s.heap h2 := k1.trans k12
  -- the block's frame
  have H2 : EnvAt w cenv s.heap X2 h2 (σ.seen scope) := by
    refine ⟨H.goodH, kk, ?_, ?_, ?_, ?_, ?_⟩
    · intro b hb
      rcases hb with hb | hb
      · obtain ⟨o, ho⟩ := Option.isSome_iff_exists.mp (H.alive b hb); rw [kk _ _ ho]; rfl
      · rcases List.mem_cons.mp hb with rfl | hb
        · obtain ⟨_, e⟩ := hacc2; rw [e]; rfl
        · rcases List.mem_cons.mp hb with rfl | hb
          · exact hC2
          · obtain ⟨o, ho⟩ := Option.isSome_iff_exists.mp (hlive b (T.sub _ hb)); rw [k12 _ _ ho]; rfl
    · rw [hloc]; exact .inr (.tail _ (.head _))
    · rw [hloc]; exact nC
    · rw [hloc]
      refine ⟨_, hns2, fun x a e k => ?_⟩
      unfold Sto.seen at e
      split at e
      · rename_i hfr
        exfalso
        have hk2 : (relabelS scope sc).names.lookup x = some .local := by rw [← F'.scope]; exact k
        have := lookup_relabel_local2 hk2
        rw [hfr] at this; cases this
      · cases e
    · intro x k
      have hk2 : (relabelS scope sc).names.lookup x = some .cell ∨ (relabelS scope sc).names.lookup x = some .free := by rw [← F'.scope]; exact k
      have hfr : scope.names.lookup x = some .free := by
        rcases hk2 with q | q
        · exact lookup_relabel C.nocell q (.inl rfl)
        · exact lookup_relabel C.nocell q (.inr rfl)
      have hm := lookup_kind_mem hfr
      have hkk : env.kindOf x = some .cell ∨ env.kindOf x = some .free := by unfold Env.kindOf; rw [F.scope]; exact C.free _ hm rfl
      obtain ⟨c, o, ov, g1, g2, g3, g4, g5, g6⟩ := H.cel x hkk
      obtain ⟨c', e1, e2⟩ := closL_lookup scope.names [] hcells (x := x) (.inr ⟨rfl, hm⟩)
      rw [g1] at e2; cases e2
      refine ⟨c, o, ov, by rw [hcl]; exact e1, .inl g2, ?_, kk _ _ g4, g5, fun a ea => ?_⟩
      · rw [hloc]
        exact Nat.ne_of_lt (Nat.lt_succ_of_lt (hold c (by rw [g4]; rfl)))
      · unfold Sto.seen at ea
        rw [if_pos hfr] at ea
        obtain ⟨v, hv, r⟩ := g6 a ea
        exact ⟨v, hv, r.mono (fun b o _ e => kk _ _ e) hX2new⟩
  have st2 : St 0 h2 := T.frame _ _ _ st0 fun b hb o e => k12 _ _ e
  have src2 : Src h2 X2 := T.src _ _ _ _ src0 (fun b o _ e => k12 _ _ e) fun b hn hb hx => by
    have hb' := hlt1 b hb
    rcases hx with hx | hx
    · exact hn (.inl hx)
    · rcases List.mem_cons.mp hx with rfl | hx
      · exact Nat.lt_irrefl _ hb'
      · rcases List.mem_cons.mp hx with rfl | hx
        · exact absurd hb' (Nat.not_lt.mpr (Nat.le_succ _))
        · exact hn (.inr hx)
  have hwrX : ∀ b ∈ wr, X2 b := fun b hb => .inr (.tail _ (.tail _ hb))
  have hcw : ∀ x c, (cenv.kindOf x = some .cell ∨ cenv.kindOf x = some .free) → cenv.cells.lookup x = some c → c ∉ wr := by
    intro x c k e hw
    obtain ⟨c', o, ov, g1, g2, g3, g4, g5, g6⟩ := H2.cel x k
    have e' := hcellsub x c e
    have hk2 : (relabelS scope sc).names.lookup x = some .cell ∨ (relabelS scope sc).names.lookup x = some .free := by rw [← F'.scope]; exact k
    have hfr : scope.names.lookup x = some .free := by
      rcases hk2 with q | q
      · exact lookup_relabel C.nocell q (.inl rfl)
      · exact lookup_relabel C.nocell q (.inr rfl)
    have hkk : env.kindOf x = some .cell ∨ env.kindOf x = some .free := by unfold Env.kindOf; rw [F.scope]; exact C.free _ (lookup_kind_mem hfr) rfl
    obtain ⟨d, o2, _, q1, _, _, q4, _⟩ := H.cel x hkk
    rw [e'] at q1; cases q1
    rw [hwr c hw] at q4; cases q4
  -- the loop
  have loop : ∀ s2 : Shared, (∃ tk, s2 = { s with heap := h2, toks := tk }) → codeAny (model PG w) A (.compLoop (.ListComp elt [⟨target, iter, ifs, 0⟩] scope pos) 0 (.ref I) (.ref acc) cenv) (compPost (model PG w) A E use Q (.ref acc) (acc + 1)) s2 := by
    rintro s2 ⟨tk2, rfl⟩
    refine compLoop_gen (fun k s' => ∃ i h' tk' ys, k = N - i ∧ i ≤ N ∧ s' = { s with heap := h', toks := tk' } ∧ St i h' ∧ Src h' X2 ∧ EnvAt w cenv s.heap X2 h' (σ.seen scope) ∧ h'.PlainList acc ys ∧ RdAll h' X2 ys.toList (pickN p g i)) ?_ N
      ⟨0, h2, tk2, #[], by simp, Nat.zero_le _, rfl, st2, src2, H2, hacc2, .nil⟩
    rintro k s' ⟨i, h3, tk3, ys, rfl, hi, rfl, st3, src3, H3, ha3, ra3⟩
    rcases Nat.lt_or_ge i N with hlt | hge
    · refine wpAny_mono (T.turn i _ cenv s.heap X2 { s with heap := h3, toks := tk3 } _ (fun _ s₂ => wpAny (model PG w) A (forIn ifs true fun c r => if r = true then do let ok ← isTrue c cenv (eval c cenv); pure (ForInStep.yield ok) else pure (ForInStep.yield r)) (fun ok s₃ =>
            if ok = true then wpAny (model PG w) A (eval elt cenv) (fun x s₄ =>
              wpAny (model PG w) A (call (.builtin "list.append") [.ref acc, x]) (fun _ s₅ => ∃ m, m < N - i ∧ ∃ i h' tk' ys, m = N - i ∧ i ≤ N ∧ s₅ = { s with heap := h', toks := tk' } ∧ St i h' ∧ Src h' X2 ∧ EnvAt w cenv s.heap X2 h' (σ.seen scope) ∧ h'.PlainList acc ys ∧ RdAll h' X2 ys.toList (pickN p g i)) (notedBy (model PG w) A cenv fun e s' => compPost (model PG w) A E use Q (.ref acc) (acc + 1) (.error e) s') s₄) (notedBy (model PG w) A cenv fun e s' => compPost (model PG w) A E use Q (.ref acc) (acc + 1) (.error e) s') s₃
            else ∃ m, m < N - i ∧ ∃ i h' tk' ys, m = N - i ∧ i ≤ N ∧ s₃ = { s with heap := h', toks := tk' } ∧ St i h' ∧ Src h' X2 ∧ EnvAt w cenv s.heap X2 h' (σ.seen scope) ∧ h'.PlainList acc ys ∧ RdAll h' X2 ys.toList (pickN p g i)) (notedBy (model PG w) A cenv fun e s' => compPost (model PG w) A E use Q (.ref acc) (acc + 1) (.error e) s') s₂) _ hlt st3 src3 F' (fun x hx => lookup_local_relabel (C.vars x hx)) H3 hwrX (by rw [hloc]; exact hfpC) hcw hwr fun h4 tk4 st4 H4 kx4 kb4 => ?_) (fun r s1 hr => ?_) (fun _ _ e => e)
      · have hxs : ∀ x a, (σ.seen scope) x = some a → ((σ.seen scope).sets xs (bnd i)) x = some a := by
          intro x a e
          have hx : x ∉ xs := by
            intro hx
            have := C.vars x hx
            unfold Sto.seen at e
            rw [this] at e
            simp at e
          rw [sets_other hx]; exact e
        refine (htest i hlt).run (s := { s with heap := h4, toks := tk4 }) R F' H4 fun h5 tk5 k5 H5 => ?_
        have ha4 : h4.PlainList acc ys := ha3.at fun o e => kb4 acc o hwrA (by rw [hloc]; exact hCne.symm) e
        have ra4 := ra3.keeps kx4
        cases hp : p i with
        | false =>
          simp only [Bool.false_eq_true, if_false]
          refine ⟨N - (i + 1), by omega, i + 1, h5, tk5, ys, rfl, hlt, rfl, T.frame _ _ _ st4 fun b hb o e => k5 _ _ e, T.src _ _ _ _ (T.src _ _ _ _ src3 kx4 fun _ n _ => n) (fun b o _ e => k5 _ _ e) fun _ n _ => n, H5.weak hxs, ha4.at fun o e => k5 _ _ e, ?_⟩
          rw [pickN_succ, hp]
          simpa using ra4.keeps k5.x
        | true =>
          simp only [if_true]
          refine (helt i hlt hp).run (s := { s with heap := h5, toks := tk5 }) R F' H5 fun v h6 tk6 k6 H6 rv => ?_
          have hys : ys.size ≤ sizeLine := by
            have e1 := ra3.length
            have e2 := pickN_len p g i
            have e4 : ys.toList.length = ys.size := by simp
            omega
          refine wpAny_list_append_plain (s := { s with heap := h6, toks := tk6 }) (hsz := hys) ((ha4.at fun o e => k5 _ _ e).at fun o e => k6 _ _ e) fun h7 ha7 sb7 => ?_
          have kx7 : KeepsX X2 h6 h7 := .sameBut sb7 (.inr (.head _))
          have hmv : ∀ b o, b ∉ [acc] → h6.get? b = some o → h7.get? b = some o := fun b o n e => (sb7.2 b (fun q => n (List.mem_singleton.mpr q))).trans e
          have H7 : EnvAt w cenv s.heap X2 h7 _ := H6.moved hmv (fun b hb => by rcases List.mem_singleton.mp hb with rfl; exact .inr (.head _)) (fun q => by rw [hloc] at q; exact hCne (List.mem_singleton.mp q))
            (fun x c k e hb => by
              rcases List.mem_singleton.mp hb with rfl
              have hkk := hcw x _ k e
              obtain ⟨c', o, ov, g1, g2, g3, g4, g5, g6⟩ := H2.cel x k
              rw [e] at g1; cases g1
              obtain ⟨m, e2⟩ := hacc2
              rw [g4] at e2
              have := Option.some.inj e2
              rw [this] at g5; cases g5)
            (fun b hb => by rcases List.mem_singleton.mp hb with rfl; exact nacc)
            (fun b hb => by rcases List.mem_singleton.mp hb with rfl; obtain ⟨_, e⟩ := ha7; rw [e]; rfl)
          refine ⟨N - (i + 1), by omega, i + 1, h7, tk6, ys.push v, rfl, hlt, rfl, T.frame _ _ _ st4 fun b hb o e => (sb7.2 b (fun q => hfpA (q ▸ hb))).trans (k6 _ _ (k5 _ _ e)), T.src _ _ _ _ (T.src _ _ _ _ (T.src _ _ _ _ src3 kx4 fun _ n _ => n) ((k5.trans k6).x) fun _ n _ => n) kx7 fun _ n _ => n, H7.weak hxs, ha7, ?_⟩
          rw [pickN_succ, hp]
          simp only [if_true, Array.toList_push]
          exact (((ra4.keeps k5.x).keeps k6.x).keeps kx7).append (.cons (rv.keeps kx7) .nil)
      · obtain ⟨v, rfl, hv⟩ := hr
        exact hv
    · have hin : i = N := Nat.le_antisymm hi hge
      subst hin
      refine T.done _ _ _ st3 fun h4 tk4 kb4 => ?_
      have k4 : Keeps s.heap h4 := fun b o e => kb4 b o (fun q => by rw [hwr b q] at e; cases e) (H3.keep _ _ e)
      have hCw : acc + 1 ∉ wr := fun q => hfpC (T.sub _ q)
      obtain ⟨m3, hm3, _⟩ := H3.loc
      rw [hloc] at hm3
      have hm4 : h4.Ns (acc + 1) m3 := hm3.at fun o e => kb4 _ o hCw e
      obtain ⟨na, hna⟩ := ha3
      refine h acc (acc + 1) h4 tk4 k4 nC (by obtain ⟨o, _, _, ho, _⟩ := hm4; rw [ho]; rfl) ⟨m3, hm4⟩ ?_
      refine .list (n := na) (vs := ys) ?_ (kb4 acc _ hwrA hna) ?_
      · intro q
        rcases q with q | q
        · have := H.alive acc q; rw [nacc] at this; cases this
        · exact hCne (List.mem_singleton.mp q).symm
      · have := ra3.keeps (h' := h4) (X := X2) (fun b o n e => kb4 b o (fun q => n (hwrX b q)) e)
        exact this.less fun b hb => by
          rcases hb with hb | hb
          · exact .inl hb
          · rcases List.mem_singleton.mp hb with rfl; exact .inr (.tail _ (.head _))
  rw [eqc]
  exact codeAny_compStart_list (loop _ ⟨_, rfl⟩) (T.self 0 _ _ _ st2 (loop _ ⟨_, rfl⟩))
where
  lookup_local_relabel {scope sc : Scope} {x : Str} (h : scope.names.lookup x = some .local) : (relabelS scope sc).names.lookup x = some .local := by
    unfold relabelS
    dsimp only
    generalize scope.names = names at h
    induction names with
    | nil => cases h
    | cons y r ih =>
      obtain ⟨n, k⟩ := y
      rw [List.map_cons]
      rw [List.lookup_cons] at h
      by_cases hc : (k == NameKind.free && sc.kind == .function && sc.names.lookup n == some .cell) = true
      · dsimp only
        rw [if_pos hc, List.lookup_cons]
        cases e : x == n with
        | true =>
          rw [e] at h; cases h
          simp at hc
        | false => rw [e] at h; exact ih h
      · dsimp only
        rw [if_neg hc, List.lookup_cons]
        cases e : x == n with
        | true => rw [e] at h; exact h
        | false => rw [e] at h; exact ih h
  lookup_relabel_local2 {scope sc : Scope} {x : Str} (h : (relabelS scope sc).names.lookup x = some .local) : scope.names.lookup x = some .local := by
    unfold relabelS at h
    dsimp only at h
    generalize scope.names = names at h
    induction names with
    | nil => cases h
    | cons y r ih =>
      obtain ⟨n, k⟩ := y
      rw [List.map_cons] at h
      rw [List.lookup_cons]
      by_cases hc : (k == NameKind.free && sc.kind == .function && sc.names.lookup n == some .cell) = true
      · dsimp only at h
        rw [if_pos hc, List.lookup_cons] at h
        cases e : x == n with
        | true => rw [e] at h; cases h
        | false => rw [e] at h; exact ih h
      · dsimp only at h
        rw [if_neg hc, List.lookup_cons] at h
        cases e : x == n with
        | true => rw [e] at h; exact h
        | false => rw [e] at h; exact ih h
end
end Mine

end
section
open PySem PySem.W PyProof.Rows
set_option maxRecDepth 100000
set_option linter.unusedVariables false
namespace Mine
section
variable {w : World} {n : Nat} {sc : Scope} {σ : Sto}

theorem Ev_comp {elt iter target : Expr} {ifs : List Expr} {scope : Scope} {pos : Pos} {N : Nat} {xs : List Str} {bnd : Nat → List AV} {p : Nat → Bool} {g : Nat → PyData}
    (hit : EvIt w n sc σ iter N target xs bnd) (C : CompOk sc scope xs) (hN : N ≤ sizeLine)
    (htest : ∀ i, i < N → EvI w n (relabelS scope sc) ((σ.seen scope).sets xs (bnd i)) ifs (p i))
    (helt : ∀ i, i < N → p i = true → Ev w n (relabelS scope sc) ((σ.seen scope).sets xs (bnd i)) elt (.dat (g i)))
    (hs : ∀ env x, foldedSetIterable iter env x = pure x := by intro _ _; rfl) : Ev w n sc σ (.ListComp elt [⟨target, iter, ifs, 0⟩] scope pos) (.dat (.list (pickN p g N))) := by
  intro A env h₀ X s Q E R F H h
  rw [eval_ListComp]
  refine comp_core (use := none) hit C hN htest helt R F H (fun acc cl h' tk' k hc ha hm r => ?_) (hs env)
  obtain ⟨m, hm⟩ := hm
  refine ⟨m, hm, fun h'' sb => h _ h'' tk' (fun b o e => (sb.2 b (ne_of_none hc e)).trans (k _ _ e)) ?_⟩
  have := r.keeps (KeepsX.sameBut sb (.inr (.head _)))
  exact this.less fun b hb => .inl hb

variable {A : Around} {env : Env} {h₀ : Heap} {X : Addr → Prop} {s : Shared} {E : Value → Shared → Prop}
theorem st_comp {x : Str} {px spos : Pos} {rest : List Stmt} {Q : Flow → Shared → Prop} {elt iter target : Expr} {ifs : List Expr} {scope : Scope} {pos : Pos} {N : Nat} {xs : List Str} {bnd : Nat → List AV} {p : Nat → Bool} {g : Nat → PyData}
    (hit : EvIt w n sc σ iter N target xs bnd) (C : CompOk sc scope xs) (hN : N ≤ sizeLine)
    (htest : ∀ i, i < N → EvI w n (relabelS scope sc) ((σ.seen scope).sets xs (bnd i)) ifs (p i))
    (helt : ∀ i, i < N → p i = true → Ev w n (relabelS scope sc) ((σ.seen scope).sets xs (bnd i)) elt (.dat (g i)))
    (hk : sc.names.lookup x = some .local) (R : Room n A) (F : Fit sc env) (H : EnvAt w env h₀ X s.heap σ)
    (h : ∀ h' tk', EnvAt w env h₀ X h' (σ.set x (.dat (.list (pickN p g N)))) → Run w A rest env Q E { s with heap := h', toks := tk' })
    (hsw : ∀ env, env.scope = sc → swapsWith (.ListComp elt [⟨target, iter, ifs, 0⟩] scope pos) (some (.Name x px)) spos.line env = pure true)
    (hs : ∀ env x, foldedSetIterable iter env x = pure x := by intro _ _; rfl) : Run w A (.Assign [.Name x px] (.ListComp elt [⟨target, iter, ifs, 0⟩] scope pos) spos :: rest) env Q E s := by
  refine wpAny_execs_cons ?_
  rw [exec_Assign_Name_used _ _ _ _ (hsw env F.scope)]
  refine wpAny_bind (wpAny_standAt (wpAny_bind ?_))
  show wpAny (model PG w) A (do let _ ← comprehension (.ListComp elt [⟨target, iter, ifs, 0⟩] scope pos) scope env (firstIterPos [⟨target, iter, ifs, 0⟩] pos) (newList []) false (eval iter env) (some (assign (.Name x px) env))) _ E s
  refine wpAny_bind (comp_core (use := some (assign (.Name x px) env)) hit C hN htest helt R F H (fun acc cl h1 tk1 k1 hc ha hm r => ?_) (hs env))
  obtain ⟨m, hm⟩ := hm
  show wpAny (model PG w) A (assign (.Name x px) env (.ref acc)) _ E _
  refine assign_Name ?_
  -- the frame, with the block's own dict hidden
  have H1 : EnvAt w env h₀ (XU X [cl]) h1 σ := by
    have hnew : ∀ b, ¬ X b → (s.heap.get? b).isSome → ¬ XU X [cl] b := fun b hn hb hx => by
      rcases hx with hx | hx
      · exact hn hx
      · rcases List.mem_singleton.mp hx with rfl; rw [hc] at hb; cases hb
    refine ⟨H.good, H.keep.trans k1, ?_, .inl H.hidL, H.above, ?_, fun y ky => ?_⟩
    · intro b hb
      rcases hb with hb | hb
      · obtain ⟨o, ho⟩ := Option.isSome_iff_exists.mp (H.alive b hb); rw [k1 _ _ ho]; rfl
      · rcases List.mem_singleton.mp hb with rfl; exact ha
    · obtain ⟨m, hm, hr⟩ := H.loc
      refine ⟨m, hm.keeps k1, fun y a e k => ?_⟩
      obtain ⟨v, hv, rv⟩ := hr y a e k
      exact ⟨v, hv, rv.mono (fun b o _ e => k1 _ _ e) hnew⟩
    · obtain ⟨c, o, ov, g1, g2, g3, g4, g5, g6⟩ := H.cel y ky
      refine ⟨c, o, ov, g1, .inl g2, g3, k1 _ _ g4, g5, fun a e => ?_⟩
      obtain ⟨v, hv, rv⟩ := g6 a e
      exact ⟨v, hv, rv.mono (fun b o _ e => k1 _ _ e) hnew⟩
  have hLc : env.locals ≠ cl := by
    intro e
    have := H.alive _ H.hidL
    rw [e, hc] at this; cases this
  refine store_localS (s := { s with heap := h1, toks := tk1 }) F H1 hk (a := .dat (.list (pickN p g N))) r fun h2 tk2 H2 kx2 sb2 => ?_
  refine ⟨m, hm.sameBut sb2 hLc.symm, fun h3 sb3 => ?_⟩
  have H4 : EnvAt w env h₀ X h3 (σ.set x (.dat (.list (pickN p g N)))) := by
    have hl : ∀ b, X b → XU X [cl] b := fun b hb => .inl hb
    have kx3 : KeepsX (XU X [cl]) h2 h3 := .sameBut sb3 (.inr (.head _))
    have hXc : ∀ b, X b → b ≠ cl := fun b hb e => by have := H.alive b hb; rw [e, hc] at this; cases this
    refine ⟨H2.good, fun b o e => ?_, fun b hb => by rw [sb3.2 b (hXc b hb)]; exact H2.alive b (hl b hb), H.hidL, H2.above, ?_, fun y ky => ?_⟩
    · refine (sb3.2 b ?_).trans (H2.keep _ _ e)
      intro q; subst q
      have := H.keep _ _ e; rw [hc] at this; cases this
    · obtain ⟨m, hm, hr⟩ := H2.loc
      refine ⟨m, hm.sameBut sb3 hLc, fun y a e k => ?_⟩
      obtain ⟨v, hv, rv⟩ := hr y a e k
      exact ⟨v, hv, (rv.keeps kx3).less hl⟩
    · obtain ⟨c, o, ov, g1, g2, g3, g4, g5, g6⟩ := H2.cel y ky
      obtain ⟨c', _, _, q1, q2, _⟩ := H.cel y ky
      rw [g1] at q1; cases q1
      refine ⟨c, o, ov, g1, q2, g3, (sb3.2 c (hXc c q2)).trans g4, g5, fun a e => ?_⟩
      obtain ⟨v, hv, rv⟩ := g6 a e
      exact ⟨v, hv, (rv.keeps kx3).less hl⟩
  exact wpAny_pure (wpAny_pure (h h3 tk2 H4))
end
end Mine

end
section
open PySem PySem.W PyProof.Rows
set_option maxRecDepth 100000
set_option linter.unusedVariables false
namespace Mine
section
variable {w : World} {n : Nat} {sc : Scope} {σ : Sto}

-- isinstance
theorem ty_T (T : String) (h : ((Manifest.find? T).elim "type" (·.metatype)) = "type") : typeOf (.type T) = pure (.type "type") := by show pure (Value.type _) = _; rw [h]
theorem isi_true {a : AV} {Tx T : String} (hT : HasT a Tx) (hty : typeOf (.type T) = pure (.type "type")) (hsub : isSubtype (.type Tx) (.type T) = pure true) : DoesL w n (cB "isinstance") [a, .val (.type T)] (B true) := fun A X s vals Q E _ _ _ rs h => by
  cases rs with | cons r rs => cases rs with | cons r2 rs =>
    cases rs; cases r2
    exact call_isinstance (isinstance_true hty hsub) ⟨(hT s X _ r).1, h _ s.heap s.toks (Keeps.refl _) (.bool _)⟩
theorem isi_false_int {i : Int} {T : String} (hne : (Value.type "int" == Value.type T) = false) (hty : typeOf (.type T) = pure (.type "type")) (hsub : isSubtype (.type "int") (.type T) = pure false) : DoesL w n (cB "isinstance") [I i, .val (.type T)] (B false) := fun A X s vals Q E _ _ _ rs h => by
  cases rs with | cons r rs => cases rs with | cons r2 rs =>
    cases rs; cases r2; cases r
    exact call_isinstance (isinstance_false_int hne hty hsub) (h _ s.heap _ (Keeps.refl _) (.bool _))
theorem isi_false_str {i : Str} {T : String} (hne : (Value.type "str" == Value.type T) = false) (hty : typeOf (.type T) = pure (.type "type")) (hsub : isSubtype (.type "str") (.type T) = pure false) : DoesL w n (cB "isinstance") [S i, .val (.type T)] (B false) := fun A X s vals Q E _ _ _ rs h => by
  cases rs with | cons r rs => cases rs with | cons r2 rs =>
    cases rs; cases r2; cases r
    exact call_isinstance (isinstance_false_str hne hty hsub) (h _ s.heap _ (Keeps.refl _) (.bool _))
theorem isi_false_list {xs : List PyData} {T : String} (hne : (Value.type "list" == Value.type T) = false) (hty : typeOf (.type T) = pure (.type "type")) (hsub : isSubtype (.type "list") (.type T) = pure false) : DoesL w n (cB "isinstance") [.dat (.list xs), .val (.type T)] (B false) := fun A X s vals Q E _ _ _ rs h => by
  cases rs with | cons r rs => cases rs with | cons r2 rs =>
    cases rs; cases r2
    cases r with | list hn ho ra => exact call_isinstance (isinstance_false_list hne hty hsub) ⟨⟨_, ho, rfl⟩, h _ s.heap _ (Keeps.refl _) (.bool _)⟩
theorem isi_false_tuple {xs : List PyData} {T : String} (hne : (Value.type "tuple" == Value.type T) = false) (hty : typeOf (.type T) = pure (.type "type")) (hsub : isSubtype (.type "tuple") (.type T) = pure false) : DoesL w n (cB "isinstance") [.dat (.tuple xs), .val (.type T)] (B false) := fun A X s vals Q E _ _ _ rs h => by
  cases rs with | cons r rs => cases rs with | cons r2 rs =>
    cases rs; cases r2
    cases r with | tuple hn ho ra => exact call_isinstance (isinstance_false_tuple hne hty hsub) ⟨⟨_, ho, rfl⟩, h _ s.heap _ (Keeps.refl _) (.bool _)⟩
-- tuple(list), list(list)
theorem do_tuple {xs : List PyData} (hz : xs.length ≤ sizeLine) : DoesL w n (cT "tuple") [.dat (.list xs)] (.dat (.tuple xs)) := fun A X s vals Q E _ _ L rs h => by
  cases rs with | cons r rs =>
    cases rs
    cases r with | list hn ho ra =>
      rename_i vs _
      have e : vs.size = xs.length := by have := ra.length; simpa using this
      refine call_tuple_list ⟨_, ho, rfl, _, rfl⟩ (fun h' hk => ?_) (by rw [e]; exact hz)
      have k : Keeps s.heap h' := hk
      refine h _ (h'.push { cls := .type "tuple", data := .seq vs }) s.toks (k.trans (Keeps.push _ _)) (.tuple (L.keeps k).new (Heap.get?_push_size _ rfl) ((ra.keeps k.x).keeps (Keeps.push _ _).x))
theorem do_list {xs : List PyData} (hz : xs.length ≤ sizeLine) : DoesL w n (cT "list") [.dat (.list xs)] (.dat (.list xs)) := fun A X s vals Q E _ _ L rs h => by
  cases rs with | cons r rs =>
    cases rs
    cases r with | list hn ho ra =>
      rename_i vs _
      have e : vs.size = xs.length := by have := ra.length; simpa using this
      refine call_list_seq (hsz := by rw [e]; exact hz) _ (.inl rfl) ho rfl rfl fun h' c' hk hD => ?_
      have k : Keeps s.heap h' := hk
      exact h _ h' s.toks k (.list L.new hD (ra.keeps k.x))
-- list + list
theorem op_addL {xs ys : List PyData} (hz : xs.length + ys.length ≤ sizeLine) : Does2 w n (binaryOp .Add) (.dat (.list xs)) (.dat (.list ys)) (.dat (.list (xs ++ ys))) := fun A X s u v Q E _ _ L ru rv h => by
  cases ru with | list hn ho ra => cases rv with | list hn2 ho2 rb =>
    rename_i vs1 _ _ vs2 _
    have e : vs1.size = xs.length := by have := ra.length; simpa using this
    have e2 : vs2.size = ys.length := by have := rb.length; simpa using this
    refine P.add_list ho ho2 ?_ (by rw [e, e2]; exact hz)
    have k := Keeps.push s.heap { cls := .type "list", data := .seq (vs1 ++ vs2) }
    refine h _ _ s.toks k (.list L.new (Heap.get?_push_size _ rfl) ?_)
    rw [Array.toList_append]
    exact (ra.keeps k.x).append (rb.keeps k.x)
-- join
theorem do_join {sep : Str} {ys : List Str} (hok : JoinOk sep ys = true) : DoesL w n (cB "str.join") [S sep, .dat (.list (ys.map .str))] (S (Txt.join sep ys)) := fun A X s vals Q E _ _ L rs h => by
  cases rs with | cons r rs => cases rs with | cons r2 rs =>
    cases rs; cases r
    cases r2 with | list hn ho ra =>
      rename_i vs _
      obtain ⟨l, hl, hm⟩ := strs_of ra
      subst hm
      unfold JoinOk at hok
      rw [Bool.not_eq_true'] at hok
      have hv : vs = (strValues l).toArray := by apply Array.ext'; simpa using hl.symm
      rw [hv] at ho
      refine call_meets F.slot_str_join (typeIs_str _ _ _) F.entry_str_join (F.args_str_join_2 _ _) (meets_str_join_list sep _ _ l hok) ⟨⟨_, ho, rfl, _, rfl⟩, ?_⟩
      exact post_join l ⟨joinFit_length hok, fun t' k => h _ s.heap _ (Keeps.refl _) (.str _ _)⟩
where
  strs_of {h : Heap} {X : Addr → Prop} : ∀ {vs : List Value} {ys : List Str}, RdAll h X vs (ys.map .str) → ∃ l : List (Str × Tok), strValues l = vs ∧ l.map (·.1) = ys
    | [], [], .nil => ⟨[], rfl, rfl⟩
    | _ :: _, y :: _, .cons a b => by
      obtain ⟨l, e1, e2⟩ := strs_of b
      cases a
      rename_i t
      refine ⟨(y, t) :: l, ?_, ?_⟩
      · show Value.str _ t :: strValues l = _
        rw [e1]
      · show _ :: l.map (·.1) = _
        rw [e2]
-- count
theorem do_count {xs : List PyData} {x : PyData} (hx : Plain x) (hxs : Plain (.list xs)) : DoesL w n (cB "list.count") [.dat (.list xs), .dat x] (I ((xs.countP fun y => PyData.eqv y x : Nat) : Int)) := fun A X s vals Q E R _ L rs h => by
  cases rs with | cons r rs => cases rs with | cons r2 rs =>
    cases rs
    cases r with | list hn ho ra =>
      rename_i vs _
      obtain ⟨as, ra'⟩ := ra.reads
      obtain ⟨bs, rx⟩ := RdD.reads r2
      have hc : PyData.canLayAll0 xs = true := by simpa [PyData.canLay0] using hxs.1
      have hu : A.in1.units + 1 + min (PyData.depthAll xs) x.depth < cLine := by
        have h1 : min (PyData.depthAll xs) x.depth ≤ x.depth := Nat.min_le_right _ _
        have := hx.2; have := R.2.1; show A.units + 1 + 1 + _ < _; omega
      refine call_meets F.slot_list_count ⟨_, ho, rfl⟩ F.entry_list_count (F.args_list_count_2 _ _) (SeqAt.list_countAt _ vs _ none #[] _ (fun y => PyData.eqv (SeqAt.readOf s.heap y) x)) ⟨ho, fun y hy => ?_, ?_⟩
      · exact SeqAt.items_eqAt (A := A) (s := s) ra' rx hc hx.1 (by have h1 : min (PyData.depthAll xs) x.depth ≤ x.depth := Nat.min_le_right _ _; have := hx.2; have := R.2.1; omega) y hy
      · have e : vs.toList.countP (fun y => PyData.eqv (SeqAt.readOf s.heap y) x) = xs.countP fun y => PyData.eqv y x := by
          rw [← SeqAt.readsAll_map xs _ _ hc ra', List.countP_map]; rfl
        rw [e]
        exact h _ s.heap _ (Keeps.refl _) (.int _ _)
end
end Mine

end
section
open PySem PySem.W PyProof.Rows
set_option maxRecDepth 100000
set_option linter.unusedVariables false
namespace Mine

/-- the first best one -/
def best {α : Type} (lt : α → α → Bool) (x : α) (xs : List α) : α := xs.foldl (fun b y => if lt y b then y else b) x
def bestL {α : Type} (lt : α → α → Bool) (d : α) : List α → α
  | [] => d
  | x :: xs => best lt x xs
theorem argBest_lt (bt : Nat → Nat → Bool) : ∀ k, argBest bt k ≤ k
  | 0 => Nat.le_refl _
  | k + 1 => by
    unfold argBest
    split
    · exact Nat.le_refl _
    · exact Nat.le_succ_of_le (argBest_lt bt k)
theorem argBest_best {α : Type} (lt : α → α → Bool) (d : α) (xs : List α) : ∀ k, k < xs.length → xs.getD (argBest (fun i j => lt (xs.getD i d) (xs.getD j d)) k) d = bestL lt d (xs.take (k + 1))
  | 0, h => by
    cases xs with
    | nil => cases h
    | cons x xs => rfl
  | k + 1, h => by
    have ih := argBest_best lt d xs k (Nat.lt_of_succ_lt h)
    cases xs with
    | nil => cases h
    | cons x xs =>
      have h' : k < xs.length := by simpa using h
      unfold argBest
      rw [List.take_succ_cons] at ih ⊢
      simp only [bestL, best] at ih ⊢
      rw [show xs.take (k + 1) = xs.take k ++ [xs[k]] from by rw [List.take_succ_eq_append_getElem h'], List.foldl_append]
      simp only [List.foldl_cons, List.foldl_nil]
      rw [← ih]
      have e1 : (x :: xs).getD (k + 1) d = xs[k] := by simp [List.getD_eq_getElem?_getD, h']
      rw [e1]
      split
      · rw [e1]
      · rfl

section
variable {w : World} {n : Nat} {sc : Scope} {σ : Sto}

theorem ints_of {h : Heap} {X : Addr → Prop} : ∀ {vs : List Value} {is : List Int}, RdAll h X vs (is.map .int) → ∀ {i : Nat} {v : Value}, vs[i]? = some v → ∃ t, v = .int (is.getD i 0) t
  | _, [], .nil, _, _, e => by simp at e
  | _, x :: is, .cons a b, 0, v, e => by simp at e; subst e; cases a; exact ⟨_, rfl⟩
  | _, x :: is, .cons a b, i + 1, v, e => by
    simp at e
    obtain ⟨t, ht⟩ := ints_of b e
    exact ⟨t, by simpa using ht⟩
theorem strs_of' {h : Heap} {X : Addr → Prop} : ∀ {vs : List Value} {is : List Str}, RdAll h X vs (is.map .str) → ∀ {i : Nat} {v : Value}, vs[i]? = some v → ∃ t, v = .str (is.getD i "") t
  | _, [], .nil, _, _, e => by simp at e
  | _, x :: is, .cons a b, 0, v, e => by simp at e; subst e; cases a; exact ⟨_, rfl⟩
  | _, x :: is, .cons a b, i + 1, v, e => by
    simp at e
    obtain ⟨t, ht⟩ := strs_of' b e
    exact ⟨t, by simpa using ht⟩
theorem bools_of {h : Heap} {X : Addr → Prop} : ∀ {vs : List Value} {is : List Bool}, RdAll h X vs (is.map .bool) → ∀ {i : Nat} {v : Value}, vs[i]? = some v → v = .bool (is.getD i false)
  | _, [], .nil, _, _, e => by simp at e
  | _, x :: is, .cons a b, 0, v, e => by simp at e; subst e; cases a; rfl
  | _, x :: is, .cons a b, i + 1, v, e => by
    simp at e
    simpa using bools_of b e

def minI (is : List Int) : Int := bestL (fun a b => decide (a < b)) 0 is
def maxI (is : List Int) : Int := bestL (fun a b => decide (b < a)) 0 is
def ltS (a b : Str) : Bool := decide (a.cps.toList < b.cps.toList)
def minS (is : List Str) : Str := bestL (fun a b => ltS a b) "" is
def maxS (is : List Str) : Str := bestL (fun a b => ltS b a) "" is

theorem do_minI {is : List Int} (hne : 0 < is.length) : DoesL w n (cB "min") [.dat (.list (is.map .int))] (I (minI is)) := fun A X s vals Q E R _ L rs h => by
  cases rs with | cons r rs =>
    cases rs
    cases r with | list hn ho ra =>
      rename_i a vs m
      have e : vs.size = is.length := by have := ra.length; simpa using this
      refine call_min_walk (wpAny_pyIter_list ⟨_, ho, rfl, _, rfl⟩ ?_)
      have hl := Heap.lt_size ho
      have W := Walks.list (prog := PG) (w := w) (A := A.in1) R.hh s.heap.objs.size a (Nat.ne_of_lt hl) vs
      refine ⟨_, _, _, _, _, _, fun i j => decide (is.getD i 0 < is.getD j 0), rfl, W, ⟨⟨_, Heap.get?_push_size _ rfl, rfl, rfl⟩, _, Heap.get?_push_of_some _ ho, rfl, _, rfl⟩, ?_, by rw [e]; exact hne, ?_, ?_⟩
      · intro b hb
        dsimp only
        rw [Heap.size_push]
        rcases List.mem_cons.mp hb with rfl | hb
        · exact Nat.lt_succ_self _
        · rcases List.mem_singleton.mp hb with rfl; exact Nat.lt_succ_of_lt hl
      · intro i j vi vj s' Q' E' hi hj hq
        obtain ⟨t, rfl⟩ := ints_of ra (by rw [Array.getElem?_toList]; exact hi)
        obtain ⟨u, rfl⟩ := ints_of ra (by rw [Array.getElem?_toList]; exact hj)
        exact lt_int hq
      · intro v h' tk hv hk
        obtain ⟨t, rfl⟩ := ints_of ra (by rw [Array.getElem?_toList]; exact hv)
        have k : Keeps s.heap h' := fun b o e => hk b o (fun q => by rcases List.mem_singleton.mp q with rfl; exact absurd (Heap.lt_size e) (Nat.lt_irrefl _)) (Heap.get?_push_of_some _ e)
        refine h _ h' tk k ?_
        rw [e, argBest_best (fun a b => decide (a < b)) 0 is _ (by omega), Nat.sub_add_cancel hne, List.take_length]
        exact .int _ _
theorem do_maxI {is : List Int} (hne : 0 < is.length) : DoesL w n (cB "max") [.dat (.list (is.map .int))] (I (maxI is)) := fun A X s vals Q E R _ L rs h => by
  cases rs with | cons r rs =>
    cases rs
    cases r with | list hn ho ra =>
      rename_i a vs m
      have e : vs.size = is.length := by have := ra.length; simpa using this
      refine call_max_walk (wpAny_pyIter_list ⟨_, ho, rfl, _, rfl⟩ ?_)
      have hl := Heap.lt_size ho
      have W := Walks.list (prog := PG) (w := w) (A := A.in1) R.hh s.heap.objs.size a (Nat.ne_of_lt hl) vs
      refine ⟨_, _, _, _, _, _, fun i j => decide (is.getD j 0 < is.getD i 0), rfl, W, ⟨⟨_, Heap.get?_push_size _ rfl, rfl, rfl⟩, _, Heap.get?_push_of_some _ ho, rfl, _, rfl⟩, ?_, by rw [e]; exact hne, ?_, ?_⟩
      · intro b hb
        dsimp only
        rw [Heap.size_push]
        rcases List.mem_cons.mp hb with rfl | hb
        · exact Nat.lt_succ_self _
        · rcases List.mem_singleton.mp hb with rfl; exact Nat.lt_succ_of_lt hl
      · intro i j vi vj s' Q' E' hi hj hq
        obtain ⟨t, rfl⟩ := ints_of ra (by rw [Array.getElem?_toList]; exact hi)
        obtain ⟨u, rfl⟩ := ints_of ra (by rw [Array.getElem?_toList]; exact hj)
        exact gt_int hq
      · intro v h' tk hv hk
        obtain ⟨t, rfl⟩ := ints_of ra (by rw [Array.getElem?_toList]; exact hv)
        have k : Keeps s.heap h' := fun b o e => hk b o (fun q => by rcases List.mem_singleton.mp q with rfl; exact absurd (Heap.lt_size e) (Nat.lt_irrefl _)) (Heap.get?_push_of_some _ e)
        refine h _ h' tk k ?_
        rw [e, argBest_best (fun a b => decide (b < a)) 0 is _ (by omega), Nat.sub_add_cancel hne, List.take_length]
        exact .int _ _
theorem do_minS {is : List Str} (hne : 0 < is.length) : DoesL w n (cB "min") [.dat (.tuple (is.map .str))] (S (minS is)) := fun A X s vals Q E R _ L rs h => by
  cases rs with | cons r rs =>
    cases rs
    cases r with | tuple hn ho ra =>
      rename_i a vs m
      have e : vs.size = is.length := by have := ra.length; simpa using this
      refine call_min_walk (wpAny_pyIter_tuple ⟨_, ho, rfl, _, rfl⟩ ?_)
      have hl := Heap.lt_size ho
      have W := Walks.tuple (prog := PG) (w := w) (A := A.in1) R.hh s.heap.objs.size a (Nat.ne_of_lt hl) vs
      refine ⟨_, _, _, _, _, _, fun i j => ltS (is.getD i "") (is.getD j ""), rfl, W, ⟨⟨_, Heap.get?_push_size _ rfl, rfl, rfl⟩, _, Heap.get?_push_of_some _ ho, rfl, _, rfl⟩, ?_, by rw [e]; exact hne, ?_, ?_⟩
      · intro b hb
        dsimp only
        rw [Heap.size_push]
        rcases List.mem_cons.mp hb with rfl | hb
        · exact Nat.lt_succ_self _
        · rcases List.mem_singleton.mp hb with rfl; exact Nat.lt_succ_of_lt hl
      · intro i j vi vj s' Q' E' hi hj hq
        obtain ⟨t, rfl⟩ := strs_of' ra (by rw [Array.getElem?_toList]; exact hi)
        obtain ⟨u, rfl⟩ := strs_of' ra (by rw [Array.getElem?_toList]; exact hj)
        exact PyProof.Rows.lt_str hq
      · intro v h' tk hv hk
        obtain ⟨t, rfl⟩ := strs_of' ra (by rw [Array.getElem?_toList]; exact hv)
        have k : Keeps s.heap h' := fun b o e => hk b o (fun q => by rcases List.mem_singleton.mp q with rfl; exact absurd (Heap.lt_size e) (Nat.lt_irrefl _)) (Heap.get?_push_of_some _ e)
        refine h _ h' tk k ?_
        rw [e, argBest_best (fun a b => ltS a b) "" is _ (by omega), Nat.sub_add_cancel hne, List.take_length]
        exact .str _ _
theorem do_maxS {is : List Str} (hne : 0 < is.length) : DoesL w n (cB "max") [.dat (.tuple (is.map .str))] (S (maxS is)) := fun A X s vals Q E R _ L rs h => by
  cases rs with | cons r rs =>
    cases rs
    cases r with | tuple hn ho ra =>
      rename_i a vs m
      have e : vs.size = is.length := by have := ra.length; simpa using this
      refine call_max_walk (wpAny_pyIter_tuple ⟨_, ho, rfl, _, rfl⟩ ?_)
      have hl := Heap.lt_size ho
      have W := Walks.tuple (prog := PG) (w := w) (A := A.in1) R.hh s.heap.objs.size a (Nat.ne_of_lt hl) vs
      refine ⟨_, _, _, _, _, _, fun i j => ltS (is.getD j "") (is.getD i ""), rfl, W, ⟨⟨_, Heap.get?_push_size _ rfl, rfl, rfl⟩, _, Heap.get?_push_of_some _ ho, rfl, _, rfl⟩, ?_, by rw [e]; exact hne, ?_, ?_⟩
      · intro b hb
        dsimp only
        rw [Heap.size_push]
        rcases List.mem_cons.mp hb with rfl | hb
        · exact Nat.lt_succ_self _
        · rcases List.mem_singleton.mp hb with rfl; exact Nat.lt_succ_of_lt hl
      · intro i j vi vj s' Q' E' hi hj hq
        obtain ⟨t, rfl⟩ := strs_of' ra (by rw [Array.getElem?_toList]; exact hi)
        obtain ⟨u, rfl⟩ := strs_of' ra (by rw [Array.getElem?_toList]; exact hj)
        exact P.gt_str hq
      · intro v h' tk hv hk
        obtain ⟨t, rfl⟩ := strs_of' ra (by rw [Array.getElem?_toList]; exact hv)
        have k : Keeps s.heap h' := fun b o e => hk b o (fun q => by rcases List.mem_singleton.mp q with rfl; exact absurd (Heap.lt_size e) (Nat.lt_irrefl _)) (Heap.get?_push_of_some _ e)
        refine h _ h' tk k ?_
        rw [e, argBest_best (fun a b => ltS b a) "" is _ (by omega), Nat.sub_add_cancel hne, List.take_length]
        exact .str _ _
theorem do_all {is : List Bool} : DoesL w n (cB "all") [.dat (.list (is.map .bool))] (B (is.all id)) := fun A X s vals Q E R _ L rs h => by
  cases rs with | cons r rs =>
    cases rs
    cases r with | list hn ho ra =>
      rename_i a vs m
      have e : vs.size = is.length := by have := ra.length; simpa using this
      refine call_all_walk (wpAny_pyIter_list ⟨_, ho, rfl, _, rfl⟩ ?_)
      have hl := Heap.lt_size ho
      have W := Walks.list (prog := PG) (w := w) (A := A.in1) R.hh s.heap.objs.size a (Nat.ne_of_lt hl) vs
      refine ⟨_, _, _, _, _, _, fun i => is.getD i false, rfl, W, ⟨⟨_, Heap.get?_push_size _ rfl, rfl, rfl⟩, _, Heap.get?_push_of_some _ ho, rfl, _, rfl⟩, ?_, ?_⟩
      · intro i v s' Q' E' hi hq
        cases bools_of ra (by rw [Array.getElem?_toList]; exact hi)
        exact wpAny_truthy_bool hq
      · intro h' tk hk
        have k : Keeps s.heap h' := fun b o e => hk b o (fun q => by rcases List.mem_singleton.mp q with rfl; exact absurd (Heap.lt_size e) (Nat.lt_irrefl _)) (Heap.get?_push_of_some _ e)
        refine h _ h' tk k ?_
        have e2 : (List.range vs.size).all (fun i => is.getD i false) = is.all id := by
          rw [e]
          exact all_range is
        rw [e2]
        exact .bool _
where
  all_range (is : List Bool) : (List.range is.length).all (fun i => is.getD i false) = is.all id := by
    rw [Bool.eq_iff_iff, List.all_eq_true, List.all_eq_true]
    constructor
    · intro h x hx
      obtain ⟨i, hi, rfl⟩ := List.mem_iff_getElem.mp hx
      have := h i (List.mem_range.mpr hi)
      simpa [List.getD_eq_getElem?_getD, hi] using this
    · intro h i hi
      have hi' := List.mem_range.mp hi
      have := h is[i] (List.getElem_mem hi')
      simpa [List.getD_eq_getElem?_getD, hi'] using this
end
end Mine

end
section
open PySem PySem.W PyProof.Rows
set_option maxRecDepth 100000
set_option linter.unusedVariables false
namespace Mine
section
variable {w : World} {n : Nat} {sc : Scope} {σ : Sto}

-- slices of lists
theorem RdAll.take {h : Heap} {X : Addr → Prop} : ∀ {vs : List Value} {ds : List PyData} (k : Nat), RdAll h X vs ds → RdAll h X (vs.take k) (ds.take k)
  | _, _, 0, _ => by simpa using RdAll.nil
  | _, _, k + 1, .nil => by simpa using RdAll.nil
  | _, _, k + 1, .cons a b => by simpa using RdAll.cons a (b.take k)
theorem RdAll.reverse {h : Heap} {X : Addr → Prop} : ∀ {vs : List Value} {ds : List PyData}, RdAll h X vs ds → RdAll h X vs.reverse ds.reverse
  | _, _, .nil => .nil
  | _, _, .cons a b => by rw [List.reverse_cons, List.reverse_cons]; exact b.reverse.append (.cons a .nil)
theorem get_upto {xs : List PyData} {i : Int} {k : Nat} (hi : i = (k : Int)) (hz : xs.length ≤ sizeLine) : Does2 w n getItem (.dat (.list xs)) (SL none (some i) none) (.dat (.list (xs.take k))) := fun A X s o j Q E R _ L ro rj h => by
  subst hi
  cases ro with | list hn ho ra =>
    rename_i vs _
    have e : vs.size = xs.length := by have := ra.length; simpa using this
    obtain ⟨a, vl, vu, vst, rfl, hn2, ho2, pl, pu, ps⟩ := rj
    refine wpAny_getItem_list_slice (lo := none) (hi := some (k : Int)) (st := none) ⟨_, ho, rfl, _, rfl⟩ ⟨_, ho2, rfl, rfl⟩ pl pu ps (by simp) ?_ (by rw [e]; exact hz)
    rw [slicePick_upto']
    have kp := Keeps.push s.heap { cls := .type "list", data := .seq (vs.toList.take k).toArray }
    exact h _ _ s.toks kp (.list L.new (Heap.get?_push_size _ rfl) (by simpa using (ra.take k).keeps kp.x))
theorem get_rev {xs : List PyData} (hz : xs.length ≤ sizeLine) : Does2 w n getItem (.dat (.list xs)) (SL none none (some (-1))) (.dat (.list xs.reverse)) := fun A X s o j Q E R _ L ro rj h => by
  cases ro with | list hn ho ra =>
    rename_i vs _
    have e : vs.size = xs.length := by have := ra.length; simpa using this
    obtain ⟨a, vl, vu, vst, rfl, hn2, ho2, pl, pu, ps⟩ := rj
    refine wpAny_getItem_list_slice (lo := none) (hi := none) (st := some (-1)) ⟨_, ho, rfl, _, rfl⟩ ⟨_, ho2, rfl, rfl⟩ pl pu ps (by simp) ?_ (by rw [e]; exact hz)
    rw [krv_pick]
    have kp := Keeps.push s.heap { cls := .type "list", data := .seq vs.toList.reverse.toArray }
    exact h _ _ s.toks kp (.list L.new (Heap.get?_push_size _ rfl) (by simpa using ra.reverse.keeps kp.x))

-- repeats
theorem foldl_app (its : Array Value) : ∀ (k : Nat) (acc : Array Value), ((List.replicate k its).foldl (fun x y => x ++ y) acc).toList = acc.toList ++ (List.replicate k its.toList).flatten
  | 0, acc => by simp
  | k + 1, acc => by rw [List.replicate_succ, List.foldl_cons, foldl_app its k, List.replicate_succ, List.flatten_cons, Array.toList_append, List.append_assoc]
theorem RdAll.rep {h : Heap} {X : Addr → Prop} {vs : List Value} {ds : List PyData} (r : RdAll h X vs ds) : ∀ k : Nat, RdAll h X (List.replicate k vs).flatten (List.replicate k ds).flatten
  | 0 => .nil
  | k + 1 => by rw [List.replicate_succ, List.replicate_succ, List.flatten_cons, List.flatten_cons]; exact r.append (r.rep k)
theorem op_mulL {xs : List PyData} {k : Int} (h0 : 0 ≤ k) (h1 : k ≤ 1000) (hx : xs.length ≤ 1000) (hne : xs ≠ []) : Does2 w n (binaryOp .Mult) (.dat (.list xs)) (I k) (.dat (.list (List.replicate k.toNat xs).flatten)) := fun A X s u v Q E R _ L ru rv h => by
  cases rv
  cases ru with | list hn ho ra =>
    rename_i t a vs m
    have e : vs.size = xs.length := by have := ra.length; simpa using this
    have hsz : vs.size * k.toNat ≤ 1000 * 1000 := Nat.mul_le_mul (by omega) (by omega)
    have hemp : vs.isEmpty = false := by
      cases hv : vs.isEmpty with
      | false => rfl
      | true =>
        have : vs.size = 0 := by simpa [Array.isEmpty] using hv
        rw [e] at this
        exact absurd (List.length_eq_zero_iff.mp this) hne
    refine wpAny_binaryOp_repeat_ref (T := "list") (U := "int") (by decide) ⟨_, ho, rfl⟩ (fun s' => typeIs_int s' k _) noFill_list_mul F.fills_int_mul F.slot_int_rmul repeat_list F.slot_int_index.lookup
      (call_meets F.slot_int_rmul (typeIs_int s k _) F.entry_int_rmul (F.args_int_rmul_2 _ _) (int___rmul___int_list k _ a vs m)
        ⟨ho, rfl, ⟨_, ho, rfl⟩, call_meets F.slot_list_mul ⟨_, ho, rfl⟩ F.entry_list_mul (F.args_list_mul_2 _ _)
          (AutoListH.list___mul___list_int_3 a vs m k _ (by simp [Builtin.List.listFitsIndex]; omega) (by omega) (by simp [Builtin.List.listTooLong, sizeLine]; omega)) ⟨ho, ?_⟩⟩)
    rw [hemp]
    simp only [Bool.false_eq_true, if_false]
    have kp := Keeps.push s.heap { cls := .type "list", data := .seq (List.foldl (fun x1 x2 => x1 ++ x2) #[] (List.replicate k.toNat vs)) }
    refine h _ _ s.toks kp (.list L.new (Heap.get?_push_size _ rfl) ?_)
    rw [foldl_app]
    simpa using (ra.rep k.toNat).keeps kp.x
end
end Mine

end
section
open PySem PySem.W PyProof.Rows
set_option maxHeartbeats 8000000
set_option maxRecDepth 100000
set_option linter.unusedVariables false
namespace Mine
section
variable {w : World} {n : Nat} {sc : Scope} {σ : Sto}
abbrev dtext (i : Int) : Str := Str.ofString (toString i)

-- formats
theorem op_chars {i : Int} (h0 : 0 ≤ i) (h1 : i < 10 ^ 10) : Does2 w n (binaryOp .Mod) (S "[%d chars]") (I i) (S ("[" ++ dtext i ++ " chars]")) := fun A X s u v Q E _ _ _ ru rv h => by
  cases ru; cases rv
  refine' KPc.mod_int (T := fun i => "[" ++ dtext i ++ " chars]") ?kF1 h0 h1 ?kM1 ?_
  case kF1 => kpc_eq
  case kM1 => kpc_run
  intro t' k
  exact h _ s.heap _ (Keeps.refl _) (.str _ _)
def nums : List Int := [-4, -30, -200, -1000, 0, 100000, 2000000, 30000000, 400000000, 5000000000]
theorem op_d {i : Int} (hi : i ∈ nums ∨ (0 ≤ i ∧ i < 10 ^ 10)) : Does2 w n (binaryOp .Mod) (S "%d") (I i) (S (dtext i)) := fun A X s u v Q E _ _ _ ru rv h => by
  cases ru; cases rv
  by_cases h0 : 0 ≤ i
  · have h1 : i < 10 ^ 10 := by
      rcases hi with hi | hi
      · simp [nums] at hi
        omega
      · exact hi.2
    refine' KPc.mod_int (T := fun i => dtext i) ?kF2 h0 h1 ?kM2 ?_
    case kF2 => kpc_eq
    case kM2 => kpc_run
    intro t' k
    exact h _ s.heap _ (Keeps.refl _) (.str _ _)
  · have hi : i = -4 ∨ i = -30 ∨ i = -200 ∨ i = -1000 := by
      rcases hi with hi | hi
      · simp [nums] at hi
        omega
      · exact absurd hi.1 h0
    rcases hi with rfl | rfl | rfl | rfl
    · refine' KPc.mod_lit (T := dtext (-4)) ?kF3 (by decide +kernel) ?kM3 ?_
      case kF3 => kpc_eq
      case kM3 => kpc_run
      intro t' k
      exact h _ s.heap _ (Keeps.refl _) (.str _ _)
    · refine' KPc.mod_lit (T := dtext (-30)) ?kF4 (by decide +kernel) ?kM4 ?_
      case kF4 => kpc_eq
      case kM4 => kpc_run
      intro t' k
      exact h _ s.heap _ (Keeps.refl _) (.str _ _)
    · refine' KPc.mod_lit (T := dtext (-200)) ?kF5 (by decide +kernel) ?kM5 ?_
      case kF5 => kpc_eq
      case kM5 => kpc_run
      intro t' k
      exact h _ s.heap _ (Keeps.refl _) (.str _ _)
    · refine' KPc.mod_lit (T := dtext (-1000)) ?kF6 (by decide +kernel) ?kM6 ?_
      case kF6 => kpc_eq
      case kM6 => kpc_run
      intro t' k
      exact h _ s.heap _ (Keeps.refl _) (.str _ _)
theorem mod_tup {X X' T : Str} {t : Tok} {Q : Value → Shared → Prop} {A : Around} {E : Value → Shared → Prop} {s : Shared} {b : Addr} {its : Array Value} (ht : IsTup s.heap b its) (hX : X = X')
    (hm : Meets (Builtin.«str.__mod__» ⟨[.str X' t, .ref b], []⟩) (fun _ R s => IsTup s.heap b its ∧ ∀ t' k, R (.ok (.ret (.str T t'))) { s with toks := k }))
    (h : ∀ t' k, Q (.str T t') { s with toks := k }) : wpAny (model PG w) A (binaryOp .Mod (.str X t) (.ref b)) Q E s := by
  subst hX
  have hT : s.TypeIs (.ref b) "tuple" := by
    obtain ⟨o, ho, hc, _⟩ := ht
    exact ⟨o, ho, hc⟩
  exact KPt.bin_left (T := "str") (U := "tuple") (op := .Mod) (by decide) (typeIs_str s X t) hT F.fills_str_mod KPt.fills_tuple F.slot_str_mod
    (call_meets F.slot_str_mod (typeIs_str s X t) F.entry_str_mod (F.args_str_mod_2 _ _) hm ⟨ht, fun t' k => ⟨(fun e => nomatch e), h t' k⟩⟩)
theorem op_short {x y : Str} {i : Int} (h0 : 0 ≤ i) (h1 : i < 10 ^ 10) (hx : x.length ≤ 1000000) (hy : y.length ≤ 1000000) : Does2 w n (binaryOp .Mod) (S "%s[%d chars]%s") (.dat (.tuple [.str x, .int i, .str y])) (S (x ++ "[" ++ dtext i ++ " chars]" ++ y)) := fun A X s u v Q E _ _ _ ru rv h => by
  cases ru
  cases rv with | tuple hn ho ra =>
    rename_i vs _
    obtain ⟨l⟩ := vs
    cases ra with | cons ra rb => cases rb with | cons rb rc => cases rc with | cons rc rd =>
      cases rd
      cases ra; cases rb; cases rc
      refine' mod_tup (T := x ++ "[" ++ dtext i ++ " chars]" ++ y) ⟨_, ho, rfl, _, rfl⟩ ?kF7 ?kM7 ?_
      case kF7 => kpt_eq
      case kM7 => kpt_run
      intro t' k
      exact h _ s.heap _ (Keeps.refl _) (.str _ _)
theorem op_first {y : Str} {i j : Int} (h0 : 0 ≤ i) (h1 : i < 10 ^ 10) (h2 : 0 ≤ j) (h3 : j < 10 ^ 10) (hy : y.length ≤ 1000000) : Does2 w n (binaryOp .Mod) (S "First has %d, Second has %d:  %s") (.dat (.tuple [.int i, .int j, .str y])) (S ("First has " ++ dtext i ++ ", Second has " ++ dtext j ++ ":  " ++ y)) := fun A X s u v Q E _ _ _ ru rv h => by
  cases ru
  cases rv with | tuple hn ho ra =>
    rename_i vs _
    obtain ⟨l⟩ := vs
    cases ra with | cons ra rb => cases rb with | cons rb rc => cases rc with | cons rc rd =>
      cases rd
      cases ra; cases rb; cases rc
      refine' mod_tup (T := "First has " ++ dtext i ++ ", Second has " ++ dtext j ++ ":  " ++ y) ⟨_, ho, rfl, _, rfl⟩ ?kF8 ?kM8 ?_
      case kF8 => kpt_eq
      case kM8 => kpt_run
      intro t' k
      exact h _ s.heap _ (Keeps.refl _) (.str _ _)

-- truth
theorem tr_str {x : Str} (hz : x.length ≤ sizeLine) : Truth w n (S x) ((x.length : Int) != 0) := fun A X s u Q E _ _ _ ru h => by
  cases ru; exact P.truthy_str (by rw [sizeLine_eq] at hz; omega) (h s.heap _ (Keeps.refl _))
theorem emp_of {h : Heap} {X : Addr → Prop} {vs : Array Value} {xs : List PyData} (ra : RdAll h X vs.toList xs) : vs.isEmpty = xs.isEmpty := by
  have e : vs.size = xs.length := by have := ra.length; simpa using this
  unfold Array.isEmpty
  rw [e]
  cases xs <;> rfl
theorem tr_list {xs : List PyData} (hz : xs.length ≤ sizeLine) : Truth w n (.dat (.list xs)) (!xs.isEmpty) := fun A X s u Q E _ _ _ ru h => by
  cases ru with | list hn ho ra =>
    rename_i vs _
    have e : vs.size = xs.length := by have := ra.length; simpa using this
    refine wpAny_truthy_list ⟨_, ho, rfl, _, rfl⟩ (by rw [e]; rw [sizeLine_eq] at hz; omega) ?_
    rw [emp_of ra]
    exact h s.heap (s.toks + 1 + 1) (Keeps.refl _)
theorem tr_tuple {xs : List PyData} (hz : xs.length ≤ sizeLine) : Truth w n (.dat (.tuple xs)) (!xs.isEmpty) := fun A X s u Q E _ _ _ ru h => by
  cases ru with | tuple hn ho ra =>
    rename_i vs _
    have e : vs.size = xs.length := by have := ra.length; simpa using this
    refine truthy_tuple ⟨_, ho, rfl, _, rfl⟩ (by rw [e]; rw [sizeLine_eq] at hz; omega) ?_
    rw [emp_of ra]
    exact h s.heap (s.toks + 1 + 1) (Keeps.refl _)
-- is not, of types
theorem op_isnT {p q : String} : Does2 w n (compareOp .IsNot) (.val (.type p)) (.val (.type q)) (B (!(p == q))) := fun A X s u v Q E _ _ _ ru rv h => by
  cases ru; cases rv
  have e : isSame (.type p) (.type q) = pure (Value.type p == Value.type q) := rfl
  have e2 : (Value.type p == Value.type q) = (p == q) := by
    by_cases hpq : p = q
    · subst hpq; rw [beq_self_eq_true, beq_self_eq_true]
    · have : Value.type p ≠ Value.type q := fun e => hpq (by cases e; rfl)
      rw [beq_eq_false_iff_ne.mpr this, beq_eq_false_iff_ne.mpr hpq]
  show wpAny (model PG w) A (do return .bool (!(← isSame (.type p) (.type q)))) Q E s
  rw [e]
  refine wpAny_bind (wpAny_pure (wpAny_pure ?_))
  rw [e2]
  exact h _ s.heap s.toks (Keeps.refl _) (.bool _)
-- repr
theorem do_repr {d : PyData} (hd : (∃ xs, d = .list xs) ∨ ∃ xs, d = .tuple xs) (hs : d.showable = true) (hnd : d.hasDict = false) (hdep : d.depth ≤ 60) (hz : d.shown.length ≤ sizeLine) : DoesL w (n + 100) (cB "repr") [.dat d] (S d.shown) := fun A X s vals Q E R _ _ rs h => by
  cases rs with | cons r rs =>
    cases rs
    obtain ⟨as, ra⟩ := RdD.reads r
    rename_i v
    have hv : ∃ a, v = .ref a := by
      rcases hd with ⟨xs, rfl⟩ | ⟨xs, rfl⟩
      · cases r; exact ⟨_, rfl⟩
      · cases r; exact ⟨_, rfl⟩
    obtain ⟨a, rfl⟩ := hv
    refine repr_of_reads' ra hs (fun e => by rw [hnd] at e; cases e) (R.2.2.1 (by omega)) (by have := R.2.1; omega) (fun b o e => e) (fun h' u tk hk => ?_) hz
    exact h _ h' tk hk (.str _ _)
end
end Mine

end
section
open PySem PySem.W PyProof.Rows
set_option maxRecDepth 100000
set_option linter.unusedVariables false
namespace Mine

open Classical in
/-- the heap without the objects at D -/
noncomputable def blank (h : Heap) (D : Addr → Prop) : Heap := ⟨h.objs.mapIdx fun i o => if D i then ⟨o.cls, o.dict, .freed, o.slots⟩ else o, h.life⟩
theorem blank_out {h : Heap} {D : Addr → Prop} {a : Addr} (hd : D a) : (blank h D).get? a = none := by
  unfold blank Heap.get?
  rw [Array.getElem?_mapIdx]
  cases q : h.objs[a]? with
  | none => rfl
  | some o => simp only [Option.map_some, if_pos hd]
theorem blank_in {h : Heap} {D : Addr → Prop} {a : Addr} (hd : ¬ D a) : (blank h D).get? a = h.get? a := by
  unfold blank Heap.get?
  rw [Array.getElem?_mapIdx]
  cases q : h.objs[a]? with
  | none => rfl
  | some o => simp only [Option.map_some, if_neg hd]
theorem blank_keeps {h : Heap} {D : Addr → Prop} : Keeps (blank h D) h := fun b o e => by
  by_cases hd : D b
  · rw [blank_out hd] at e; cases e
  · rw [blank_in hd] at e; exact e
theorem keeps_blank {h₀ h : Heap} {D : Addr → Prop} (k : Keeps h₀ h) (hd : ∀ a, D a → h₀.get? a = none) : Keeps h₀ (blank h D) := fun b o e => by
  have : ¬ D b := fun q => by rw [hd b q] at e; cases e
  rw [blank_in this]; exact k _ _ e

/-- the frame's own addresses -/
def Mineof (env : Env) : Addr → Prop := fun a => a = env.locals ∨ ∃ x, env.cells.lookup x = some a
section
variable {w : World} {n : Nat} {sc : Scope} {σ : Sto} {A : Around} {env : Env} {h₀ h₁ h h' : Heap} {X : Addr → Prop} {s : Shared} {E : Value → Shared → Prop}

theorem EnvAt.rebase (H : EnvAt w env h₀ X h σ) (G : Good w h₁) (k : Keeps h₁ h) (ha : h₁.get? env.locals = none) : EnvAt w env h₁ X h σ := ⟨G, k, H.alive, H.hidL, ha, H.loc, H.cel⟩
theorem EnvAt.grow {L : List Addr} (H : EnvAt w env h₀ X h σ) (k : Keeps h h') (hl : ∀ b ∈ L, h.get? b = none) (ha : ∀ b ∈ L, (h'.get? b).isSome) : EnvAt w env h₀ (XU X L) h' σ := by
  have hnew : ∀ b, ¬ X b → (h.get? b).isSome → ¬ XU X L b := fun b hn hb hx => by
    rcases hx with hx | hx
    · exact hn hx
    · rw [hl b hx] at hb; cases hb
  refine ⟨H.good, H.keep.trans k, ?_, .inl H.hidL, H.above, ?_, fun y ky => ?_⟩
  · intro b hb
    rcases hb with hb | hb
    · obtain ⟨o, ho⟩ := Option.isSome_iff_exists.mp (H.alive b hb); rw [k _ _ ho]; rfl
    · exact ha b hb
  · obtain ⟨m, hm, hr⟩ := H.loc
    refine ⟨m, hm.keeps k, fun y a e kk => ?_⟩
    obtain ⟨v, hv, rv⟩ := hr y a e kk
    exact ⟨v, hv, rv.mono (fun b o _ e => k _ _ e) hnew⟩
  · obtain ⟨c, o, ov, g1, g2, g3, g4, g5, g6⟩ := H.cel y ky
    refine ⟨c, o, ov, g1, .inl g2, g3, k _ _ g4, g5, fun a e => ?_⟩
    obtain ⟨v, hv, rv⟩ := g6 a e
    exact ⟨v, hv, rv.mono (fun b o _ e => k _ _ e) hnew⟩
theorem EnvAt.shrink {X' : Addr → Prop} (H : EnvAt w env h₀ X' h σ) (hl : ∀ b, X b → X' b) (hL : X env.locals) (hc : ∀ x c, env.cells.lookup x = some c → X c) : EnvAt w env h₀ X h σ := by
  refine ⟨H.good, H.keep, fun b hb => H.alive b (hl b hb), hL, H.above, ?_, fun y ky => ?_⟩
  · obtain ⟨m, hm, hr⟩ := H.loc
    refine ⟨m, hm, fun y a e kk => ?_⟩
    obtain ⟨v, hv, rv⟩ := hr y a e kk
    exact ⟨v, hv, rv.less hl⟩
  · obtain ⟨c, o, ov, g1, g2, g3, g4, g5, g6⟩ := H.cel y ky
    refine ⟨c, o, ov, g1, hc _ _ g1, g3, g4, g5, fun a e => ?_⟩
    obtain ⟨v, hv, rv⟩ := g6 a e
    exact ⟨v, hv, rv.less hl⟩

/-- cells are hidden -/
def CellsIn (env : Env) (X : Addr → Prop) : Prop := ∀ x c, env.cells.lookup x = some c → X c ∧ c ≠ env.locals
theorem EnvAt.cells (H : EnvAt w env h₀ X h σ) (O : Own env h₀) : CellsIn env X := fun x c e => by
  obtain ⟨c', _, _, g1, g2, g3, _⟩ := H.cel x (.inl (O.kind x c e))
  rw [e] at g1; cases g1
  exact ⟨g2, g3⟩
theorem Mineof.x (C : CellsIn env X) (H : EnvAt w env h₀ X h σ) {a : Addr} (m : Mineof env a) : X a := by
  rcases m with rfl | ⟨x, hx⟩
  · exact H.hidL
  · exact (C x a hx).1
theorem Mineof.above (O : Own env h₀) (H : EnvAt w env h₀ X h σ) {a : Addr} (m : Mineof env a) : h₀.get? a = none := by
  rcases m with rfl | ⟨x, hx⟩
  · exact H.above
  · exact O.above x a hx
/-- everything but the frame's own, as the new ground -/
theorem EnvAt.full (H : EnvAt w env h₀ X h σ) (O : Own env h₀) (OW : Addr → Prop) (ho : ∀ b, OW b → h₀.get? b = none) :
    ∃ h₁, Keeps h₀ h₁ ∧ EnvAt w env h₁ X h σ ∧ Own env h₁ ∧ (∀ b, ¬ Mineof env b → ¬ OW b → h₁.get? b = h.get? b) ∧ (∀ b, OW b → h₁.get? b = none) := by
  refine ⟨blank h (fun a => Mineof env a ∨ OW a), ?_, ?_, ⟨fun x c e => blank_out (.inl (.inr ⟨x, e⟩)), O.inj, O.kind⟩, fun b h1 h2 => blank_in fun q => q.elim h1 h2, fun b hb => blank_out (.inr hb)⟩
  · exact keeps_blank H.keep fun a ha => ha.elim (fun m => m.above O H) (ho a)
  · have k : Keeps h₀ (blank h (fun a => Mineof env a ∨ OW a)) := keeps_blank H.keep fun a ha => ha.elim (fun m => m.above O H) (ho a)
    exact H.rebase (H.good.keeps k) blank_keeps (blank_out (.inl (.inl rfl)))

-- loops
def EndsFor (w : World) (env : Env) (h₁ : Heap) (X : Addr → Prop) (σ : Sto) (J : Heap → Prop) (Q : Flow → Shared → Prop) (s : Shared) : Flow → Shared → Prop
  | .next, s' => ∃ h tk, s' = { s with heap := h, toks := tk } ∧ EnvAt w env h₁ X h σ ∧ J h
  | .cont, s' => ∃ h tk, s' = { s with heap := h, toks := tk } ∧ EnvAt w env h₁ X h σ ∧ J h
  | .brk, s' => False
  | .ret v, s' => Q (.ret v) s'

theorem st_for {iter target : Expr} {body rest : List Stmt} {pos : Pos} {Q : Flow → Shared → Prop} {N : Nat} {xs : List Str} {bnd : Nat → List AV} (σs : Nat → Sto) (OW : Addr → Prop) (J : Nat → Heap → (Addr → Prop) → Prop)
    (hit : EvIt w n sc σ iter N target xs bnd) (hxs : ∀ x ∈ xs, sc.names.lookup x = some .local) (hσ : ∀ x a, σs 0 x = some a → σ x = some a) (R : Room n A) (F : Fit sc env) (O : Own env h₀) (H : EnvAt w env h₀ X s.heap σ)
    (hOW : ∀ b, OW b → X b ∧ b ≠ env.locals ∧ h₀.get? b = none) (hJ : ∀ i h h' X X', J i h X → (∀ b o, (¬ X b ∨ OW b) → h.get? b = some o → h'.get? b = some o) → (∀ b, ¬ X b → (h.get? b).isSome → ¬ X' b) → J i h' X') (hJ0 : J 0 s.heap X)
    (step : ∀ i h₁ X' h' tk' E', i < N → Keeps h₀ h₁ → (∀ b, X b → X' b) → Own env h₁ → EnvAt w env h₁ X' h' ((σs i).sets xs (bnd i)) → J i h' X' → (∀ b, OW b → h₁.get? b = none) →
      Run w A body env (EndsFor w env h₁ X' (σs (i + 1)) (fun h => J (i + 1) h X') Q s) E' { s with heap := h', toks := tk' })
    (h : ∀ h' tk', EnvAt w env h₀ X h' (σs N) → J N h' X → Run w A rest env Q E { s with heap := h', toks := tk' })
    (hs : ∀ x, foldedSetIterable iter env x = pure x := by intro _; rfl) : Run w A (.For target iter body [] pos :: rest) env Q E s := by
  refine wpAny_execs_cons (wpAny_For ?_ hs)
  refine hit A env h₀ X s _ _ R F H fun I fp wr St Src hA tkA kA T st0 src0 hwr hfp hlive => ?_
  have C := H.cells O
  have hX' : ∀ b, X b → XU X wr b := fun b hb => .inl hb
  have HA : EnvAt w env h₀ (XU X wr) hA σ := H.grow kA hwr (T.live _ _ st0)
  have hLf : env.locals ∉ fp := fun q => by
    by_cases hw : env.locals ∈ wr
    · have := H.alive _ H.hidL; rw [hwr _ hw] at this; cases this
    · exact hfp _ q hw H.hidL
  have hcw : ∀ x c, env.cells.lookup x = some c → c ∉ fp := fun x c e q => by
    by_cases hw : c ∈ wr
    · have := H.alive _ (C x c e).1; rw [hwr _ hw] at this; cases this
    · exact hfp _ q hw (C x c e).1
  have hOf : ∀ b, OW b → b ∉ fp := fun b hb q => by
    by_cases hw : b ∈ wr
    · have := H.alive _ (hOW b hb).1; rw [hwr _ hw] at this; cases this
    · exact hfp _ q hw (hOW b hb).1
  have h0w : ∀ b ∈ wr, h₀.get? b = none := fun b hb => by
    cases q : h₀.get? b with
    | none => rfl
    | some o => have := H.keep _ _ q; rw [hwr b hb] at this; cases this
  have CX : CellsIn env (XU X wr) := fun x c e => ⟨.inl (C x c e).1, (C x c e).2⟩
  refine codeAny_forLoop_any (fun k s' => ∃ i h' tk', s' = { s with heap := h', toks := tk' } ∧ St i h' ∧ Src h' (XU X wr) ∧ EnvAt w env h₀ (XU X wr) h' (σs i) ∧ J i h' (XU X wr) ∧ i ≤ N ∧ k = N + 1 - i) ?_ (N + 1)
    ⟨0, hA, tkA, rfl, st0, src0, HA.weak hσ, hJ _ _ _ _ _ hJ0 (fun b o _ e => kA _ _ e) (fun b hn hb hx => hx.elim hn fun hw => by rw [hwr b hw] at hb; cases hb), Nat.zero_le _, rfl⟩
  rintro k s' ⟨i, h', tk', rfl, st, src, H', j, hi, rfl⟩
  by_cases hlt : i < N
  · refine wpAny_mono (T.turn i sc env h₀ (XU X wr) { s with heap := h', toks := tk' } (σs i) _ _ hlt st src F hxs H' (fun b hb => .inr hb) hLf (fun x c _ e q => hcw x c e (T.sub _ q)) h0w fun h2 tk2 st2 H2 kx2 k2 => ?_) (fun r s1 hr => by obtain ⟨v, rfl, hr⟩ := hr; exact hr) (fun _ _ e => e)
    dsimp only at kx2 k2 ⊢
    have j2 : J i h2 (XU X wr) := hJ _ _ _ _ _ j (fun b o hb e => hb.elim (fun hn => kx2 b o hn e) fun hb => k2 b o (fun q => hOf b hb (T.sub _ q)) (hOW b hb).2.1 e) (fun _ hn _ => hn)
    obtain ⟨h₁, k01, H1, O1, hin, hout⟩ := H2.full O OW (fun b hb => (hOW b hb).2.2)
    refine wpAny_mono (step i h₁ (XU X wr) h2 tk2 _ hlt k01 hX' O1 H1 j2 hout) (fun f s3 h3 => ?_) (fun _ _ e => e)
    have fin : ∀ h3 tk3, EnvAt w env h₁ (XU X wr) h3 (σs (i + 1)) → J (i + 1) h3 (XU X wr) → ∃ m, m < N + 1 - i ∧ ∃ i h' tk', ({ s with heap := h3, toks := tk3 } : Shared) = { s with heap := h', toks := tk' } ∧ St i h' ∧ Src h' (XU X wr) ∧ EnvAt w env h₀ (XU X wr) h' (σs i) ∧ J i h' (XU X wr) ∧ i ≤ N ∧ m = N + 1 - i := by
      intro h3 tk3 H3 j3
      have kin : ∀ b o, ¬ Mineof env b → ¬ OW b → h2.get? b = some o → h3.get? b = some o := fun b o hm ho e => H3.keep _ _ ((hin b hm ho).trans e)
      have hnm : ∀ b, b ∈ fp → ¬ Mineof env b := fun b hb m => by
        rcases m with rfl | ⟨x, hx⟩
        · exact hLf hb
        · exact hcw x b hx hb
      refine ⟨N + 1 - (i + 1), by omega, i + 1, h3, tk3, rfl, ?_, ?_, ?_, j3, hlt, rfl⟩
      · exact T.frame _ _ _ st2 fun b hb o e => kin b o (hnm b hb) (fun q => hOf b q hb) e
      · refine T.src _ _ _ _ (T.src _ _ _ _ src kx2 fun _ n _ => n) (fun b o hn e => ?_) fun _ n _ => n
        exact kin b o (fun m => hn (m.x CX H2)) (fun q => hn (.inl (hOW b q).1)) e
      · exact H3.rebase H2.good (k01.trans H3.keep) H2.above
    cases f with
    | next => obtain ⟨h3, tk3, rfl, H3, j3⟩ := h3; exact fin h3 tk3 H3 j3
    | cont => obtain ⟨h3, tk3, rfl, H3, j3⟩ := h3; exact fin h3 tk3 H3 j3
    | brk => exact h3.elim
    | ret v => exact h3
  · have hiN : i = N := by omega
    subst hiN
    refine T.done _ _ _ st fun h2 tk2 k2 => wpAny_execs_nil ?_
    dsimp only at k2
    have hLa : ∀ b ∈ wr, (h2.get? b).isSome → True := fun _ _ _ => trivial
    have kx : KeepsX (XU X wr) h' h2 := fun b o hn e => k2 b o (fun q => hn (.inr q)) e
    refine h h2 tk2 ?_ (hJ _ _ _ _ _ j (fun b o hb e => hb.elim (fun hn => kx b o hn e) fun hb => k2 b o (fun q => hOf b hb (T.sub _ q)) e) (fun b hn _ hx => hn (hX' b hx)))
    have hXw : ∀ b, X b → b ∉ wr := fun b hb q => by have := H.alive b hb; rw [hwr b q] at this; cases this
    refine ⟨H.good, fun b o e => k2 b o (fun q => by rw [h0w b q] at e; cases e) (H'.keep _ _ e), fun b hb => ?_, H.hidL, H.above, ?_, fun y ky => ?_⟩
    · obtain ⟨o, ho⟩ := Option.isSome_iff_exists.mp (H'.alive b (hX' b hb))
      rw [k2 b o (hXw b hb) ho]; rfl
    · obtain ⟨m, hm, hr⟩ := H'.loc
      refine ⟨m, hm.at fun o e => k2 _ o (fun q => hLf (T.sub _ q)) e, fun y a e kk => ?_⟩
      obtain ⟨v, hv, rv⟩ := hr y a e kk
      exact ⟨v, hv, (rv.keeps kx).less hX'⟩
    · obtain ⟨c, o, ov, g1, g2, g3, g4, g5, g6⟩ := H'.cel y ky
      refine ⟨c, o, ov, g1, (C y c g1).1, g3, k2 c o (fun q => hcw y c g1 (T.sub _ q)) g4, g5, fun a e => ?_⟩
      obtain ⟨v, hv, rv⟩ := g6 a e
      exact ⟨v, hv, (rv.keeps kx).less hX'⟩

def EndsWhile (w : World) (env : Env) (h₀ : Heap) (X : Addr → Prop) (Inv : Nat → Sto → Prop) (k : Nat) (Q : Flow → Shared → Prop) (s : Shared) : Flow → Shared → Prop
  | .next, s' => ∃ h tk m σ', s' = { s with heap := h, toks := tk } ∧ m < k ∧ Inv m σ' ∧ EnvAt w env h₀ X h σ'
  | .cont, s' => ∃ h tk m σ', s' = { s with heap := h, toks := tk } ∧ m < k ∧ Inv m σ' ∧ EnvAt w env h₀ X h σ'
  | .brk, s' => False
  | .ret v, s' => Q (.ret v) s'
/-- a while without any list of its own -/
theorem st_while {test : Expr} {body rest : List Stmt} {pos : Pos} {Q : Flow → Shared → Prop} (Inv : Nat → Sto → Prop) (k : Nat) (hI : Inv k σ) (R : Room n A) (F : Fit sc env) (H : EnvAt w env h₀ X s.heap σ)
    (step : ∀ k σ' h E', Inv k σ' → EnvAt w env h₀ X h σ' → ∃ c, EvT w n sc σ' test c ∧ (c = true → ∀ h2 tk2, EnvAt w env h₀ X h2 σ' → Run w A body env (EndsWhile w env h₀ X Inv k Q s) E' { s with heap := h2, toks := tk2 }) ∧
      (c = false → ∀ h2 tk2, EnvAt w env h₀ X h2 σ' → Run w A rest env Q E { s with heap := h2, toks := tk2 })) : Run w A (.While test body [] pos :: rest) env Q E s := by
  refine wpAny_execs_cons (wpAny_While ?_)
  refine codeAny_whileLoop (fun k s' => ∃ h tk σ', s' = { s with heap := h, toks := tk } ∧ Inv k σ' ∧ EnvAt w env h₀ X h σ') ?_ k ⟨s.heap, s.toks, σ, rfl, hI, H⟩
  rintro k s' ⟨h, tk, σ', rfl, hI, H⟩
  obtain ⟨c, ht, h1, h2⟩ := step k σ' h (notedBy (model PG w) A env fun e s' => cameBackBy (model PG w) A env E e s') hI H
  refine ht.run R F H fun h2' tk2 k2 H2 => ?_
  cases c with
  | true =>
    rw [if_pos rfl]
    refine wpAny_mono (h1 rfl h2' tk2 H2) (fun f s3 h3 => ?_) (fun _ _ e => e)
    cases f with
    | next => obtain ⟨h, tk, m, σ', rfl, hm, hI, H⟩ := h3; exact ⟨m, hm, h, tk, σ', rfl, hI, H⟩
    | cont => obtain ⟨h, tk, m, σ', rfl, hm, hI, H⟩ := h3; exact ⟨m, hm, h, tk, σ', rfl, hI, H⟩
    | brk => exact h3.elim
    | ret v => exact h3
  | false =>
    rw [if_neg (by decide)]
    exact wpAny_execs_nil (h2 rfl h2' tk2 H2)

-- unpacking
theorem st_unpack {x y : Str} {p q pt pos : Pos} {k : Nat} {e : Expr} {a b : PyData} {rest : List Stmt} {Q : Flow → Shared → Prop} (he : Ev w n sc σ e (.dat (.tuple [a, b]))) (hx : sc.names.lookup x = some .local ∨ sc.names.lookup x = some .cell) (hy : sc.names.lookup y = some .local ∨ sc.names.lookup y = some .cell)
    (R : Room n A) (F : Fit sc env) (O : Own env h₀) (H : EnvAt w env h₀ X s.heap σ)
    (h : ∀ h' tk', EnvAt w env h₀ X h' ((σ.set x (.dat a)).set y (.dat b)) → Run w A rest env Q E { s with heap := h', toks := tk' })
    (hs : swapsWithSole [.Tuple [.Name x p, .Name y q] k pt] e pos.line env = pure false := by rfl)
    (hw : ∀ env : Env, env.scope = sc → swappedStores [.Tuple [.Name x p, .Name y q] k pt] e env = pure none := by intro _ e; rfl) : Run w A (.Assign [.Tuple [.Name x p, .Name y q] k pt] e pos :: rest) env Q E s := by
  refine wpAny_execs_cons (Assign_Tuple ?_ hs (hw env F.scope))
  refine he.run R F H fun v h1 tk1 k1 H1 r => ?_
  cases r with | tuple hn ho ra =>
    rename_i t vs m
    obtain ⟨l⟩ := vs
    cases ra with | cons ra rb => cases rb with | cons rb rc =>
      cases rc
      rename_i v u
      refine assign_Tuple_tuple (items := #[v, u]) (s := { s with heap := h1, toks := tk1 }) R.hh ⟨_, ho, rfl, _, rfl⟩ rfl rfl fun h3 hx3 => ?_
      have k3 : Keeps h1 h3 := fun b o e => hx3 b o (Nat.ne_of_lt (Heap.lt_size e)) e
      show wpAny (model PG w) A (assignInOrder [assign (.Name x p) env, assign (.Name y q) env] [v, u]) _ E { s with heap := h3, toks := tk1 }
      refine wpAny_bind (wpAny_holding (PyProof.Rows.assign_Name ?_))
      refine store_any (s := { s with heap := h3, toks := tk1 }) (a := .dat a) F O (H1.keeps k3) hx (RdD.keeps k3.x ra) fun h4 tk4 H4 kx4 => ?_
      refine wpAny_bind (wpAny_holding (PyProof.Rows.assign_Name ?_))
      exact store_any (s := { s with heap := h4, toks := tk4 }) (a := .dat b) F O H4 hy (RdD.keeps kx4 (RdD.keeps k3.x rb)) fun h5 tk5 H5 kx5 => wpAny_pure (h h5 tk5 H5)
/-- two locals from a display: the later one is stored first -/
theorem st_unpackS {x y : Str} {p q pt pt2 pos : Pos} {k k2 : Nat} {e1 e2 : Expr} {a b : AV} {rest : List Stmt} {Q : Flow → Shared → Prop} (he : EvL w n sc σ [e1, e2] [a, b]) (hx : sc.names.lookup x = some .local) (hy : sc.names.lookup y = some .local)
    (R : Room n A) (F : Fit sc env) (O : Own env h₀) (H : EnvAt w env h₀ X s.heap σ)
    (h : ∀ h' tk', EnvAt w env h₀ X h' ((σ.set y b).set x a) → Run w A rest env Q E { s with heap := h', toks := tk' })
    (hs : swapsWithSole [.Tuple [.Name x p, .Name y q] k pt] (.Tuple [e1, e2] k2 pt2) pos.line env = pure false := by rfl)
    (hw : ∀ env : Env, env.scope = sc → swappedStores [.Tuple [.Name x p, .Name y q] k pt] (.Tuple [e1, e2] k2 pt2) env = pure (some [x, y])) : Run w A (.Assign [.Tuple [.Name x p, .Name y q] k pt] (.Tuple [e1, e2] k2 pt2) pos :: rest) env Q E s := by
  refine wpAny_execs_cons (Assign_Tuple_swapped ?_ hs (hw env F.scope))
  refine wpAny_Tuple (he.run R F H fun vs h1 tk1 k1 H1 rs => ?_)
  cases rs with | cons ra rb => cases rb with | cons rb rc =>
    cases rc
    rename_i v u
    refine ⟨by show 2 ≤ _; rw [sizeLine_eq]; omega, ?_⟩
    have kp := Keeps.push h1 { cls := .type "tuple", data := .seq #[v, u] }
    refine unpackItems_tuple (items := #[v, u]) (s := { s with heap := h1.push { cls := .type "tuple", data := .seq #[v, u] }, toks := tk1 }) R.hh ⟨_, Heap.get?_push_size _ rfl, rfl, _, rfl⟩ fun h3 hx3 => ?_
    have k3 : Keeps (h1.push { cls := .type "tuple", data := .seq #[v, u] }) h3 := fun b o e => hx3 b o (Nat.ne_of_lt (Heap.lt_size e)) e
    have k13 := kp.trans k3
    show wpAny (model PG w) A (assignInOrder [bindName env y, bindName env x] [u, v]) _ E { s with heap := h3, toks := tk1 }
    refine wpAny_bind (wpAny_holding (wpAny_bindName ?_))
    refine store_any (s := { s with heap := h3, toks := tk1 }) F O (H1.keeps k13) (.inl hy) (rb.keeps k13.x) fun h4 tk4 H4 kx4 => ?_
    refine wpAny_bind (wpAny_holding (wpAny_bindName ?_))
    exact store_any (s := { s with heap := h4, toks := tk4 }) F O H4 (.inl hx) ((ra.keeps k13.x).keeps kx4) fun h5 tk5 H5 kx5 => wpAny_pure (h h5 tk5 H5)
end
end Mine

end
section
open PySem PySem.W PyProof.Rows
set_option maxRecDepth 100000
set_option linter.unusedVariables false
namespace Mine

def chr (x : Str) (i : Nat) : Str := ⟨#[x.cps[i]?.getD 0]⟩
theorem draws_str {w : World} {A : Around} (hh : A.handled = none) (it : Addr) (x : Str) (t : Tok) :
    Draws PG w A it [it] x.cps.size (fun i v => ∃ c u, x.cps[i]? = some c ∧ v = .str ⟨#[c]⟩ u) (fun i h => h.IsStrIter it (strIterType x) x t i) := by
  unfold strIterType
  cases ha : x.cps.all (· < 128)
  · simp only [Bool.false_eq_true, if_false]; exact Draws.strWide hh it x t
  · simp only [if_true]; exact Draws.strAscii hh it x t
theorem EvIt_enumS {w : World} {n : Nat} {sc : Scope} {σ : Sto} {f : Str} {pf pos : Pos} {arg : Expr} {z : Str} (hf : Ev w n sc σ (.Name f pf) (.val (.type "enumerate"))) (he : Ev w n sc σ arg (S z)) {x y : Str} {p q pt : Pos} {k : Nat}
    (hs : ∀ env, starEach [arg] env = [(false, eval arg env)] := by intro _; rfl) :
    EvIt w n sc σ (.Call (.Name f pf) [arg] [] pos) z.length (.Tuple [.Name x p, .Name y q] k pt) [x, y] (fun i => [.dat (.int i), S (chr z i)]) := by
  intro A env h₀ X s Q E R F H h
  refine Call_Name rfl (hf.run R F H fun v h' tk' k0 H0 rv => ?_)
  cases rv
  refine PyProof.Rows.callWith_type (by rw [hs env]; rfl) ?_
  rw [hs env]
  refine Calls.evalArgs_plain (Calls.spliced_cons (he.run (s := { s with heap := h', toks := tk' }) R F H0 fun v h1 tk1 k1 H1 rv => Calls.spliced_nil ?_))
  cases rv
  rename_i t
  refine call_enumerate_str (s := { s with heap := h1, toks := tk1 }) fun h2 he2 hit2 hz2 k2 => ?_
  refine wpAny_pyIter_enum (s := { s with heap := h2, toks := tk1 }) he2 ?_
  have side1 : h1.objs.size + 1 ∉ [h1.objs.size] := fun hm => Nat.succ_ne_self _ (List.mem_singleton.mp hm)
  have W := WalksT.enumerateD (draws_str (w := w) (A := A.in1) R.hh h1.objs.size z t) (h1.objs.size + 1) (Nat.succ_ne_self _) side1 (.head _)
  have kk : Keeps s.heap h1 := k0.trans k1
  refine h (h1.objs.size + 1) [h1.objs.size + 1, h1.objs.size] [h1.objs.size + 1, h1.objs.size] _ (fun _ _ => True) _ tk1 (kk.trans k2) (Turns.pair R.hh W ?_ ?_ ?_) ?_ trivial ?_ ?_ ?_
  · intro i h' st b hb
    obtain ⟨⟨old, e1⟩, ⟨o, e2, _⟩⟩ := st
    rcases List.mem_cons.mp hb with rfl | hb
    · rw [e1]; rfl
    · rcases List.mem_singleton.mp hb with rfl
      rw [e2]; rfl
  · intro _ _ _ _ _ _ _; trivial
  · intro h' X' i vals _ hv hi
    obtain ⟨t, u, ⟨c, u', hc, rfl⟩, rfl⟩ := hv
    refine ⟨_, _, rfl, .int _ _, ?_⟩
    have e : chr z i = ⟨#[c]⟩ := by unfold chr; rw [hc]; rfl
    rw [e]
    exact .str _ _
  · exact ⟨⟨_, he2⟩, hit2⟩
  · intro b hb
    rcases List.mem_cons.mp hb with rfl | hb
    · exact none_of_size kk (Nat.le_succ _)
    · rcases List.mem_singleton.mp hb with rfl
      exact none_of_size kk (Nat.le_refl _)
  · intro b hb hnb
    exact absurd hb hnb
  · intro b hb
    rcases List.mem_cons.mp hb with rfl | hb
    · rw [he2]; rfl
    · rcases List.mem_singleton.mp hb with rfl
      obtain ⟨o, e2, _⟩ := hit2; rw [e2]; rfl
theorem item_chr {x : Str} {i : Nat} (hi : i < x.length) : Txt.item x (i : Int) = chr x i ∧ (Txt.charAt x i).isSome = true := by
  have e : seqIndex? (i : Int) x.length = some i := by
    have h1 : ¬ ((i : Int) < 0) := by omega
    have h2 : (decide (0 ≤ (i : Int)) && decide ((i : Int) < (x.length : Int))) = true := by
      rw [decide_eq_true (by omega), decide_eq_true (by omega)]; rfl
    unfold seqIndex?
    simp only [if_neg h1]
    rw [if_pos h2]
    rfl
  have e2 : x.cps[i]? = some x.cps[i] := Array.getElem?_eq_getElem hi
  unfold Txt.item chr Txt.charAt
  rw [e]
  constructor
  · rfl
  · show (x.cps[i]?).isSome = true
    rw [e2]; rfl
end Mine

end
section
open PySem PySem.W PyProof.Rows
set_option maxRecDepth 100000
set_option linter.unusedVariables false
namespace Mine

theorem small {k : Nat} (h : k ≤ 1000000) : k ≤ sizeLine := by rw [sizeLine_eq]; omega
theorem Ev_slS {w : World} {n : Nat} {sc : Scope} {σ : Sto} {e : Expr} {x : Str} {lo hi : Option Expr} {l u : Option Int} {p pos : Pos} (he : Ev w n sc σ e (S x)) (hl : EvP w n sc σ lo l) (hu : EvP w n sc σ hi u) (hz : x.length ≤ sizeLine) : Ev w n sc σ (.Subscript e (.Slice lo hi none p) pos) (S (Txt.slice x l u)) :=
  Ev_sub he (Ev_slice hl hu .none) hasT_str F.slot_str_getitem.lookup (get_sl_str hz)
theorem fn_fspath {w : World} {n : Nat} {x y : Str} : Fn w (n + 2) 85 [S x, S y] (S y) := by
  refine Fn_of (o := _) (fd := _) (body := _) (xs := ["name", "x"]) rfl rfl rfl ?_ ?_ rfl rfl rfl rfl rfl rfl rfl rfl ?_ ?_
  · intro A env h₀ X s Q E R F O H h
    refine st_assign (a := S "") (Ev_callF (f := 78) (Ev_glob rfl rfl) rfl rfl (EvL_cons (Ev_local rfl rfl) (EvL_cons (Ev_local rfl rfl) EvL_nil)) fn_kind) (.inl rfl) R F O H fun h' tk' H => ?_
    refine st_if (EvT_of (Ev_local rfl rfl) (tr_str (x := "") (by rw [sizeLine_eq]; decide))) R F H (fun e => nomatch e) (fun _ h' tk' H => ?_)
    refine st_nil ?_
    refine st_return (Ev_local (a := S y) rfl rfl) R F H fun v h' tk' H r => ?_
    exact h v h' tk' H.keep r
  · intro vals hv
    match vals, hv with
    | [a, b], _ => rfl
  · decide
  · decide

theorem Ev_lenS {w : World} {n : Nat} {sc : Scope} {σ : Sto} {e : Expr} {x : Str} {p pos : Pos} (he : Ev w n sc σ e (S x)) (hz : x.length ≤ sizeLine) (hk : sc.names.lookup ("len" : Str) = some NameKind.globalImplicit) (hs : ∀ env, starEach [e] env = (false, eval e env) :: starEach [] env := by intro _; rfl) (hp : ∀ env, (backTo pos (starEach [e] env)).any (·.1) = false := by intro _; rfl) : Ev w n sc σ (.Call (.Name "len" p) [e] [] pos) (I x.length) :=
  Ev_callB (Ev_builtin hk rfl rfl (by decide)) (EvL_cons he EvL_nil hs) (len_S hz) hs hp
def shortF (x : Str) (p q : Int) : Str :=
  if (12 : Int) < (x.length : Int) - p - q then Txt.slice x none (some p) ++ "[" ++ dtext ((x.length : Int) - p - q) ++ " chars]" ++ Txt.slice x (some ((x.length : Int) - q)) none else x
theorem fn_shorten {w : World} {n : Nat} {x : Str} {p q : Int} (hx : x.length ≤ 1000000) (hp : 0 ≤ p) (hq : 0 ≤ q) : Fn w (n + 1) 71 [S x, I p, I q] (S (shortF x p q)) := by
  have hz : x.length ≤ sizeLine := by rw [sizeLine_eq]; omega
  refine Fn_of (o := _) (fd := _) (body := _) (xs := ["s", "prefixlen", "suffixlen"]) rfl rfl rfl ?_ ?_ rfl rfl rfl rfl rfl rfl rfl rfl ?_ ?_
  · intro A env h₀ X s Q E R F O H h
    refine st_assign (a := I ((x.length : Int) - p - q)) (Ev_bin (Ev_bin (Ev_lenS (x := x) (Ev_local rfl rfl) hz rfl) (Ev_local rfl rfl) op_sub) (Ev_local rfl rfl) op_sub) (.inl rfl) R F O H fun h' tk' H => ?_
    refine st_if (c := decide ((12 : Int) < (x.length : Int) - p - q)) (EvT_cmp (Ev_local rfl rfl) (Ev_globI rfl rfl) op_gt) R F H (fun hc h' tk' H => ?_) (fun hc h' tk' H => ?_)
    · have hc' := of_decide_eq_true hc
      refine st_assign (a := S (shortF x p q)) ?_ (.inl rfl) R F O H fun h' tk' H => ?_
      · unfold shortF
        rw [if_pos hc']
        refine Ev_bin Ev_str (Ev_tuple (ds := [.str (Txt.slice x none (some p)), .int ((x.length : Int) - p - q), .str (Txt.slice x (some ((x.length : Int) - q)) none)]) (EvL_cons (Ev_slS (Ev_local rfl rfl) .none (.some (Ev_local rfl rfl)) hz) (EvL_cons (Ev_local rfl rfl) (EvL_cons (Ev_slS (Ev_local rfl rfl) (.some (Ev_bin (Ev_lenS (x := x) (Ev_local rfl rfl) hz rfl) (Ev_local rfl rfl) op_sub)) .none hz) EvL_nil))) (small (by simp))) (op_short ?_ ?_ ?_ ?_)
        · omega
        · omega
        · exact Nat.le_trans (Txt.slice_le x _ _) hx
        · exact Nat.le_trans (Txt.slice_le x _ _) hx
      refine st_nil ?_
      refine st_return (Ev_local (a := S (shortF x p q)) rfl rfl) R F H fun v h' tk' H r => ?_
      exact h v h' tk' H.keep r
    · have hc' := of_decide_eq_false hc
      refine st_nil ?_
      refine st_return (Ev_local (a := S (shortF x p q)) rfl ?_) R F H fun v h' tk' H r => ?_
      · unfold shortF
        rw [if_neg hc']
        rfl
      exact h v h' tk' H.keep r
  · intro vals hv
    match vals, hv with
    | [a, b, c], _ => rfl
  · decide
  · decide
end Mine

end
section
open PySem PySem.W PyProof.Rows
set_option maxRecDepth 100000
set_option linter.unusedVariables false
namespace Mine

theorem weak_sets {σ : Sto} {xs : List Str} {as : List AV} (h : ∀ x ∈ xs, σ x = none) : ∀ x a, σ x = some a → (σ.sets xs as) x = some a := fun x a e => by
  have hx : x ∉ xs := fun q => by rw [h x q] at e; cases e
  rw [sets_other hx]; exact e
theorem weak1 {σ : Sto} {x : Str} {as : List AV} (h : σ x = none) : ∀ z a, σ z = some a → (σ.sets [x] as) z = some a := weak_sets fun z hz => by rcases List.mem_singleton.mp hz with rfl; exact h
theorem weak2 {σ : Sto} {x y : Str} {as : List AV} (h : σ x = none) (h2 : σ y = none) : ∀ z a, σ z = some a → (σ.sets [x, y] as) z = some a := weak_sets fun z hz => by
  rcases List.mem_cons.mp hz with rfl | hz
  · exact h
  · rcases List.mem_singleton.mp hz with rfl; exact h2
def cpre (s1 s2 : Str) : Str :=
  match (List.range s1.length).find? (fun i => chr s1 i != chr s2 i) with
  | some i => Txt.slice s1 none (some (i : Int))
  | none => s1
theorem find_first {N : Nat} {p : Nat → Bool} {i : Nat} (hi : i < N) (hp : p i = true) (hj : ∀ j, j < i → p j = false) : (List.range N).find? p = some i := by
  rw [List.find?_eq_some_iff_append]
  refine ⟨hp, List.range i, (List.range' (i + 1) (N - (i + 1))), ?_, fun a ha => ?_⟩
  · rw [List.range_eq_range', List.range_eq_range', ← List.range'_succ]
    have := @List.range'_append 0 i (N - (i + 1) + 1) 1
    simp only [Nat.zero_add, Nat.one_mul] at this
    rw [this]
    congr 1
    omega
  · rw [hj a (List.mem_range.mp ha)]; rfl
theorem find_none {N : Nat} {p : Nat → Bool} (hj : ∀ j, j < N → p j = false) : (List.range N).find? p = none := by
  rw [List.find?_eq_none]
  intro a ha
  rw [hj a (List.mem_range.mp ha)]
  decide

theorem fn_prefix {w : World} {n : Nat} {is : List Str} (hne : 0 < is.length) (hx : (minS is).length ≤ 1000000)
    (hb : ∀ i, i < (minS is).length → (∀ j, j < i → chr (minS is) j = chr (maxS is) j) → i < (maxS is).length) : Fn w (n + 1) 92 [.dat (.tuple (is.map .str))] (S (cpre (minS is) (maxS is))) := by
  have hz : (minS is).length ≤ sizeLine := small hx
  refine Fn_of (o := _) (fd := _) (body := _) (xs := ["m"]) rfl rfl rfl ?_ ?_ rfl rfl rfl rfl rfl rfl rfl rfl ?_ ?_
  · intro A env h₀ X s Q E R F O H h
    refine st_assign (a := S (minS is)) (Ev_callB (Ev_builtin rfl rfl rfl (by decide)) (EvL_cons (Ev_local rfl rfl) EvL_nil) (do_minS hne)) (.inl rfl) R F O H fun h' tk' H => ?_
    refine st_assign (a := S (maxS is)) (Ev_callB (Ev_builtin rfl rfl rfl (by decide)) (EvL_cons (Ev_local rfl rfl) EvL_nil) (do_maxS hne)) (.inl rfl) R F O H fun h' tk' H => ?_
    have R := R
    refine st_for (fun _ => _) (fun _ => False) (fun i _ _ => ∀ j, j < i → chr (minS is) j = chr (maxS is) j) (EvIt_enumS (z := minS is) (Ev_builtin rfl rfl rfl (by decide)) (Ev_local rfl rfl)) (by decide) (fun x a e => e) R F O H (fun _ e => e.elim) (fun _ _ _ _ _ j _ _ => j) (fun j hj => absurd hj (Nat.not_lt_zero _)) ?_ ?_
    · intro i h₁ X' h' tk' E' hi k01 hXX O1 H1 hJ _
      have hi2 := hb i hi hJ
      have hit := item_chr hi2
      refine st_if (c := chr (minS is) i != chr (maxS is) i) (EvT_cmp (a := S (chr (minS is) i)) (b := S (chr (maxS is) i)) (Ev_local rfl rfl) ?_ op_neS) R F H1 (fun hc h2 tk2 H2 => ?_) (fun hc h2 tk2 H2 => ?_)
      · rw [← hit.1]
        refine Ev_sub (Ev_local rfl rfl) (Ev_local (a := I (i : Int)) rfl rfl) hasT_str _root_.PySem.F.slot_str_getitem.lookup (get_item_str ?_ hit.2)
        have : i < 1000000 := by omega
        unfold fitsSsize
        simp
        omega
      · refine st_return (a := S (cpre (minS is) (maxS is))) ?_ R F H2 fun v h3 tk3 H3 r => ?_
        · have e : cpre (minS is) (maxS is) = Txt.slice (minS is) none (some (i : Int)) := by
            unfold cpre
            rw [find_first hi hc fun j hj => by rw [hJ j hj]; simp]
          rw [e]
          exact Ev_slS (Ev_local rfl rfl) .none (.some (Ev_local rfl rfl)) hz
        · exact h v h3 tk3 (k01.trans H3.keep) (RdA.less hXX r)
      · refine st_nil (st_nil ⟨h2, tk2, rfl, H2.weak (weak2 rfl rfl), fun j hj => ?_⟩)
        rcases Nat.lt_succ_iff_lt_or_eq.mp hj with hj | rfl
        · exact hJ j hj
        · simpa using hc
    · intro h2 tk2 H2 hJ
      refine st_return (a := S (cpre (minS is) (maxS is))) ?_ R F H2 fun v h3 tk3 H3 r => ?_
      · have e : cpre (minS is) (maxS is) = minS is := by
          unfold cpre
          rw [find_none fun j hj => by rw [hJ j hj]; simp]
        rw [e]
        exact Ev_local rfl rfl
      · exact h v h3 tk3 H3.keep r
  · intro vals hv
    match vals, hv with
    | [a], _ => rfl
  · decide
  · decide
end Mine

end
section
open PySem PySem.W PyProof.Rows
set_option maxRecDepth 100000
set_option linter.unusedVariables false
namespace Mine

theorem seqIdx_nat {i n : Nat} (hi : i < n) : seqIndex? (i : Int) n = some i := by
  have h1 : ¬ ((i : Int) < 0) := by omega
  have h2 : (decide (0 ≤ (i : Int)) && decide ((i : Int) < (n : Int))) = true := by
    rw [decide_eq_true (by omega), decide_eq_true (by omega)]; rfl
  unfold seqIndex?
  simp only [if_neg h1]
  rw [if_pos h2]
  rfl
theorem range_getD (ds : List PyData) : (List.range ds.length).map (fun i => ds.getD i .none) = ds := by
  apply List.ext_getElem?
  intro i
  by_cases hi : i < ds.length
  · simp [hi, List.getElem?_eq_getElem hi]
  · simp [List.getElem?_eq_none (Nat.le_of_not_lt hi), hi]
theorem pickN_filter (p : PyData → Bool) (f : PyData → PyData) (ds : List PyData) : pickN (fun i => p (ds.getD i .none)) (fun i => f (ds.getD i .none)) ds.length = (ds.filter p).map f := by
  unfold pickN
  conv => rhs; rw [← range_getD ds]
  rw [List.filter_map, List.map_map]
  rfl
theorem pickN_map (f : PyData → PyData) (ds : List PyData) : pickN (fun _ => true) (fun i => f (ds.getD i .none)) ds.length = ds.map f := by
  have := pickN_filter (fun _ => true) f ds
  rw [List.filter_eq_self.mpr (fun _ _ => rfl)] at this
  exact this
theorem getD_mem {ds : List PyData} {i : Nat} (hi : i < ds.length) : ds.getD i .none ∈ ds := by
  rw [List.getD_eq_getElem?_getD, List.getElem?_eq_getElem hi]
  exact List.getElem_mem hi
section
variable {w : World} {n : Nat} {sc : Scope} {σ : Sto} {A : Around} {env : Env} {h₀ : Heap} {X : Addr → Prop} {s : Shared} {E : Value → Shared → Prop}
theorem Ev_compF {elt iter : Expr} {ifs : List Expr} {scope : Scope} {pos pt : Pos} {x : Str} {ds : List PyData} (p : PyData → Bool) (f : PyData → PyData)
    (hit : EvIt w n sc σ iter ds.length (.Name x pt) [x] (fun i => [.dat (ds.getD i .none)])) (C : CompOk sc scope [x]) (hN : ds.length ≤ sizeLine)
    (htest : ∀ d ∈ ds, EvI w n (relabelS scope sc) ((σ.seen scope).sets [x] [.dat d]) ifs (p d))
    (helt : ∀ d ∈ ds, p d = true → Ev w n (relabelS scope sc) ((σ.seen scope).sets [x] [.dat d]) elt (.dat (f d)))
    (hs : ∀ env x, foldedSetIterable iter env x = pure x := by intro _ _; rfl) : Ev w n sc σ (.ListComp elt [⟨.Name x pt, iter, ifs, 0⟩] scope pos) (.dat (.list ((ds.filter p).map f))) := by
  rw [← pickN_filter]
  exact Ev_comp hit C hN (fun i hi => htest _ (getD_mem hi)) (fun i hi hp => helt _ (getD_mem hi) hp) hs
theorem Ev_compM {elt iter : Expr} {scope : Scope} {pos pt : Pos} {x : Str} {ds : List PyData} (f : PyData → PyData)
    (hit : EvIt w n sc σ iter ds.length (.Name x pt) [x] (fun i => [.dat (ds.getD i .none)])) (C : CompOk sc scope [x]) (hN : ds.length ≤ sizeLine)
    (helt : ∀ d ∈ ds, Ev w n (relabelS scope sc) ((σ.seen scope).sets [x] [.dat d]) elt (.dat (f d)))
    (hs : ∀ env x, foldedSetIterable iter env x = pure x := by intro _ _; rfl) : Ev w n sc σ (.ListComp elt [⟨.Name x pt, iter, [], 0⟩] scope pos) (.dat (.list (ds.map f))) := by
  rw [← pickN_map]
  exact Ev_comp hit C hN (fun i hi => .nil) (fun i hi hp => helt _ (getD_mem hi)) hs
theorem st_compF {x : Str} {px spos : Pos} {rest : List Stmt} {Q : Flow → Shared → Prop} {elt iter : Expr} {ifs : List Expr} {scope : Scope} {pos pt : Pos} {y : Str} {ds : List PyData} (p : PyData → Bool) (f : PyData → PyData)
    (hit : EvIt w n sc σ iter ds.length (.Name y pt) [y] (fun i => [.dat (ds.getD i .none)])) (C : CompOk sc scope [y]) (hN : ds.length ≤ sizeLine)
    (htest : ∀ d ∈ ds, EvI w n (relabelS scope sc) ((σ.seen scope).sets [y] [.dat d]) ifs (p d))
    (helt : ∀ d ∈ ds, p d = true → Ev w n (relabelS scope sc) ((σ.seen scope).sets [y] [.dat d]) elt (.dat (f d)))
    (hk : sc.names.lookup x = some .local) (R : Room n A) (F : Fit sc env) (H : EnvAt w env h₀ X s.heap σ)
    (h : ∀ h' tk', EnvAt w env h₀ X h' (σ.set x (.dat (.list ((ds.filter p).map f)))) → Run w A rest env Q E { s with heap := h', toks := tk' })
    (hsw : ∀ env, env.scope = sc → swapsWith (.ListComp elt [⟨.Name y pt, iter, ifs, 0⟩] scope pos) (some (.Name x px)) spos.line env = pure true)
    (hs : ∀ env x, foldedSetIterable iter env x = pure x := by intro _ _; rfl) : Run w A (.Assign [.Name x px] (.ListComp elt [⟨.Name y pt, iter, ifs, 0⟩] scope pos) spos :: rest) env Q E s := by
  rw [← pickN_filter] at h
  exact st_comp hit C hN (fun i hi => htest _ (getD_mem hi)) (fun i hi hp => helt _ (getD_mem hi) hp) hk R F H h hsw hs
theorem st_compM {x : Str} {px spos : Pos} {rest : List Stmt} {Q : Flow → Shared → Prop} {elt iter : Expr} {scope : Scope} {pos pt : Pos} {y : Str} {ds : List PyData} (f : PyData → PyData)
    (hit : EvIt w n sc σ iter ds.length (.Name y pt) [y] (fun i => [.dat (ds.getD i .none)])) (C : CompOk sc scope [y]) (hN : ds.length ≤ sizeLine)
    (helt : ∀ d ∈ ds, Ev w n (relabelS scope sc) ((σ.seen scope).sets [y] [.dat d]) elt (.dat (f d)))
    (hk : sc.names.lookup x = some .local) (R : Room n A) (F : Fit sc env) (H : EnvAt w env h₀ X s.heap σ)
    (h : ∀ h' tk', EnvAt w env h₀ X h' (σ.set x (.dat (.list (ds.map f)))) → Run w A rest env Q E { s with heap := h', toks := tk' })
    (hsw : ∀ env, env.scope = sc → swapsWith (.ListComp elt [⟨.Name y pt, iter, [], 0⟩] scope pos) (some (.Name x px)) spos.line env = pure true)
    (hs : ∀ env x, foldedSetIterable iter env x = pure x := by intro _ _; rfl) : Run w A (.Assign [.Name x px] (.ListComp elt [⟨.Name y pt, iter, [], 0⟩] scope pos) spos :: rest) env Q E s := by
  rw [← pickN_map] at h
  exact st_comp hit C hN (fun i hi => .nil) (fun i hi hp => helt _ (getD_mem hi)) hk R F H h hsw hs
end

theorem fn_commonprefix {w : World} {n : Nat} {is : List Str} (hne : 0 < is.length) (hl : is.length ≤ 1000000) (hx : (minS is).length ≤ 1000000)
    (hb : ∀ i, i < (minS is).length → (∀ j, j < i → chr (minS is) j = chr (maxS is) j) → i < (maxS is).length) : Fn w (n + 3) 97 [.dat (.tuple (is.map .str))] (S (cpre (minS is) (maxS is))) := by
  obtain ⟨i0, is', rfl⟩ : ∃ i0 is', is = i0 :: is' := by
    cases is with
    | nil => simp at hne
    | cons a b => exact ⟨a, b, rfl⟩
  have hlen : ((i0 :: is').map PyData.str).length ≤ sizeLine := by rw [List.length_map]; exact small hl
  refine Fn_of (o := _) (fd := _) (body := _) (xs := ["m"]) rfl rfl rfl ?_ ?_ rfl rfl rfl rfl rfl rfl rfl rfl ?_ ?_
  · intro A env h₀ X s Q E R F O H h
    refine st_if (c := false) (EvT_and (a := true) (b := false) (EvT_cmp (Ev_callT (Ev_builtin rfl rfl rfl (by decide)) (EvL_cons (Ev_local rfl rfl) EvL_nil) (do_type hasT_tuple rfl)) (Ev_builtin rfl rfl rfl (by decide)) op_isnT) fun _ => EvT_cmp (Ev_callT (Ev_builtin rfl rfl rfl (by decide)) (EvL_cons (Ev_local rfl rfl) EvL_nil) (do_type hasT_tuple rfl)) (Ev_builtin rfl rfl rfl (by decide)) op_isnT) R F H (fun e => nomatch e) (fun _ h' tk' H => ?_)
    refine st_nil ?_
    refine st_if (c := false) (EvT_not (b := true) (EvT_of (Ev_local rfl rfl) (tr_tuple hlen))) R F H (fun e => nomatch e) (fun _ h' tk' H => ?_)
    refine st_nil ?_
    refine st_assign (a := .val (.type "str")) (Ev_callT (Ev_builtin rfl rfl rfl (by decide)) (EvL_cons (Ev_sub (Ev_local rfl rfl) Ev_int hasT_tuple _root_.PySem.F.slot_tuple_getitem.lookup (get_item_tuple (k := 0) (d := .str i0) (by decide) (by decide) (seqIdx_nat (by rw [List.length_map]; exact hne)) rfl)) EvL_nil) (do_type hasT_str rfl)) (.inl rfl) R F O H fun h' tk' H => ?_
    refine st_if (c := false) (EvT_or (a := false) (b := false) (EvT_cmp (Ev_local rfl rfl) (Ev_builtin rfl rfl rfl (by decide)) op_isT) fun _ => EvT_cmp (Ev_local rfl rfl) (Ev_builtin rfl rfl rfl (by decide)) op_isT) R F H (fun e => nomatch e) (fun _ h' tk' H => ?_)
    refine st_nil ?_
    refine st_for (fun _ => _) (fun _ => False) (fun i _ _ => True) (EvIt_tuple (Ev_local rfl rfl)) (by decide) (fun x a e => e) R F O H (fun _ e => e.elim) (fun _ _ _ _ _ j _ _ => j) trivial ?_ ?_
    · intro i h₁ X' h' tk' E' hi k01 hXX O1 H1 _ _
      obtain ⟨x, hx⟩ : ∃ x, ((i0 :: is').map PyData.str).getD i .none = .str x := by
        have := getD_mem hi
        obtain ⟨x, _, e⟩ := List.mem_map.mp this
        exact ⟨x, e.symm⟩
      rw [hx] at H1
      refine st_expr (d := S "") (Ev_callF (f := 78) (Ev_glob rfl rfl) rfl rfl (EvL_cons Ev_str (EvL_cons (Ev_local rfl rfl) EvL_nil)) fn_kind) (fun h X v a r => by cases r; exact fun e => nomatch e) R F H1 fun h2 tk2 H2 => ?_
      exact st_nil ⟨h2, tk2, rfl, H2.weak (weak1 rfl), trivial⟩
    · intro h2 tk2 H2 _
      refine st_return (a := S (cpre (minS (i0 :: is')) (maxS (i0 :: is')))) (Ev_callF (f := 92) (Ev_glob rfl rfl) rfl rfl (EvL_cons (Ev_callT (Ev_builtin rfl rfl rfl (by decide)) (EvL_cons (Ev_compM (fun d => d) (EvIt_tuple (Ev_local rfl rfl)) ⟨rfl, by decide, by decide, by decide, by decide⟩ hlen fun d hd => ?_) EvL_nil) (do_tuple ?_)) EvL_nil) ?_) R F H2 fun v h3 tk3 H3 r => ?_
      · obtain ⟨x, _, rfl⟩ := List.mem_map.mp hd
        exact Ev_callF (f := 85) (Ev_glob rfl rfl) rfl rfl (EvL_cons Ev_str (EvL_cons (Ev_local rfl rfl) EvL_nil)) fn_fspath
      · rw [List.map_id']; exact hlen
      · rw [List.map_id']; exact fn_prefix hne hx hb
      · exact h v h3 tk3 H3.keep r
  · intro vals hv
    match vals, hv with
    | [a], _ => rfl
  · decide
  · decide
end Mine

end
section
open PySem PySem.W PyProof.Rows
set_option maxRecDepth 100000
set_option linter.unusedVariables false
namespace Mine
theorem noFill_tuple_mul : fillsNumberSlot (.type "tuple") "mul" = pure false :=
  PySem.fillsNumberSlot_seq (id := "tuple.__mul__") (r := some (.builtin "tuple.__rmul__")) F.slot_tuple_mul.lookup (by decide +kernel) F.slot_tuple_rmul.lookup (by decide +kernel)
theorem repeat_tuple : seqRepeat? (.type "tuple") = pure (some (.builtin "tuple.__mul__")) := by
  unfold seqRepeat?
  rw [PySem.seqSlot_of (T := "tuple") (name := "__mul__") (id := "tuple.__mul__") F.slot_tuple_mul.lookup (by decide +kernel), PySem.seqSlot_of (T := "tuple") (name := "__rmul__") (id := "tuple.__rmul__") F.slot_tuple_rmul.lookup (by decide +kernel)]
  rfl
theorem int_rmul_tuple (a : Int) (t : Tok) (l : Addr) (items : Array Value) (n : Nat) :
    Meets (Builtin.«int.__rmul__» ⟨[.int a t, .ref l], []⟩) (fun _ R s => s.heap.get? l = some { cls := .type "tuple", dict := none, data := .seq items n, slots := #[] } ∧ R (.ok (.ret Value.notImplemented)) s) :=
  .of_wp fun prog w A R s h => by obtain ⟨hp, g, d, tk, os⟩ := s; obtain ⟨hl, h⟩ := h; wp_walk; exact ⟨_, rfl, h⟩
theorem tup_mul0 (l : Addr) (v : Value) (n : Nat) (u : Tok) :
    Meets (Builtin.«tuple.__mul__» ⟨[.ref l, .int 0 u], []⟩) (fun _ R s => s.heap.get? l = some { cls := .type "tuple", dict := none, data := .seq #[v] n, slots := #[] } ∧ R (.ok (.ret (Value.ref s.heap.objs.size))) { s with heap := s.heap.push { cls := Value.type "tuple", data := Data.seq #[] }, toks := s.toks }) :=
  .of_wp fun prog w A R s h => by
    obtain ⟨hp, g, d, tk, os⟩ := s; obtain ⟨hl, h⟩ := h
    wp_walk
    exact ⟨_, rfl, h⟩
theorem tup_mul1 (l : Addr) (v : Value) (n : Nat) (u : Tok) :
    Meets (Builtin.«tuple.__mul__» ⟨[.ref l, .int 1 u], []⟩) (fun _ R s => s.heap.get? l = some { cls := .type "tuple", dict := none, data := .seq #[v] n, slots := #[] } ∧ R (.ok (.ret (Value.ref l))) s) :=
  .of_wp fun prog w A R s h => by
    obtain ⟨hp, g, d, tk, os⟩ := s; obtain ⟨hl, h⟩ := h
    wp_walk
    exact ⟨_, rfl, h⟩
theorem tup_mul2 (l : Addr) (v : Value) (n : Nat) (u : Tok) :
    Meets (Builtin.«tuple.__mul__» ⟨[.ref l, .int 2 u], []⟩) (fun _ R s => s.heap.get? l = some { cls := .type "tuple", dict := none, data := .seq #[v] n, slots := #[] } ∧ R (.ok (.ret (Value.ref s.heap.objs.size))) { s with heap := s.heap.push { cls := Value.type "tuple", data := Data.seq #[v, v] }, toks := s.toks }) :=
  .of_wp fun prog w A R s h => by
    obtain ⟨hp, g, d, tk, os⟩ := s; obtain ⟨hl, h⟩ := h
    wp_walk
    exact ⟨_, rfl, h⟩
section
variable {w : World} {n : Nat} {sc : Scope} {σ : Sto}
theorem op_mulT {d : PyData} {k : Int} (hk : k = 0 ∨ k = 1 ∨ k = 2) : Does2 w n (binaryOp .Mult) (.dat (.tuple [d])) (I k) (.dat (.tuple (List.replicate k.toNat d))) := fun A X s u v Q E R _ L ru rv h => by
  cases rv
  cases ru with | tuple hn ho ra =>
    rename_i t a vs m
    obtain ⟨l⟩ := vs
    cases ra with | cons ra rb =>
      cases rb
      rename_i v
      refine wpAny_binaryOp_repeat_ref (T := "tuple") (U := "int") (by decide) ⟨_, ho, rfl⟩ (fun s' => typeIs_int s' k _) noFill_tuple_mul F.fills_int_mul F.slot_int_rmul repeat_tuple F.slot_int_index.lookup
        (call_meets F.slot_int_rmul (typeIs_int s k _) F.entry_int_rmul (F.args_int_rmul_2 _ _) (int_rmul_tuple k _ a _ m)
          ⟨ho, rfl, ⟨_, ho, rfl⟩, ?_⟩)
      rcases hk with rfl | rfl | rfl
      · refine call_meets F.slot_tuple_mul ⟨_, ho, rfl⟩ F.entry_tuple_mul (F.args_tuple_mul_2 _ _) (tup_mul0 a v m _) ⟨ho, ?_⟩
        exact h _ _ s.toks (Keeps.push _ _) (.tuple L.new (Heap.get?_push_size _ rfl) .nil)
      · refine call_meets F.slot_tuple_mul ⟨_, ho, rfl⟩ F.entry_tuple_mul (F.args_tuple_mul_2 _ _) (tup_mul1 a v m _) ⟨ho, ?_⟩
        exact h _ s.heap s.toks (Keeps.refl _) (.tuple hn ho (.cons ra .nil))
      · refine call_meets F.slot_tuple_mul ⟨_, ho, rfl⟩ F.entry_tuple_mul (F.args_tuple_mul_2 _ _) (tup_mul2 a v m _) ⟨ho, ?_⟩
        have kp := Keeps.push s.heap { cls := Value.type "tuple", data := Data.seq #[v, v] }
        exact h _ _ s.toks kp (.tuple L.new (Heap.get?_push_size _ rfl) (.cons (ra.keeps kp.x) (.cons (ra.keeps kp.x) .nil)))
end
end Mine

end
section
open PySem PySem.W PyProof.Rows
set_option maxHeartbeats 4000000
set_option maxRecDepth 100000
set_option linter.unusedVariables false
namespace Mine
theorem all10 {P : Int → Prop} {s : Int} (h0 : 0 ≤ s) (h9 : s ≤ 9) (h : ∀ i : Fin 10, P (i.val : Int)) : P s := by
  have := h ⟨s.toNat, by omega⟩
  simpa [Int.toNat_of_nonneg h0] using this
def cntL : List Int := [0, 1, 4, 9, 16, 36, 49, 77, 78, 81]
def thingD (kd sz : Int) : PyData :=
  if kd = 0 then .int ((sz - 4) * 10 ^ sz.toNat)
  else if kd = 1 then .str (Txt.mul (Txt.item "abcdefghij" sz) (cntL.getD sz.toNat 0))
  else if kd = 2 then .tuple (List.replicate (sz.fmod 3).toNat (.int sz))
  else .list [.int sz, .list (List.replicate (sz.fmod 2).toNat (.int sz))]
def thing (k : Int) : PyData := thingD (k.fmod 4) (k.fdiv 4)

theorem fn_thing {w : World} {n : Nat} {k : Int} (hk0 : 0 ≤ k) (hk1 : k < 40) : Fn w (n + 1) 207 [I k] (.dat (thing k)) := by
  unfold thing
  have hs0 : 0 ≤ k.fdiv 4 := by rw [Int.fdiv_eq_ediv_of_nonneg _ (by omega)]; omega
  have hs9 : k.fdiv 4 ≤ 9 := by rw [Int.fdiv_eq_ediv_of_nonneg _ (by omega)]; omega
  refine Fn_of (o := _) (fd := _) (body := _) (xs := ["key"]) rfl rfl rfl ?_ ?_ rfl rfl rfl rfl rfl rfl rfl rfl ?_ ?_
  · intro A env h₀ X s Q E R F O H h
    refine st_unpackS (a := I (k.fmod 4)) (b := I (k.fdiv 4)) (EvL_cons (Ev_bin (Ev_local rfl rfl) Ev_int (op_mod (by decide))) (EvL_cons (Ev_bin (Ev_local rfl rfl) Ev_int (op_fdiv (by decide) (by decide))) EvL_nil)) rfl rfl R F O H (fun h' tk' H => ?_) rfl (fun env e => by cases env; cases e; rfl)
    generalize k.fdiv 4 = sz at *
    generalize k.fmod 4 = kd at *
    refine st_if (c := kd == 0) (EvT_cmp (Ev_local rfl rfl) Ev_int op_eqI) R F H (fun hc h' tk' H => ?_) (fun hc h' tk' H => ?_)
    · have hc : kd = 0 := by simpa using hc
      refine st_return (a := .dat (thingD kd sz)) ?_ R F H fun v h' tk' H r => h v h' tk' H.keep r
      unfold thingD
      rw [if_pos hc]
      refine Ev_bin (Ev_bin (Ev_local rfl rfl) Ev_int op_sub) (Ev_bin Ev_int (Ev_local rfl rfl) (op_pow hs0 (by omega) (by decide))) (op_mul ?_)
      refine IntMulOk.of_left ?_
      exact all10 (P := fun sz => Builtin.Int.intBits (sz - 4) ≤ 64) hs0 hs9 (by decide +kernel)
    have hc0 : ¬ kd = 0 := by simpa using hc
    refine st_nil ?_
    refine st_if (c := kd == 1) (EvT_cmp (Ev_local rfl rfl) Ev_int op_eqI) R F H (fun hc h' tk' H => ?_) (fun hc h' tk' H => ?_)
    · have hc : kd = 1 := by simpa using hc
      refine st_return (a := .dat (thingD kd sz)) ?_ R F H fun v h' tk' H r => h v h' tk' H.keep r
      unfold thingD
      rw [if_neg hc0, if_pos hc]
      refine Ev_bin (Ev_sub Ev_str (Ev_local rfl rfl) hasT_str _root_.PySem.F.slot_str_getitem.lookup (get_item_str ?_ ?_)) (Ev_sub (Ev_list (ds := cntL.map .int) (EvL_cons Ev_int (EvL_cons Ev_int (EvL_cons Ev_int (EvL_cons Ev_int (EvL_cons Ev_int (EvL_cons Ev_int (EvL_cons Ev_int (EvL_cons Ev_int (EvL_cons Ev_int (EvL_cons Ev_int EvL_nil)))))))))) (small (by decide))) (Ev_local rfl rfl) hasT_list _root_.PySem.F.slot_list_getitem.lookup (get_item_list (d := .int (cntL.getD sz.toNat 0)) hs0 (by omega) ?_)) (op_smul ?_)
      · exact all10 (P := fun sz => fitsSsize sz = true) hs0 hs9 (by decide +kernel)
      · exact all10 (P := fun sz => (Txt.charAt "abcdefghij" sz).isSome = true) hs0 hs9 (by decide +kernel)
      · have : sz.toNat < cntL.length := by show _ < 10; omega
        rw [List.getElem?_map, List.getD_eq_getElem?_getD, List.getElem?_eq_getElem this]
        rfl
      · exact all10 (P := fun sz => MulOk (Txt.item "abcdefghij" sz) (cntL.getD sz.toNat 0)) hs0 hs9 (by unfold MulOk; decide +kernel)
    have hc1 : ¬ kd = 1 := by simpa using hc
    refine st_nil ?_
    refine st_if (c := kd == 2) (EvT_cmp (Ev_local rfl rfl) Ev_int op_eqI) R F H (fun hc h' tk' H => ?_) (fun hc h' tk' H => ?_)
    · have hc : kd = 2 := by simpa using hc
      refine st_return (a := .dat (thingD kd sz)) ?_ R F H fun v h' tk' H r => h v h' tk' H.keep r
      unfold thingD
      rw [if_neg hc0, if_neg hc1, if_pos hc]
      refine Ev_bin (Ev_tuple (ds := [.int sz]) (EvL_cons (Ev_local rfl rfl) EvL_nil) (small (by simp))) (Ev_bin (Ev_local rfl rfl) Ev_int (op_mod (by decide))) (op_mulT ?_)
      exact all10 (P := fun sz => sz.fmod 3 = 0 ∨ sz.fmod 3 = 1 ∨ sz.fmod 3 = 2) hs0 hs9 (by decide +kernel)
    have hc2 : ¬ kd = 2 := by simpa using hc
    refine st_nil ?_
    refine st_return (a := .dat (thingD kd sz)) ?_ R F H fun v h' tk' H r => h v h' tk' H.keep r
    unfold thingD
    rw [if_neg hc0, if_neg hc1, if_neg hc2]
    refine Ev_list (ds := [.int sz, .list (List.replicate (sz.fmod 2).toNat (.int sz))]) (EvL_cons (Ev_local rfl rfl) (EvL_cons ?_ EvL_nil)) (small (by simp))
    have e : List.replicate (sz.fmod 2).toNat (PyData.int sz) = (List.replicate (sz.fmod 2).toNat [PyData.int sz]).flatten := by
      generalize (sz.fmod 2).toNat = m
      induction m with
      | zero => rfl
      | succ m ih => rw [List.replicate_succ, List.replicate_succ, List.flatten_cons, ← ih]; rfl
    rw [e]
    refine Ev_bin (Ev_list (ds := [.int sz]) (EvL_cons (Ev_local rfl rfl) EvL_nil) (small (by simp))) (Ev_bin (Ev_local rfl rfl) Ev_int (op_mod (by decide))) (op_mulL ?_ ?_ (by simp) (by simp))
    · exact all10 (P := fun sz => 0 ≤ sz.fmod 2) hs0 hs9 (by decide +kernel)
    · exact all10 (P := fun sz => sz.fmod 2 ≤ 1000) hs0 hs9 (by decide +kernel)
  · intro vals hv
    match vals, hv with
    | [a], _ => rfl
  · decide
  · decide
end Mine

end
section
open PySem PySem.W PyProof.Rows
set_option maxHeartbeats 4000000
set_option maxRecDepth 100000
set_option linter.unusedVariables false
namespace Mine
open PyData in
mutual
def Wok : PyData → Prop
  | .int i => i ∈ nums ∨ (0 ≤ i ∧ i < 10 ^ 10)
  | .str x => reprText x = "'" ++ x ++ "'" ∧ x.length ≤ 1000
  | .list xs => WokA xs ∧ piled (shownAll xs) ≤ 100000
  | .tuple xs => WokA xs ∧ piled (shownAll xs) ≤ 100000
  | _ => False
def WokA : List PyData → Prop
  | [] => True
  | x :: xs => Wok x ∧ WokA xs
end
theorem WokA.mem : ∀ {xs : List PyData}, WokA xs → ∀ d ∈ xs, Wok d
  | [], _, _, h => nomatch h
  | x :: xs, h, d, hd => by
    unfold WokA at h
    rcases List.mem_cons.mp hd with rfl | hd
    · exact h.1
    · exact WokA.mem h.2 d hd
theorem wokA_of : ∀ {xs : List PyData}, (∀ d ∈ xs, Wok d) → WokA xs
  | [], _ => by unfold WokA; trivial
  | x :: xs, h => by unfold WokA; exact ⟨h x (.head _), wokA_of fun d hd => h d (.tail _ hd)⟩
theorem shownAll_map (xs : List PyData) : PyData.shownAll xs = xs.map PyData.shown := by
  induction xs with
  | nil => rfl
  | cons x xs ih => unfold PyData.shownAll; rw [ih]; rfl
theorem depth_mem : ∀ {xs : List PyData} {d : PyData}, d ∈ xs → d.depth ≤ PyData.depthAll xs
  | [], _, h => nomatch h
  | x :: xs, d, h => by
    unfold PyData.depthAll
    rcases List.mem_cons.mp h with rfl | h
    · exact Nat.le_max_left _ _
    · exact Nat.le_trans (depth_mem h) (Nat.le_max_right _ _)
theorem joinOk_of {ts : List Str} (h : piled ts ≤ 100000) : JoinOk ", " ts = true := by
  have e : ∀ (ts : List Str) (k : Nat), ts.foldl (fun a (t : Str) => a + t.length + (", " : Str).length) k = k + piled ts := by
    intro ts
    induction ts with
    | nil => intro k; rfl
    | cons t ts ih =>
      intro k
      rw [List.foldl_cons, ih, piled_cons]
      have : (", " : Str).length = 2 := rfl
      rw [this]
      omega
  unfold JoinOk
  rw [List.foldl_toArray' (h := rfl)]
  have := e ts 0
  rw [this]
  unfold Builtin.Str.tooLong
  rw [sizeLine_eq]
  simp
  omega
theorem join_le {ts : List Str} : (Txt.join ", " ts).length ≤ piled ts := by
  unfold Txt.join
  rw [StrLaws.glued_eq_join]
  by_cases h : ts = []
  · subst h; exact Nat.zero_le _
  · have := join_length_add ts h; omega
theorem Fn.more {w : World} {n m : Nat} {f : Addr} {as : List AV} {r : AV} (h : Fn w n f as r) (hm : n ≤ m) : Fn w m f as r := fun A X s vals Q E R => h A X s vals Q E (R.less hm)
theorem cat_len (a b : Str) : (a ++ b).length = a.length + b.length := Str.length_append a b

theorem piled_ge (xs : List PyData) : 2 * xs.length ≤ piled (PyData.shownAll xs) := by
  induction xs with
  | nil => exact Nat.zero_le _
  | cons x xs ih => unfold PyData.shownAll; rw [piled_cons, List.length_cons]; omega
theorem len_Tu {w : World} {n : Nat} {xs : List PyData} (hf : xs.length ≤ sizeLine) : DoesL w n (cB "len") [.dat (.tuple xs)] (I xs.length) := fun A X s vals Q E _ _ _ rs h => by
  cases rs with | cons r rs =>
    cases rs; cases r with
    | tuple hn ho ra =>
      rename_i vs _
      have e : vs.size = xs.length := by have := ra.length; simpa using this
      refine len_tuple ⟨_, ho, rfl, _, rfl⟩ (by rw [e]; rw [sizeLine_eq] at hf; omega) ?_
      rw [e]
      exact h _ s.heap _ (Keeps.refl _) (.int _ _)
theorem fn_written {w : World} {n : Nat} : ∀ (m : Nat) (d : PyData), d.depth ≤ m → Wok d → Fn w (n + m + 1) 212 [.dat d] (S d.shown) := by
  intro m
  induction m with
  | zero => ?_
  | succ m ih => ?_
  all_goals (
    intro d hdep hw
    refine Fn_of (o := _) (fd := _) (body := _) (xs := ["thing"]) rfl rfl rfl ?_ ?_ rfl rfl rfl rfl rfl rfl rfl rfl ?_ ?_
    rotate_left
    · intro vals hv
      match vals, hv with
      | [a], _ => rfl
    · decide
    · decide
    intro A env h₀ X s Q E R F O H h
    cases d with
    | none => unfold Wok at hw; exact hw.elim
    | bool b => unfold Wok at hw; exact hw.elim
    | dict kv => unfold Wok at hw; exact hw.elim
    | int i =>
      unfold Wok at hw
      refine st_if (c := true) (EvT_of (Ev_callB (Ev_builtin rfl rfl rfl (by decide)) (EvL_cons (Ev_local rfl rfl) (EvL_cons (Ev_builtin rfl rfl rfl (by decide)) EvL_nil)) (isi_true hasT_int (ty_T "int" (by decide +kernel)) _root_.PySem.F.sub_int_int)) tr_bool) R F H (fun _ h' tk' H => ?_) (fun e => nomatch e)
      refine st_return (a := S (PyData.shown (.int i))) (Ev_bin Ev_str (Ev_local rfl rfl) ?_) R F H fun v h' tk' H r => h v h' tk' H.keep r
      exact op_d hw
    | str x =>
      unfold Wok at hw
      refine st_if (c := false) (EvT_of (Ev_callB (Ev_builtin rfl rfl rfl (by decide)) (EvL_cons (Ev_local rfl rfl) (EvL_cons (Ev_builtin rfl rfl rfl (by decide)) EvL_nil)) (isi_false_str (by decide) (ty_T "int" (by decide +kernel)) _root_.PySem.F.sub_str_int)) tr_bool) R F H (fun e => nomatch e) (fun _ h' tk' H => ?_)
      refine st_nil ?_
      refine st_if (c := true) (EvT_of (Ev_callB (Ev_builtin rfl rfl rfl (by decide)) (EvL_cons (Ev_local rfl rfl) (EvL_cons (Ev_builtin rfl rfl rfl (by decide)) EvL_nil)) (isi_true hasT_str (ty_T "str" (by decide +kernel)) _root_.PySem.F.sub_str_str)) tr_bool) R F H (fun _ h' tk' H => ?_) (fun e => nomatch e)
      refine st_return (a := S (PyData.shown (.str x))) ?_ R F H fun v h' tk' H r => h v h' tk' H.keep r
      show Ev _ _ _ _ _ (S (reprText x))
      rw [hw.1]
      refine Ev_bin (Ev_bin Ev_str (Ev_local rfl rfl) (op_cat ?_)) Ev_str (op_cat ?_)
      · refine small ?_; show 1 + _ ≤ _; have := hw.2; omega
      · refine small ?_; rw [cat_len]; show 1 + _ + 1 ≤ _; have := hw.2; omega
    | list xs =>
      first
      | (exact absurd hdep (by unfold PyData.depth; omega))
      | (unfold Wok at hw
         have hlen : xs.length ≤ sizeLine := small (by have h1 := hw.2; have h2 := piled_ge xs; omega)
         refine st_if (c := false) (EvT_of (Ev_callB (Ev_builtin rfl rfl rfl (by decide)) (EvL_cons (Ev_local rfl rfl) (EvL_cons (Ev_builtin rfl rfl rfl (by decide)) EvL_nil)) (isi_false_list (by decide) (ty_T "int" (by decide +kernel)) _root_.PySem.F.sub_list_int)) tr_bool) R F H (fun e => nomatch e) (fun _ h' tk' H => ?_)
         refine st_nil ?_
         refine st_if (c := false) (EvT_of (Ev_callB (Ev_builtin rfl rfl rfl (by decide)) (EvL_cons (Ev_local rfl rfl) (EvL_cons (Ev_builtin rfl rfl rfl (by decide)) EvL_nil)) (isi_false_list (by decide) (ty_T "str" (by decide +kernel)) _root_.PySem.F.sub_list_str)) tr_bool) R F H (fun e => nomatch e) (fun _ h' tk' H => ?_)
         refine st_nil ?_
         refine st_assign (a := S (Txt.join ", " (xs.map PyData.shown))) (Ev_meth1 Ev_str (b := .dat (.list (xs.map fun d => .str d.shown))) (Ev_compM _ (EvIt_list (Ev_local rfl rfl)) ⟨rfl, by decide, by decide, by decide, by decide⟩ hlen fun d hd => Ev_callF (f := 212) (Ev_glob rfl rfl) rfl rfl (EvL_cons (Ev_local rfl rfl) EvL_nil) (ih d ?_ (WokA.mem hw.1 d hd))) hasT_str _root_.PySem.F.plainAttrs_str _root_.PySem.F.slot_str_join _root_.PySem.F.type_str_join ?_) (.inl rfl) R F O H fun h' tk' H => ?_
         · have h1 := depth_mem hd
           unfold PyData.depth at hdep
           omega
         · have := do_join (w := w) (n := n + m + 1) (sep := ", ") (ys := xs.map PyData.shown) (joinOk_of (by rw [← shownAll_map]; exact hw.2))
           rw [List.map_map] at this
           exact this
         refine st_if (c := true) (EvT_of (Ev_callB (Ev_builtin rfl rfl rfl (by decide)) (EvL_cons (Ev_local rfl rfl) (EvL_cons (Ev_builtin rfl rfl rfl (by decide)) EvL_nil)) (isi_true hasT_list (ty_T "list" (by decide +kernel)) _root_.PySem.F.sub_list_list)) tr_bool) R F H (fun _ h' tk' H => ?_) (fun e => nomatch e)
         refine st_return (a := S (PyData.shown (.list xs))) ?_ R F H fun v h' tk' H r => h v h' tk' H.keep r
         have e : PyData.shown (.list xs) = "[" ++ Txt.join ", " (xs.map PyData.shown) ++ "]" := by
           unfold PyData.shown Txt.join
           rw [listText_eq_join, StrLaws.glued_eq_join, shownAll_map]
         rw [e]
         have hj : (Txt.join ", " (xs.map PyData.shown)).length ≤ 100000 := Nat.le_trans join_le (by rw [← shownAll_map]; exact hw.2)
         refine Ev_bin (Ev_bin Ev_str (Ev_local rfl rfl) (op_cat ?_)) Ev_str (op_cat ?_)
         · refine small ?_; show 1 + _ ≤ _; omega
         · refine small ?_; rw [cat_len]; show 1 + _ + 1 ≤ _; omega)
    | tuple xs =>
      first
      | (exact absurd hdep (by unfold PyData.depth; omega))
      | (unfold Wok at hw
         have hlen : xs.length ≤ 100000 := by have h1 := hw.2; have h2 := piled_ge xs; omega
         refine st_if (c := false) (EvT_of (Ev_callB (Ev_builtin rfl rfl rfl (by decide)) (EvL_cons (Ev_local rfl rfl) (EvL_cons (Ev_builtin rfl rfl rfl (by decide)) EvL_nil)) (isi_false_tuple (by decide) (ty_T "int" (by decide +kernel)) _root_.PySem.F.sub_tuple_int)) tr_bool) R F H (fun e => nomatch e) (fun _ h' tk' H => ?_)
         refine st_nil ?_
         refine st_if (c := false) (EvT_of (Ev_callB (Ev_builtin rfl rfl rfl (by decide)) (EvL_cons (Ev_local rfl rfl) (EvL_cons (Ev_builtin rfl rfl rfl (by decide)) EvL_nil)) (isi_false_tuple (by decide) (ty_T "str" (by decide +kernel)) _root_.PySem.F.sub_tuple_str)) tr_bool) R F H (fun e => nomatch e) (fun _ h' tk' H => ?_)
         refine st_nil ?_
         refine st_assign (a := S (Txt.join ", " (xs.map PyData.shown))) (Ev_meth1 Ev_str (b := .dat (.list (xs.map fun d => .str d.shown))) (Ev_compM _ (EvIt_tuple (Ev_local rfl rfl)) ⟨rfl, by decide, by decide, by decide, by decide⟩ (small (Nat.le_trans hlen (by decide))) fun d hd => Ev_callF (f := 212) (Ev_glob rfl rfl) rfl rfl (EvL_cons (Ev_local rfl rfl) EvL_nil) (ih d ?_ (WokA.mem hw.1 d hd))) hasT_str _root_.PySem.F.plainAttrs_str _root_.PySem.F.slot_str_join _root_.PySem.F.type_str_join ?_) (.inl rfl) R F O H fun h' tk' H => ?_
         · have h1 := depth_mem hd
           unfold PyData.depth at hdep
           omega
         · have := do_join (w := w) (n := n + m + 1) (sep := ", ") (ys := xs.map PyData.shown) (joinOk_of (by rw [← shownAll_map]; exact hw.2))
           rw [List.map_map] at this
           exact this
         refine st_if (c := false) (EvT_of (Ev_callB (Ev_builtin rfl rfl rfl (by decide)) (EvL_cons (Ev_local rfl rfl) (EvL_cons (Ev_builtin rfl rfl rfl (by decide)) EvL_nil)) (isi_false_tuple (by decide) (ty_T "list" (by decide +kernel)) _root_.PySem.F.sub_tuple_list)) tr_bool) R F H (fun e => nomatch e) (fun _ h' tk' H => ?_)
         refine st_nil ?_
         refine st_return (a := S (PyData.shown (.tuple xs))) ?_ R F H fun v h' tk' H r => h v h' tk' H.keep r
         have e : PyData.shown (.tuple xs) = "(" ++ Txt.join ", " (xs.map PyData.shown) ++ (if (xs.length : Int) == 1 then ",)" else ")") := by
           unfold PyData.shown Txt.join tupleText
           rw [StrLaws.glued_eq_join, shownAll_map, List.length_map]
           have : (xs.length == 1) = ((xs.length : Int) == 1) := by
             rw [Bool.eq_iff_iff, beq_iff_eq, beq_iff_eq]; omega
           rw [this]
         rw [e]
         have hj : (Txt.join ", " (xs.map PyData.shown)).length ≤ 100000 := Nat.le_trans join_le (by rw [← shownAll_map]; exact hw.2)
         refine Ev_bin (Ev_bin Ev_str (Ev_local rfl rfl) (op_cat ?_)) (Ev_ifexp (c := (xs.length : Int) == 1) (EvT_cmp (Ev_callB (Ev_builtin rfl rfl rfl (by decide)) (EvL_cons (Ev_local rfl rfl) EvL_nil) (len_Tu (small (Nat.le_trans hlen (by decide))))) Ev_int op_eqI) (fun hc => by rw [if_pos hc]; exact Ev_str) (fun hc => by rw [if_neg (by rw [hc]; decide)]; exact Ev_str)) (op_cat ?_)
         · refine small ?_; show 1 + _ ≤ _; omega
         · refine small ?_; rw [cat_len]; show 1 + _ + _ ≤ _; split <;> (show 1 + _ + _ ≤ _) <;> first | (show 1 + _ + 2 ≤ _; omega) | (show 1 + _ + 1 ≤ _; omega)))
end Mine

end
section
open PySem PySem.W PyProof.Rows
set_option maxHeartbeats 4000000
set_option maxRecDepth 100000
set_option linter.unusedVariables false
namespace Mine
def lenD : PyData → PyData
  | .str y => .int y.length
  | _ => .none
def preD (y0 : Str) (m : Int) : PyData → PyData
  | .str y => .bool (Txt.slice y none (some m) == Txt.slice y0 none (some m))
  | _ => .none
theorem map_lenD (ys : List Str) : (ys.map PyData.str).map lenD = (ys.map fun y => (y.length : Int)).map .int := by
  rw [List.map_map, List.map_map]; rfl
theorem map_preD (ys : List Str) (y0 : Str) (m : Int) : (ys.map PyData.str).map (preD y0 m) = (ys.map fun y => Txt.slice y none (some m) == Txt.slice y0 none (some m)).map .bool := by
  rw [List.map_map, List.map_map]; rfl
theorem Ev_lens {w : World} {n : Nat} {sc scope : Scope} {σ : Sto} {iter : Expr} {x : Str} {pt p p1 p2 pos : Pos} {ys : List Str} (hit : Ev w n sc σ iter (.dat (.list (ys.map .str)))) (C : CompOk sc scope [x]) (hN : ys.length ≤ 1000000) (hy : ∀ y ∈ ys, y.length ≤ 1000000)
    (hx : (relabelS scope sc).names.lookup x = some .local) (hl : (relabelS scope sc).names.lookup ("len" : Str) = some NameKind.globalImplicit) (hdb : (x == ("__debug__" : Str)) = false := by decide)
    (hs : ∀ env x, foldedSetIterable iter env x = pure x := by intro _ _; rfl) :
    Ev w n sc σ (.ListComp (.Call (.Name "len" p1) [.Name x p2] [] p) [⟨.Name x pt, iter, [], 0⟩] scope pos) (.dat (.list ((ys.map fun y => (y.length : Int)).map .int))) := by
  rw [← map_lenD]
  refine Ev_compM lenD (EvIt_list hit) C (by rw [List.length_map]; exact small hN) (fun d hd => ?_) hs
  obtain ⟨y, hy', rfl⟩ := List.mem_map.mp hd
  have e : ((σ.seen scope).sets [x] [.dat (.str y)]) x = some (S y) := by
    show (Sto.set _ x _) x = _
    unfold Sto.set
    rw [if_pos rfl]
  exact Ev_lenS (Ev_local hx e hdb) (small (hy y hy')) hl

theorem fn_shared {w : World} {n : Nat} {y0 : Str} {ys' : List Str} {L K : Nat} (hl : (y0 :: ys').length ≤ 1000000) (hy : ∀ y ∈ y0 :: ys', y.length ≤ 1000000) (hL : minI ((y0 :: ys').map fun y => (y.length : Int)) = (L : Int)) (hLb : L ≤ 1000000)
    (hKL : K ≤ L) (hK : ∀ m : Nat, m ≤ L → ((y0 :: ys').map fun y => Txt.slice y none (some (m : Int)) == Txt.slice y0 none (some (m : Int))).all id = decide (m ≤ K)) : Fn w (n + 1) 217 [.dat (.list ((y0 :: ys').map .str))] (I K) := by
  refine Fn_of (o := _) (fd := _) (body := _) (xs := ["writings"]) rfl rfl rfl ?_ ?_ rfl rfl rfl rfl rfl rfl rfl rfl ?_ ?_
  · intro A env h₀ X s Q E R F O H h
    refine st_unpackS (a := I 0) (b := I (L : Int)) (EvL_cons Ev_int (EvL_cons ?_ EvL_nil)) rfl rfl R F O H (fun h' tk' H => ?_) rfl (fun env e => by cases env; cases e; rfl)
    · rw [← hL]
      exact Ev_callB (Ev_builtin rfl rfl rfl (by decide)) (EvL_cons (Ev_lens (Ev_cell rfl rfl) ⟨rfl, by decide, by decide, by decide, by decide⟩ hl hy rfl rfl) EvL_nil) (do_minI (by simp))
    refine st_while (fun k σ' => ∃ lo hi : Nat, σ' "low" = some (I lo) ∧ σ' "high" = some (I hi) ∧ σ' "writings" = some (.dat (.list ((y0 :: ys').map .str))) ∧ lo ≤ K ∧ K ≤ hi ∧ hi ≤ L ∧ k = hi - lo) L ⟨0, L, rfl, rfl, rfl, Nat.zero_le _, hKL, Nat.le_refl _, rfl⟩ R F H ?_
    rintro k σ' hh E' ⟨lo, hi, s1, s2, s3, b1, b2, b3, rfl⟩ H1
    refine ⟨decide ((lo : Int) < hi), EvT_cmp (Ev_local rfl s1) (Ev_local rfl s2) op_lt, fun hc h2 tk2 H2 => ?_, fun hc h2 tk2 H2 => ?_⟩
    · have hc : lo < hi := by have := of_decide_eq_true hc; omega
      have em : ((lo : Int) + hi + 1).fdiv 2 = ((lo + hi + 1) / 2 : Nat) := by
        rw [Int.fdiv_eq_ediv_of_nonneg _ (by omega)]; omega
      refine st_assign (a := I (((lo + hi + 1) / 2 : Nat) : Int)) ?_ (.inr rfl) R F O H2 fun h3 tk3 H3 => ?_
      · rw [← em]
        exact Ev_bin (Ev_bin (Ev_bin (Ev_local rfl s1) (Ev_local rfl s2) op_add) Ev_int op_add) Ev_int (op_fdiv (by decide) (by decide))
      generalize hmm : (lo + hi + 1) / 2 = mid at *
      have hm1 : lo < mid := by omega
      have hm2 : mid ≤ hi := by omega
      have t1 : (σ'.set "middle" (I (mid : Int))) "low" = some (I lo) := s1
      have t2 : (σ'.set "middle" (I (mid : Int))) "high" = some (I hi) := s2
      have t3 : (σ'.set "middle" (I (mid : Int))) "writings" = some (.dat (.list ((y0 :: ys').map .str))) := s3
      have t4 : (σ'.set "middle" (I (mid : Int))) "middle" = some (I mid) := rfl
      generalize σ'.set "middle" (I (mid : Int)) = σ2 at *
      refine st_if (c := decide (mid ≤ K)) (EvT_of (a := B (decide (mid ≤ K))) ?_ tr_bool) R F H3 (fun hc h4 tk4 H4 => ?_) (fun hc h4 tk4 H4 => ?_)
      · rw [← hK mid (by omega)]
        refine Ev_callB (Ev_builtin rfl rfl rfl (by decide)) (EvL_cons ?_ EvL_nil) do_all
        rw [← map_preD]
        refine Ev_compM (preD y0 (mid : Int)) (EvIt_list (Ev_cell rfl t3)) ⟨rfl, by decide, by decide, by decide, by decide⟩ (by rw [List.length_map]; exact small hl) (fun d hd => ?_)
        obtain ⟨y, hy', rfl⟩ := List.mem_map.mp hd
        have c1 : ∀ scope x, (σ2.seen scope).sets ["one"] [.dat (.str y)] x = if x = "one" then some (.dat (.str y)) else σ2.seen scope x := fun _ _ => rfl
        refine Ev_cmp (a := S (Txt.slice y none (some (mid : Int)))) (b := S (Txt.slice y0 none (some (mid : Int)))) (Ev_slS (Ev_local rfl rfl) .none (.some (Ev_cell rfl ?_)) (small (hy y hy'))) (Ev_slS (Ev_sub (Ev_cell rfl ?_) Ev_int hasT_list _root_.PySem.F.slot_list_getitem.lookup (get_item_list (xs := (y0 :: ys').map .str) (d := .str y0) (by decide) (by decide) rfl)) .none (.some (Ev_cell rfl ?_)) (small (hy y0 (.head _)))) op_eqS
        · exact t4
        · exact t3
        · exact t4
      · have hc : mid ≤ K := of_decide_eq_true hc
        refine st_assign (a := I (mid : Int)) (Ev_cell rfl t4) (.inl rfl) R F O H4 fun h5 tk5 H5 => ?_
        refine st_nil (st_nil ⟨h5, tk5, hi - mid, σ2.set "low" (I (mid : Int)), rfl, by omega, ⟨mid, hi, rfl, t2, t3, hc, b2, b3, rfl⟩, H5⟩)
      · have hc : ¬ mid ≤ K := of_decide_eq_false hc
        have e1 : ((mid : Int) - 1) = ((mid - 1 : Nat) : Int) := by omega
        refine st_assign (a := I ((mid - 1 : Nat) : Int)) ?_ (.inl rfl) R F O H4 fun h5 tk5 H5 => ?_
        · rw [← e1]
          exact Ev_bin (Ev_cell rfl t4) Ev_int op_sub
        refine st_nil (st_nil ⟨h5, tk5, (mid - 1) - lo, σ2.set "high" (I ((mid - 1 : Nat) : Int)), rfl, by omega, ⟨lo, mid - 1, t1, rfl, t3, b1, by omega, by omega, rfl⟩, H5⟩)
    · have hc : ¬ (lo : Int) < hi := of_decide_eq_false hc
      have e : lo = K := by omega
      subst e
      exact st_return (Ev_local rfl s1) R F H2 fun v h' tk' H r => h v h' tk' H.keep r
  · intro vals hv
    match vals, hv with
    | [a], _ => rfl
  · decide
  · decide
end Mine

end
section
open PySem PySem.W PyProof.Rows
set_option maxHeartbeats 4000000
set_option maxRecDepth 100000
set_option linter.unusedVariables false
namespace Mine
abbrev chars (i : Int) : Str := "[" ++ dtext i ++ " chars]"
def cutA (M : Int) (y : Str) : Str := Txt.slice y none (some 5) ++ chars (M - 68) ++ Txt.slice y (some (M - 63)) none
def frontF (y0 : Str) (K : Int) : Str := if 22 < K then Txt.slice (Txt.slice y0 none (some K)) none (some 5) ++ chars (K - 10) ++ Txt.slice (Txt.slice y0 none (some K)) (some (K - 5)) none else Txt.slice y0 none (some K)
def endF (e : Str) : Str := if (e.length : Int) ≤ 58 then e else Txt.slice e none (some 41) ++ chars ((e.length : Int) - 46) ++ Txt.slice e (some (-5)) none
def shortL (y0 : Str) (ys : List Str) (M K : Int) : List Str :=
  if M ≤ 80 then ys
  else if M - K < 58 then ys.map (cutA M)
  else (ys.map fun y => Txt.slice y (some K) none).map fun e => frontF y0 K ++ endF e
def onS (f : Str → Str) : PyData → PyData
  | .str y => .str (f y)
  | _ => .none
theorem map_onS (f : Str → Str) (ys : List Str) : (ys.map PyData.str).map (onS f) = (ys.map f).map .str := by
  rw [List.map_map, List.map_map]; rfl
theorem ofStr_len (x : String) (k : Nat) (h : (Str.ofString x).length = k) : (Str.ofString x).length = k := h
theorem dtext_len {i : Int} (h0 : 0 ≤ i) (h1 : i < 10 ^ 10) : (dtext i).length ≤ 10 := toString_length_le (k := 10) h0 (by decide) h1
theorem chars_len {i : Int} (h0 : 0 ≤ i) (h1 : i < 10 ^ 10) : (chars i).length ≤ 18 := by
  have := dtext_len h0 h1
  unfold chars
  rw [cat_len, cat_len]
  have e1 : (Str.ofString "[").length = 1 := rfl
  have e2 : (Str.ofString " chars]").length = 7 := rfl
  omega
theorem sl_le {x : Str} {l u : Option Int} {k : Nat} (h : x.length ≤ k) : (Txt.slice x l u).length ≤ k := Nat.le_trans (Txt.slice_le x _ _) h

theorem fn_short {w : World} {n m : Nat} {rows : List PyData} {y0 : Str} {ys' : List Str} {L K : Nat} {M : Int} (hrows : ∀ d ∈ rows, d.depth ≤ m ∧ Wok d) (hys : rows.map PyData.shown = y0 :: ys')
    (hl : (y0 :: ys').length ≤ 1000000) (hy : ∀ y ∈ y0 :: ys', y.length ≤ 100000) (hL : minI ((y0 :: ys').map fun y => (y.length : Int)) = (L : Int)) (hM : maxI ((y0 :: ys').map fun y => (y.length : Int)) = M) (hMb : 0 ≤ M) (hMb : M ≤ 100000) (hLb : L ≤ 1000000)
    (hKL : K ≤ L) (hK : ∀ m : Nat, m ≤ L → ((y0 :: ys').map fun y => Txt.slice y none (some (m : Int)) == Txt.slice y0 none (some (m : Int))).all id = decide (m ≤ K)) (hKb : K ≤ 100000) :
    Fn w (n + m + 2) 222 [.dat (.list rows)] (.dat (.tuple ((shortL y0 (y0 :: ys') M K).map .str))) := by
  have hy6 : ∀ y ∈ y0 :: ys', y.length ≤ 1000000 := fun y h => Nat.le_trans (hy y h) (by decide)
  have hrl : rows.length ≤ 1000000 := by have := congrArg List.length hys; rw [List.length_map] at this; omega
  have hysz : ((y0 :: ys').map PyData.str).length ≤ sizeLine := by rw [List.length_map]; exact small hl
  refine Fn_of (o := _) (fd := _) (body := _) (xs := ["rows"]) rfl rfl rfl ?_ ?_ rfl rfl rfl rfl rfl rfl rfl rfl ?_ ?_
  · intro A env h₀ X s Q E R F O H h
    have hmap : rows.map (fun d => PyData.str d.shown) = (y0 :: ys').map .str := by rw [← hys, List.map_map]; rfl
    refine st_compM (fun d => .str d.shown) (EvIt_list (Ev_local rfl rfl)) ⟨rfl, by decide, by decide, by decide, by decide⟩ (small hrl) (fun d hd => Ev_callF (f := 212) (Ev_glob rfl rfl) rfl rfl (EvL_cons (Ev_local rfl rfl) EvL_nil) (fn_written m d (hrows d hd).1 (hrows d hd).2)) rfl R F H (fun h' tk' H => ?_) (fun env e => by cases env; cases e; rfl)
    rw [hmap] at H
    refine st_unpack (a := .int M) (b := .int (K : Int)) (Ev_tuple (ds := [.int M, .int (K : Int)]) (EvL_cons ?_ (EvL_cons (Ev_callF (f := 217) (Ev_glob rfl rfl) rfl rfl (EvL_cons (Ev_local rfl rfl) EvL_nil) (fn_shared hl hy6 hL hLb hKL hK)) EvL_nil)) (small (by simp))) (.inr rfl) (.inr rfl) R F O H (fun h' tk' H => ?_) rfl (fun env e => by cases env; cases e; rfl)
    · rw [← hM]
      exact Ev_callB (Ev_builtin rfl rfl rfl (by decide)) (EvL_cons (Ev_lens (Ev_local rfl rfl) ⟨rfl, by decide, by decide, by decide, by decide⟩ hl hy6 rfl rfl) EvL_nil) (do_maxI (by simp))
    refine st_if (c := decide (M ≤ 80)) (EvT_cmp (Ev_cell rfl rfl) Ev_int op_le) R F H (fun hc h' tk' H => ?_) (fun hc h' tk' H => ?_)
    · have hc := of_decide_eq_true hc
      refine st_return (a := .dat (.tuple ((shortL y0 (y0 :: ys') M K).map .str))) ?_ R F H fun v h' tk' H r => h v h' tk' H.keep r
      unfold shortL
      rw [if_pos hc]
      exact Ev_callT (Ev_builtin rfl rfl rfl (by decide)) (EvL_cons (Ev_local rfl rfl) EvL_nil) (do_tuple hysz)
    have hc1 := of_decide_eq_false hc
    refine st_nil ?_
    refine st_if (c := decide (M - K < 58)) (EvT_cmp (Ev_bin (Ev_cell rfl rfl) (Ev_cell rfl rfl) op_sub) Ev_int op_lt) R F H (fun hc h' tk' H => ?_) (fun hc h' tk' H => ?_)
    · have hc := of_decide_eq_true hc
      refine st_return (a := .dat (.tuple ((shortL y0 (y0 :: ys') M K).map .str))) ?_ R F H fun v h' tk' H r => h v h' tk' H.keep r
      unfold shortL
      rw [if_neg hc1, if_pos hc]
      refine Ev_callT (as := [.dat (.list (((y0 :: ys').map (cutA M)).map .str))]) (Ev_builtin rfl rfl rfl (by decide)) (EvL_cons ?_ EvL_nil) (do_tuple (by rw [List.length_map, List.length_map]; exact small hl))
      rw [← map_onS]
      refine Ev_compM (onS (cutA M)) (EvIt_list (Ev_local rfl rfl)) ⟨rfl, by decide, by decide, by decide, by decide⟩ hysz (fun d hd => ?_)
      obtain ⟨y, hy', rfl⟩ := List.mem_map.mp hd
      have hyl := hy y hy'
      have hz : y.length ≤ sizeLine := small (hy6 y hy')
      have hch := chars_len (i := M - 68) (by omega) (by omega)
      have hch2 : (Str.ofString "[" ++ dtext (M - 68) ++ Str.ofString " chars]").length ≤ 18 := hch
      refine Ev_bin (Ev_bin (Ev_slS (Ev_local rfl rfl) .none (.some Ev_int) hz) (Ev_bin Ev_str (Ev_bin (Ev_cell rfl rfl) Ev_int op_sub) (op_chars (by omega) (by omega))) (op_cat (small ?_))) (Ev_slS (Ev_local rfl rfl) (.some (Ev_bin (Ev_cell rfl rfl) Ev_int op_sub)) .none hz) (op_cat (small ?_))
      · have := sl_le (l := none) (u := some 5) hyl
        omega
      · rw [cat_len]
        have := sl_le (l := none) (u := some 5) hyl
        have := sl_le (l := some (M - 63)) (u := none) hyl
        omega
    have hc2 := of_decide_eq_false hc
    refine st_nil ?_
    have hf0 : (Txt.slice y0 none (some (K : Int))).length ≤ 100000 := sl_le (hy y0 (.head _))
    refine st_unpack (a := .str (Txt.slice y0 none (some (K : Int)))) (b := .list (((y0 :: ys').map fun y => Txt.slice y (some (K : Int)) none).map .str)) (Ev_tuple (ds := [.str (Txt.slice y0 none (some (K : Int))), .list (((y0 :: ys').map fun y => Txt.slice y (some (K : Int)) none).map .str)]) (EvL_cons (Ev_slS (Ev_sub (Ev_local rfl rfl) Ev_int hasT_list _root_.PySem.F.slot_list_getitem.lookup (get_item_list (xs := (y0 :: ys').map .str) (d := .str y0) (by decide) (by decide) rfl)) .none (.some (Ev_cell rfl rfl)) (small (hy6 y0 (.head _)))) (EvL_cons ?_ EvL_nil)) (small (by simp))) (.inr rfl) (.inl rfl) R F O H (fun h' tk' H => ?_) rfl (fun env e => by cases env; cases e; rfl)
    · rw [← map_onS]
      refine Ev_compM (onS fun y => Txt.slice y (some (K : Int)) none) (EvIt_list (Ev_local rfl rfl)) ⟨rfl, by decide, by decide, by decide, by decide⟩ hysz (fun d hd => ?_)
      obtain ⟨y, hy', rfl⟩ := List.mem_map.mp hd
      exact Ev_slS (Ev_local rfl rfl) (.some (Ev_cell rfl rfl)) .none (small (hy6 y hy'))
    have hfl : (frontF y0 K).length ≤ 300000 := by
      unfold frontF
      split
      · have hch := chars_len (i := (K : Int) - 10) (by omega) (by omega)
        have hch2 : (Str.ofString "[" ++ dtext ((K : Int) - 10) ++ Str.ofString " chars]").length ≤ 18 := hch
        rw [cat_len, cat_len]
        have := sl_le (l := none) (u := some 5) hf0
        have := sl_le (l := some ((K : Int) - 5)) (u := none) hf0
        omega
      · omega
    refine st_if (c := decide (22 < (K : Int))) (EvT_cmp (Ev_cell rfl rfl) Ev_int op_gt) R F H (fun hc h' tk' H => ?br1) (fun hc h' tk' H => ?br2)
    case' br1 =>
      have hc := of_decide_eq_true hc
      have hz0 : (Txt.slice y0 none (some (K : Int))).length ≤ sizeLine := small (Nat.le_trans hf0 (by decide))
      have hch := chars_len (i := (K : Int) - 10) (by omega) (by omega)
      have hch2 : (Str.ofString "[" ++ dtext ((K : Int) - 10) ++ Str.ofString " chars]").length ≤ 18 := hch
      refine st_assign (a := S (frontF y0 K)) (by
        unfold frontF
        rw [if_pos hc]
        refine Ev_bin (Ev_bin (Ev_slS (Ev_cell rfl rfl) .none (.some Ev_int) hz0) (Ev_bin Ev_str (Ev_bin (Ev_cell rfl rfl) Ev_int op_sub) (op_chars (by omega) (by omega))) (op_cat (small ?_))) (Ev_slS (Ev_cell rfl rfl) (.some (Ev_bin (Ev_cell rfl rfl) Ev_int op_sub)) .none hz0) (op_cat (small ?_))
        · have := sl_le (l := none) (u := some 5) hf0
          omega
        · rw [cat_len]
          have := sl_le (l := none) (u := some 5) hf0
          have := sl_le (l := some ((K : Int) - 5)) (u := none) hf0
          omega) (.inr rfl) R F O H fun h' tk' H => ?_
      refine st_nil ?_
      obtain ⟨σ2, t1, t2, H⟩ : ∃ σ2 : Sto, σ2 "front" = some (S (frontF y0 K)) ∧ σ2 "ends" = some (.dat (.list (((y0 :: ys').map fun y => Txt.slice y (some (K : Int)) none).map .str))) ∧ EnvAt w env h₀ X h' σ2 := ⟨_, rfl, rfl, H⟩
    case' br2 =>
      have hc := of_decide_eq_false hc
      refine st_nil ?_
      obtain ⟨σ2, t1, t2, H⟩ : ∃ σ2 : Sto, σ2 "front" = some (S (frontF y0 K)) ∧ σ2 "ends" = some (.dat (.list (((y0 :: ys').map fun y => Txt.slice y (some (K : Int)) none).map .str))) ∧ EnvAt w env h₀ X h' σ2 := ⟨_, (by unfold frontF; rw [if_neg hc]; rfl), rfl, H⟩
    all_goals (
      refine st_return (a := .dat (.tuple ((shortL y0 (y0 :: ys') M K).map .str))) ?_ R F H fun v h' tk' H r => h v h' tk' H.keep r
      unfold shortL
      rw [if_neg hc1, if_neg hc2]
      refine Ev_callT (as := [.dat (.list ((((y0 :: ys').map fun y => Txt.slice y (some (K : Int)) none).map fun e => frontF y0 K ++ endF e).map .str))]) (Ev_builtin rfl rfl rfl (by decide)) (EvL_cons ?_ EvL_nil) (do_tuple (by rw [List.length_map, List.length_map, List.length_map]; exact small hl))
      rw [← map_onS]
      refine Ev_compM (onS fun e => frontF y0 K ++ endF e) (EvIt_list (Ev_local rfl t2)) ⟨rfl, by decide, by decide, by decide, by decide⟩ (by rw [List.length_map, List.length_map]; exact small hl) (fun d hd => ?_)
      obtain ⟨e, he, rfl⟩ := List.mem_map.mp hd
      obtain ⟨y, hy', rfl⟩ := List.mem_map.mp he
      generalize hee : Txt.slice y (some (K : Int)) none = e
      have hel : e.length ≤ 100000 := by rw [← hee]; exact sl_le (hy y hy')
      have hz : e.length ≤ sizeLine := small (Nat.le_trans hel (by decide))
      refine Ev_bin (a := S (frontF y0 K)) (b := S (endF e)) (Ev_cell rfl t1) ?_ (op_cat (small ?_))
      · unfold endF
        refine Ev_ifexp (c := decide ((e.length : Int) ≤ 58)) (EvT_cmp (Ev_lenS (Ev_local rfl rfl) hz rfl) Ev_int op_le) (fun hc => ?_) (fun hc => ?_)
        · rw [if_pos (of_decide_eq_true hc)]
          exact Ev_local rfl rfl
        · have hc := of_decide_eq_false hc
          rw [if_neg hc]
          have hch := chars_len (i := (e.length : Int) - 46) (by omega) (by omega)
          have hch2 : (Str.ofString "[" ++ dtext ((e.length : Int) - 46) ++ Str.ofString " chars]").length ≤ 18 := hch
          refine Ev_bin (Ev_bin (Ev_slS (Ev_local rfl rfl) .none (.some Ev_int) hz) (Ev_bin Ev_str (Ev_bin (Ev_lenS (Ev_local rfl rfl) hz rfl) Ev_int op_sub) (op_chars (by omega) (by omega))) (op_cat (small ?_))) (Ev_slS (Ev_local rfl rfl) (.some (Ev_un Ev_int op_neg)) .none hz) (op_cat (small ?_))
          · have := sl_le (l := none) (u := some 41) hel
            omega
          · rw [cat_len]
            have := sl_le (l := none) (u := some 41) hel
            have := sl_le (l := some (-5)) (u := none) hel
            omega
      · unfold endF
        split
        · omega
        · have hch := chars_len (i := (e.length : Int) - 46) (by omega) (by omega)
          have hch2 : (Str.ofString "[" ++ dtext ((e.length : Int) - 46) ++ Str.ofString " chars]").length ≤ 18 := hch
          rw [cat_len, cat_len]
          have := sl_le (l := none) (u := some 41) hel
          have := sl_le (l := some (-5)) (u := none) hel
          omega)
  · intro vals hv
    match vals, hv with
    | [a], _ => rfl
  · decide
  · decide
end Mine

end
section
open PySem PySem.W PyProof.Rows
set_option maxHeartbeats 4000000
set_option maxRecDepth 100000
set_option linter.unusedVariables false
namespace Mine
/-- a list of the frame's own -/
def Lst (h : Heap) (X : Addr → Prop) (l : Addr) (ds : List PyData) : Prop := ∃ vs n, h.get? l = some { cls := .type "list", data := .seq vs n } ∧ RdAll h X vs.toList ds
theorem Lst.mono {h h' : Heap} {X X' : Addr → Prop} {l : Addr} {ds : List PyData} (L : Lst h X l ds) (hl : ∀ o, h.get? l = some o → h'.get? l = some o) (hk : ∀ b o, ¬ X b → h.get? b = some o → h'.get? b = some o) (hx : ∀ b, ¬ X b → (h.get? b).isSome → ¬ X' b) : Lst h' X' l ds :=
  let ⟨vs, n, ho, r⟩ := L; ⟨vs, n, hl _ ho, r.mono hk hx⟩
theorem Lst.keeps {h h' : Heap} {X : Addr → Prop} {l : Addr} {ds : List PyData} (L : Lst h X l ds) (k : Keeps h h') : Lst h' X l ds := L.mono (fun _ e => k _ _ e) (fun _ _ _ e => k _ _ e) fun _ n _ => n
/-- hidden, but neither the frame nor a cell -/
structure Free (env : Env) (h₀ : Heap) (X : Addr → Prop) (l : Addr) : Prop where
  hid : X l
  not : ¬ Mineof env l
  above : h₀.get? l = none
theorem Free.more {env : Env} {h₀ h₁ : Heap} {X X' : Addr → Prop} {l : Addr} (f : Free env h₀ X l) (hx : ∀ b, X b → X' b) (ha : h₁.get? l = none) : Free env h₁ X' l := ⟨hx _ f.hid, f.not, ha⟩
theorem mapSeq_get {h : Heap} {l : Addr} {vs : Array Value} {n : Nat} {f : Array Value → Array Value} (ho : h.get? l = some { cls := .type "list", data := .seq vs n }) : ∃ n', (h.update l (Obj.mapSeq f)).get? l = some { cls := .type "list", data := .seq (f vs) n' } :=
  ⟨_, Heap.get?_update_self _ ho rfl⟩
section
variable {w : World} {n : Nat} {sc : Scope} {σ : Sto} {A : Around} {env : Env} {h₀ : Heap} {X : Addr → Prop} {s : Shared} {E : Value → Shared → Prop}
/-- the frame after a write to a list of its own -/
theorem EnvAt.wrote {h h' : Heap} {l : Addr} (H : EnvAt w env h₀ X h σ) (f : Free env h₀ X l) (hs : Heap.SameBut l h h') (ha : (h'.get? l).isSome) : EnvAt w env h₀ X h' σ := by
  refine H.moved (wr := [l]) (fun b o hb e => (hs.2 b (fun q => hb (List.mem_singleton.mpr q))).trans e) (fun b hb => ?_) (fun hb => ?_) (fun x c _ e hb => ?_) (fun b hb => ?_) (fun b hb => ?_)
  · rcases List.mem_singleton.mp hb with rfl; exact f.hid
  · exact f.not (.inl (List.mem_singleton.mp hb).symm)
  · exact f.not (.inr ⟨x, (List.mem_singleton.mp hb) ▸ e⟩)
  · rcases List.mem_singleton.mp hb with rfl; exact f.above
  · rcases List.mem_singleton.mp hb with rfl; exact ha

/-- lines.append(e) -/
theorem st_append {x : Str} {p apos pos spos : Pos} {e : Expr} {d : PyData} {l : Addr} {ds : List PyData} {rest : List Stmt} {Q : Flow → Shared → Prop} (hk : sc.names.lookup x = some .local) (hx : σ x = some (.val (.ref l))) (he : Ev w n sc σ e (.dat d)) (f : Free env h₀ X l) (L : Lst s.heap X l ds) (hlen : ds.length ≤ 1000000)
    (R : Room n A) (F : Fit sc env) (H : EnvAt w env h₀ X s.heap σ)
    (h : ∀ h' tk', EnvAt w env h₀ X h' σ → Lst h' X l (ds ++ [d]) → Run w A rest env Q E { s with heap := h', toks := tk' })
    (hd : (x == ("__debug__" : Str)) = false := by decide)
    (hbase : ∀ env, attributeBase (.Name x p) "append" env (eval (.Name x p) env) = eval (.Name x p) env := by intro _; rfl) (hs : ∀ env, starEach [e] env = [(false, eval e env)] := by intro _; rfl) (hline : (apos.endLine == pos.line) = true := by rfl)
    (hsw : swapsWith (.Call (.Attribute (.Name x p) "append" apos) [e] [] pos) none spos.line env = pure false := by rfl) : Run w A (.Expr (.Call (.Attribute (.Name x p) "append" apos) [e] [] pos) spos :: rest) env Q E s := by
  have hi : interactive env = false := by unfold interactive; rw [F.scope, F.kind]; rfl
  refine wpAny_execs_cons (wpAny_Expr ?_ hi hsw)
  refine Call_method1 (hbase env) (hs env) hline ((Ev_local hk hx hd).run R F H fun v h1 tk1 k1 H1 rv => ?_)
  cases rv
  obtain ⟨vs, m, ho, ra⟩ := L
  have ho1 := k1 _ _ ho
  refine ⟨"list", "list.append", _root_.PySem.F.plainAttrs_list, _root_.PySem.F.slot_list_append, _root_.PySem.F.type_list_append, ⟨_, ho1, rfl⟩, fun l' e => by cases e; exact ⟨_, ho1, rfl⟩, ?_⟩
  refine Calls.callWith_builtin rfl (Calls.evalArgs_plain (Calls.spliced_cons ?_))
  refine he.run (s := { s with heap := h1, toks := tk1 }) R F H1 fun u h2 tk2 k2 H2 ru => Calls.spliced_nil ?_
  have ho2 := k2 _ _ ho1
  have hsz : vs.size ≤ sizeLine := by
    have := ra.length; rw [Array.length_toList] at this; rw [this]; exact small hlen
  refine call_meets _root_.PySem.F.slot_list_append ⟨_, ho2, rfl⟩ _root_.PySem.F.entry_list_append (_root_.PySem.F.args_list_append_2 _ _) (AutoListH.list_append_list_val_0 l vs m u hsz) ⟨ho2, ?_⟩
  obtain ⟨m', hm'⟩ := mapSeq_get (f := fun x => x.push u) ho2
  have sb : Heap.SameBut l h2 (h2.update l (Obj.mapSeq fun x => x.push u)) := Heap.SameBut.update ..
  have H3 := H2.wrote f sb (by rw [hm']; rfl)
  have kx : KeepsX X h2 (h2.update l (Obj.mapSeq fun x => x.push u)) := .sameBut sb f.hid
  refine h _ tk2 H3 ⟨_, m', hm', ?_⟩
  rw [Array.toList_push]
  exact (((ra.keeps (k1.trans k2).x).keeps kx)).append (.cons (RdD.keeps kx ru) .nil)

/-- x, y = (e, []) -/
theorem st_unpackN {x y : Str} {p q pt pt2 pl pos : Pos} {k k2 : Nat} {e1 : Expr} {a : AV} {rest : List Stmt} {Q : Flow → Shared → Prop} (he : Ev w n sc σ e1 a) (hx : sc.names.lookup x = some .local) (hy : sc.names.lookup y = some .local)
    (R : Room n A) (F : Fit sc env) (O : Own env h₀) (H : EnvAt w env h₀ X s.heap σ)
    (h : ∀ l h' tk', EnvAt w env h₀ (XU X [l]) h' ((σ.set y (.val (.ref l))).set x a) → s.heap.get? l = none → Free env h₀ (XU X [l]) l → Lst h' (XU X [l]) l [] → Run w A rest env Q E { s with heap := h', toks := tk' })
    (hs1 : ∀ env, starEach [e1, .List [] pl] env = (false, eval e1 env) :: starEach [.List [] pl] env := by intro _; rfl)
    (hs : swapsWithSole [.Tuple [.Name x p, .Name y q] k pt] (.Tuple [e1, .List [] pl] k2 pt2) pos.line env = pure false := by rfl)
    (hw : ∀ env : Env, env.scope = sc → swappedStores [.Tuple [.Name x p, .Name y q] k pt] (.Tuple [e1, .List [] pl] k2 pt2) env = pure (some [x, y])) : Run w A (.Assign [.Tuple [.Name x p, .Name y q] k pt] (.Tuple [e1, .List [] pl] k2 pt2) pos :: rest) env Q E s := by
  refine wpAny_execs_cons (Assign_Tuple_swapped ?_ hs (hw env F.scope))
  refine wpAny_Tuple ?_
  rw [hs1 env]
  refine Calls.spliced_cons (he.run R F H fun v h1 tk1 k1 H1 rv => ?_)
  refine Calls.spliced_cons (wpAny_List (wpAny_items_nil ⟨by rw [sizeLine_eq]; decide, ?_⟩))
  refine wpAny_items_nil ?_
  generalize hl : h1.objs.size = l at *
  have kp0 := Keeps.push h1 { cls := .type "list", data := .seq #[] }
  have hnl : h1.get? l = none := by rw [← hl]; exact none_at_size' _
  have hgl : (h1.push { cls := .type "list", data := .seq #[] }).get? l = some { cls := .type "list", data := .seq #[] } := by rw [← hl]; exact Heap.get?_push_size _ rfl
  refine ⟨by show 2 ≤ _; rw [sizeLine_eq]; omega, ?_⟩
  have kp := Keeps.push (h1.push { cls := .type "list", data := .seq #[] }) { cls := .type "tuple", data := .seq #[v, .ref l] }
  have H2 : EnvAt w env h₀ (XU X [l]) (h1.push { cls := .type "list", data := .seq #[] }) σ := H1.grow kp0 (fun b hb => by rcases List.mem_singleton.mp hb with rfl; exact hnl) (fun b hb => by rcases List.mem_singleton.mp hb with rfl; rw [hgl]; rfl)
  have rv2 : RdA (h1.push { cls := .type "list", data := .seq #[] }) (XU X [l]) v a := rv.mono (fun b o _ e => kp0 _ _ e) fun b hn hb hx => hx.elim hn fun q => by rcases List.mem_singleton.mp q with rfl; rw [hnl] at hb; cases hb
  refine unpackItems_tuple (items := #[v, .ref l]) (s := { s with heap := (h1.push { cls := .type "list", data := .seq #[] }).push { cls := .type "tuple", data := .seq #[v, .ref l] }, toks := tk1 }) R.hh ⟨_, Heap.get?_push_size _ rfl, rfl, _, rfl⟩ fun h3 hx3 => ?_
  have k3 : Keeps ((h1.push { cls := .type "list", data := .seq #[] }).push { cls := .type "tuple", data := .seq #[v, .ref l] }) h3 := fun b o e => hx3 b o (Nat.ne_of_lt (Heap.lt_size e)) e
  have k13 := kp.trans k3
  have f : Free env h₀ (XU X [l]) l := by
    refine ⟨.inr (.head _), fun m => ?_, ?_⟩
    · have := H1.alive l (m.x (H1.cells O) H1)
      rw [hnl] at this; cases this
    · cases q : h₀.get? l with
      | none => rfl
      | some o => have := H1.keep _ _ q; rw [hnl] at this; cases this
  have hsl : s.heap.get? l = none := by
    cases q : s.heap.get? l with
    | none => rfl
    | some o => have := k1 _ _ q; rw [hnl] at this; cases this
  show wpAny (model PG w) A (assignInOrder [bindName env y, bindName env x] [.ref l, v]) _ E { s with heap := h3, toks := tk1 }
  refine wpAny_bind (wpAny_holding (wpAny_bindName ?_))
  refine store_localS (s := { s with heap := h3, toks := tk1 }) (a := .val (.ref l)) F (H2.keeps k13) hy rfl fun h4 tk4 H4 kx4 sb4 => ?_
  refine wpAny_bind (wpAny_holding (wpAny_bindName ?_))
  refine store_localS (s := { s with heap := h4, toks := tk4 }) F H4 hx ((rv2.keeps k13.x).keeps kx4) fun h5 tk5 H5 kx5 sb5 => wpAny_pure (h l h5 tk5 H5 hsl f ⟨#[], 0, ?_, .nil⟩)
  have hlL : l ≠ env.locals := fun e => f.not (.inl e)
  rw [sb5.2 l hlL, sb4.2 l hlL]
  exact k13 _ _ hgl
end
end Mine

end
section
open PySem PySem.W PyProof.Rows
set_option maxHeartbeats 4000000
set_option maxRecDepth 100000
set_option linter.unusedVariables false
namespace Mine
theorem canLayAll_iff : ∀ {xs : List PyData}, PyData.canLayAll0 xs = true ↔ ∀ d ∈ xs, d.canLay0 = true
  | [] => by simp [PyData.canLayAll0]
  | x :: xs => by
    unfold PyData.canLayAll0
    rw [Bool.and_eq_true, canLayAll_iff]
    simp
theorem depthAll_le {k : Nat} : ∀ {xs : List PyData}, (∀ d ∈ xs, d.depth ≤ k) → PyData.depthAll xs ≤ k
  | [], _ => by unfold PyData.depthAll; exact Nat.zero_le _
  | x :: xs, h => by
    unfold PyData.depthAll
    exact Nat.max_le.mpr ⟨h x (.head _), depthAll_le fun d hd => h d (.tail _ hd)⟩
/-- a thing that may lie in a row -/
def Pl (d : PyData) : Prop := d.canLay0 = true ∧ d.depth ≤ 50
theorem Pl.plain {d : PyData} (h : Pl d) : Plain d := ⟨h.1, Nat.le_trans h.2 (by decide)⟩
theorem plain_list {xs : List PyData} (h : ∀ d ∈ xs, Pl d) : Plain (.list xs) := by
  constructor
  · unfold PyData.canLay0
    exact canLayAll_iff.mpr fun d hd => (h d hd).1
  · unfold PyData.depth
    have := depthAll_le (k := 50) fun d hd => (h d hd).2
    omega
theorem getD_mem' {ds : List PyData} {i : Nat} (hi : i < ds.length) : ds.getD i .none ∈ ds := getD_mem hi

abbrev cnt (xs : List PyData) (x : PyData) : Nat := xs.countP fun y => PyData.eqv y x
def beyondF (row other : List PyData) : List PyData := pickN (fun i => decide ((cnt other (row.getD i .none) : Int) < (cnt (row.take (i + 1)) (row.getD i .none) : Int))) (fun i => row.getD i .none) row.length
theorem fn_beyond {w : World} {n : Nat} {row other : List PyData} (hr : ∀ d ∈ row, Pl d) (ho : ∀ d ∈ other, Pl d) (hl : row.length ≤ 1000000) : Fn w (n + 1) 227 [.dat (.list row), .dat (.list other)] (.dat (.list (beyondF row other))) := by
  refine Fn_of (o := _) (fd := _) (body := _) (xs := ["row", "other"]) rfl rfl rfl ?_ ?_ rfl rfl rfl rfl rfl rfl rfl rfl ?_ ?_
  · intro A env h₀ X s Q E R F O H h
    refine st_return (a := .dat (.list (beyondF row other))) ?_ R F H fun v h' tk' H r => h v h' tk' H.keep r
    unfold beyondF
    refine Ev_comp (EvIt_enum (ds := row) (Ev_builtin rfl rfl rfl (by decide)) (Ev_cell rfl rfl)) ⟨rfl, by decide, by decide, by decide, by decide⟩ (small hl) (fun i hi => ?_) (fun i hi _ => Ev_local rfl rfl)
    have hm := getD_mem hi
    have e : ((i : Int) + 1) = ((i + 1 : Nat) : Int) := by omega
    refine .one (EvT_cmp (a := I (cnt (row.take (i + 1)) (row.getD i .none) : Int)) (b := I (cnt other (row.getD i .none) : Int)) (Ev_meth1 (Ev_sub (Ev_cell rfl rfl) (Ev_slice .none (.some (Ev_bin (Ev_local (a := I (i : Int)) rfl rfl) Ev_int op_add)) .none) hasT_list _root_.PySem.F.slot_list_getitem.lookup (get_upto (xs := row) e (small hl))) (Ev_local rfl rfl) hasT_list _root_.PySem.F.plainAttrs_list _root_.PySem.F.slot_list_count _root_.PySem.F.type_list_count (do_count (hr _ hm).plain (plain_list fun d hd => hr d (List.mem_of_mem_take hd)))) (Ev_meth1 (Ev_cell rfl rfl) (Ev_local rfl rfl) hasT_list _root_.PySem.F.plainAttrs_list _root_.PySem.F.slot_list_count _root_.PySem.F.type_list_count (do_count (hr _ hm).plain (plain_list ho))) op_gt)
  · intro vals hv
    match vals, hv with
    | [a, b], _ => rfl
  · decide
  · decide
end Mine

end
section
open PySem PySem.W PyProof.Rows
set_option maxHeartbeats 4000000
set_option maxRecDepth 100000
set_option linter.unusedVariables false
namespace Mine
theorem weak_set {base σ : Sto} {x : Str} {b : AV} (h : ∀ z a, base z = some a → σ z = some a) (hx : base x = none) : ∀ z a, base z = some a → (σ.set x b) z = some a := fun z a e => by
  unfold Sto.set
  by_cases q : z = x
  · subst q; rw [hx] at e; cases e
  · rw [if_neg q]; exact h z a e
theorem Lst.ground {w : World} {env : Env} {h₀ h₂ h : Heap} {X : Addr → Prop} {σ : Sto} {l : Addr} {ds : List PyData} (L : Lst h X l ds) (C : CellsIn env X) (H : EnvAt w env h₀ X h σ) (hl : ¬ Mineof env l) (hin : ∀ b, ¬ Mineof env b → ¬ False → h₂.get? b = h.get? b) : Lst h₂ X l ds :=
  L.mono (fun o e => (hin l hl id).trans e) (fun b o hn e => (hin b (fun m => hn (m.x C H)) id).trans e) fun _ n _ => n
theorem st_return_own {w : World} {n : Nat} {sc : Scope} {σ : Sto} {A : Around} {env : Env} {h₀ : Heap} {X : Addr → Prop} {s : Shared} {E : Value → Shared → Prop} {x : Str} {p pos : Pos} {l : Addr} {ds : List PyData} {rest : List Stmt} {Q : Flow → Shared → Prop} (hk : sc.names.lookup x = some .local) (hx : σ x = some (.val (.ref l))) (L : Lst s.heap X l ds) (hl : ¬ Mineof env l) (R : Room n A) (F : Fit sc env) (O : Own env h₀) (H : EnvAt w env h₀ X s.heap σ)
    (h : ∀ h' tk', Keeps h₀ h' → Lst h' X l ds → Q (.ret (.ref l)) { s with heap := h', toks := tk' }) (hd : (x == ("__debug__" : Str)) = false := by decide) : Run w A (.Return (some (.Name x p)) pos :: rest) env Q E s := by
  obtain ⟨h₂, k02, H2, O2, hin, _⟩ := H.full O (fun _ => False) (fun _ e => e.elim)
  have L2 : Lst h₂ X l ds := L.ground (H.cells O) H hl hin
  refine st_return (Ev_local hk hx hd) R F H2 fun v h' tk' H' r => ?_
  cases r
  exact h h' tk' (k02.trans H'.keep) (L2.keeps H'.keep)
theorem Lst.out {h : Heap} {X X' : Addr → Prop} {l : Addr} {ds : List PyData} (L : Lst h X' l ds) (hx : ∀ b, X b → X' b) (hl : ¬ X l) : RdA h X (.ref l) (.dat (.list ds)) :=
  let ⟨vs, n, ho, r⟩ := L; RdD.list hl ho (r.less hx)
theorem EnvAt.notX {w : World} {env : Env} {h₀ h : Heap} {X : Addr → Prop} {σ : Sto} (H : EnvAt w env h₀ X h σ) {l : Addr} (hn : h.get? l = none) : ¬ X l := fun q => by have := H.alive l q; rw [hn] at this; cases this
def told (y : Str) : Str := if (y.length : Int) < 80 then y else Txt.slice y none (some 80) ++ " [truncated]..."
theorem told_len {y : Str} (h : y.length ≤ 200000) : (told y).length ≤ 300000 := by
  unfold told
  split
  · omega
  · rw [cat_len]
    have := sl_le (l := none) (u := some 80) h
    show _ + 15 ≤ _
    omega
def lineT (ca ce : Nat) (y : Str) : Str := "First has " ++ dtext ca ++ ", Second has " ++ dtext ce ++ ":  " ++ y
def lineP (actual expected : List PyData) (i : Nat) : Bool :=
  (!((actual ++ expected).take i).any fun y => PyData.eqv y ((actual ++ expected).getD i .none)) && ((cnt actual ((actual ++ expected).getD i .none) : Int) != (cnt expected ((actual ++ expected).getD i .none) : Int))
def lineG (actual expected : List PyData) (i : Nat) : PyData :=
  .str (lineT (cnt actual ((actual ++ expected).getD i .none)) (cnt expected ((actual ++ expected).getD i .none)) (told ((actual ++ expected).getD i .none).shown))
def linesF (actual expected : List PyData) : List PyData := pickN (lineP actual expected) (lineG actual expected) (actual ++ expected).length
theorem cnt_le {xs : List PyData} {x : PyData} : cnt xs x ≤ xs.length := List.countP_le_length

theorem fn_lines {w : World} {n m : Nat} {actual expected : List PyData} (ha : ∀ d ∈ actual, Pl d) (he : ∀ d ∈ expected, Pl d) (hW : ∀ d ∈ actual ++ expected, d.depth ≤ m ∧ Wok d ∧ d.shown.length ≤ 200000) (hla : actual.length ≤ 1000) (hle : expected.length ≤ 1000) :
    Fn w (n + m + 2) 234 [.dat (.list actual), .dat (.list expected)] (.dat (.list (linesF actual expected))) := by
  have hap : ∀ d ∈ actual ++ expected, Pl d := fun d hd => (List.mem_append.mp hd).elim (ha d) (he d)
  have hrl : (actual ++ expected).length ≤ 1000000 := by rw [List.length_append]; omega
  refine Fn_of (o := _) (fd := _) (body := _) (xs := ["actual", "expected"]) rfl rfl rfl ?_ ?_ rfl rfl rfl rfl rfl rfl rfl rfl ?_ ?_
  · intro A env h₀ X s Q E R F O H h
    refine st_unpackN (a := .dat (.list (actual ++ expected))) (Ev_bin (Ev_local rfl rfl) (Ev_local rfl rfl) (op_addL (small (by omega)))) rfl rfl R F O H (fun l h1 tk1 H1 hnl f L1 => ?_) (fun env => rfl) rfl (fun env e => by cases env; cases e; rfl)
    refine st_for (fun _ => _) (fun b => b = l) (fun i h X => Lst h X l (pickN (lineP actual expected) (lineG actual expected) i)) (EvIt_enum (ds := actual ++ expected) (Ev_builtin rfl rfl rfl (by decide)) (Ev_local rfl rfl)) (by decide) (fun x a e => e) R F O H1 (fun b e => by subst e; exact ⟨f.hid, fun q => f.not (.inl q), f.above⟩) (fun i h h' X X' j hk hx => j.mono (fun o e => hk _ _ (.inr rfl) e) (fun b o hn e => hk b o (.inl hn) e) hx) L1 ?_ ?_
    · intro i h₁ X' h' tk' E' hi k01 hXX O1 H1' L hout
      have hm := getD_mem hi
      obtain ⟨h₂, k12, H2, O2, hin, _⟩ := H1'.full O1 (fun _ => False) (fun _ e => e.elim)
      have L2 : Lst h₂ X' l (pickN (lineP actual expected) (lineG actual expected) i) := L.ground (H1'.cells O1) H1' f.not hin
      have fr : Free env h₁ X' l := f.more hXX (hout l rfl)
      have hpi : lineP actual expected i = ((!((actual ++ expected).take i).any fun y => PyData.eqv y ((actual ++ expected).getD i .none)) && ((cnt actual ((actual ++ expected).getD i .none) : Int) != (cnt expected ((actual ++ expected).getD i .none) : Int))) := rfl
      have hgi : lineG actual expected i = .str (lineT (cnt actual ((actual ++ expected).getD i .none)) (cnt expected ((actual ++ expected).getD i .none)) (told ((actual ++ expected).getD i .none).shown)) := rfl
      rw [pickN_succ]
      generalize hdi : (actual ++ expected).getD i .none = d at *
      have hca : cnt actual d ≤ 1000 := Nat.le_trans cnt_le hla
      have hce : cnt expected d ≤ 1000 := Nat.le_trans cnt_le hle
      refine st_assign (a := .dat (.tuple [.int (cnt actual d), .int (cnt expected d)])) (Ev_tuple (ds := [.int (cnt actual d), .int (cnt expected d)]) (EvL_cons (Ev_meth1 (Ev_local rfl rfl) (Ev_local rfl rfl) hasT_list _root_.PySem.F.plainAttrs_list _root_.PySem.F.slot_list_count _root_.PySem.F.type_list_count (do_count (hap _ hm).plain (plain_list ha))) (EvL_cons (Ev_meth1 (Ev_local rfl rfl) (Ev_local rfl rfl) hasT_list _root_.PySem.F.plainAttrs_list _root_.PySem.F.slot_list_count _root_.PySem.F.type_list_count (do_count (hap _ hm).plain (plain_list he))) EvL_nil)) (small (by simp))) (.inl rfl) R F O2 H2 fun h3 tk3 H3 => ?_
      refine st_if (c := lineP actual expected i) ?_ R F H3 (fun hc h4 tk4 H4 => ?_) (fun hc h4 tk4 H4 => ?_)
      · rw [hpi]
        refine EvT_and (EvT_cmp (Ev_local rfl rfl) (Ev_sub (Ev_local rfl rfl) (Ev_slice .none (.some (Ev_local (a := I (i : Int)) rfl rfl)) .none) hasT_list _root_.PySem.F.slot_list_getitem.lookup (get_upto (xs := actual ++ expected) rfl (small hrl))) (op_notInL (hap _ hm).plain (plain_list fun d hd => hap d (List.mem_of_mem_take hd)))) fun _ => ?_
        refine EvT_cmp (Ev_sub (Ev_local rfl rfl) Ev_int hasT_tuple _root_.PySem.F.slot_tuple_getitem.lookup (get_item_tuple (xs := [.int (cnt actual d), .int (cnt expected d)]) (k := 0) (d := .int (cnt actual d)) (by decide) (by decide) rfl rfl)) (Ev_sub (Ev_local rfl rfl) Ev_int hasT_tuple _root_.PySem.F.slot_tuple_getitem.lookup (get_item_tuple (xs := [.int (cnt actual d), .int (cnt expected d)]) (k := 1) (d := .int (cnt expected d)) (by decide) (by decide) rfl rfl)) op_neI
      · obtain ⟨hd1, hd2, hd3⟩ := hW d hm
        refine st_assign (a := S d.shown) (Ev_callF (f := 212) (Ev_glob rfl rfl) rfl rfl (EvL_cons (Ev_local rfl rfl) EvL_nil) (fn_written m d hd1 hd2)) (.inl rfl) R F O2 H4 fun h5 tk5 H5 => ?_
        have hz : d.shown.length ≤ sizeLine := small (by omega)
        refine st_assign (a := S (told d.shown)) ?_ (.inl rfl) R F O2 H5 fun h6 tk6 H6 => ?_
        · unfold told
          refine Ev_ifexp (c := decide ((d.shown.length : Int) < 80)) (EvT_cmp (Ev_lenS (Ev_local rfl rfl) hz rfl) Ev_int op_lt) (fun hc => ?_) (fun hc => ?_)
          · rw [if_pos (of_decide_eq_true hc)]; exact Ev_local rfl rfl
          · rw [if_neg (of_decide_eq_false hc)]
            refine Ev_bin (Ev_slS (Ev_local rfl rfl) .none (.some Ev_int) hz) Ev_str (op_cat (small ?_))
            have := sl_le (l := none) (u := some 80) hd3
            show _ + 15 ≤ _
            omega
        have L6 := L2.keeps H6.keep
        refine st_append (d := lineG actual expected i) rfl rfl ?_ fr L6 (Nat.le_trans (pickN_len _ _ _) (by omega)) R F (H6.rebase H1'.good (k12.trans H6.keep) H1'.above) fun h7 tk7 H7 L7 => ?_
        · rw [hgi]
          exact Ev_bin Ev_str (Ev_tuple (ds := [.int (cnt actual d), .int (cnt expected d), .str (told d.shown)]) (EvL_cons (Ev_sub (Ev_local rfl rfl) Ev_int hasT_tuple _root_.PySem.F.slot_tuple_getitem.lookup (get_item_tuple (xs := [.int (cnt actual d), .int (cnt expected d)]) (k := 0) (d := .int (cnt actual d)) (by decide) (by decide) rfl rfl)) (EvL_cons (Ev_sub (Ev_local rfl rfl) Ev_int hasT_tuple _root_.PySem.F.slot_tuple_getitem.lookup (get_item_tuple (xs := [.int (cnt actual d), .int (cnt expected d)]) (k := 1) (d := .int (cnt expected d)) (by decide) (by decide) rfl rfl)) (EvL_cons (Ev_local rfl rfl) EvL_nil))) (small (by simp))) (op_first (by omega) (by omega) (by omega) (by omega) (Nat.le_trans (told_len hd3) (by decide)))
        refine st_nil (st_nil ⟨h7, tk7, rfl, H7.weak ?_, ?_⟩)
        · exact weak_set (weak_set (weak_set (weak2 rfl rfl) rfl) rfl) rfl
        · rw [if_pos hc]; exact L7
      · refine st_nil (st_nil ⟨h4, tk4, rfl, (H4.rebase H1'.good (k12.trans H4.keep) H1'.above).weak ?_, ?_⟩)
        · exact weak_set (weak2 rfl rfl) rfl
        · rw [hc, if_neg (by decide), List.append_nil]
          exact L2.keeps H4.keep
    · intro h2 tk2 H2 L2
      refine st_return_own rfl rfl L2 f.not R F O H2 fun h3 tk3 k3 L3 => ?_
      exact h _ h3 tk3 k3 (L3.out (fun b hb => .inl hb) (H.notX hnl))
  · intro vals hv
    match vals, hv with
    | [a, b], _ => rfl
  · decide
  · decide
end Mine

end
section
open PySem PySem.W PyProof.Rows
set_option maxHeartbeats 4000000
set_option maxRecDepth 100000
set_option linter.unusedVariables false
namespace Mine
theorem rdAs_len {h : Heap} {X : Addr → Prop} {vs : List Value} {as : List AV} (r : RdAs h X vs as) : vs.length = as.length := by
  induction r with
  | nil => rfl
  | cons _ _ ih => simp [ih]
def Binds (w : World) (fd : FuncData) (as : List AV) (xs : List Str) (as' : List AV) : Prop :=
  ∀ (A : Around) (X : Addr → Prop) (s : Shared) (vals : List Value) (Q : List (Str × Value) → Shared → Prop) (E : Value → Shared → Prop), Good w s.heap → Alive X s.heap → RdAs s.heap X vals as →
    (∀ vals' h' tk', Keeps s.heap h' → RdAs h' X vals' as' → Q (xs.zip vals') { s with heap := h', toks := tk' }) → wpAny (model PG w) A (bindArgs fd ⟨vals, []⟩) Q E s
theorem Fn_ofG {w : World} {n : Nat} {f : Addr} {o : Obj} {fd : FuncData} {body : List Stmt} {xs : List Str} {as as' : List AV} {r : AV}
    (ho : (KF w).lookup f = some o) (hfd : o.data = .func fd) (hbody : fd.body = .stmts body) (hb : Body w n fd.scope (Sto.ofL (xs.zip as')) body r)
    (hbind : Binds w fd as xs as') (hlen : xs.length = as'.length)
    (hcode : codeIn (KF w) fd.code fd.qualname = true) (hg : fd.globals = mainGlobals) (hbi : fd.builtins = builtinsNs) (hcl : fd.closure = [])
    (hco : fd.scope.isCoroutine = false) (hgen : fd.scope.isGenerator = false) (hk : fd.scope.kind = .function)
    (hfree : ∀ p ∈ fd.scope.names, p.2 ≠ .free) (hxs : ∀ x ∈ xs, fd.scope.names.lookup x = some .local ∨ fd.scope.names.lookup x = some .cell) (hcb : ∀ p ∈ fd.scope.names, p.2 = .cell → fd.scope.names.lookup p.1 = some .cell := by decide) : Fn w (n + 1) f as r := by
  intro A X s vals Q E R G hX rs h
  refine wpAny_call (codeAny_call_function R.depth (G.K _ _ ho) hfd hco hgen hbody (codeRec_of G.K hcode) ?_)
  refine hbind A.in1 X s vals _ _ G hX rs fun vals' h1 tk1 k1 rs1 => ?_
  rw [hg, hbi, hcl]
  have hlv := rdAs_len rs1
  have e2 : (xs.zip vals').map (·.2) = vals' := by rw [List.map_snd_zip]; omega
  have e1 : (xs.zip vals').map (·.1) = xs := by rw [List.map_fst_zip]; omega
  refine new_env (s := { s with heap := h1, toks := tk1 }) (as := as') (n := n) (G.keeps k1) (Alive.keeps hX k1) hk (fun x e => ?_) (fun x e => Fn_of.lookup_mem_kind e) hcb (fun p hp => hxs p.1 (List.of_mem_zip hp).1) (by rw [e2]; exact rs1) fun env X' h' tk' F _ O hXX H => ?_
  · exact hfree _ (Fn_of.lookup_mem_kind e) rfl
  rw [e1] at H
  refine ⟨H.goodH.nolimit, codeAny_func ?_⟩
  refine hb _ env _ X' _ _ _ (R.deeper env) F O H fun v h2 tk2 k2 r2 => ?_
  exact h v h2 tk2 (k1.trans k2) (r2.less hXX)

section
variable {w : World} {n : Nat} {sc : Scope} {σ : Sto} {A : Around} {env : Env} {h₀ : Heap} {X : Addr → Prop} {s : Shared} {E : Value → Shared → Prop}
/-- a try whose body does not raise -/
theorem st_try {body rest : List Stmt} {hd : ExceptHandler} {hs : List ExceptHandler} {pos : Pos} {Q : Flow → Shared → Prop}
    (h : ∀ E', Run w A body env (fun f s1 => match f with | .next => Run w A rest env Q E s1 | f => Q f s1) E' s) : Run w A (.Try body (hd :: hs) [] [] pos :: rest) env Q E s := by
  refine wpAny_execs_cons (wpAny_Try_except (wpAny_mono (h _) (fun f s1 h1 => ?_) fun _ _ e => e))
  cases f with
  | next => exact wpAny_execs_nil h1
  | cont => exact h1
  | brk => exact h1
  | ret v => exact h1
end
theorem nodict_int {i : Int} : (PyData.int i).hasDict = false := rfl
theorem log2_of {i : Int} (h : i ∈ nums ∨ (0 ≤ i ∧ i < 10 ^ 10)) : i.natAbs.log2 < 1920 := by
  have : i.natAbs < 2 ^ 1920 := by
    have h2 : i.natAbs < 10 ^ 10 := by
      rcases h with h | h
      · simp [nums] at h; omega
      · omega
    exact Nat.lt_trans h2 (by decide +kernel)
  by_cases h0 : i.natAbs = 0
  · rw [h0]; decide
  · exact (Nat.log2_lt h0).mpr this
mutual
theorem wok_show : ∀ {d : PyData}, Wok d → d.showable = true ∧ d.hasDict = false
  | .none, h => by unfold Wok at h; exact h.elim
  | .bool b, h => by unfold Wok at h; exact h.elim
  | .dict b, h => by unfold Wok at h; exact h.elim
  | .int i, h => by
    unfold Wok at h
    refine ⟨?_, by unfold PyData.hasDict; rfl⟩
    unfold PyData.showable
    exact decide_eq_true (log2_of h)
  | .str x, h => ⟨by unfold PyData.showable; rfl, by unfold PyData.hasDict; rfl⟩
  | .list xs, h => by
    unfold Wok at h
    have := wokA_show h.1
    unfold PyData.showable PyData.hasDict
    exact this
  | .tuple xs, h => by
    unfold Wok at h
    have := wokA_show h.1
    unfold PyData.showable PyData.hasDict
    exact this
theorem wokA_show : ∀ {xs : List PyData}, WokA xs → PyData.showableAll xs = true ∧ PyData.hasDictAll xs = false
  | [], _ => ⟨by unfold PyData.showableAll; rfl, by unfold PyData.hasDictAll; rfl⟩
  | x :: xs, h => by
    unfold WokA at h
    have h1 := wok_show h.1
    have h2 := wokA_show h.2
    unfold PyData.showableAll PyData.hasDictAll
    rw [h1.1, h1.2, h2.1, h2.2]
    exact ⟨rfl, rfl⟩
end
theorem do_reprW {w : World} {n : Nat} {d : PyData} (hw : Wok d) (hdep : d.depth ≤ 60) (hz : d.shown.length ≤ 1000000) : DoesL w (n + 100) (cB "repr") [.dat d] (S d.shown) := by
  have hs := wok_show hw
  cases d with
  | none => unfold Wok at hw; exact hw.elim
  | bool b => unfold Wok at hw; exact hw.elim
  | dict kv => unfold Wok at hw; exact hw.elim
  | list xs => exact do_repr (.inl ⟨_, rfl⟩) hs.1 hs.2 hdep (small hz)
  | tuple xs => exact do_repr (.inr ⟨_, rfl⟩) hs.1 hs.2 hdep (small hz)
  | int i =>
    intro A X s vals Q E _ _ _ rs h
    unfold Wok at hw
    cases rs with | cons r rs =>
      cases rs; cases r
      exact P.repr_of_int (log2_of hw) (h _ s.heap _ (Keeps.refl _) (.str _ _))
  | str x =>
    intro A X s vals Q E _ _ _ rs h
    cases rs with | cons r rs =>
      cases rs; cases r
      exact P.repr_of_str (h _ s.heap _ (Keeps.refl _) (.str _ _)) (small hz)

theorem body_safe {w : World} {n : Nat} {d : PyData} {b : Bool} (hw : Wok d) (hdep : d.depth ≤ 60) (hz : d.shown.length ≤ 200000) {as : List AV}
    (hbind : ∀ fd : FuncData, (∃ o, (KF w).lookup 112 = some o ∧ o.data = .func fd) → Binds w fd as ["obj", "short"] [.dat d, B b]) : Fn w (n + 101) 112 as (S (if b then told d.shown else d.shown)) := by
  have hz6 : d.shown.length ≤ sizeLine := small (by omega)
  refine Fn_ofG (o := _) (fd := _) (body := _) (xs := ["obj", "short"]) (as' := [.dat d, B b]) rfl rfl rfl ?_ (hbind _ ⟨_, rfl, rfl⟩) rfl rfl rfl rfl rfl rfl rfl rfl ?_ ?_
  · intro A env h₀ X s Q E R F O H h
    refine st_try fun E' => ?_
    refine st_assign (a := S d.shown) (Ev_callB (Ev_builtin rfl rfl rfl (by decide)) (EvL_cons (Ev_local rfl rfl) EvL_nil) (do_reprW hw hdep (by omega))) (.inl rfl) R F O H fun h' tk' H => ?_
    refine st_nil ?_
    refine st_if (c := !b || decide ((d.shown.length : Int) < 80)) (EvT_or (EvT_not (EvT_of (Ev_local rfl rfl) tr_bool)) fun _ => EvT_cmp (Ev_lenS (Ev_local rfl rfl) hz6 rfl) (Ev_globI rfl rfl) op_lt) R F H (fun hc h' tk' H => ?_) (fun hc h' tk' H => ?_)
    · have e : (if b then told d.shown else d.shown) = d.shown := by
        cases b with
        | false => rfl
        | true =>
          have hc : decide ((d.shown.length : Int) < 80) = true := hc
          rw [if_pos rfl]
          unfold told
          rw [if_pos (of_decide_eq_true hc)]
      rw [e] at h
      exact st_return (Ev_local rfl rfl) R F H fun v h' tk' H r => h v h' tk' H.keep r
    · have hb : b = true := by cases b with | true => rfl | false => exact absurd hc (by simp)
      subst hb
      have hc : decide ((d.shown.length : Int) < 80) = false := hc
      have e : (if true = true then told d.shown else d.shown) = Txt.slice d.shown none (some 80) ++ " [truncated]..." := by
        rw [if_pos rfl]
        unfold told
        rw [if_neg (of_decide_eq_false hc)]
      rw [e] at h
      refine st_nil ?_
      refine st_return (Ev_bin (Ev_slS (Ev_local rfl rfl) .none (.some (Ev_globI rfl rfl)) hz6) Ev_str (op_cat (small ?_))) R F H fun v h' tk' H r => h v h' tk' H.keep r
      have := sl_le (l := none) (u := some 80) hz
      show _ + 15 ≤ _
      omega
  · decide
  · decide
theorem fn_safe1 {w : World} {n : Nat} {d : PyData} (hw : Wok d) (hdep : d.depth ≤ 60) (hz : d.shown.length ≤ 200000) : Fn w (n + 101) 112 [.dat d] (S d.shown) := by
  refine body_safe (b := false) hw hdep hz ?_
  rintro fd ⟨o, ho, hfd⟩ A X s vals Q E G hX rs h
  cases ho; cases hfd
  cases rs with | cons r rs =>
    cases rs
    rename_i v
    refine wpAny_bind (m := seqItems? (.ref 105)) (wpAny_bind (wpAny_load (G.K 105 _ rfl) ?_))
    exact wpAny_pure (wpAny_of_eq rfl (h [v, .bool false] s.heap s.toks (Keeps.refl _) (.cons r (.cons (RdD.bool false) .nil))))
theorem fn_safe2 {w : World} {n : Nat} {d : PyData} (hw : Wok d) (hdep : d.depth ≤ 60) (hz : d.shown.length ≤ 200000) : Fn w (n + 101) 112 [.dat d, B true] (S (told d.shown)) := by
  refine body_safe (b := true) hw hdep hz ?_
  rintro fd ⟨o, ho, hfd⟩ A X s vals Q E G hX rs h
  cases ho; cases hfd
  cases rs with | cons r rs => cases rs with | cons r2 rs =>
    cases rs
    rename_i v u
    refine wpAny_bind (m := seqItems? (.ref 105)) (wpAny_bind (wpAny_load (G.K 105 _ rfl) ?_))
    exact wpAny_pure (wpAny_of_eq rfl (h [v, u] s.heap s.toks (Keeps.refl _) (.cons r (.cons r2 .nil))))
end Mine

end
section
open PySem PySem.W PyProof.Rows
set_option maxRecDepth 100000
set_option maxHeartbeats 4000000
set_option linter.unusedVariables false
namespace Mine
theorem slot_map_init : Slot "map" "__init__" "object.__init__" :=
  .of (owner := "object") (n := "__init__") (by rw [typeLookup_type, builtinLookup_eq_fast]; kernel_rfl) (by decide +kernel) (by decide +kernel) (by decide +kernel)
    (by first | exact .inl (by decide +kernel) | exact .inr (by decide +kernel)) (by rw [isSubtype_type]; kernel_rfl)
theorem slot_map_iter : Slot "map" "__iter__" "map.__iter__" :=
  .of (owner := "map") (n := "__iter__") (by rw [typeLookup_type, builtinLookup_eq_fast]; kernel_rfl) (by decide +kernel) (by decide +kernel) (by decide +kernel)
    (by first | exact .inl (by decide +kernel) | exact .inr (by decide +kernel)) (by rw [isSubtype_type]; kernel_rfl)
theorem slot_map_next : Slot "map" "__next__" "map.__next__" :=
  .of (owner := "map") (n := "__next__") (by rw [typeLookup_type, builtinLookup_eq_fast]; kernel_rfl) (by decide +kernel) (by decide +kernel) (by decide +kernel)
    (by first | exact .inl (by decide +kernel) | exact .inr (by decide +kernel)) (by rw [isSubtype_type]; kernel_rfl)
theorem owner_map : Manifest.owners.lookup (String.ofList ['p', 'a', 'm'].reverse) = some Manifest.sig_map := by kernel_rfl
theorem args_map_iter_1 (a : Value) : argsOk "map.__iter__" ⟨[a], []⟩ := by
  unfold argsOk; rw [signature?_of (id := "map.__iter__") (n := ['_', '_', 'r', 'e', 't', 'i', '_', '_']) (o := ['p', 'a', 'm']) (by kernel_rfl) owner_map]; kernel_rfl
theorem args_map_next_1 (a : Value) : argsOk "map.__next__" ⟨[a], []⟩ := by
  unfold argsOk; rw [signature?_of (id := "map.__next__") (n := ['_', '_', 't', 'x', 'e', 'n', '_', '_']) (o := ['p', 'a', 'm']) (by kernel_rfl) owner_map]; kernel_rfl
theorem entry_map_next : entryFor table "map.__next__" = some Builtin.«map.__next__» := entryFor_of_tree (by kernel_rfl)
theorem entry_map_new : entryFor table "map.__new__" = some Builtin.«map.__new__» := entryFor_of_tree (by kernel_rfl)
theorem entry_map_iter : entryFor table "map.__iter__" = some Builtin.«dict_keyiterator.__iter__» :=
  entryFor_alias (id' := "dict_keyiterator.__iter__") (by kernel_rfl) (by first | rfl | decide +kernel | (unfold String.splitOn; simp +decide [String.splitOnAux])) (by decide +kernel) (by kernel_rfl)
theorem mro_map : mroOf (.type "map") = pure [.type "map", .type "object"] := by rw [mroOf_type]; kernel_rfl
theorem lookup_map_new : typeLookup (.type "map") "__new__" = pure (some (.builtin "map.__new__")) := by rw [typeLookup_type, builtinLookup_eq_fast]; kernel_rfl
theorem called_map : TypeCalled "map" "map.__new__" "object.__init__" :=
  ⟨by decide +kernel, by decide +kernel, ⟨_, _, mro_map⟩, madeBy_type mro_map lookup_map_new (by decide +kernel), by decide +kernel, by rw [isSubtype_type]; kernel_rfl, slot_map_init⟩
theorem typeCall_map_2 (a b : Value) : checkTypeCall "map" ⟨[a, b], []⟩ = pure () := by kernel_rfl
theorem newCall_map_2 (a b : Value) : checkBuiltinCall "map.__new__" ⟨[.type "map", a, b], []⟩ = pure () := by kernel_rfl
theorem sub_map : isSubtype (.type "map") (.type "map") = pure true := by rw [isSubtype_type]; kernel_rfl
theorem args_init_3 (o a b : Value) : argsOk "object.__init__" ⟨[o, a, b], []⟩ := by
  first | exact F.args_object_init_3 o a b | (unfold argsOk; kernel_rfl)
end Mine

end
section
open PySem PySem.W PyProof.Rows
set_option maxRecDepth 100000
set_option maxHeartbeats 4000000
set_option linter.unusedVariables false
namespace Mine
open AutoSeq1 (wpAny_loadPart')
section
variable {prog : Program} {w : World} {A : Around} {E : Value → Shared → Prop} {s : Shared}
abbrev itO (t : Addr) (i : Nat) : Obj := { cls := .type "tuple_iterator", data := .fields #[.ref t, .int i 0] }
theorem meets_map_new (f : Value) (t : Addr) (items : Array Value) (n : Nat) :
    Meets (Builtin.«map.__new__» ⟨[.type "map", f, .ref t], []⟩) (fun _ R s => s.heap.get? t = some { cls := .type "tuple", dict := none, data := .seq items n, slots := #[] } ∧
      R (.ok (.ret (.ref ((s.heap.push (itO t 0)).push { cls := .type "tuple", data := .seq #[.ref s.heap.objs.size] }).objs.size)))
        { s with heap := ((s.heap.push (itO t 0)).push { cls := .type "tuple", data := .seq #[.ref s.heap.objs.size] }).push { cls := .type "map", data := .fields #[.ref (s.heap.push (itO t 0)).objs.size, f] } }) :=
  .of_wp fun prog w A R s h => by
    obtain ⟨hp, g, d, tk, os⟩ := s; obtain ⟨hl, h⟩ := h
    have hsub := sub_map
    have hL : IsTup (Shared.heap ⟨hp, g, d, tk, os⟩) t items := ⟨_, hl, rfl, n, rfl⟩
    have e0 : Builtin.SmallTypes.newClass "map" ⟨[.type "map", f, .ref t], []⟩ = pure (.type "map", [f, .ref t]) := by
      show (do let b ← isType (.type "map"); _) = _
      have h1 : isType (.type "map") = pure true := rfl
      rw [h1]
      show (do let b ← isSubtype (.type "map") (.type "map"); _) = _
      rw [hsub]
      rfl
    show wpAny _ _ (Builtin.SmallTypes.newClass "map" ⟨[.type "map", f, .ref t], []⟩ >>= _) _ _ _
    rw [e0]
    refine wpAny_bind (wpAny_pure ?_)
    show wpAny _ _ (Builtin.SmallTypes.iterAll [.ref t] >>= _) _ _ _
    refine wpAny_bind ?_
    unfold Builtin.SmallTypes.iterAll
    simp only [List.forIn_cons, List.forIn_nil, bind_assoc, pure_bind]
    refine wpAny_bind (wpAny_holding (wpAny_pyIter_tuple hL ?_))
    refine wpAny_pure ?_
    show wpAny _ _ (newTuple [Value.ref hp.objs.size] >>= _) _ _ _
    refine wpAny_bind (wpAny_newObj_type ?_)
    show wpAny _ _ (newObj (.type "map") (.fields #[_, f]) >>= _) _ _ _
    refine wpAny_bind (wpAny_newObj_type ?_)
    exact wpAny_pure ⟨_, rfl, h⟩
theorem call_map {f : Value} {t : Addr} {items : Array Value} {n : Nat} {Q : Value → Shared → Prop} (hl : s.heap.get? t = some { cls := .type "tuple", data := .seq items n })
    (h : ∀ h', h'.get? s.heap.objs.size = some (itO t 0) → h'.get? (s.heap.objs.size + 1) = some { cls := .type "tuple", data := .seq #[.ref s.heap.objs.size] } → h'.get? (s.heap.objs.size + 2) = some { cls := .type "map", data := .fields #[.ref (s.heap.objs.size + 1), f] } →
      h'.objs.size = s.heap.objs.size + 3 → (∀ b o, s.heap.get? b = some o → h'.get? b = some o) → Q (.ref (s.heap.objs.size + 2)) { s with heap := h' }) : wpAny (model prog w) A (call (.type "map") [f, .ref t]) Q E s := by
  refine callType_new called_map (by decide) (typeCall_map_2 _ _) (newCall_map_2 _ _) (fun obj => args_init_3 obj _ _) entry_map_new (meets_map_new f t items n) ⟨hl, ?_⟩
  have e1 : (s.heap.push (itO t 0)).objs.size = s.heap.objs.size + 1 := Heap.size_push ..
  have e2 : ((s.heap.push (itO t 0)).push { cls := .type "tuple", data := .seq #[.ref s.heap.objs.size] }).objs.size = s.heap.objs.size + 2 := by rw [Heap.size_push, e1]
  show _ ∧ _
  rw [e2, e1]
  have g1 : (s.heap.push (itO t 0)).get? s.heap.objs.size = some (itO t 0) := Heap.get?_push_size _ rfl
  have g2 : ((s.heap.push (itO t 0)).push { cls := .type "tuple", data := .seq #[.ref s.heap.objs.size] }).get? (s.heap.objs.size + 1) = some { cls := .type "tuple", data := .seq #[.ref s.heap.objs.size] } := by
    have := Heap.get?_push_size (s.heap.push (itO t 0)) (o := { cls := .type "tuple", data := .seq #[.ref s.heap.objs.size] }) rfl
    rw [e1] at this; exact this
  have g3 : (((s.heap.push (itO t 0)).push { cls := .type "tuple", data := .seq #[.ref s.heap.objs.size] }).push { cls := .type "map", data := .fields #[.ref (s.heap.objs.size + 1), f] }).get? (s.heap.objs.size + 2) = some { cls := .type "map", data := .fields #[.ref (s.heap.objs.size + 1), f] } := by
    have := Heap.get?_push_size ((s.heap.push (itO t 0)).push { cls := .type "tuple", data := .seq #[.ref s.heap.objs.size] }) (o := { cls := .type "map", data := .fields #[.ref (s.heap.objs.size + 1), f] }) rfl
    rw [e2] at this; exact this
  exact ⟨⟨_, g3, rfl⟩, h _ (Heap.get?_push_of_some _ (Heap.get?_push_of_some _ g1)) (Heap.get?_push_of_some _ g2) g3 (by rw [Heap.size_push, e2]) fun b o e => Heap.get?_push_of_some _ (Heap.get?_push_of_some _ (Heap.get?_push_of_some _ e))⟩

theorem nextOf_tuple_item {it t : Addr} {i : Nat} {items} {x : Value} {Q : Value → Shared → Prop} (hit : s.heap.IsTupleIter it t i) (ht : IsTup s.heap t items) (hx : items[i]? = some x)
    (hQ : ∀ h', h'.IsTupleIter it t (i + 1) → Heap.SameBut it s.heap h' → Q x { s with heap := h' }) : wpAny (model prog w) A (Builtin.SmallTypes.nextOf (.ref it)) Q E s := by
  obtain ⟨o, ho, hc, hd⟩ := id hit
  obtain ⟨ol, hol, _, nl, hdl⟩ := ht
  unfold Builtin.SmallTypes.nextOf
  refine wpAny_bind (wpAny_callSpecial?_slot (name := Str.ofString "__next__") hit.typeIs F.slot_tuple_iterator_next
    (wpAny_call_entry F.slot_tuple_iterator_next hit.typeIs F.entry_tuple_iterator_next ?_ (F.args_tuple_iterator_next_1 _)))
  show wpAny _ _ (field (.ref it) 0 >>= _) _ _ s
  refine wpAny_bind (wpAny_field ho hd (x := .ref t) rfl ?_)
  show wpAny _ _ (if (Value.ref t == Value.none) = true then _ else _) _ _ s
  rw [if_neg (show ¬ ((Value.ref t == Value.none) = true) from Bool.false_ne_true)]
  show wpAny _ _ (field (.ref it) 1 >>= _) _ _ s
  refine wpAny_bind (wpAny_field ho hd (x := .int i 0) rfl ?_)
  show wpAny _ _ (seqItems? (.ref t) >>= _) _ _ s
  refine wpAny_bind (wpAny_seqItems hol hdl ?_)
  simp only [Int.toNat_natCast, hx]
  refine wpAny_bind (wpAny_setField ho hd (by simp) (wpAny_pure ⟨x, rfl, wpAny_pure (hQ _ ?_ (Heap.SameBut.update ..))⟩))
  exact ⟨_, Heap.get?_update_self _ ho (Obj.isFreed_of_fields (Obj.data_mapFields hd _)), (Obj.cls_mapFields ..).trans hc, by
    rw [Obj.data_mapFields hd]; simp [rawInt]⟩
theorem nextOf_tuple_end {it t : Addr} {i : Nat} {items} {Q : Value → Shared → Prop} (hh : A.handled = none) (hit : s.heap.IsTupleIter it t i) (ht : IsTup s.heap t items) (hx : items[i]? = none)
    (hE : ∀ h' e, Heap.ExtBut it s.heap h' → (∃ o, h'.get? e = some o ∧ o.cls = .type "StopIteration") → E (.ref e) { s with heap := h' }) : wpAny (model prog w) A (Builtin.SmallTypes.nextOf (.ref it)) Q E s := by
  obtain ⟨o, ho, hc, hd⟩ := id hit
  obtain ⟨ol, hol, _, nl, hdl⟩ := ht
  unfold Builtin.SmallTypes.nextOf
  refine wpAny_bind (wpAny_callSpecial?_slot (name := Str.ofString "__next__") hit.typeIs F.slot_tuple_iterator_next
    (wpAny_call_entry F.slot_tuple_iterator_next hit.typeIs F.entry_tuple_iterator_next ?_ (F.args_tuple_iterator_next_1 _)))
  show wpAny _ _ (field (.ref it) 0 >>= _) _ _ s
  refine wpAny_bind (wpAny_field ho hd (x := .ref t) rfl ?_)
  show wpAny _ _ (if (Value.ref t == Value.none) = true then _ else _) _ _ s
  rw [if_neg (show ¬ ((Value.ref t == Value.none) = true) from Bool.false_ne_true)]
  show wpAny _ _ (field (.ref it) 1 >>= _) _ _ s
  refine wpAny_bind (wpAny_field ho hd (x := .int i 0) rfl ?_)
  show wpAny _ _ (seqItems? (.ref t) >>= _) _ _ s
  refine wpAny_bind (wpAny_seqItems hol hdl ?_)
  simp only [Int.toNat_natCast, hx]
  refine wpAny_bind (wpAny_rule (wpAny_bind (wpAny_setField ho hd (by simp) ?_)))
  show wpAny _ _ (newExc (.type "StopIteration") [] >>= _) _ _ _
  refine wpAny_bind ?_
  simp only [newExc, newTuple]
  refine wpAny_bind (wpAny_newObj_type ?_ (by size_fits))
  refine wpAny_bind (m := firstArgMember _ _) (wpAny_of_eq (a := Value.none) (by first | rfl | (simp only [firstArgMember]; rfl)) ?_)
  refine wpAny_newObj_type ?_ (by size_fits)
  simp only [raiseNew]
  refine wpAny_bind (wpAny_handled ?_)
  first | rw [show A.in1.handled = none from hh] | rw [hh]
  refine wpAny_bind (wpAny_pure (wpAny_throw ?_))
  exact hE _ _ (((Heap.SameBut.update ..).extBut.push _).push _) ⟨_, Heap.get?_push_size _ rfl, rfl⟩

/-- the map object's turns -/
structure MapAt (h : Heap) (M T I t : Addr) (f : Value) (items : Array Value) (i : Nat) : Prop where
  om : h.get? M = some { cls := .type "map", data := .fields #[.ref T, f] }
  ot : h.get? T = some { cls := .type "tuple", data := .seq #[.ref I] }
  oi : h.IsTupleIter I t i
  tup : IsTup h t items

theorem Walks_map {M T I t : Addr} {f : Value} {items : Array Value} {href : Heap} {P : Nat → Value → Prop} (hh : A.handled = none) (hMI : M ≠ I) (hTI : T ≠ I) (htI : t ≠ I) (hM : M < href.objs.size) (hT : T < href.objs.size) (hI : I < href.objs.size) (ht : t < href.objs.size)
    (hcall : ∀ i x (s : Shared) (Q : Value → Shared → Prop) (E : Value → Shared → Prop), items[i]? = some x → (∀ b o, b ≠ I → href.get? b = some o → s.heap.get? b = some o) → (∀ v h' tk', P i v → (∀ b o, s.heap.get? b = some o → h'.get? b = some o) → Q v { s with heap := h', toks := tk' }) → wpAny (model prog w) A.in1 (call f [x]) Q E s) :
    Walks prog w A M (List.range href.objs.size) [I] items.size P (fun i h => MapAt h M T I t f items i ∧ ∀ b o, b ≠ I → href.get? b = some o → h.get? b = some o) where
  sub := fun b hb => by rcases List.mem_singleton.mp hb with rfl; exact List.mem_range.mpr hI
  frame := fun i h h' st hk => by
    obtain ⟨⟨a1, a2, ⟨o, a3, a4⟩, ⟨o2, a5, a6⟩⟩, hr⟩ := st
    refine ⟨⟨hk _ (List.mem_range.mpr hM) _ a1, hk _ (List.mem_range.mpr hT) _ a2, ⟨o, hk _ (List.mem_range.mpr hI) _ a3, a4⟩, ⟨o2, hk _ (List.mem_range.mpr ht) _ a5, a6⟩⟩, fun b o hb e => hk b (List.mem_range.mpr (Heap.lt_size e)) _ (hr b o hb e)⟩
  item := fun i s Q E hi st hQ => by
    obtain ⟨⟨a1, a2, a3, a4⟩, hr⟩ := st
    have hTy : s.TypeIs (.ref M) "map" := ⟨_, a1, rfl⟩
    unfold pyNext
    refine wpAny_bind (wpAny_attempt (wpAny_callSpecial?_slot (name := Str.ofString "__next__") hTy slot_map_next (wpAny_call_entry slot_map_next hTy entry_map_next ?_ (args_map_next_1 _))))
    show wpAny _ _ (field (.ref M) 0 >>= _) _ _ s
    refine wpAny_bind (wpAny_field a1 rfl (x := .ref T) rfl ?_)
    show wpAny _ _ (seqItems? (.ref T) >>= _) _ _ s
    refine wpAny_bind (wpAny_seqItems a2 rfl ?_)
    have hx : items[i]? = some items[i] := Array.getElem?_eq_getElem hi
    dsimp only
    simp only [← Array.forIn_toList, List.forIn_cons, List.forIn_nil, bind_assoc, pure_bind]
    refine wpAny_bind (wpAny_holding (nextOf_tuple_item a3 a4 hx fun h1 hit1 sb1 => ?_))
    have a1' : h1.get? M = some { cls := .type "map", data := .fields #[.ref T, f] } := (sb1.2 M hMI).trans a1
    have a2' : h1.get? T = some { cls := .type "tuple", data := .seq #[.ref I] } := (sb1.2 T hTI).trans a2
    show wpAny _ _ (field (.ref M) 1 >>= _) _ _ _
    refine wpAny_bind (wpAny_field a1' rfl (x := f) rfl ?_)
    have hr1 : ∀ b o, b ≠ I → href.get? b = some o → h1.get? b = some o := fun b o hb e => (sb1.2 b hb).trans (hr b o hb e)
    refine wpAny_bind (wpAny_holding (hcall i _ { s with heap := h1 } _ _ hx hr1 fun v h2 tk2 hP k2 => ?_))
    refine wpAny_bind (wpAny_letGo (wpAny_pure ⟨_, rfl, wpAny_pure ?_⟩))
    refine hQ v h2 tk2 hP ⟨⟨k2 _ _ a1', k2 _ _ a2', ?_, ?_⟩, fun b o hb e => k2 _ _ (hr1 b o hb e)⟩ fun b o hb e => k2 _ _ ((sb1.2 b (fun q => hb (List.mem_singleton.mpr q))).trans e)
    · obtain ⟨o, ho, r⟩ := hit1; exact ⟨o, k2 _ _ ho, r⟩
    · obtain ⟨o, ho, r⟩ := a4; exact ⟨o, k2 _ _ ((sb1.2 t htI).trans ho), r⟩
  done := fun s Q E st hQ => by
    obtain ⟨⟨a1, a2, a3, a4⟩, hr⟩ := st
    have hTy : s.TypeIs (.ref M) "map" := ⟨_, a1, rfl⟩
    unfold pyNext
    refine wpAny_bind (wpAny_attempt (wpAny_callSpecial?_slot (name := Str.ofString "__next__") hTy slot_map_next (wpAny_call_entry slot_map_next hTy entry_map_next ?_ (args_map_next_1 _))))
    show wpAny _ _ (field (.ref M) 0 >>= _) _ _ s
    refine wpAny_bind (wpAny_field a1 rfl (x := .ref T) rfl ?_)
    show wpAny _ _ (seqItems? (.ref T) >>= _) _ _ s
    refine wpAny_bind (wpAny_seqItems a2 rfl ?_)
    dsimp only
    simp only [← Array.forIn_toList, List.forIn_cons, List.forIn_nil, bind_assoc, pure_bind]
    refine wpAny_bind (wpAny_holding (nextOf_tuple_end hh a3 a4 (by simp) fun h1 e1 hx1 ho1 => ?_))
    obtain ⟨o, ho, hc⟩ := ho1
    refine wpAny_bind (wpAny_isInstance (T := "StopIteration") (b := true) ⟨o, ho, hc⟩ isSubtype_stop ?_)
    exact wpAny_pure (hQ h1 s.toks fun b o hb e => hx1 b o (fun q => hb (List.mem_singleton.mpr q)) e)
  self := fun i s Q E st hQ => by
    obtain ⟨⟨a1, a2, a3, a4⟩, hr⟩ := st
    have hTy : s.TypeIs (.ref M) "map" := ⟨_, a1, rfl⟩
    refine wpAny_pyIter_slot hTy slot_map_iter (wpAny_call_entry slot_map_iter hTy entry_map_iter ?_ (args_map_iter_1 _))
    show wpAny _ _ (ret (.ref M)) _ _ s
    exact wpAny_pure ⟨_, rfl, "map", _, hTy, slot_map_next.lookup, hQ⟩
end
end Mine

end
section
open PySem PySem.W PyProof.Rows
set_option maxRecDepth 100000
set_option maxHeartbeats 4000000
set_option linter.unusedVariables false
namespace Mine
open AutoSeq1 (wpAny_loadPart')
theorem map_no_len : typeLookup (.type "map") "__len__" = pure none := by rw [typeLookup_type, builtinLookup_eq_fast]; kernel_rfl
theorem map_no_hint : typeLookup (.type "map") "__length_hint__" = pure none := by rw [typeLookup_type, builtinLookup_eq_fast]; kernel_rfl
section
variable {prog : Program} {w : World} {A : Around} {E : Value → Shared → Prop} {s : Shared} {M : Addr} {fp wr : List Addr} {n : Nat} {P : Nat → Value → Prop} {St : Nat → Heap → Prop}
/-- what a row of a map's results is gathered into -/
theorem gather_map {Q : List Value → Shared → Prop} (W : Walks prog w A.in1 M fp wr n P St) (hT : ∀ i h, St i h → ∃ o, h.get? M = some o ∧ o.cls = .type "map") (st : St 0 s.heap) (hfp : ∀ b ∈ fp, b < s.heap.objs.size) (hM : M ∈ fp) (hn : n ≤ sizeLine)
    (hQ : ∀ h' tk acc, (∀ b o, b ∉ wr → s.heap.get? b = some o → h'.get? b = some o) → ItemsOf P acc n → Q acc.toList { s with heap := h', toks := tk }) : wpAny (model prog w) A (collect (.ref M)) Q E s := by
  let D : Obj := { cls := .type "list", data := .seq ([] : List Value).toArray }
  have hD : s.heap.objs.size ∉ fp := fun q => Nat.lt_irrefl _ (hfp _ q)
  have hne : Builtin.List.listSameRef (.ref s.heap.objs.size) (.ref M) = false := by
    have : s.heap.objs.size ≠ M := fun e => hD (e ▸ hM)
    simp [Builtin.List.listSameRef, this]
  have go : ∀ hh : Heap, (∀ b ∈ fp, ∀ o, s.heap.get? b = some o → hh.get? b = some o) → St 0 hh := fun hh k => W.frame 0 _ _ st k
  have ty : ∀ s₁ : Shared, St 0 s₁.heap → s₁.TypeIs (.ref M) "map" := fun s₁ h => hT 0 _ h
  unfold collect
  refine wpAny_bind (wpAny_runValue (codeAny_builtin F.entry_proto_collect ?_))
  rw [Around.under_plainId F.plain_proto_collect _]
  refine wpAny_bind (m := newList []) (wpAny_newObj_type (wpAny_pure ⟨plainId_quiet F.plain_list_iadd _, codeAny_builtin F.entry_list_iadd ?_⟩))
  rw [Around.under_plainId F.plain_list_iadd _]
  have st1 := go (s.heap.push D) fun b _ o e => Heap.get?_push_of_some _ e
  have g1 : (s.heap.push D).get? s.heap.objs.size = some D := Heap.get?_push_size _ rfl
  show wpAny _ A.in1 (Builtin.List.listExtendWith (.ref s.heap.objs.size) (.ref M) (.ref s.heap.objs.size)) _ _ _
  unfold Builtin.List.listExtendWith Builtin.List.listLengthHint
  refine wpAny_bind (wpAny_typeOf (ty _ st1) ?_)
  rw [if_neg (by rw [hne]; decide)]
  refine wpAny_bind (W.self 0 _ _ _ st1 (wpAny_bind (wpAny_holding (wpAny_bind (wpAny_specialOf (ty _ st1) map_no_len ?_)))))
  refine wpAny_bind (m := specialOf (Value.ref M) (Str.ofString "__length_hint__")) (wpAny_specialOf (ty _ st1) map_no_hint (wpAny_pure ?_))
  refine wpAny_bind (m := rule "list.extend.makes-room") (wpAny_rule (wpAny_bind (m := Builtin.List.listTouch (.ref s.heap.objs.size)) ?_))
  refine wpAny_bind (m := updateSeq s.heap.objs.size (·.push .none)) (wpAny_updateSeq g1 rfl ?_)
  have g2 := Heap.get?_update_self (Obj.mapSeq (·.push Value.none)) g1 rfl
  refine wpAny_updateSeq g2 rfl ?_
  have g3 := Heap.get?_update_self (Obj.mapSeq (·.pop)) g2 rfl
  have keep : ∀ b o, b ≠ s.heap.objs.size → (s.heap.push D).get? b = some o → (((s.heap.push D).update s.heap.objs.size (Obj.mapSeq (·.push Value.none))).update s.heap.objs.size (Obj.mapSeq (·.pop))).get? b = some o := fun b o hb e => by
    rw [Heap.get?_update_other _ _ (Ne.symm hb), Heap.get?_update_other _ _ (Ne.symm hb)]; exact e
  have st3 := go _ fun b hb o e => keep b o (fun q => hD (q ▸ hb)) (Heap.get?_push_of_some _ e)
  refine wpAny_pure ⟨plainId_quiet F.plain_extend_loop _, codeAny_extend_loopS W.toS hn _ hD _ n 0 _ _ _ rfl (Nat.zero_le _) st3 g3 (ItemsOf.nil P) fun s' acc c hm g hacc => ?_⟩
  refine wpAny_bind (m := load s.heap.objs.size) (wpAny_load g (wpAny_pure ?_))
  obtain ⟨hp, gg, dd, tk, oo⟩ := s'
  have e1 : gg = s.gens := hm.gens
  have e2 : dd = s.drawn := hm.drawn
  have e3 : oo = s.os := hm.os
  subst e1 e2 e3
  refine hQ hp tk acc (fun b o hb e => ?_) hacc
  have hbn : b ≠ s.heap.objs.size := Nat.ne_of_lt (Heap.lt_size e)
  exact hm.heap b o (fun q => (List.mem_cons.mp q).elim hbn hb) (keep b o hbn (Heap.get?_push_of_some _ e))
end
end Mine

end
section
open PySem PySem.W PyProof.Rows
set_option maxRecDepth 100000
set_option maxHeartbeats 4000000
set_option linter.unusedVariables false
namespace Mine
open AutoSeq1 (wpAny_loadPart')
section
variable {prog : Program} {w : World} {A : Around} {E : Value → Shared → Prop} {s : Shared} {M : Addr} {fp wr : List Addr} {n : Nat} {P : Nat → Value → Prop} {St : Nat → Heap → Prop}
theorem new_tuple_map {Q : Value → Shared → Prop} (W : Walks prog w A.in1.in1 M fp wr n P St) (hT : ∀ i h, St i h → ∃ o, h.get? M = some o ∧ o.cls = .type "map") (st : St 0 s.heap) (hfp : ∀ b ∈ fp, b < s.heap.objs.size) (hM : M ∈ fp) (hn : n ≤ sizeLine)
    (hQ : ∀ (h' : Heap) tk acc, (∀ b o, b ∉ wr → s.heap.get? b = some o → h'.get? b = some o) → ItemsOf P acc n → Q (.ref h'.objs.size) { s with heap := h'.push { cls := .type "tuple", data := .seq acc }, toks := tk }) :
    codeAny (model prog w) A (.call (.builtin "tuple.__new__") ⟨[.type "tuple", .ref M], []⟩) (wants Q E) s := by
  have a1 := sub_tuple_self
  have a2 := init_tuple_lookup
  have a3 := madeHere_tuple
  have tyM : s.TypeIs (.ref M) "map" := hT 0 _ st
  refine codeAny_of_tree (wpAny_bind (m := checkBuiltinCall "tuple.__new__" ⟨[.type "tuple", .ref M], []⟩) (wpAny_of_eq (F.newCall_tuple_1 _) (wpAny_pure ⟨plainId_quiet F.plain_tuple_new _, codeAny_builtin F.entry_tuple_new ?_⟩)))
  rw [Around.under_plainId F.plain_tuple_new _]
  wp_walk using wpAny_typeOf tyM, gather_map W hT st hfp hM hn
  intro h' tk acc hk hacc
  refine wpAny_bind (m := Builtin.Tuple.tupleExact acc.toList.toArray) ?_
  unfold Builtin.Tuple.tupleExact
  rw [Array.toArray_toList]
  exact wpAny_newObj_type (wpAny_pure (hQ h' tk acc hk hacc)) (by show acc.size ≤ sizeLine; rw [hacc.1]; exact hn)
theorem tuple_map {Q : Value → Shared → Prop} (W : Walks prog w A.in1.in1.in1 M fp wr n P St) (hT : ∀ i h, St i h → ∃ o, h.get? M = some o ∧ o.cls = .type "map") (st : St 0 s.heap) (hfp : ∀ b ∈ fp, b < s.heap.objs.size) (hM : M ∈ fp) (hn : n ≤ sizeLine)
    (hQ : ∀ (h' : Heap) tk acc, (∀ b o, b ∉ wr → s.heap.get? b = some o → h'.get? b = some o) → ItemsOf P acc n → Q (.ref h'.objs.size) { s with heap := h'.push { cls := .type "tuple", data := .seq acc }, toks := tk }) :
    wpAny (model prog w) A (call (.type "tuple") [.ref M]) Q E s := by
  refine callType_codes (Q₁ := fun obj s₁ => s₁.TypeIs obj "tuple" ∧ Q obj s₁) F.called_tuple (F.typeCall_tuple_1 _) F.entry_object_init (new_tuple_map W hT st hfp hM hn fun h' tk acc hk hacc => ⟨⟨_, Heap.get?_push_size _ rfl, rfl⟩, hQ h' tk acc hk hacc⟩) fun obj s₁ h₁ => ?_
  exact ⟨h₁.1, F.args_object_init_2 obj _, object_init_meets F.called_tuple.init.lookup F.called_tuple.made (by decide) prog w A.in1 _ s₁ ⟨h₁.1, rfl, h₁.2⟩⟩
end
end Mine

end
section
open PySem PySem.W PyProof.Rows
set_option maxRecDepth 100000
set_option maxHeartbeats 4000000
set_option linter.unusedVariables false
namespace Mine
structure MapRef (h1 href : Heap) (M T I t : Addr) (fv : Value) (vs : Array Value) : Prop where
  «at» : MapAt href M T I t fv vs 0
  keep : Keeps h1 href
  fresh : h1.get? I = none
  MI : M ≠ I
  TI : T ≠ I
  tI : t ≠ I
  lM : M < href.objs.size
  lT : T < href.objs.size
  lI : I < href.objs.size
  lt : t < href.objs.size
section
variable {w : World} {n : Nat} {sc : Scope} {σ : Sto} {A : Around} {env : Env} {h₀ : Heap} {X : Addr → Prop} {s : Shared} {E : Value → Shared → Prop}
theorem run_map {fe ae : Expr} {fv : Value} {ds : List PyData} {p1 p2 : Pos} {Q : Value → Shared → Prop} (hf : Ev w n sc σ fe (.val fv)) (ha : Ev w n sc σ ae (.dat (.tuple ds))) (hk : sc.names.lookup ("map" : Str) = some NameKind.globalImplicit)
    (R : Room n A) (F : Fit sc env) (H : EnvAt w env h₀ X s.heap σ)
    (h : ∀ (h1 href : Heap) tk' M T I t vs, Keeps s.heap h1 → EnvAt w env h₀ X h1 σ → MapRef h1 href M T I t fv vs → RdAll h1 X vs.toList ds → Q (.ref M) { s with heap := href, toks := tk' })
    (hs : ∀ env, starEach [fe, ae] env = [(false, eval fe env), (false, eval ae env)] := by intro _; rfl) : wpAny (model PG w) A (eval (.Call (.Name "map" p1) [fe, ae] [] p2) env) Q E s := by
  refine Call_Name rfl ((Ev_builtin (v := .type "map") hk rfl rfl (by decide)).run R F H fun v h0 tk0 k0 H0 rv => ?_)
  cases rv
  refine PyProof.Rows.callWith_type (by rw [hs env]; rfl) ?_
  rw [hs env]
  refine Calls.evalArgs_plain (Calls.spliced_cons (hf.run (s := { s with heap := h0, toks := tk0 }) R F H0 fun v1 h1 tk1 k1 H1 rv1 => ?_))
  cases rv1
  refine Calls.spliced_cons (ha.run (s := { s with heap := h1, toks := tk1 }) R F H1 fun v2 h2 tk2 k2 H2 rv2 => Calls.spliced_nil ?_)
  cases rv2 with | tuple hn ho ra =>
    rename_i t vs m
    have hlt := Heap.lt_size ho
    refine call_map (s := { s with heap := h2, toks := tk2 }) ho fun h3 g1 g2 g3 hz k3 => ?_
    refine h h2 h3 tk2 (h2.objs.size + 2) (h2.objs.size + 1) h2.objs.size t vs ((k0.trans k1).trans k2) H2 ⟨⟨g3, g2, ⟨_, g1, rfl, rfl⟩, ⟨_, k3 _ _ ho, rfl, _, rfl⟩⟩, k3, none_at_size' _, by simp, Nat.succ_ne_self _, Nat.ne_of_lt hlt, ?_, ?_, ?_, ?_⟩ ra
    · rw [hz]; exact Nat.lt_succ_self _
    · rw [hz]; exact Nat.lt_succ_of_lt (Nat.lt_succ_self _)
    · rw [hz]; exact Nat.lt_succ_of_lt (Nat.lt_succ_of_lt (Nat.lt_succ_self _))
    · rw [hz]; exact Nat.lt_succ_of_lt (Nat.lt_succ_of_lt (Nat.lt_succ_of_lt hlt))
theorem MapRef.walks {h1 href : Heap} {M T I t : Addr} {fv : Value} {vs : Array Value} {ds : List PyData} (m : MapRef h1 href M T I t fv vs) (G : Good w h1) (L : Alive X h1) (ra : RdAll h1 X vs.toList ds) (R : Room (n + 1) A) {tx : PyData → PyData} (hs : ∀ d ∈ ds, ∀ h h' X X' v, RdD h X v (tx d) → RdD h' X' v (tx d))
    (hc : ∀ d ∈ ds, DoesL w n (fun vs => call fv vs) [.dat d] (.dat (tx d))) :
    Walks PG w A M (List.range href.objs.size) [I] ds.length (fun i v => RdD ⟨#[], {}⟩ (fun _ => False) v (tx (ds.getD i .none))) (fun i h => MapAt h M T I t fv vs i ∧ ∀ b o, b ≠ I → href.get? b = some o → h.get? b = some o) := by
  have e : vs.size = ds.length := by have := ra.length; simpa using this
  rw [← e]
  refine Walks_map R.hh m.MI m.TI m.tI m.lM m.lT m.lI m.lt fun i x s Q E hx hk h => ?_
  obtain ⟨d, hd, rd⟩ := items_get ra (by rw [Array.getElem?_toList]; exact hx)
  have hdm : d ∈ ds := List.mem_of_getElem? hd
  have ed : ds.getD i .none = d := by rw [List.getD_eq_getElem?_getD, hd]; rfl
  have k1 : Keeps h1 s.heap := fun b o q => hk b o (fun qq => by rw [qq, m.fresh] at q; cases q) (m.keep _ _ q)
  refine hc d hdm A.in1 X s [x] Q E R.in1 (G.keeps k1) (L.keeps k1) (.cons (RdD.keeps k1.x rd) .nil) fun v h' tk' k r => h v h' tk' ?_ k
  rw [ed]
  exact hs d hdm _ _ _ _ _ r
theorem MapRef.st0 {h1 href : Heap} {M T I t : Addr} {fv : Value} {vs : Array Value} (m : MapRef h1 href M T I t fv vs) : MapAt href M T I t fv vs 0 ∧ ∀ b o, b ≠ I → href.get? b = some o → href.get? b = some o := ⟨m.at, fun _ _ _ e => e⟩
theorem str_any {x : Str} {h h' : Heap} {X X' : Addr → Prop} {v : Value} (r : RdD h X v (.str x)) : RdD h' X' v (.str x) := by cases r; exact .str _ _
theorem int_any {x : Int} {h h' : Heap} {X X' : Addr → Prop} {v : Value} (r : RdD h X v (.int x)) : RdD h' X' v (.int x) := by cases r; exact .int _ _

theorem rdAll_of_items {h : Heap} {X : Addr → Prop} : ∀ {ds : List PyData} {vs : List Value}, vs.length = ds.length → (∀ i v, vs[i]? = some v → RdD h X v (ds.getD i .none)) → RdAll h X vs ds
  | [], [], _, _ => .nil
  | d :: ds, v :: vs, hl, h => .cons (by simpa using h 0 v rfl) (rdAll_of_items (by simpa using hl) fun i v hv => by simpa using h (i + 1) v (by simpa using hv))

/-- tuple(map(f, args)), f's results texts -/
theorem Ev_tupleMap {fe ae : Expr} {fv : Value} {ds : List PyData} {p p1 p2 p3 : Pos} {tx : PyData → Str} (hf : Ev w (n + 5) sc σ fe (.val fv)) (ha : Ev w (n + 5) sc σ ae (.dat (.tuple ds))) (hk : sc.names.lookup ("map" : Str) = some NameKind.globalImplicit) (hkt : sc.names.lookup ("tuple" : Str) = some NameKind.globalImplicit) (hz : ds.length ≤ 1000000)
    (hc : ∀ d ∈ ds, DoesL w n (fun vs => call fv vs) [.dat d] (S (tx d)))
    (hs : ∀ env, starEach [fe, ae] env = [(false, eval fe env), (false, eval ae env)] := by intro _; rfl) : Ev w (n + 5) sc σ (.Call (.Name "tuple" p) [.Call (.Name "map" p1) [fe, ae] [] p2] [] p3) (.dat (.tuple (ds.map fun d => .str (tx d)))) := by
  intro A env h₀ X s Q E R F H h
  refine Call_Name rfl ((Ev_builtin (v := .type "tuple") hkt rfl rfl (by decide)).run R F H fun v h0 tk0 k0 H0 rv => ?_)
  cases rv
  refine PyProof.Rows.callWith_type rfl (Calls.evalArgs_plain (Calls.spliced_cons ?_))
  refine run_map hf ha hk (s := { s with heap := h0, toks := tk0 }) R F H0 (fun h1 href tk1 M T I t vs k1 H1 m ra => Calls.spliced_nil ?_) hs
  have W := MapRef.walks (n := n + 1) (A := A.in1.in1.in1) (tx := fun d => .str (tx d)) m H1.goodH H1.alive ra (R.in1.in1.in1) (fun d _ h h' X X' v r => str_any r) (fun d hd A X s vals Q E R => hc d hd A X s vals Q E (R.less (Nat.le_succ _)))
  refine tuple_map (s := { s with heap := href, toks := tk1 }) W (fun i hh st => ⟨_, st.1.om, rfl⟩) m.st0 (fun b hb => List.mem_range.mp hb) (List.mem_range.mpr m.lM) (small hz) fun h2 tk2 acc hk2 hacc => ?_
  have k12 : Keeps h1 h2 := fun b o e => hk2 b o (fun q => by rw [List.mem_singleton.mp q, m.fresh] at e; cases e) (m.keep _ _ e)
  refine h _ _ tk2 (((k0.trans k1).trans k12).trans (Keeps.push _ _)) (.tuple ((H1.keeps k12).new) (Heap.get?_push_size _ rfl) ?_)
  refine rdAll_of_items (by rw [Array.length_toList, hacc.1, List.length_map]) fun i v hv => ?_
  have hP := hacc.2 i v (by rw [Array.getElem?_toList] at hv; exact hv)
  have hi : i < ds.length := by
    rw [← hacc.1]
    rcases Nat.lt_or_ge i acc.size with q | q
    · exact q
    · rw [Array.getElem?_toList, Array.getElem?_eq_none q] at hv; cases hv
  have e : (ds.map fun d => PyData.str (tx d)).getD i .none = .str (tx (ds.getD i .none)) := by
    rw [List.getD_eq_getElem?_getD, List.getElem?_map, List.getD_eq_getElem?_getD, List.getElem?_eq_getElem hi]; rfl
  rw [e]
  exact str_any hP
/-- max(map(f, args)), f's results ints -/
theorem Ev_maxMap {fe ae : Expr} {fv : Value} {ds : List PyData} {p p1 p2 p3 : Pos} {tx : PyData → Int} (hf : Ev w (n + 5) sc σ fe (.val fv)) (ha : Ev w (n + 5) sc σ ae (.dat (.tuple ds))) (hk : sc.names.lookup ("map" : Str) = some NameKind.globalImplicit) (hkt : sc.names.lookup ("max" : Str) = some NameKind.globalImplicit) (hne : 0 < ds.length) (h00 : tx .none = 0)
    (hc : ∀ d ∈ ds, DoesL w n (fun vs => call fv vs) [.dat d] (I (tx d)))
    (hs : ∀ env, starEach [fe, ae] env = [(false, eval fe env), (false, eval ae env)] := by intro _; rfl) : Ev w (n + 5) sc σ (.Call (.Name "max" p) [.Call (.Name "map" p1) [fe, ae] [] p2] [] p3) (I (maxI (ds.map tx))) := by
  intro A env h₀ X s Q E R F H h
  refine Call_Name rfl ((Ev_builtin (v := .builtin "max") hkt rfl rfl (by decide)).run R F H fun v h0 tk0 k0 H0 rv => ?_)
  cases rv
  refine Calls.callWith_builtin rfl (Calls.evalArgs_plain (Calls.spliced_cons ?_))
  refine run_map hf ha hk (s := { s with heap := h0, toks := tk0 }) R F H0 (fun h1 href tk1 M T I t vs k1 H1 m ra => Calls.spliced_nil ?_) hs
  have W := MapRef.walks (n := n + 3) (A := A.in1) (tx := fun d => .int (tx d)) m H1.goodH H1.alive ra (R.in1) (fun d _ h h' X X' v r => int_any r) (fun d hd A X s vals Q E R => hc d hd A X s vals Q E (R.less (by omega)))
  refine call_max_walk (W.self 0 _ _ _ m.st0 ?_)
  have hall : ∀ k, (ds.map tx).getD k 0 = tx (ds.getD k .none) := fun k => by
    by_cases hk : k < ds.length
    · rw [List.getD_eq_getElem?_getD, List.getElem?_map, List.getD_eq_getElem?_getD, List.getElem?_eq_getElem hk]; rfl
    · rw [List.getD_eq_getElem?_getD, List.getElem?_map, List.getD_eq_getElem?_getD, List.getElem?_eq_none (Nat.le_of_not_lt hk)]; exact h00.symm
  refine ⟨_, _, _, _, _, _, fun i j => decide ((ds.map tx).getD j 0 < (ds.map tx).getD i 0), rfl, W, m.st0, (fun b hb => List.mem_range.mp hb), hne, ?_, ?_⟩
  · intro i j vi vj s' Q' E' hi hj hq
    dsimp only at hq
    rw [hall, hall] at hq
    cases hi; cases hj
    exact gt_int hq
  · intro v h' tk hv hk'
    have k12 : Keeps h1 h' := fun b o e => hk' b o (fun q => by rw [List.mem_singleton.mp q, m.fresh] at e; cases e) (m.keep _ _ e)
    refine h _ h' tk ((k0.trans k1).trans k12) ?_
    have hb := argBest_best (fun a b => decide (b < a)) 0 (ds.map tx) (ds.length - 1) (by rw [List.length_map]; omega)
    rw [Nat.sub_add_cancel hne, show (ds.map tx).take ds.length = ds.map tx from List.take_of_length_le (by simp)] at hb
    unfold maxI
    rw [← hb, hall]
    exact int_any hv
end
end Mine

end
section
open PySem PySem.W PyProof.Rows
set_option maxRecDepth 100000
set_option maxHeartbeats 4000000
set_option linter.unusedVariables false
namespace Mine
section
variable {w : World} {n : Nat} {sc : Scope} {σ : Sto} {A : Around} {env : Env} {h₀ : Heap} {X : Addr → Prop} {s : Shared} {E : Value → Shared → Prop} 
theorem Ev_free {x : Str} {pos : Pos} {a : AV} (hk : sc.names.lookup x = some .free) (hx : σ x = some a) (hd : (x == ("__debug__" : Str)) = false := by decide) (hc : (x == ("__classdict__" : Str)) = false := by decide) : Ev w n sc σ (.Name x pos) a := by
  intro A env h₀ X s Q E _ F H h
  have hk' : env.kindOf x = some .free := by unfold Env.kindOf; rw [F.scope]; exact hk
  obtain ⟨c, o, ov, h1, _, _, h4, h5, h6⟩ := H.cel x (.inr hk')
  obtain ⟨v, hv, r⟩ := h6 a hx
  refine wpAny_Name ?_ hd
  unfold loadName
  simp only [Env.blockKind, F.scope, F.kind, hk', ScopeKind.isAnnotationScope, Bool.false_and, Bool.false_eq_true, if_false, hc]
  unfold cellOf
  rw [h1]
  refine wpAny_bind (wpAny_pure ?_)
  unfold cellGet
  refine wpAny_bind (wpAny_bind (wpAny_load h4 ?_))
  rw [h5, hv]
  exact wpAny_pure (wpAny_pure (h v s.heap s.toks (Keeps.refl _) r))

/-- the table of the code at 103 -/
abbrev PT : Addr := 99
def TabOk (h : Heap) : Prop := ∃ ps, h.IsCode 103 PT ps ∧ h.TableAt 103 PT ps
/-- all is kept but the table, which may have grown -/
structure Gk (h h' : Heap) : Prop where
  keep : ∀ b o, b ≠ PT → h.get? b = some o → h'.get? b = some o
  tab : ∃ ps more, h.TableAt 103 PT ps ∧ h'.TableAt 103 PT (ps ++ more)
  ok : TabOk h'
theorem tab_eq {h : Heap} {ps qs : Array Value} (a : h.TableAt 103 PT ps) (b : h.TableAt 103 PT qs) : ps = qs := by
  have := a.2.symm.trans b.2
  simpa using this
theorem Gk.trans {a b c : Heap} (x : Gk a b) (y : Gk b c) : Gk a c := by
  obtain ⟨ps, m1, t1, t2⟩ := x.tab
  obtain ⟨qs, m2, t3, t4⟩ := y.tab
  have e := tab_eq t2 t3
  subst e
  exact ⟨fun q o hq e => y.keep q o hq (x.keep q o hq e), ⟨ps, m1 ++ m2, t1, by rw [← Array.append_assoc]; exact t4⟩, y.ok⟩
theorem Gk.of_keeps {h h' : Heap} (T : TabOk h) (k : Keeps h h') : Gk h h' := by
  obtain ⟨ps, i, t⟩ := T
  exact ⟨fun b o _ e => k b o e, ⟨ps, #[], t, by rw [Array.append_empty]; exact t.keeps k⟩, ps, i.keeps k, t.keeps k⟩
theorem Gk.refl {h : Heap} (T : TabOk h) : Gk h h := .of_keeps T (Keeps.refl _)
theorem TabOk.keeps {h h' : Heap} (T : TabOk h) (k : Keeps h h') : TabOk h' := (Gk.of_keeps T k).ok
theorem gen_code {pos : Pos} {q : Str} {scope : Scope} {Q : Value → Shared → Prop} (hc : env.code = .ref 103) (T : TabOk s.heap) (hQ : ∀ c' h' tk, Gk s.heap h' → s.heap.objs.size ≤ h'.objs.size → Q c' { s with heap := h', toks := tk }) : wpAny (model PG w) A (genexprCode env pos q scope) Q E s := by
  obtain ⟨ps, i, t⟩ := id T
  cases hf : codeAmong pos ps.toList with
  | some c' => exact wpAny_genexprCode_hit hc i hf (hQ c' s.heap s.toks (.refl T) (Nat.le_refl _))
  | none =>
    refine wpAny_genexprCodeX hc i t hf fun c' h' tk hx h1 h2 hi _ ht _ => ?_
    exact hQ _ h' tk ⟨fun b o hb e => hx b o hb e, ⟨ps, _, t, ht⟩, _, hi, ht⟩ (Nat.le_trans h1 (Nat.le_of_lt h2))
theorem Good.but {h h' : Heap} (G : Good w h) (T : TabOk h) (k : ∀ b o, b ≠ PT → h.get? b = some o → h'.get? b = some o) : Good w h' := by
  obtain ⟨ps, _, t⟩ := T
  refine ⟨fun b o e => k b o (fun q => ?_) (G.K b o e), ?_, ?_⟩
  · subst q
    have : (KF w).lookup PT = none := rfl
    rw [this] at e; cases e
  · obtain ⟨mb, ⟨o, es, ep, ho, hd, r⟩, hb⟩ := G.b
    refine ⟨mb, ⟨o, es, ep, k _ _ (fun q => ?_) ho, hd, r⟩, hb⟩
    rw [q, t.2] at ho; cases ho; cases hd
  · obtain ⟨mg, bm, ob, x⟩ := G.m
    exact ⟨mg, bm, ob, x.extBut t k⟩
theorem Gk.tabAt {h h' h2 : Heap} (g : Gk h h') (k : ∀ o, h'.get? PT = some o → h2.get? PT = some o) (k1 : ∀ o, h'.get? 103 = some o → h2.get? 103 = some o) (kk : ∀ b o, b ≠ PT → h.get? b = some o → h2.get? b = some o) : Gk h h2 := by
  obtain ⟨ps, more, t1, ⟨⟨o, vs, a, r⟩, t2⟩⟩ := g.tab
  obtain ⟨qs, i, t3⟩ := g.ok
  have e := tab_eq ⟨⟨o, vs, a, r⟩, t2⟩ t3
  refine ⟨kk, ⟨ps, more, t1, ⟨⟨o, vs, k1 _ a, r⟩, k _ t2⟩⟩, qs, ?_, ?_⟩
  · obtain ⟨o, vs, file, tf, flags, tg, inF, text, tt, op, a, r1, r2, r3, r4, r5, r6, b, r⟩ := i
    exact ⟨o, vs, file, tf, flags, tg, inF, text, tt, op, k1 _ a, r1, r2, r3, r4, r5, r6, k _ b, r⟩
  · rw [← e]; exact ⟨⟨o, vs, k1 _ a, r⟩, k _ t2⟩
end
end Mine

end
section
open PySem PySem.W PyProof.Rows
set_option maxRecDepth 100000
set_option maxHeartbeats 4000000
set_option linter.unusedVariables false
namespace Mine
section
variable {w : World} {n : Nat} {sc : Scope} {σ : Sto} {A : Around} {env : Env} {h₀ : Heap} {X : Addr → Prop} {s : Shared} {E : Value → Shared → Prop}
/-- the frame of a generator expression -/
theorem gen_env {scope : Scope} {code : Value} {h1 h2 : Heap} {C I : Addr} {m₂ : Str → Option Value} {x : Str} {v : Value} {d : PyData} (F : Fit sc env) (H1 : EnvAt w env h₀ X h1 σ) (hXP : X PT) (T1 : TabOk h1) (hP2 : (h2.get? PT).isSome)
    (k : ∀ b o, b ≠ PT → h1.get? b = some o → h2.get? b = some o) (hC : h1.objs.size ≤ C) (hn : h2.Ns C m₂) (hm : m₂ x = some v) (hv : RdD h1 X v d)
    (hkind : scope.kind = .function) (hnc : ∀ y ∈ scope.names, y.2 ≠ .cell) (hfree : ∀ y ∈ scope.names, y.2 = .free → sc.names.lookup y.1 = some .cell ∨ sc.names.lookup y.1 = some .free) (hx : scope.names.lookup x = some .local) :
    Fit scope (genEnv scope (closL env scope.names []) C code builtinsNs env) ∧ ∃ h₁, EnvAt w (genEnv scope (closL env scope.names []) C code builtinsNs env) h₁ (fun a => X a ∨ a = C) h2 ((σ.seen scope).sets [x] [.dat d]) := by
  have hCn : ∀ b o, h1.get? b = some o → b ≠ C := fun b o e q => absurd (Heap.lt_size e) (by rw [q]; exact Nat.not_lt.mpr hC)
  have kk : ∀ b o, b ≠ PT → h1.get? b = some o → (blank h2 (fun a => a = C)).get? b = some o := fun b o hb e => by rw [blank_in (D := fun a => a = C) (hCn b o e)]; exact k b o hb e
  have mono : ∀ {u : Value} {a : AV}, RdA h1 X u a → RdA h2 (fun a => X a ∨ a = C) u a := fun r => r.mono (fun b o hn e => k b o (fun q => hn (q ▸ hXP)) e) fun b hn hs q => q.elim hn fun q => by
    obtain ⟨o, ho⟩ := Option.isSome_iff_exists.mp hs; exact hCn b o ho q
  have hcells : ∀ y ∈ scope.names, y.2 = .free → ∃ c, env.cells.lookup y.1 = some c := by
    intro y hy hf
    have hk : env.kindOf y.1 = some .cell ∨ env.kindOf y.1 = some .free := by unfold Env.kindOf; rw [F.scope]; exact hfree y hy hf
    obtain ⟨c, _, _, hc, _⟩ := H1.cel y.1 hk
    exact ⟨c, hc⟩
  refine ⟨⟨rfl, hkind, F.globals, rfl⟩, blank h2 (fun a => a = C), H1.goodH.but T1 kk, blank_keeps, ?_, .inr rfl, blank_out (D := fun a => a = C) rfl, ⟨m₂, hn, ?_⟩, ?_⟩
  · rintro a (ha | rfl)
    · by_cases q : a = PT
      · rw [q]; exact hP2
      · obtain ⟨o, ho⟩ := Option.isSome_iff_exists.mp (H1.alive a ha)
        rw [k a o q ho]; rfl
    · obtain ⟨o, _, _, ho, _⟩ := hn; rw [ho]; rfl
  · intro y a e ky
    have ky : scope.names.lookup y = some .local := ky
    have e : (Sto.set (σ.seen scope) x (.dat d)) y = some a := e
    unfold Sto.set at e
    by_cases q : y = x
    · rw [if_pos q] at e; cases e
      subst q
      exact ⟨v, hm, mono (a := .dat d) hv⟩
    · rw [if_neg q] at e
      unfold Sto.seen at e
      rw [if_neg (by rw [ky]; intro q; cases q)] at e
      cases e
  · intro y ky
    have ky : scope.names.lookup y = some .cell ∨ scope.names.lookup y = some .free := ky
    have kf : scope.names.lookup y = some .free := ky.elim (fun q => absurd rfl (hnc _ (lookup_kind_mem q))) id
    have hmem := lookup_kind_mem kf
    have hk : env.kindOf y = some .cell ∨ env.kindOf y = some .free := by unfold Env.kindOf; rw [F.scope]; exact hfree _ hmem rfl
    obtain ⟨c, o, ov, g1, g2, g3, g4, g5, g6⟩ := H1.cel y hk
    obtain ⟨c', q1, q2⟩ := closL_lookup scope.names [] hcells (.inr ⟨rfl, hmem⟩)
    rw [g1] at q2; cases q2
    have hcP : c ≠ PT := fun q => by
      obtain ⟨ps, _, t⟩ := T1
      rw [q, t.2] at g4; cases g4; cases g5
    refine ⟨c, o, ov, q1, .inl g2, hCn c o g4, k c o hcP g4, g5, fun a e => ?_⟩
    have hyx : y ≠ x := fun q => by rw [q, hx] at kf; cases kf
    have e : (Sto.set (σ.seen scope) x (.dat d)) y = some a := e
    unfold Sto.set at e
    rw [if_neg hyx] at e
    unfold Sto.seen at e
    rw [if_pos kf] at e
    obtain ⟨u, hu, r⟩ := g6 a e
    exact ⟨u, hu, mono r⟩
end
end Mine

end
section
open PySem PySem.W PyProof.Rows
set_option maxRecDepth 100000
set_option maxHeartbeats 4000000
set_option linter.unusedVariables false
namespace Mine
section
variable {w : World} {n : Nat} {sc : Scope} {σ : Sto} {A : Around} {env : Env} {h₀ : Heap} {X : Addr → Prop} {s : Shared} {E : Value → Shared → Prop}
theorem passing_all (n : Nat) : passing (fun _ => true) n 0 = List.range n := by
  unfold passing
  rw [List.drop_zero, List.filter_eq_self.mpr (fun _ _ => rfl)]
/-- tuple(elt for x in args) -/
theorem gen_tuple {x : Str} {px gpos p pos : Pos} {elt iter : Expr} {scope : Scope} {ds : List PyData} {tx : PyData → Str} {Q : Value → Shared → Prop} {m : Nat}
    (R : Room (m + 1) A) (hm : m < 99) (F : Fit sc env) (H : EnvAt w env h₀ X s.heap σ) (hcode : env.code = .ref 103) (hXP : X PT) (T : TabOk s.heap) (Bg : AllBare s.gens)
    (hkt : sc.names.lookup ("tuple" : Str) = some NameKind.globalImplicit) (ha : Ev w (m + 1) sc σ iter (.dat (.tuple ds))) (hz : ds.length ≤ 1000000)
    (hkind : scope.kind = .function) (hco : scope.isCoroutine = false) (hnc : ∀ y ∈ scope.names, y.2 ≠ .cell) (h0 : scope.names.lookup (".0" : Str) = some NameKind.local) (hx : scope.names.lookup x = some .local)
    (hfree : ∀ y ∈ scope.names, y.2 = .free → sc.names.lookup y.1 = some .cell ∨ sc.names.lookup y.1 = some .free)
    (helt : ∀ d ∈ ds, Ev w m scope ((σ.seen scope).sets [x] [.dat d]) elt (S (tx d)))
    (h : ∀ v h' tk' g', Gk s.heap h' → AllBare g' → RdA h' X v (.dat (.tuple (ds.map fun d => .str (tx d)))) → Q v { s with heap := h', toks := tk', gens := g' })
    (hgf : ∀ v, genFold iter env v = pure v := by intro _; rfl) :
    wpAny (model PG w) A (eval (.Call (.Name "tuple" p) [.GeneratorExp elt [⟨.Name x px, iter, [], 0⟩] scope gpos] [] pos) env) Q E s := by
  refine Call_Name rfl ((Ev_builtin (v := .type "tuple") hkt rfl rfl (by decide)).run R F H fun v hA tkA kA HA rv => ?_)
  cases rv
  refine PyProof.Rows.callWith_type rfl (Calls.evalArgs_plain (Calls.spliced_cons ?_))
  have hcells : ∀ y ∈ scope.names, y.2 = .free → ∃ c, env.cells.lookup y.1 = some c := by
    intro y hy hf
    have hk : env.kindOf y.1 = some .cell ∨ env.kindOf y.1 = some .free := by unfold Env.kindOf; rw [F.scope]; exact hfree y hy hf
    obtain ⟨c, _, _, hc, _⟩ := H.cel y.1 hk
    exact ⟨c, hc⟩
  refine wpAny_GeneratorExp_walksQD R.hh hco (closureFor_eq hcells) hnc h0 hx hkind R.depth ?_ hgf
  refine ha.run (s := { s with heap := hA, toks := tkA }) R F HA fun u h1 tk1 k1 H1 ru => ?_
  cases ru with | tuple hnt ho ra =>
    rename_i t vs mm
    have e : vs.size = ds.length := by have := ra.length; simpa using this
    have hlt := Heap.lt_size ho
    have kS : Keeps s.heap h1 := kA.trans k1
    have T1 : TabOk h1 := T.keeps kS
    refine wpAny_pyIter_tuple (s := { s with heap := h1, toks := tk1 }) ⟨_, ho, rfl, _, rfl⟩ ?_
    have kp := Keeps.push h1 (itO t 0)
    have T2 : TabOk (h1.push (itO t 0)) := T1.keeps kp
    have H2 := H1.keeps kp
    refine ⟨H2.goodH.nolimit, gen_code (s := { s with heap := h1.push (itO t 0), toks := tk1 }) hcode T2 fun code h3 tk3 gk hsz3 => ?_⟩
    dsimp only at gk hsz3
    have hsz2 : (h1.push (itO t 0)).objs.size = h1.objs.size + 1 := Heap.size_push ..
    rw [hsz2] at hsz3
    have G3 : Good w h3 := H2.goodH.but T2 gk.keep
    have hPl : PT < h1.objs.size := by obtain ⟨ps, _, tt⟩ := T1; exact Heap.lt_size tt.2
    have htP : t ≠ PT := fun q => hnt (q ▸ hXP)
    have hIP : h1.objs.size ≠ PT := Nat.ne_of_gt hPl
    obtain ⟨mg, bm, ob, M3⟩ := G3.m
    rw [← F.globals] at M3
    refine wpAny_builtinsFor (s := { s with heap := h3, toks := tk3 }) M3.ns M3.name M3.ne M3.obj M3.cls M3.dict M3.data ?_
    have gI : h3.get? h1.objs.size = some (itO t 0) := gk.keep _ _ hIP (Heap.get?_push_size _ rfl)
    have gT : h3.get? t = some { cls := .type "tuple", data := .seq vs mm } := gk.keep _ _ htP (kp _ _ ho)
    have hstat : cStatics < h1.objs.size := by obtain ⟨_, q, _⟩ := H1.goodH.nolimit; exact q.lt
    refine ⟨h1.objs.size, [h1.objs.size, t], [h1.objs.size], vs.size, _, _, fun _ => true, fun i y => ∃ tt, y = .str (tx (ds.getD i .none)) tt, rfl, (fun A' hA' => Walks.tuple hA' h1.objs.size t (Nat.ne_of_lt hlt) vs), ⟨⟨_, gI, rfl, rfl⟩, _, gT, rfl, _, rfl⟩, ?_, G3.nolimit, ?_, ?_, ?_⟩
    · intro b hb
      rcases List.mem_cons.mp hb with rfl | hb
      · exact Nat.lt_of_lt_of_le (Nat.lt_succ_self _) hsz3
      · rcases List.mem_singleton.mp hb with rfl
        exact Nat.lt_of_lt_of_le (Nat.lt_succ_of_lt hlt) hsz3
    · intro q
      exact absurd (List.mem_singleton.mp q ▸ hstat) (Nat.lt_irrefl _)
    · intro href hhref
      refine ⟨fun A' E' i v s₂ m₂ _ _ _ _ _ _ _ => wpAny_tests_nil ⟨rfl, s₂.heap, s₂.toks, rfl, fun _ _ e => e⟩, fun A' E' i v s₂ m₂ hh' hD hU hPi _ hns hmx hkp => ?_⟩
      have hi : i < vs.size := by
        rcases Nat.lt_or_ge i vs.size with q | q
        · exact q
        · rw [Array.getElem?_eq_none q] at hPi; cases hPi
      obtain ⟨d, hd, rd⟩ := items_get ra (by rw [Array.getElem?_toList]; exact hPi)
      have hdm : d ∈ ds := List.mem_of_getElem? hd
      have ed : ds.getD i .none = d := by rw [List.getD_eq_getElem?_getD, hd]; rfl
      have k3 : ∀ b o, b ≠ h1.objs.size → h3.get? b = some o → s₂.heap.get? b = some o := fun b o hb q => hkp b (List.mem_range.mpr (Heap.lt_size q)) (fun r => hb (List.mem_singleton.mp r)) o (hhref b o q)
      have k13 : ∀ b o, b ≠ PT → h1.get? b = some o → s₂.heap.get? b = some o := fun b o hb q => k3 b o (Nat.ne_of_lt (Heap.lt_size q)) (gk.keep b o hb (kp _ _ q))
      have hP2 : (s₂.heap.get? PT).isSome := by
        obtain ⟨ps, _, tt⟩ := gk.ok
        rw [k3 _ _ (Ne.symm hIP) tt.2]; rfl
      obtain ⟨F', h₁, H'⟩ := gen_env (code := code) (C := h3.objs.size) (I := h1.objs.size) F H1 hXP T1 hP2 k13 (Nat.le_of_succ_le hsz3) hns hmx rd hkind hnc hfree hx
      have R' : Room m A' := ⟨by have := R.1; omega, by have := R.2.1; omega, fun q => absurd q (by omega), hh'⟩
      refine helt d hdm A' _ h₁ _ s₂ _ _ R' F' H' fun y h4 tk4 k4 r4 => ?_
      refine ⟨?_, h4, tk4, rfl, k4⟩
      cases r4
      exact ⟨_, by rw [ed]⟩
    · intro a h5 tk5 gs hgb hag hsz5 hk5 W hat
      refine Calls.spliced_nil ?_
      have hlen : (passing (fun _ => true) vs.size 0).length = ds.length := by rw [passing_all, List.length_range, e]
      refine call_tuple_gen W.in4_3 (fun i s' st => st.1.typeIs) hat (fun b hb => ?_) (.head _) (fun s' acc hmv hacc => ?_) (by rw [hlen]; exact small hz)
      · show b < h5.objs.size
        rw [hsz5]
        rcases List.mem_cons.mp hb with rfl | hb
        · exact Nat.lt_succ_self _
        · rcases List.mem_cons.mp hb with rfl | hb
          · exact Nat.lt_succ_of_lt hag
          · exact Nat.lt_succ_of_lt (Nat.lt_trans (List.mem_range.mp hb) hag)
      obtain ⟨hp, gg, dd, tk, oo⟩ := s'
      have e2 : dd = s.drawn := hmv.drawn
      have e3 : oo = s.os := hmv.os
      subst e2 e3
      have hb' : AllBare gg := (Bg.push hgb).moved hmv.gens
      have kh : ∀ b o, b ≠ h3.objs.size → b ≠ h1.objs.size → h3.get? b = some o → hp.get? b = some o := fun b o n1 n2 q => hmv.heap b o (fun r => (List.mem_cons.mp r).elim n1 fun r => n2 (List.mem_singleton.mp r)) (hk5 _ _ q)
      have hlow : ∀ b o, h1.get? b = some o → b ≠ h3.objs.size ∧ b ≠ h1.objs.size := fun b o q => ⟨Nat.ne_of_lt (Nat.lt_of_lt_of_le (Nat.lt_succ_of_lt (Heap.lt_size q)) hsz3), Nat.ne_of_lt (Heap.lt_size q)⟩
      have kP : ∀ b, b < h1.objs.size → ∀ o, h3.get? b = some o → (hp.push { cls := .type "tuple", data := .seq acc }).get? b = some o := fun b hb o q => Heap.get?_push_of_some _ (kh b o (Nat.ne_of_lt (Nat.lt_of_lt_of_le (Nat.lt_succ_of_lt hb) hsz3)) (Nat.ne_of_lt hb) q)
      have h103 : (103 : Nat) < h1.objs.size := by obtain ⟨ps, _, ⟨⟨o, vs, q, _⟩, _⟩⟩ := T1; exact Heap.lt_size q
      have gk0 : Gk s.heap h3 := ((Gk.of_keeps T kS).trans (Gk.of_keeps T1 kp)).trans gk
      have kfin : ∀ b o, b ≠ PT → h1.get? b = some o → (hp.push { cls := .type "tuple", data := .seq acc }).get? b = some o := fun b o hb q => kP b (Heap.lt_size q) o (gk.keep b o hb (kp _ _ q))
      have gkf : Gk s.heap (hp.push { cls := .type "tuple", data := .seq acc }) := gk0.tabAt (kP PT hPl) (kP 103 h103) fun b o hb q => kfin b o hb (kS _ _ q)
      refine h _ _ tk gg gkf hb' ?_
      refine .tuple (fun q => ?_) (Heap.get?_push_size _ rfl) (rdAll_of_items ?_ fun i v hv => ?_)
      · obtain ⟨o, hoo⟩ := Option.isSome_iff_exists.mp (H1.alive _ q)
        by_cases qq : hp.objs.size = PT
        · obtain ⟨ps, _, tt⟩ := gk.ok
          have := kh PT _ (Nat.ne_of_lt (Nat.lt_of_lt_of_le (Nat.lt_succ_of_lt hPl) hsz3)) (Nat.ne_of_lt hPl) tt.2
          have := Heap.lt_size this
          rw [← qq] at this
          exact Nat.lt_irrefl _ this
        · have hl := hlow _ _ hoo
          have := Heap.lt_size (kh _ o hl.1 hl.2 (gk.keep _ o qq (kp _ _ hoo)))
          exact Nat.lt_irrefl _ this
      · rw [Array.length_toList, hacc.1, hlen, List.length_map]
      · obtain ⟨j, hj, tt, rfl⟩ := hacc.2 i v (by rw [Array.getElem?_toList] at hv; exact hv)
        rw [passing_all] at hj
        have hji : j = i ∧ i < vs.size := by
          by_cases q : i < vs.size
          · rw [List.getElem?_range q] at hj; cases hj; exact ⟨rfl, q⟩
          · rw [List.getElem?_eq_none (by rw [List.length_range]; exact Nat.le_of_not_lt q)] at hj; cases hj
        obtain ⟨rfl, hi⟩ := hji
        have e4 : (ds.map fun d => PyData.str (tx d)).getD j .none = .str (tx (ds.getD j .none)) := by
          rw [List.getD_eq_getElem?_getD, List.getElem?_map, List.getD_eq_getElem?_getD, List.getElem?_eq_getElem (by omega)]; rfl
        rw [e4]
        exact .str _ _
end
end Mine

end
section
open PySem PySem.W PyProof.Rows
set_option maxRecDepth 100000
set_option maxHeartbeats 8000000
set_option linter.unusedVariables false
namespace Mine
def FnG (w : World) (n : Nat) (f : Addr) (as : List AV) (r : AV) : Prop :=
  ∀ (A : Around) (X : Addr → Prop) (s : Shared) (vals : List Value) (Q : Value → Shared → Prop) (E : Value → Shared → Prop), Room n A → Good w s.heap → Alive X s.heap → X PT → TabOk s.heap → AllBare s.gens → RdAs s.heap X vals as →
    (∀ v h' tk' g', Gk s.heap h' → AllBare g' → RdA h' X v r → Q v { s with heap := h', toks := tk', gens := g' }) → wpAny (model PG w) A (call (.ref f) vals) Q E s
def BodyG (w : World) (n : Nat) (sc : Scope) (c : Value) (σ : Sto) (body : List Stmt) (r : AV) : Prop :=
  ∀ (A : Around) (env : Env) (h₀ : Heap) (X : Addr → Prop) (s : Shared) (Q : Flow → Shared → Prop) (E : Value → Shared → Prop), Room n A → Fit sc env → env.code = c → Own env h₀ → EnvAt w env h₀ X s.heap σ → X PT → TabOk h₀ → AllBare s.gens →
    (∀ v h' tk' g', Gk h₀ h' → AllBare g' → RdA h' X v r → Q (.ret v) { s with heap := h', toks := tk', gens := g' }) → Run w A body env Q E s
theorem FnG_of {w : World} {n : Nat} {f : Addr} {o : Obj} {fd : FuncData} {body : List Stmt} {xs : List Str} {as as' : List AV} {r : AV}
    (ho : (KF w).lookup f = some o) (hfd : o.data = .func fd) (hbody : fd.body = .stmts body) (hb : BodyG w n fd.scope fd.code (Sto.ofL (xs.zip as')) body r)
    (hbind : Binds w fd as xs as') (hlen : xs.length = as'.length)
    (hcode : codeIn (KF w) fd.code fd.qualname = true) (hg : fd.globals = mainGlobals) (hbi : fd.builtins = builtinsNs) (hcl : fd.closure = [])
    (hco : fd.scope.isCoroutine = false) (hgen : fd.scope.isGenerator = false) (hk : fd.scope.kind = .function)
    (hfree : ∀ p ∈ fd.scope.names, p.2 ≠ .free) (hxs : ∀ x ∈ xs, fd.scope.names.lookup x = some .local ∨ fd.scope.names.lookup x = some .cell) (hcb : ∀ p ∈ fd.scope.names, p.2 = .cell → fd.scope.names.lookup p.1 = some .cell := by decide) : FnG w (n + 1) f as r := by
  intro A X s vals Q E R G hX hXP T Bg rs h
  refine wpAny_call (codeAny_call_function R.depth (G.K _ _ ho) hfd hco hgen hbody (codeRec_of G.K hcode) ?_)
  refine hbind A.in1 X s vals _ _ G hX rs fun vals' h1 tk1 k1 rs1 => ?_
  rw [hg, hbi, hcl]
  have hlv := rdAs_len rs1
  have e2 : (xs.zip vals').map (·.2) = vals' := by rw [List.map_snd_zip]; omega
  have e1 : (xs.zip vals').map (·.1) = xs := by rw [List.map_fst_zip]; omega
  refine new_env (s := { s with heap := h1, toks := tk1 }) (as := as') (n := n) (G.keeps k1) (Alive.keeps hX k1) hk (fun x e => ?_) (fun x e => Fn_of.lookup_mem_kind e) hcb (fun p hp => hxs p.1 (List.of_mem_zip hp).1) (by rw [e2]; exact rs1) fun env X' h' tk' F hcd O hXX H => ?_
  · exact hfree _ (Fn_of.lookup_mem_kind e) rfl
  rw [e1] at H
  refine ⟨H.goodH.nolimit, codeAny_func ?_⟩
  refine hb _ env _ X' _ _ _ (R.deeper env) F hcd.1 O H (hXX _ hXP) (T.keeps k1) Bg fun v h2 tk2 g2 k2 b2 r2 => ?_
  exact h v h2 tk2 g2 ((Gk.of_keeps T k1).trans k2) b2 (r2.less hXX)
def lenI : PyData → Int
  | .str y => y.length
  | _ => 0
theorem map_lenI (ys : List Str) : (ys.map PyData.str).map lenI = ys.map fun y => (y.length : Int) := by rw [List.map_map]; rfl
def csrF (ys : List Str) (M : Int) (p : Str) : List Str :=
  if M ≤ 80 then ys
  else if 5 < 80 - (M - p.length + 5 + 12) then ys.map fun y => shortF p 5 (80 - (M - p.length + 5 + 12)) ++ Txt.slice y (some (p.length : Int)) none
  else ys.map fun y => shortF p 5 5 ++ shortF (Txt.slice y (some (p.length : Int)) none) 41 5
theorem shortF_len {x : Str} {p q : Int} (hx : x.length ≤ 200000) (hp : 0 ≤ p) (hq : 0 ≤ q) : (shortF x p q).length ≤ 500000 := by
  unfold shortF
  split
  · rename_i hc
    have hd := dtext_len (i := (x.length : Int) - p - q) (by omega) (by omega)
    rw [cat_len, cat_len, cat_len, cat_len]
    have := sl_le (l := none) (u := some p) hx
    have := sl_le (l := some ((x.length : Int) - q)) (u := none) hx
    have e1 : (Str.ofString "[").length = 1 := rfl
    have e2 : (Str.ofString " chars]").length = 7 := rfl
    omega
  · omega
def strD : PyData → Str
  | .str y => y
  | _ => ""
theorem body_csr {w : World} {n : Nat} {ds : List PyData} {ys : List Str} {M : Int} {p : Str} (hw : ∀ d ∈ ds, Wok d ∧ d.depth ≤ 60 ∧ d.shown.length ≤ 200000) (hys : ds.map PyData.shown = ys) (hne : 0 < ys.length) (hl : ys.length ≤ 1000) (hM : maxI (ys.map fun y => (y.length : Int)) = M) (hM0 : 0 ≤ M) (hM1 : M ≤ 200000)
    (hb : ∀ i, i < (minS ys).length → (∀ j, j < i → chr (minS ys) j = chr (maxS ys) j) → i < (maxS ys).length) (hp : cpre (minS ys) (maxS ys) = p) (hpl : p.length ≤ 200000) (hmn : (minS ys).length ≤ 1000000) {as : List AV}
    (hbind : ∀ fd : FuncData, (∃ o, (KF w).lookup 104 = some o ∧ o.data = .func fd) → Binds w fd as ["args"] [.dat (.tuple ds)]) :
    FnG w (n + 108) 104 as (.dat (.tuple ((csrF ys M p).map .str))) := by
  have hyl : ∀ y ∈ ys, y.length ≤ 200000 := fun y hy => by
    rw [← hys] at hy
    obtain ⟨d, hd, rfl⟩ := List.mem_map.mp hy
    exact (hw d hd).2.2
  have hdl : ds.length = ys.length := by rw [← hys, List.length_map]
  refine FnG_of (o := _) (fd := _) (body := _) (xs := ["args"]) (as' := [.dat (.tuple ds)]) rfl rfl rfl ?_ (hbind _ ⟨_, rfl, rfl⟩) rfl rfl rfl rfl rfl rfl rfl rfl ?_ ?_
  · intro A env h₀ X s Q E R F hcd O H hXP T0 Bg h
    have hmap : ds.map (fun d => PyData.str d.shown) = ys.map .str := by rw [← hys, List.map_map]; rfl
    refine st_assign (a := .dat (.tuple (ys.map .str))) ?_ (.inl rfl) R F O H fun h1 tk1 H => ?_
    · rw [← hmap]
      exact Ev_tupleMap (n := n + 102) (tx := PyData.shown) (fv := .ref 112) (Ev_glob rfl rfl) (Ev_local rfl rfl) rfl rfl (by omega) (fun d hd => fn_safe1 (n := n + 1) (hw d hd).1 (hw d hd).2.1 (hw d hd).2.2)
    refine st_assign (a := I M) ?_ (.inl rfl) R F O H fun h2 tk2 H => ?_
    · rw [← hM, ← map_lenI]
      refine Ev_maxMap (n := n + 102) (tx := lenI) (fv := .builtin "len") (Ev_builtin rfl rfl rfl (by decide)) (Ev_local rfl rfl) rfl rfl (by rw [List.length_map]; exact hne) rfl (fun d hd => ?_)
      obtain ⟨y, hy, rfl⟩ := List.mem_map.mp hd
      exact len_S (small (Nat.le_trans (hyl y hy) (by decide)))
    refine st_if (c := decide (M ≤ 80)) (EvT_cmp (Ev_local rfl rfl) (Ev_globI rfl rfl) op_le) R F H (fun hc h3 tk3 H => ?_) (fun hc h3 tk3 H => ?_)
    · refine st_return (a := .dat (.tuple ((csrF ys M p).map .str))) ?_ R F H fun v h' tk' H r => h v h' tk' _ (Gk.of_keeps T0 H.keep) Bg r
      unfold csrF
      rw [if_pos (of_decide_eq_true hc)]
      exact Ev_local rfl rfl
    have hc1 := of_decide_eq_false hc
    refine st_nil ?_
    refine st_assign (a := S p) ?_ (.inr rfl) R F O H fun h4 tk4 H => ?_
    · rw [← hp]
      exact Ev_callF (f := 97) (Ev_glob rfl rfl) rfl rfl (EvL_cons (Ev_local rfl rfl) EvL_nil) ((fn_commonprefix (n := n + 104) hne (by omega) hmn hb))
    refine st_assign (a := I p.length) (Ev_lenS (Ev_cell rfl rfl) (small (by omega)) rfl) (.inr rfl) R F O H fun h5 tk5 H => ?_
    refine st_assign (a := I (80 - (M - p.length + 5 + 12))) (Ev_bin (Ev_globI rfl rfl) (Ev_bin (Ev_bin (Ev_bin (Ev_local rfl rfl) (Ev_cell rfl rfl) op_sub) (Ev_globI rfl rfl) op_add) (Ev_globI rfl rfl) op_add) op_sub) (.inl rfl) R F O H fun h6 tk6 H => ?_
    refine st_if (c := decide ((5 : Int) < 80 - (M - p.length + 5 + 12))) (EvT_cmp (Ev_local rfl rfl) (Ev_globI rfl rfl) op_gt) R F H (fun hc h7 tk7 H => ?_) (fun hc h7 tk7 H => ?_)
    · have hc2 := of_decide_eq_true hc
      refine st_assert (e := _) ?_ R F H fun h8 tk8 H => ?_
      · have e : decide ((5 : Int) + 12 + 5 + (M - p.length) < 80) = true := decide_eq_true (by omega)
        rw [← e]
        exact EvT_cmp (Ev_bin (Ev_bin (Ev_bin (Ev_globI rfl rfl) (Ev_globI rfl rfl) op_add) (Ev_globI rfl rfl) op_add) (Ev_bin (Ev_local rfl rfl) (Ev_cell rfl rfl) op_sub) op_add) (Ev_globI rfl rfl) op_lt
      have hsl := shortF_len (p := 5) (q := 80 - (M - p.length + 5 + 12)) hpl (by decide) (by omega)
      refine st_assign (a := S (shortF p 5 (80 - (M - p.length + 5 + 12)))) (Ev_callF (f := 71) (Ev_glob rfl rfl) rfl rfl (EvL_cons (Ev_cell rfl rfl) (EvL_cons (Ev_globI rfl rfl) (EvL_cons (Ev_local rfl rfl) EvL_nil))) (fn_shorten (n := n + 106) (by omega) (by decide) (by omega))) (.inr rfl) R F O H fun h9 tk9 H => ?_
      refine wpAny_execs_cons (wpAny_Return_some ?_)
      refine gen_tuple (m := 50) (ds := ys.map .str) (tx := fun d => shortF p 5 (80 - (M - p.length + 5 + 12)) ++ Txt.slice (strD d) (some (p.length : Int)) none) (R.less (by omega)) (by decide) F H hcd hXP (T0.keeps H.keep) Bg rfl (Ev_local rfl rfl) (by rw [List.length_map]; omega) rfl rfl (by decide) rfl rfl (by decide) (fun d hd => ?_) (fun v h' tk' g' gk bg r => ?_)
      · obtain ⟨y, hy, rfl⟩ := List.mem_map.mp hd
        refine Ev_bin (Ev_free rfl rfl) (Ev_slS (Ev_local rfl rfl) (.some (Ev_free rfl rfl)) .none (small (Nat.le_trans (hyl y hy) (by decide)))) (op_cat (small ?_))
        have := sl_le (l := some (p.length : Int)) (u := none) (hyl y hy)
        omega
      · refine h v h' tk' g' ((Gk.of_keeps T0 H.keep).trans gk) bg ?_
        have e : (csrF ys M p).map PyData.str = (ys.map PyData.str).map fun d => .str (shortF p 5 (80 - (M - p.length + 5 + 12)) ++ Txt.slice (strD d) (some (p.length : Int)) none) := by
          unfold csrF
          rw [if_neg hc1, if_pos hc2, List.map_map, List.map_map]; rfl
        rw [e]; exact r
    · have hc2 := of_decide_eq_false hc
      refine st_nil ?_
      have hsl := shortF_len (p := 5) (q := 5) hpl (by decide) (by decide)
      refine st_assign (a := S (shortF p 5 5)) (Ev_callF (f := 71) (Ev_glob rfl rfl) rfl rfl (EvL_cons (Ev_cell rfl rfl) (EvL_cons (Ev_globI rfl rfl) (EvL_cons (Ev_globI rfl rfl) EvL_nil))) (fn_shorten (n := n + 106) (by omega) (by decide) (by decide))) (.inr rfl) R F O H fun h9 tk9 H => ?_
      refine wpAny_execs_cons (wpAny_Return_some ?_)
      refine gen_tuple (m := 50) (ds := ys.map .str) (tx := fun d => shortF p 5 5 ++ shortF (Txt.slice (strD d) (some (p.length : Int)) none) 41 5) (R.less (by omega)) (by decide) F H hcd hXP (T0.keeps H.keep) Bg rfl (Ev_local rfl rfl) (by rw [List.length_map]; omega) rfl rfl (by decide) rfl rfl (by decide) (fun d hd => ?_) (fun v h' tk' g' gk bg r => ?_)
      · obtain ⟨y, hy, rfl⟩ := List.mem_map.mp hd
        have hsy := sl_le (l := some (p.length : Int)) (u := none) (hyl y hy)
        refine Ev_bin (Ev_free rfl rfl) (Ev_callF (f := 71) (Ev_glob rfl rfl) rfl rfl (EvL_cons (Ev_slS (Ev_local rfl rfl) (.some (Ev_free rfl rfl)) .none (small (Nat.le_trans (hyl y hy) (by decide)))) (EvL_cons (Ev_globI rfl rfl) (EvL_cons (Ev_globI rfl rfl) EvL_nil))) (fn_shorten (n := 49) (Nat.le_trans hsy (by decide)) (by decide) (by decide))) (op_cat (small ?_))
        have := shortF_len (p := 41) (q := 5) hsy (by decide) (by decide)
        show _ + (shortF (Txt.slice y (some (p.length : Int)) none) 41 5).length ≤ _
        omega
      · refine h v h' tk' g' ((Gk.of_keeps T0 H.keep).trans gk) bg ?_
        have e : (csrF ys M p).map PyData.str = (ys.map PyData.str).map fun d => .str (shortF p 5 5 ++ shortF (Txt.slice (strD d) (some (p.length : Int)) none) 41 5) := by
          unfold csrF
          rw [if_neg hc1, if_neg hc2, List.map_map, List.map_map]; rfl
        rw [e]; exact r
  · decide
  · decide
end Mine

end
section
open PySem PySem.W PyProof.Rows
set_option maxRecDepth 100000
set_option maxHeartbeats 8000000
set_option linter.unusedVariables false
namespace Mine
theorem bind_csr {w : World} {ds : List PyData} (hd : ds.length = 1 ∨ ds.length = 2 ∨ ds.length = 3) : ∀ fd : FuncData, (∃ o, (KF w).lookup 104 = some o ∧ o.data = .func fd) → Binds w fd (ds.map .dat) ["args"] [.dat (.tuple ds)] := by
  rintro fd ⟨o, ho, hfd⟩ A X s vals Q E G hX rs h
  cases ho; cases hfd
  have hl := rdAs_len rs
  rw [List.length_map] at hl
  have fin : ∀ (hv : vals.length ≤ 3), Q ([("args" : Str)].zip [Value.ref s.heap.objs.size]) { s with heap := s.heap.push { cls := .type "tuple", data := .seq vals.toArray } } := fun hv => by
    have kp := Keeps.push s.heap { cls := .type "tuple", data := .seq vals.toArray }
    exact h [.ref s.heap.objs.size] _ s.toks kp (.cons (RdD.tuple (Alive.new hX) (Heap.get?_push_size _ rfl) (by simpa using rs.all.keeps kp.x)) .nil)
  match vals, ds, hl with
  | [a], [_], _ =>
    refine wpAny_bind (m := newTuple [a]) (wpAny_newObj_type (wpAny_of_eq rfl (fin (by simp))))
  | [a, b], [_, _], _ =>
    refine wpAny_bind (m := newTuple [a, b]) (wpAny_newObj_type (wpAny_of_eq rfl (fin (by simp))))
  | [a, b, c], [_, _, _], _ =>
    refine wpAny_bind (m := newTuple [a, b, c]) (wpAny_newObj_type (wpAny_of_eq rfl (fin (by simp))))
  | [], [], _ => simp at hd
  | _ :: _ :: _ :: _ :: _, _ :: _ :: _ :: _ :: _, _ => simp at hd
theorem fn_csr {w : World} {n : Nat} {ds : List PyData} {ys : List Str} {M : Int} {p : Str} (hd : ds.length = 1 ∨ ds.length = 2 ∨ ds.length = 3) (hw : ∀ d ∈ ds, Wok d ∧ d.depth ≤ 60 ∧ d.shown.length ≤ 200000) (hys : ds.map PyData.shown = ys) (hM : maxI (ys.map fun y => (y.length : Int)) = M) (hM0 : 0 ≤ M) (hM1 : M ≤ 200000)
    (hb : ∀ i, i < (minS ys).length → (∀ j, j < i → chr (minS ys) j = chr (maxS ys) j) → i < (maxS ys).length) (hp : cpre (minS ys) (maxS ys) = p) (hpl : p.length ≤ 200000) (hmn : (minS ys).length ≤ 1000000) :
    FnG w (n + 108) 104 (ds.map .dat) (.dat (.tuple ((csrF ys M p).map .str))) := by
  have e : ds.length = ys.length := by rw [← hys, List.length_map]
  exact body_csr hw hys (by omega) (by omega) hM hM0 hM1 hb hp hpl hmn (bind_csr hd)
end Mine

end
section
open PySem PySem.W PyProof.Rows
set_option maxRecDepth 100000
set_option maxHeartbeats 4000000
set_option linter.unusedVariables false
namespace Mine
open AutoSeq1 (wpAny_loadPart')
open SeqAt
/-- the first place from i on at which e holds -/
def nxt (e : Value → Bool) (items : Array Value) (i : Nat) : Option Nat := ((List.range items.size).drop i).find? fun j => e (items.getD j .none)
theorem nxt_end {e : Value → Bool} {items : Array Value} {i : Nat} (h : items.size ≤ i) : nxt e items i = none := by
  unfold nxt; rw [List.drop_of_length_le (by simpa using h)]; rfl
theorem nxt_here {e : Value → Bool} {items : Array Value} {i : Nat} (h : i < items.size) : nxt e items i = if e items[i] then some i else nxt e items (i + 1) := by
  unfold nxt
  rw [range_drop h, List.find?_cons]
  have : items.getD i .none = items[i] := by simp [Array.getD, h]
  rw [this]
  cases e items[i] <;> rfl
theorem rm_loop (l : Addr) (items : Array Value) (n : Nat) (x : Value) (e : Value → Bool) (hs1 : items.size ≤ sizeLine) (k : Nat) :
    ∀ i : Nat, items.size - i = k → Meets (Builtin.«list.remove.loop» ⟨[.ref l, x, rawInt i], []⟩)
      (fun A R s => s.heap.get? l = some { cls := .type "list", dict := none, data := .seq items n, slots := #[] } ∧ (∀ y, y ∈ items → EqAt A.in1 s y x (e y)) ∧
        (∀ j, nxt e items i = some j → R (.ok (.ret .none)) { s with heap := s.heap.update l (Obj.mapSeq fun xs => xs.eraseIdxIfInBounds j) }) ∧ (nxt e items i = none → raisesNew "ValueError" A R s)) := by
  induction k with
  | zero =>
    intro i hk prog w A R s h
    obtain ⟨hp, g, d, tk, os⟩ := s; obtain ⟨hl, he, h1, h2⟩ := h
    have h2 := h2 (nxt_end (by omega))
    wp_walk using wpAny_loadPart' hl
    have hi : items[((i : Nat) : Int).toNat]? = none := by simp; omega
    rw [hi]
    wp_walk
    exact_raiseError plainExc_ValueError h2.1 h2.2
  | succ k ih =>
    intro i hk prog w A R s h
    obtain ⟨hp, g, d, tk, os⟩ := s; obtain ⟨hl, he, h1, h2⟩ := h
    have hlt : i < items.size := by omega
    rw [nxt_here hlt] at h1 h2
    wp_walk using wpAny_loadPart' hl
    have hi : items[((i : Nat) : Int).toNat]? = some items[i] := by simp [hlt]
    have hc : ((i : Int) + 1) = ((i + 1 : Nat) : Int) := by push_cast; rfl
    rw [hi]
    refine wpAny_bind (he _ (Array.getElem_mem hlt) prog w _ _ ?_)
    cases hb : e items[i] with
    | true =>
      rw [hb] at h1
      have hz' : (items.eraseIdxIfInBounds i).size ≤ sizeLine + 1 := Nat.le_trans (MeetsSeq.size_erased items _) (Nat.le_succ_of_le hs1)
      have h1 := h1 i rfl
      wp_walk using (wpAny_updateSeq hl rfl (hz := hs1) (_hz' := hz'))
      exact h1
    | false =>
      rw [hb] at h1 h2
      wp_walk
      rw [hc]
      exact ⟨plainId_quiet MeetsSeq.plain_remove_loop _, codeAny_builtin MeetsSeq.entry_remove_loop (by
        rw [Around.under_plainId MeetsSeq.plain_remove_loop _]
        exact ih (i + 1) (by omega) prog w A R _ ⟨hl, he, h1, h2⟩)⟩
theorem rm_at (l : Addr) (items : Array Value) (n : Nat) (x : Value) (e : Value → Bool) (hs1 : items.size ≤ sizeLine) : Meets (Builtin.«list.remove» ⟨[.ref l, x], []⟩)
      (fun A R s => s.heap.get? l = some { cls := .type "list", dict := none, data := .seq items n, slots := #[] } ∧ (∀ y, y ∈ items → EqAt A.in1 s y x (e y)) ∧
        (∀ j, nxt e items 0 = some j → R (.ok (.ret .none)) { s with heap := s.heap.update l (Obj.mapSeq fun xs => xs.eraseIdxIfInBounds j) }) ∧ (nxt e items 0 = none → raisesNew "ValueError" A R s)) := by
  intro prog w A R s h
  obtain ⟨hp, g, d, tk, os⟩ := s; obtain ⟨hl, h⟩ := h
  wp_walk using wpAny_loadPart' hl
  exact ⟨plainId_quiet MeetsSeq.plain_remove_loop _, codeAny_builtin MeetsSeq.entry_remove_loop (by
    rw [Around.under_plainId MeetsSeq.plain_remove_loop _]
    exact rm_loop l items n x e hs1 _ 0 rfl prog w A R _ ⟨hl, h⟩)⟩
end Mine

end
section
open PySem PySem.W PyProof.Rows
set_option maxRecDepth 100000
set_option maxHeartbeats 4000000
set_option linter.unusedVariables false
namespace Mine
/-- kept, but for the slots of the frames -/
structure Sl (fs : List Addr) (h h' : Heap) : Prop where
  keep : ∀ b o, b ∉ fs → h.get? b = some o → h'.get? b = some o
  slot : ∀ b o, b ∈ fs → h.get? b = some o → ∃ sl, h'.get? b = some { o with slots := sl }
theorem Sl.refl {fs : List Addr} (h : Heap) : Sl fs h h := ⟨fun _ _ _ e => e, fun _ o _ e => ⟨o.slots, e⟩⟩
theorem Sl.of {fs : List Addr} {h h' : Heap} (k : Keeps h h') : Sl fs h h' := ⟨fun _ _ _ e => k _ _ e, fun _ o _ e => ⟨o.slots, k _ _ e⟩⟩
theorem Sl.trans {fs : List Addr} {a b c : Heap} (x : Sl fs a b) (y : Sl fs b c) : Sl fs a c := ⟨fun q o hq e => y.keep q o hq (x.keep q o hq e), fun q o hq e => by
  obtain ⟨sl, e1⟩ := x.slot q o hq e
  obtain ⟨sl2, e2⟩ := y.slot q _ hq e1
  exact ⟨sl2, e2⟩⟩
theorem Sl.some {fs : List Addr} {h h' : Heap} (x : Sl fs h h') {b : Addr} {o : Obj} (e : h.get? b = some o) : ∃ sl, h'.get? b = some { o with slots := sl } := by
  by_cases q : b ∈ fs
  · exact x.slot b o q e
  · exact ⟨o.slots, x.keep b o q e⟩
section
variable {w : World} {n : Nat} {sc : Scope} {σ : Sto} {A : Around} {env : Env} {h₀ h h' : Heap} {X : Addr → Prop} {s : Shared} {E : Value → Shared → Prop} {fs : List Addr}
theorem EnvAt.slots (H : EnvAt w env h₀ X h σ) (k : Sl fs h h') (hfX : ∀ b ∈ fs, X b) (hg : ∀ b ∈ fs, h₀.get? b = none) : EnvAt w env h₀ X h' σ := by
  have kx : KeepsX X h h' := fun b o hn e => k.keep b o (fun q => hn (hfX b q)) e
  refine ⟨H.good, fun b o e => k.keep b o (fun q => by rw [hg b q] at e; cases e) (H.keep _ _ e), fun a ha => ?_, H.hidL, H.above, ?_, fun y ky => ?_⟩
  · obtain ⟨o, ho⟩ := Option.isSome_iff_exists.mp (H.alive a ha)
    obtain ⟨sl, e⟩ := k.some ho
    rw [e]; rfl
  · obtain ⟨m, ⟨o, es, ep, ho, hd, r⟩, hr⟩ := H.loc
    obtain ⟨sl, e⟩ := k.some ho
    refine ⟨m, ⟨_, es, ep, e, hd, r⟩, fun y a e kk => ?_⟩
    obtain ⟨v, hv, rv⟩ := hr y a e kk
    exact ⟨v, hv, rv.keeps kx⟩
  · obtain ⟨c, o, ov, g1, g2, g3, g4, g5, g6⟩ := H.cel y ky
    obtain ⟨sl, e⟩ := k.some g4
    refine ⟨c, _, ov, g1, g2, g3, e, g5, fun a e => ?_⟩
    obtain ⟨v, hv, rv⟩ := g6 a e
    exact ⟨v, hv, rv.keeps kx⟩
theorem ld_local {x : Str} {pos : Pos} {a : AV} {Q : Value → Shared → Prop} (F : Fit sc env) (H : EnvAt w env h₀ X s.heap σ) (hk : sc.names.lookup x = some .local) (hx : σ x = some a) (h : ∀ v, RdA s.heap X v a → Q v s) (hd : (x == ("__debug__" : Str)) = false := by decide) : wpAny (model PG w) A (eval (.Name x pos) env) Q E s := by
  have hk' : env.kindOf x = some .local := by unfold Env.kindOf; rw [F.scope]; exact hk
  obtain ⟨m, hm, hr⟩ := H.loc
  obtain ⟨v, hv, r⟩ := hr x a hx hk'
  refine wpAny_Name ?_ hd
  exact wpAny_loadName_local (by rw [F.scope]; exact F.kind) hk' hm hv (h v r)
theorem ld_builtin {x : Str} {pos : Pos} {v : Value} {Q : Value → Shared → Prop} (F : Fit sc env) (G : Good w s.heap) (hk : sc.names.lookup x = some .globalImplicit) (hx : nsIn (KF w) mainGlobals x = some none) (hb : bootBuiltins x = some v) (hn : x ≠ "__name__") (h : Q v s) (hd : (x == ("__debug__" : Str)) = false := by decide) : wpAny (model PG w) A (eval (.Name x pos) env) Q E s := by
  have hk' : env.kindOf x = some .globalImplicit := by unfold Env.kindOf; rw [F.scope]; exact hk
  refine Calls.Name_function_global (by rw [F.scope]; exact F.kind) hk' ?_ hd
  unfold loadGlobal
  rw [F.globals]
  refine wpAny_bind (Looks.here (looks_nsIn G.K hx) ?_)
  obtain ⟨mb, hm, hmb⟩ := G.b
  rw [F.builtins]
  refine wpAny_bind (wpAny_nsGet hm ?_)
  rw [hmb x hn, hb]
  exact wpAny_pure h

/-- a new exception is noted in the frame -/
theorem note_new {outer : List Env} {L e : Addr} {Q : Unit → Shared → Prop} (hfr : A.frames = some (env :: outer)) (hf : env.frame = some L) (hl : h.FunFrames (blank h fun a => a ∈ (env :: outer).filterMap (·.frame)) (env :: outer)) (hx : Heap.NewExc h s.heap e "ValueError")
    (hQ : ∀ h' a0, Sl ((env :: outer).filterMap (·.frame)) h h' → h.get? e = none → h'.TracedAtW (blank h fun a => a ∈ (env :: outer).filterMap (·.frame)) e (.type "ValueError") a0 (rawInt L) → h'.FunFrames (blank h fun a => a ∈ (env :: outer).filterMap (·.frame)) (env :: outer) → Q () { s with heap := h' }) : wpAny (model PG w) A (noteFrame (.ref e) env) Q E s := by
  obtain ⟨ob, t, he, hc, hd⟩ := hx.there
  have hen : (blank h fun a => a ∈ (env :: outer).filterMap (·.frame)).get? e = none := by
    cases q : (blank h fun a => a ∈ (env :: outer).filterMap (·.frame)).get? e with
    | none => rfl
    | some o => have := blank_keeps _ _ q; rw [hx.new] at this; cases this
  unfold noteFrame
  simp only [hf]
  refine wpAny_bind (wpAny_field he hd (x := Value.none) rfl ?_)
  rw [if_neg (by decide)]
  refine wpAny_entryW (base := blank h fun a => a ∈ (env :: outer).filterMap (·.frame)) (a0 := t) hfr (hl.of_keeps fun b o hb _ => ⟨o, hx.keeps b o hb, rfl⟩) hf he (fun b o q => hx.keeps b o (blank_keeps _ _ q)) hen hd (by simp) rfl fun h' hN => ?_
  obtain ⟨k1, k2, k3, k4⟩ := hN
  rw [hc] at k3
  refine hQ h' t ⟨fun b o hb q => k1 b o (by rw [blank_in hb]; exact q), fun b o hb q => ?_⟩ hx.new k3 k2
  obtain ⟨_, o', ho', hnf⟩ := hl.mem hb
  rw [q] at ho'; cases ho'
  exact k4 b o (hx.keeps b o q) hnf
/-- and its flight is over -/
theorem flight_none {l : List Env} {e : Addr} {cls a0 fl : Value} {hb : Heap} {Q : Unit → Shared → Prop} (k : Sl (l.filterMap (·.frame)) hb s.heap) (hl : s.heap.FunFrames (blank hb fun a => a ∈ l.filterMap (·.frame)) l) (ht : s.heap.TracedAtW (blank hb fun a => a ∈ l.filterMap (·.frame)) e cls a0 fl)
    (hlb : hb.FunFrames (blank hb fun a => a ∈ l.filterMap (·.frame)) l)
    (hQ : ∀ h', Sl (l.filterMap (·.frame)) hb h' → h'.FunFrames (blank hb fun a => a ∈ l.filterMap (·.frame)) l → h'.TracedW (blank hb fun a => a ∈ l.filterMap (·.frame)) e cls a0 → Q () { s with heap := h' }) : wpAny (model PG w) A (setFlight (.ref e) none) Q E s := by
  refine wpAny_setFlight_noneW (fun b o q => k.keep b o (fun m => by rw [blank_out (D := fun a => a ∈ l.filterMap (·.frame)) m] at q; cases q) (blank_keeps _ _ q)) hl ht fun h' k1 k2 k3 k4 => hQ h' ⟨fun b o hb' q => k1 b o (by rw [blank_in hb']; exact q), fun b o hb' q => ?_⟩ k2 k3
  obtain ⟨sl, e1⟩ := k.slot b o hb' q
  obtain ⟨_, o', ho', hnf⟩ := hlb.mem hb'
  rw [q] at ho'; cases ho'
  exact ⟨sl, k4 b _ e1 hnf⟩
end
end Mine

end
section
open PySem PySem.W PyProof.Rows
set_option maxRecDepth 100000
set_option maxHeartbeats 4000000
set_option linter.unusedVariables false
namespace Mine
theorem rdAll_concat {h : Heap} {X : Addr → Prop} {d : PyData} : ∀ {xs : List PyData} {vs : List Value}, RdAll h X vs (xs ++ [d]) → ∃ us v, vs = us ++ [v] ∧ RdAll h X us xs ∧ RdD h X v d
  | [], _, .cons a .nil => ⟨[], _, rfl, .nil, a⟩
  | _ :: xs, _, .cons a b => by
    obtain ⟨us, v, rfl, r1, r2⟩ := rdAll_concat b
    exact ⟨_ :: us, v, rfl, .cons a r1, r2⟩
theorem rdAll_erase {h : Heap} {X : Addr → Prop} : ∀ {xs : List PyData} {vs : List Value} (j : Nat), RdAll h X vs xs → RdAll h X (vs.eraseIdx j) (xs.eraseIdx j)
  | [], _, _, .nil => .nil
  | _ :: xs, _, 0, .cons a b => b
  | _ :: xs, _, j + 1, .cons a b => .cons a (rdAll_erase j b)
section
variable {w : World} {n : Nat} {sc : Scope} {σ : Sto} {A : Around} {env : Env} {h₀ : Heap} {X : Addr → Prop} {s : Shared} {E : Value → Shared → Prop}
theorem own_pop {x : Str} {p apos pos : Pos} {l : Addr} {xs : List PyData} {d : PyData} {Q : Value → Shared → Prop} (F : Fit sc env) (H : EnvAt w env h₀ X s.heap σ) (hk : sc.names.lookup x = some .local) (hx : σ x = some (.val (.ref l))) (hl : X l) (L : Lst s.heap X l (xs ++ [d])) (hz : xs.length ≤ 1000)
    (h : ∀ v h', Heap.SameBut l s.heap h' → RdD h' X v d → Lst h' X l xs → Q v { s with heap := h' }) (hd : (x == ("__debug__" : Str)) = false := by decide)
    (hbase : ∀ env, attributeBase (.Name x p) "pop" env (eval (.Name x p) env) = eval (.Name x p) env := by intro _; rfl) (hline : (apos.endLine == pos.line) = true := by rfl) :
    wpAny (model PG w) A (eval (.Call (.Attribute (.Name x p) "pop" apos) [] [] pos) env) Q E s := by
  refine Call_method0 (hbase env) hline (ld_local F H hk hx (fun v rv => ?_) hd)
  cases rv
  obtain ⟨vs, m, ho, ra⟩ := L
  obtain ⟨us, v, e, r1, r2⟩ := rdAll_concat ra
  obtain ⟨lv⟩ := vs
  have e : lv = us ++ [v] := e
  subst e
  refine ⟨"list", "list.pop", _root_.PySem.F.plainAttrs_list, _root_.PySem.F.slot_list_pop, _root_.PySem.F.type_list_pop, ⟨_, ho, rfl⟩, fun l' e => by cases e; exact ⟨_, ho, rfl⟩, ?_⟩
  refine Calls.callWith_builtin rfl (wpAny_of_eq (a := ⟨[], []⟩) rfl ?_)
  have hsz : (us ++ [v]).toArray.size = us.length + 1 := by simp
  have hul : us.length = xs.length := r1.length
  have hy : (us ++ [v]).toArray[(us ++ [v]).toArray.size - 1]? = some v := by simp
  refine call_meets _root_.PySem.F.slot_list_pop ⟨_, ho, rfl⟩ _root_.PySem.F.entry_list_pop (_root_.PySem.F.args_list_pop_1 _) (MeetsSeq.list_pop_last l _ m v hy (by rw [hsz]; exact small (by omega))) ⟨ho, ?_⟩
  obtain ⟨m', hm'⟩ := mapSeq_get (f := fun z => z.eraseIdxIfInBounds ((us ++ [v]).toArray.size - 1)) ho
  have sb : Heap.SameBut l s.heap (s.heap.update l (Obj.mapSeq fun z => z.eraseIdxIfInBounds ((us ++ [v]).toArray.size - 1))) := Heap.SameBut.update ..
  have kx : KeepsX X s.heap _ := .sameBut sb hl
  refine h v _ sb (r2.keeps kx) ⟨_, m', hm', ?_⟩
  have e2 : ((us ++ [v]).toArray.eraseIdxIfInBounds ((us ++ [v]).toArray.size - 1)).toList = us := by
    rw [hsz]
    simp [Array.eraseIdxIfInBounds, List.eraseIdx_append_of_length_le]
  rw [e2]
  exact r1.keeps kx
theorem own_append {x y : Str} {p q apos pos : Pos} {l : Addr} {ds : List PyData} {d : PyData} {Q : Value → Shared → Prop} (F : Fit sc env) (H : EnvAt w env h₀ X s.heap σ) (hk : sc.names.lookup x = some .local) (hx : σ x = some (.val (.ref l))) (hky : sc.names.lookup y = some .local) (hy : σ y = some (.dat d)) (hl : X l) (L : Lst s.heap X l ds) (hz : ds.length ≤ 1000)
    (h : ∀ h', Heap.SameBut l s.heap h' → Lst h' X l (ds ++ [d]) → Q .none { s with heap := h' }) (hd : (x == ("__debug__" : Str)) = false := by decide) (hdy : (y == ("__debug__" : Str)) = false := by decide)
    (hbase : ∀ env, attributeBase (.Name x p) "append" env (eval (.Name x p) env) = eval (.Name x p) env := by intro _; rfl) (hline : (apos.endLine == pos.line) = true := by rfl) :
    wpAny (model PG w) A (eval (.Call (.Attribute (.Name x p) "append" apos) [.Name y q] [] pos) env) Q E s := by
  refine Call_method1 (hbase env) rfl hline (ld_local F H hk hx (fun v rv => ?_) hd)
  cases rv
  obtain ⟨vs, m, ho, ra⟩ := L
  refine ⟨"list", "list.append", _root_.PySem.F.plainAttrs_list, _root_.PySem.F.slot_list_append, _root_.PySem.F.type_list_append, ⟨_, ho, rfl⟩, fun l' e => by cases e; exact ⟨_, ho, rfl⟩, ?_⟩
  refine Calls.callWith_builtin rfl (Calls.evalArgs_plain (Calls.spliced_cons (ld_local F H hky hy (fun u ru => Calls.spliced_nil ?_) hdy)))
  have hsz : vs.size ≤ sizeLine := by have := ra.length; rw [Array.length_toList] at this; rw [this]; exact small (by omega)
  refine call_meets _root_.PySem.F.slot_list_append ⟨_, ho, rfl⟩ _root_.PySem.F.entry_list_append (_root_.PySem.F.args_list_append_2 _ _) (AutoListH.list_append_list_val_0 l vs m u hsz) ⟨ho, ?_⟩
  obtain ⟨m', hm'⟩ := mapSeq_get (f := fun x => x.push u) ho
  have sb : Heap.SameBut l s.heap (s.heap.update l (Obj.mapSeq fun x => x.push u)) := Heap.SameBut.update ..
  have kx : KeepsX X s.heap _ := .sameBut sb hl
  refine h _ sb ⟨_, m', hm', ?_⟩
  rw [Array.toList_push]
  exact (ra.keeps kx).append (.cons (RdD.keeps kx ru) .nil)
end
end Mine

end
section
open PySem PySem.W PyProof.Rows
set_option maxRecDepth 100000
set_option maxHeartbeats 4000000
set_option linter.unusedVariables false
namespace Mine
theorem find_congr {p q : Nat → Bool} : ∀ {l : List Nat}, (∀ j ∈ l, p j = q j) → l.find? p = l.find? q
  | [], _ => rfl
  | x :: l, h => by rw [List.find?_cons, List.find?_cons, h x (.head _), find_congr fun j hj => h j (.tail _ hj)]
/-- the place of the first thing that equals d -/
def rmIdx (ys : List PyData) (d : PyData) : Option Nat := (List.range ys.length).find? fun j => PyData.eqv (ys.getD j .none) d
section
variable {w : World} {n : Nat} {sc : Scope} {σ : Sto} {A : Around} {env : Env} {h₀ : Heap} {X : Addr → Prop} {s : Shared} {E : Value → Shared → Prop}
theorem nxt_rmIdx {vs : Array Value} {ys : List PyData} {as : List Addr} {d : PyData} (hc : PyData.canLayAll0 ys = true) (ra : ReadsAll s.heap vs.toList ys as) : nxt (fun y => PyData.eqv (SeqAt.readOf s.heap y) d) vs 0 = rmIdx ys d := by
  have e := SeqAt.readsAll_map ys _ _ hc ra
  have hl : vs.size = ys.length := by have := congrArg List.length e; simpa using this
  unfold nxt rmIdx
  rw [List.drop_zero, hl]
  refine find_congr fun j hj => ?_
  have hj := List.mem_range.mp hj
  have hj2 : j < vs.size := by omega
  have h1 : vs.getD j .none = vs[j] := by simp [Array.getD, hj2]
  have h2 : ys[j]? = some (SeqAt.readOf s.heap vs[j]) := by
    rw [← e, List.getElem?_map, Array.getElem?_toList, Array.getElem?_eq_getElem hj2]; rfl
  rw [h1, List.getD_eq_getElem?_getD, h2]
  rfl
theorem own_remove {x y : Str} {p q apos pos : Pos} {l : Addr} {ys : List PyData} {d : PyData} {Q : Value → Shared → Prop} (R : Room n A) (F : Fit sc env) (H : EnvAt w env h₀ X s.heap σ) (hk : sc.names.lookup x = some .local) (hx : σ x = some (.val (.ref l))) (hky : sc.names.lookup y = some .local) (hy : σ y = some (.dat d)) (hl : X l) (L : Lst s.heap X l ys) (hz : ys.length ≤ 1000) (hp : ∀ d ∈ ys, Pl d) (hpd : Pl d)
    (h : ∀ j h', rmIdx ys d = some j → Heap.SameBut l s.heap h' → Lst h' X l (ys.eraseIdx j) → Q .none { s with heap := h' }) (hE : ∀ h' tk e, rmIdx ys d = none → Heap.NewExc s.heap h' e "ValueError" → E (.ref e) { s with heap := h', toks := tk }) (hd : (x == ("__debug__" : Str)) = false := by decide) (hdy : (y == ("__debug__" : Str)) = false := by decide)
    (hbase : ∀ env, attributeBase (.Name x p) "remove" env (eval (.Name x p) env) = eval (.Name x p) env := by intro _; rfl) (hline : (apos.endLine == pos.line) = true := by rfl) :
    wpAny (model PG w) A (eval (.Call (.Attribute (.Name x p) "remove" apos) [.Name y q] [] pos) env) Q E s := by
  refine Call_method1 (hbase env) rfl hline (ld_local F H hk hx (fun v rv => ?_) hd)
  cases rv
  obtain ⟨vs, m, ho, ra⟩ := L
  refine ⟨"list", "list.remove", _root_.PySem.F.plainAttrs_list, _root_.PySem.F.slot_list_remove, _root_.PySem.F.type_list_remove, ⟨_, ho, rfl⟩, fun l' e => by cases e; exact ⟨_, ho, rfl⟩, ?_⟩
  refine Calls.callWith_builtin rfl (Calls.evalArgs_plain (Calls.spliced_cons (ld_local F H hky hy (fun u ru => Calls.spliced_nil ?_) hdy)))
  have hsz : vs.size ≤ sizeLine := by have := ra.length; rw [Array.length_toList] at this; rw [this]; exact small (by omega)
  obtain ⟨as, ra'⟩ := ra.reads
  obtain ⟨bs, rx⟩ := RdD.reads ru
  have hc : PyData.canLayAll0 ys = true := canLayAll_iff.mpr fun d hd => (hp d hd).1
  refine call_meets _root_.PySem.F.slot_list_remove ⟨_, ho, rfl⟩ _root_.PySem.F.entry_list_remove (_root_.PySem.F.args_list_remove_2 _ _) (rm_at l vs m u (fun y => PyData.eqv (SeqAt.readOf s.heap y) d) hsz) ⟨ho, fun y hy => ?_, ?_, ?_⟩
  · exact SeqAt.items_eqAt (A := A) (s := s) ra' rx hc hpd.1 (by have h1 : min (PyData.depthAll ys) d.depth ≤ d.depth := Nat.min_le_right _ _; have := hpd.2; have := R.2.1; omega) y hy
  · intro j hj
    rw [nxt_rmIdx hc ra'] at hj
    obtain ⟨m', hm'⟩ := mapSeq_get (f := fun z => z.eraseIdxIfInBounds j) ho
    have sb : Heap.SameBut l s.heap (s.heap.update l (Obj.mapSeq fun z => z.eraseIdxIfInBounds j)) := Heap.SameBut.update ..
    have kx : KeepsX X s.heap _ := .sameBut sb hl
    refine h j _ hj sb ⟨_, m', hm', ?_⟩
    have hjl : j < vs.size := by
      have h1 : j < ys.length := by
        unfold rmIdx at hj
        exact List.mem_range.mp (List.mem_of_find?_eq_some hj)
      have := ra.length; rw [Array.length_toList] at this; omega
    have e2 : (vs.eraseIdxIfInBounds j).toList = vs.toList.eraseIdx j := by
      unfold Array.eraseIdxIfInBounds
      rw [dif_pos hjl, Array.toList_eraseIdx]
    rw [e2]
    exact rdAll_erase j (ra.keeps kx)
  · intro hj
    rw [nxt_rmIdx hc ra'] at hj
    exact ⟨R.hh, fun h' tk e hx => hE h' tk e hj hx⟩
end
end Mine

end
section
open PySem PySem.W PyProof.Rows
set_option maxRecDepth 100000
set_option maxHeartbeats 4000000
set_option linter.unusedVariables false
namespace Mine
theorem sub_ve : isSubtype (.type "ValueError") (.type "BaseException") = pure true := by rw [isSubtype_type]; kernel_rfl
theorem sub_vt : isSubtype (.type ((Manifest.find? "ValueError").elim "type" fun x => x.metatype)) (.type "tuple") = pure false := by rw [isSubtype_type]; kernel_rfl
theorem sub_vv : isSubtype (.type "ValueError") (.type "ValueError") = pure true := by rw [isSubtype_type]; kernel_rfl
/-- the frames of the stack -/
def FrOk (h : Heap) (l : List Env) : Prop := ∀ e ∈ l, e.scope.kind ≠ .module ∧ ∃ L o, e.frame = some L ∧ h.get? L = some o ∧ ∀ vs, o.data ≠ .fields vs
theorem FrOk.fun {h : Heap} : ∀ {l l' : List Env}, FrOk h l → (∀ e ∈ l, e ∈ l') → h.FunFrames (blank h fun a => a ∈ l'.filterMap (·.frame)) l
  | [], _, _, _ => trivial
  | e :: l, l', x, hs => by
    obtain ⟨hk, L, o, hf, ho, hd⟩ := x e (.head _)
    refine ⟨hk, ⟨L, o, hf, blank_out (D := fun a => a ∈ l'.filterMap (·.frame)) (List.mem_filterMap.mpr ⟨e, hs e (.head _), hf⟩), ho, hd⟩, FrOk.fun (fun e' h' => x e' (.tail _ h')) fun e' h' => hs e' (.tail _ h')⟩
theorem FrOk.sl {h h' : Heap} {l : List Env} {fs : List Addr} (x : FrOk h l) (k : Sl fs h h') : FrOk h' l := fun e he => by
  obtain ⟨hk, L, o, hf, ho, hd⟩ := x e he
  obtain ⟨sl, e2⟩ := k.some ho
  exact ⟨hk, L, _, hf, e2, hd⟩
section
variable {w : World} {n : Nat} {sc : Scope} {σ : Sto} {A : Around} {env : Env} {h₀ : Heap} {X : Addr → Prop} {s : Shared} {E : Value → Shared → Prop}
theorem st_tryrm {x y z : Str} {p1 p2 p3 p4 p5 p6 p7 p8 p9 p10 p11 p12 p13 : Pos} {l2 l3 L : Addr} {outer : List Env} {ys ms : List PyData} {d : PyData} {rest : List Stmt} {Q : Flow → Shared → Prop}
    (R : Room n A) (F : Fit sc env) (H : EnvAt w env h₀ X s.heap σ) (hfr : A.frames = some (env :: outer)) (hf : env.frame = some L) (fo : FrOk s.heap (env :: outer)) (hfX : ∀ b ∈ (env :: outer).filterMap (·.frame), X b) (hg0 : ∀ b ∈ (env :: outer).filterMap (·.frame), h₀.get? b = none)
    (hk : sc.names.lookup x = some .local) (hx : σ x = some (.val (.ref l2))) (hky : sc.names.lookup y = some .local) (hy : σ y = some (.dat d)) (hkz : sc.names.lookup z = some .local) (hz : σ z = some (.val (.ref l3))) (hkv : sc.names.lookup ("ValueError" : Str) = some NameKind.globalImplicit)
    (f2 : Free env h₀ X l2) (f3 : Free env h₀ X l3) (n2 : l2 ∉ (env :: outer).filterMap (·.frame)) (n3 : l3 ∉ (env :: outer).filterMap (·.frame)) (n23 : l2 ≠ l3) (L2 : Lst s.heap X l2 ys) (L3 : Lst s.heap X l3 ms) (hlen : ys.length ≤ 1000) (hlen3 : ms.length ≤ 1000) (hp : ∀ d ∈ ys, Pl d) (hpd : Pl d)
    (h : ∀ h' tk', EnvAt w env h₀ X h' σ → (∀ b o, b ∉ (env :: outer).filterMap (·.frame) → b ≠ l2 → b ≠ l3 → s.heap.get? b = some o → h'.get? b = some o) → (∀ b o, b ∈ (env :: outer).filterMap (·.frame) → s.heap.get? b = some o → ∃ sl, h'.get? b = some { o with slots := sl }) →
      Lst h' X l2 (match rmIdx ys d with | some j => ys.eraseIdx j | none => ys) → Lst h' X l3 (match rmIdx ys d with | some _ => ms | none => ms ++ [d]) → Run w A rest env Q E { s with heap := h', toks := tk' })
    (hdx : (x == ("__debug__" : Str)) = false := by decide) (hdy : (y == ("__debug__" : Str)) = false := by decide) (hdz : (z == ("__debug__" : Str)) = false := by decide)
    (hb1 : ∀ env, attributeBase (.Name x p1) "remove" env (eval (.Name x p1) env) = eval (.Name x p1) env := by intro _; rfl) (hb2 : ∀ env, attributeBase (.Name z p2) "append" env (eval (.Name z p2) env) = eval (.Name z p2) env := by intro _; rfl)
    (hl1 : (p4.endLine == p5.line) = true := by rfl) (hl2 : (p8.endLine == p9.line) = true := by rfl)
    (hs1 : swapsWith (.Call (.Attribute (.Name x p1) "remove" p4) [.Name y p3] [] p5) none p6.line env = pure false := by rfl) (hs2 : swapsWith (.Call (.Attribute (.Name z p2) "append" p8) [.Name y p7] [] p9) none p10.line env = pure false := by rfl) :
    Run w A (.Try [.Expr (.Call (.Attribute (.Name x p1) "remove" p4) [.Name y p3] [] p5) p6] [.ExceptHandler (some (.Name "ValueError" p11)) none [.Expr (.Call (.Attribute (.Name z p2) "append" p8) [.Name y p7] [] p9) p10] p12] [] [] p13 :: rest) env Q E s := by
  have hi : interactive env = false := by unfold interactive; rw [F.scope, F.kind]; rfl
  refine wpAny_execs_cons (wpAny_Try_except ?_)
  refine wpAny_execs_cons (wpAny_Expr ?_ hi hs1)
  refine own_remove R F H hk hx hky hy f2.hid L2 hlen hp hpd (fun j h1 hj sb L2' => ?_) (fun h1 tk1 e hj hx1 => ?_) hdx hdy hb1 hl1
  · refine wpAny_execs_nil (wpAny_execs_nil ?_)
    rw [hj] at h
    refine h h1 s.toks (H.wrote f2 sb (by obtain ⟨_, _, q, _⟩ := L2'; rw [q]; rfl)) (fun b o _ hb _ q => (sb.2 b hb).trans q) (fun b o hb q => ⟨o.slots, (sb.2 b (fun qq => n2 (qq ▸ hb))).trans q⟩) L2' ?_
    exact L3.mono (fun o q => (sb.2 l3 (Ne.symm n23)).trans q) (fun b o hn q => (sb.2 b (fun qq => hn (qq ▸ f2.hid))).trans q) fun _ q _ => q
  · rw [hj] at h
    have fl := fo.fun (l' := env :: outer) (fun _ q => q)
    refine note_new (h := s.heap) (s := { s with heap := h1, toks := tk1 }) hfr hf fl hx1 fun h2 a0 k2 hen ht2 hf2 => ?_
    refine flight_none (hb := s.heap) (s := { s with heap := h2, toks := tk1 }) k2 hf2 ht2 fl fun h3 k3 hf3 ht3 => ?_
    have H3 := H.slots k3 hfX hg0
    refine wpAny_handleBy_builtin (X := "ValueError") (T := "ValueError") (b := true) sub_ve sub_vt sub_vv ?_
    refine ld_builtin (s := { s with heap := h3, toks := tk1 }) F H3.goodH hkv rfl rfl (by decide) ⟨rfl, ?_, ?_⟩
    · obtain ⟨oe, vs, T, oT, ts, he, hc, _⟩ := ht3
      exact ⟨oe, he, hc.1⟩
    rw [if_pos rfl]
    have ht3' : h3.TracedAtW (blank s.heap fun a => a ∈ (env :: outer).filterMap (·.frame)) e (.type "ValueError") a0 .none := ht3
    refine flight_none (hb := s.heap) (s := { s with heap := h3, toks := tk1 }) k3 hf3 ht3' fl fun h4 k4 hf4 ht4 => ?_
    have H4 := H.slots k4 hfX hg0
    have L3' : Lst h4 X l3 ms := L3.mono (fun o q => k4.keep l3 o n3 q) (fun b o hn q => k4.keep b o (fun qq => hn (hfX b qq)) q) fun _ q _ => q
    have L2' : Lst h4 X l2 ys := L2.mono (fun o q => k4.keep l2 o n2 q) (fun b o hn q => k4.keep b o (fun qq => hn (hfX b qq)) q) fun _ q _ => q
    refine wpAny_execs_cons (wpAny_Expr ?_ hi hs2)
    refine own_append (s := { s with heap := h4, toks := tk1 }) F H4 hkz hz hky hy f3.hid L3' hlen3 (fun h5 sb5 L5 => wpAny_execs_nil ?_) hdz hdy hb2 hl2
    refine h h5 tk1 (H4.wrote f3 sb5 (by obtain ⟨_, _, q, _⟩ := L5; rw [q]; rfl)) (fun b o hb _ hb3 q => (sb5.2 b hb3).trans (k4.keep b o hb q)) (fun b o hb q => ?_) ?_ L5
    · obtain ⟨sl, e2⟩ := k4.slot b o hb q
      exact ⟨sl, (sb5.2 b (fun qq => n3 (qq ▸ hb))).trans e2⟩
    · exact L2'.mono (fun o q => (sb5.2 l2 n23).trans q) (fun b o hn q => (sb5.2 b (fun qq => hn (qq ▸ f3.hid))).trans q) fun _ q _ => q
end
end Mine

end
section
open PySem PySem.W PyProof.Rows
set_option maxRecDepth 100000
set_option maxHeartbeats 8000000
set_option linter.unusedVariables false
namespace Mine
/-- what the loop does, from the last item on -/
def uldR : List PyData → List PyData → List PyData → List PyData × List PyData
  | [], ys, ms => (ms, ys)
  | d :: r, ys, ms => uldR r (match rmIdx ys d with | some j => ys.eraseIdx j | none => ys) (match rmIdx ys d with | some _ => ms | none => ms ++ [d])
section
variable {w : World} {n : Nat} {sc : Scope} {σ : Sto} {A : Around} {env : Env} {h₀ : Heap} {X : Addr → Prop} {s : Shared} {E : Value → Shared → Prop}
/-- x = [] -/
theorem st_new {x : Str} {p pl pos : Pos} {rest : List Stmt} {Q : Flow → Shared → Prop} (hx : sc.names.lookup x = some .local) (F : Fit sc env) (O : Own env h₀) (H : EnvAt w env h₀ X s.heap σ)
    (h : ∀ l h' tk', EnvAt w env h₀ (XU X [l]) h' (σ.set x (.val (.ref l))) → s.heap.get? l = none → Free env h₀ (XU X [l]) l → Lst h' (XU X [l]) l [] → (∀ b o, b ≠ env.locals → s.heap.get? b = some o → h'.get? b = some o) → Run w A rest env Q E { s with heap := h', toks := tk' })
    (hsw : swapsWith (.List [] pl) (some (.Name x p)) pos.line env = pure false := by rfl) : Run w A (.Assign [.Name x p] (.List [] pl) pos :: rest) env Q E s := by
  refine wpAny_execs_cons (wpAny_Assign_Name (wpAny_List (wpAny_items_nil ⟨by rw [sizeLine_eq]; decide, ?_⟩)) hsw)
  generalize hl : s.heap.objs.size = l at *
  have kp := Keeps.push s.heap { cls := .type "list", data := .seq #[] }
  have hnl : s.heap.get? l = none := by rw [← hl]; exact none_at_size' _
  have hgl : (s.heap.push { cls := .type "list", data := .seq #[] }).get? l = some { cls := .type "list", data := .seq #[] } := by rw [← hl]; exact Heap.get?_push_size _ rfl
  have H2 : EnvAt w env h₀ (XU X [l]) (s.heap.push { cls := .type "list", data := .seq #[] }) σ := H.grow kp (fun b hb => by rcases List.mem_singleton.mp hb with rfl; exact hnl) (fun b hb => by rcases List.mem_singleton.mp hb with rfl; rw [hgl]; rfl)
  have f : Free env h₀ (XU X [l]) l := by
    refine ⟨.inr (.head _), fun m => ?_, ?_⟩
    · have := H.alive l (m.x (H.cells O) H)
      rw [hnl] at this; cases this
    · cases q : h₀.get? l with
      | none => rfl
      | some o => have := H.keep _ _ q; rw [hnl] at this; cases this
  refine store_localS (s := { s with heap := s.heap.push { cls := .type "list", data := .seq #[] } }) (a := .val (.ref l)) F H2 hx rfl fun h4 tk4 H4 kx4 sb4 => h l h4 tk4 H4 hnl f ⟨#[], 0, ?_, .nil⟩ fun b o hb q => (sb4.2 b hb).trans (kp _ _ q)
  exact (sb4.2 l (fun e => f.not (.inl e))).trans hgl
end
end Mine

end
section
open PySem PySem.W PyProof.Rows
set_option maxRecDepth 100000
set_option maxHeartbeats 8000000
set_option linter.unusedVariables false
namespace Mine
theorem uldR_nil (ys ms : List PyData) : uldR [] ys ms = (ms, ys) := rfl
theorem pl_erase {ys : List PyData} {d : PyData} (h : ∀ d ∈ ys, Pl d) : ∀ e ∈ (match rmIdx ys d with | some j => ys.eraseIdx j | none => ys), Pl e := fun e he => by
  split at he
  · exact h e (List.mem_of_mem_eraseIdx he)
  · exact h e he
theorem len_erase {ys : List PyData} {d : PyData} : (match rmIdx ys d with | some j => ys.eraseIdx j | none => ys).length ≤ ys.length := by
  split
  · exact List.length_eraseIdx_le ys _
  · exact Nat.le_refl _
theorem fn_uld {w : World} {n : Nat} {A : Around} {X : Addr → Prop} {s : Shared} {l1 l2 : Addr} {xs ys : List PyData} {outer : List Env} {g : Heap} {Q : Value → Shared → Prop} {E : Value → Shared → Prop}
    (R : Room (n + 1) A) (hfr : A.frames = some outer) (fo : FrOk s.heap outer) (G : Good w s.heap) (hX : Alive X s.heap) (hfX : ∀ b ∈ outer.filterMap (·.frame), X b) (Gg : Good w g) (kg : Keeps g s.heap) (hgf : ∀ b ∈ outer.filterMap (·.frame), g.get? b = none) (hg1 : g.get? l1 = none) (hg2 : g.get? l2 = none)
    (x1 : X l1) (x2 : X l2) (n12 : l1 ≠ l2) (n1 : l1 ∉ outer.filterMap (·.frame)) (n2 : l2 ∉ outer.filterMap (·.frame)) (L1 : Lst s.heap X l1 xs) (L2 : Lst s.heap X l2 ys) (hp1 : ∀ d ∈ xs, Pl d) (hp2 : ∀ d ∈ ys, Pl d) (hlx : xs.length ≤ 100) (hly : ys.length ≤ 100)
    (h : ∀ t l3 h' tk', (∀ b o, b ∉ outer.filterMap (·.frame) → b ≠ l1 → b ≠ l2 → s.heap.get? b = some o → h'.get? b = some o) → (∀ b o, b ∈ outer.filterMap (·.frame) → s.heap.get? b = some o → ∃ sl, h'.get? b = some { o with slots := sl }) → s.heap.get? t = none → s.heap.get? l3 = none → l3 ≠ t →
      h'.get? t = some { cls := .type "tuple", data := .seq #[.ref l3, .ref l2] } → Lst h' X l3 (uldR xs.reverse ys []).1 → Lst h' X l2 (uldR xs.reverse ys []).2 → Q (.ref t) { s with heap := h', toks := tk' }) :
    wpAny (model PG w) A (call (.ref 119) [.ref l1, .ref l2]) Q E s := by
  refine wpAny_call (codeAny_call_function (o := _) (fd := _) (body := _) R.depth (G.K 119 _ rfl) rfl rfl rfl rfl (codeRec_of G.K rfl) ?_)
  refine wpAny_of_eq (a := [(("expected" : Str), Value.ref l1), (("actual" : Str), Value.ref l2)]) rfl ?_
  refine new_env (as := [.val (.ref l1), .val (.ref l2)]) (n := n) (X := X) G hX rfl ?_ ?_ ?_ ?_ (.cons rfl (.cons rfl .nil)) fun env X' h1 tk1 F hcf O hXX H => ?_
  · intro x e; exact absurd rfl ((by decide : ∀ p ∈ _, p.2 ≠ NameKind.free) _ (Fn_of.lookup_mem_kind e))
  · exact fun x e => Fn_of.lookup_mem_kind e
  · decide
  · intro p hp
    rcases List.mem_cons.mp hp with rfl | hp
    · exact .inl rfl
    · rcases List.mem_singleton.mp hp with rfl
      exact .inl rfl
  refine ⟨H.goodH.nolimit, codeAny_func ?_⟩
  obtain ⟨hcode, hframe, hback⟩ := hcf
  have hLn : s.heap.get? env.locals = none := H.above
  have kg1 : Keeps g (blank s.heap fun a => a ∈ outer.filterMap (·.frame) ∨ a = l1 ∨ a = l2) := keeps_blank kg fun a ha => by
    rcases ha with ha | rfl | rfl
    · exact hgf a ha
    · exact hg1
    · exact hg2
  have gn : ∀ a, s.heap.get? a = none → (blank s.heap fun a => a ∈ outer.filterMap (·.frame) ∨ a = l1 ∨ a = l2).get? a = none := fun a ha => by
    cases q : (blank s.heap fun a => a ∈ outer.filterMap (·.frame) ∨ a = l1 ∨ a = l2).get? a with
    | none => rfl
    | some o => have := blank_keeps _ _ q; rw [ha] at this; cases this
  generalize hgg : (blank s.heap fun a => a ∈ outer.filterMap (·.frame) ∨ a = l1 ∨ a = l2) = g1 at *
  have kg2 : Keeps g1 s.heap := by rw [← hgg]; exact blank_keeps
  have gin : ∀ b o, b ∉ outer.filterMap (·.frame) → b ≠ l1 → b ≠ l2 → s.heap.get? b = some o → g1.get? b = some o := fun b o q1 q2 q3 e => by
    rw [← hgg, blank_in (D := fun a => a ∈ outer.filterMap (·.frame) ∨ a = l1 ∨ a = l2) (fun q => q.elim q1 fun q => q.elim q2 q3)]; exact e
  have gout : ∀ b, (b ∈ outer.filterMap (·.frame) ∨ b = l1 ∨ b = l2) → g1.get? b = none := fun b q => by rw [← hgg]; exact blank_out (D := fun a => a ∈ outer.filterMap (·.frame) ∨ a = l1 ∨ a = l2) q
  have hfs : (env :: outer).filterMap (·.frame) = env.locals :: outer.filterMap (·.frame) := by rw [List.filterMap_cons, hframe]
  have hnl : ∀ l, X l → ¬ Mineof env l := fun l hl m => by
    obtain ⟨o, ho⟩ := Option.isSome_iff_exists.mp (hX l hl)
    have := m.above O H
    rw [ho] at this; cases this
  have hdeep : (A.deeper env).frames = some (env :: outer) := by show A.frames.map (env :: ·) = _; rw [hfr]; rfl
  have R1 : Room n (A.deeper env) := R.deeper env
  refine st_expr (d := S _) Ev_str (fun h X v a r => by cases r; exact fun e => nomatch e) R1 F H fun h2 tk2 H2 => ?_
  refine st_new rfl F O H2 fun l3 h3 tk3 H3 hn3 f3 L3 _ => ?_
  have hsn3 : s.heap.get? l3 = none := by
    cases q : s.heap.get? l3 with
    | none => rfl
    | some o => have := H2.keep _ _ q; rw [hn3] at this; cases this
  have k3 : Keeps s.heap h3 := H3.keep
  have H4 : EnvAt w env g1 (XU X' [l3]) h3 _ := H3.rebase (Gg.keeps kg1) (kg2.trans k3) (gn _ hLn)
  have O1 : Own env g1 := ⟨fun x c e => gn _ (O.above x c e), O.inj, O.kind⟩
  have hX2 : ∀ b, X b → XU X' [l3] b := fun b hb => .inl (hXX b hb)
  have up : ∀ {l : Addr} {ds : List PyData}, Lst s.heap X l ds → Lst h3 (XU X' [l3]) l ds := fun L => L.mono (fun o e => k3 _ _ e) (fun b o _ e => k3 _ _ e) fun b hn hs q => by
    rcases q with q | q
    · exact hn (hback b hs q)
    · rw [List.mem_singleton.mp q, hsn3] at hs; cases hs
  have L1' := up L1
  have L2' := up L2
  have alive1 : ∀ {l : Addr} {ds : List PyData}, Lst s.heap X l ds → (s.heap.get? l).isSome := fun ⟨_, _, q, _⟩ => by rw [q]; rfl
  have ne3 : ∀ {l : Addr}, (s.heap.get? l).isSome → l ≠ l3 := fun q e => by rw [e, hsn3] at q; cases q
  have n13 : l1 ≠ l3 := ne3 (alive1 L1)
  have n23 : l2 ≠ l3 := ne3 (alive1 L2)
  have fo3 : FrOk h3 (env :: outer) := fun e he => by
    rcases List.mem_cons.mp he with rfl | he
    · obtain ⟨m, ⟨o, es, ep, ho, hd, _⟩, _⟩ := H3.loc
      exact ⟨by rw [F.scope, F.kind]; decide, _, o, hframe, ho, fun vs q => by rw [hd] at q; cases q⟩
    · obtain ⟨hk, L, o, hf, ho, hd⟩ := fo e he
      exact ⟨hk, L, o, hf, k3 _ _ ho, hd⟩
  have memf : ∀ b, b ∈ (env :: outer).filterMap (·.frame) → b = env.locals ∨ b ∈ outer.filterMap (·.frame) := fun b hb => by rw [hfs] at hb; exact List.mem_cons.mp hb
  have hfX2 : ∀ b ∈ (env :: outer).filterMap (·.frame), XU X' [l3] b := fun b hb => by
    rcases memf b hb with rfl | hb
    · exact H4.hidL
    · exact hX2 _ (hfX b hb)
  have hgf2 : ∀ b ∈ (env :: outer).filterMap (·.frame), g1.get? b = none := fun b hb => by
    rcases memf b hb with rfl | hb
    · exact gn _ hLn
    · exact gout _ (.inl hb)
  have fr1 : Free env g1 (XU X' [l3]) l1 := ⟨hX2 _ x1, hnl l1 x1, gout _ (.inr (.inl rfl))⟩
  have fr2 : Free env g1 (XU X' [l3]) l2 := ⟨hX2 _ x2, hnl l2 x2, gout _ (.inr (.inr rfl))⟩
  have fr3 : Free env g1 (XU X' [l3]) l3 := ⟨f3.hid, f3.not, gn _ hsn3⟩
  have nf1 : l1 ∉ (env :: outer).filterMap (·.frame) := fun hb => (memf _ hb).elim (fun q => hnl l1 x1 (.inl q)) n1
  have nf2 : l2 ∉ (env :: outer).filterMap (·.frame) := fun hb => (memf _ hb).elim (fun q => hnl l2 x2 (.inl q)) n2
  have nf3 : l3 ∉ (env :: outer).filterMap (·.frame) := fun hb => (memf _ hb).elim (fun q => f3.not (.inl q)) fun q => by
    obtain ⟨e, he, q⟩ := List.mem_filterMap.mp q
    obtain ⟨_, L, o, hf, ho, _⟩ := fo e he
    rw [hf] at q; cases q
    rw [hsn3] at ho; cases ho
  refine wpAny_execs_cons (wpAny_While ?_)
  refine codeAny_whileLoop (fun k s' => ∃ h tk xs' ys' ms', s' = { s with heap := h, toks := tk } ∧ EnvAt w env g1 (XU X' [l3]) h (((Sto.ofL ([(("expected" : Str), AV.val (.ref l1)), (("actual" : Str), AV.val (.ref l2))])).set "missing" (.val (.ref l3)))) ∧ FrOk h (env :: outer) ∧ (∀ b o, b ∈ outer.filterMap (·.frame) → s.heap.get? b = some o → ∃ sl, h.get? b = some { o with slots := sl }) ∧
    Lst h (XU X' [l3]) l1 xs' ∧ Lst h (XU X' [l3]) l2 ys' ∧ Lst h (XU X' [l3]) l3 ms' ∧ uldR xs'.reverse ys' ms' = uldR xs.reverse ys [] ∧ (∀ d ∈ xs', Pl d) ∧ (∀ d ∈ ys', Pl d) ∧ ys'.length ≤ 100 ∧ xs'.length + ms'.length ≤ 100 ∧ k = xs'.length) ?_ xs.length ⟨h3, tk3, xs, ys, [], rfl, H4, fo3, fun b o _ q => ⟨o.slots, k3 _ _ q⟩, L1', L2', L3, rfl, hp1, hp2, hly, by simpa using hlx, rfl⟩
  rintro k s' ⟨h4, tk4, xs', ys', ms', rfl, H5, fo5, sl5, LA, LB, LC, hu, pA, pB, lB, lA, rfl⟩
  refine wpAny_isTrue_value (ld_local (s := { s with heap := h4, toks := tk4 }) F H5 rfl (a := .val (.ref l1)) rfl fun v rv => ?_) rfl
  cases rv
  obtain ⟨vs, mm, ho, ra⟩ := id LA
  have hvl : vs.size = xs'.length := by have := ra.length; simpa using this
  refine wpAny_truthy_list (s := { s with heap := h4, toks := tk4 }) ⟨_, ho, rfl, _, rfl⟩ (by rw [hvl]; omega) ?_
  rw [emp_of ra]
  rcases List.eq_nil_or_concat xs' with rfl | ⟨us, d, rfl⟩
  · refine wpAny_execs_nil ?_
    show wpAny (model PG w) (A.deeper env) (execs _ env) _ _ _
    refine wpAny_execs_cons (wpAny_Return_some (wpAny_Tuple (Calls.spliced_cons ?_)))
    refine ld_local (s := { s with heap := h4, toks := tk4 + 1 + 1 }) F H5 rfl (a := .val (.ref l3)) rfl fun v rv => ?_
    cases rv
    refine Calls.spliced_cons (ld_local (s := { s with heap := h4, toks := tk4 + 1 + 1 }) F H5 rfl (a := .val (.ref l2)) rfl fun v rv => Calls.spliced_nil ?_)
    cases rv
    refine ⟨by show 2 ≤ _; rw [sizeLine_eq]; omega, ?_⟩
    have kp := Keeps.push h4 { cls := .type "tuple", data := .seq #[.ref l3, .ref l2] }
    have hu' : uldR xs.reverse ys [] = (ms', ys') := hu.symm
    have hsz : ∀ b o, s.heap.get? b = some o → b ≠ h4.objs.size := fun b o q e => by
      have : ∃ o, h4.get? b = some o := by
        by_cases q1 : b ∈ outer.filterMap (·.frame)
        · obtain ⟨sl, q2⟩ := sl5 b o q1 q; exact ⟨_, q2⟩
        · by_cases q2 : b = l1
          · obtain ⟨_, _, q3, _⟩ := LA; exact ⟨_, q2 ▸ q3⟩
          · by_cases q3 : b = l2
            · obtain ⟨_, _, q4, _⟩ := LB; exact ⟨_, q3 ▸ q4⟩
            · exact ⟨o, H5.keep _ _ (gin b o q1 q2 q3 q)⟩
      obtain ⟨o', q4⟩ := this
      exact absurd (Heap.lt_size q4) (by rw [e]; exact Nat.lt_irrefl _)
    refine h h4.objs.size l3 _ _ (fun b o q1 q2 q3 q => kp _ _ (H5.keep _ _ (gin b o q1 q2 q3 q))) (fun b o q1 q => ?_) ?_ hsn3 ?_ (Heap.get?_push_size _ rfl) ?_ ?_
    · obtain ⟨sl, q2⟩ := sl5 b o q1 q
      exact ⟨sl, kp _ _ q2⟩
    · cases q : s.heap.get? h4.objs.size with
      | none => rfl
      | some o => exact absurd rfl (hsz _ o q)
    · obtain ⟨_, _, q, _⟩ := LC
      exact Nat.ne_of_lt (Heap.lt_size q)
    · rw [hu']; exact (LC.keeps kp).mono (fun _ q => q) (fun _ _ _ q => q) fun b q1 q2 q3 => q1 (hX2 b q3)
    · rw [hu']; exact (LB.keeps kp).mono (fun _ q => q) (fun _ _ _ q => q) fun b q1 q2 q3 => q1 (hX2 b q3)
  · have e0 : us.concat d = us ++ [d] := by simp
    rw [e0] at LA lA pA hu ⊢
    rw [show ((us ++ [d]).isEmpty) = false by cases us <;> rfl]
    have hk0 : us.length + 1 + ms'.length ≤ 100 := by simpa using lA
    refine wpAny_execs_cons (wpAny_Assign_Name ?_ rfl)
    refine own_pop (s := { s with heap := h4, toks := tk4 + 1 + 1 }) F H5 rfl rfl (hX2 _ x1) LA (by omega) fun v h6 sb6 rv L6 => ?_
    have nl1 : ∀ b, b ≠ l1 → h6.get? b = h4.get? b := fun b hb => sb6.2 b hb
    have H6 := H5.wrote fr1 sb6 (by obtain ⟨_, _, q, _⟩ := L6; rw [q]; rfl)
    refine store_localS (s := { s with heap := h6, toks := tk4 + 1 + 1 }) (a := .dat d) F H6 rfl rv fun h7 tk7 H7 kx7 sb7 => ?_
    dsimp only at sb7 kx7
    have hXL : XU X' [l3] env.locals := H4.hidL
    have moveL : ∀ {l : Addr} {ds : List PyData}, l ≠ env.locals → Lst h6 (XU X' [l3]) l ds → Lst h7 (XU X' [l3]) l ds := fun hne L => L.mono (fun o q => (sb7.2 _ hne).trans q) kx7 fun _ q _ => q
    have move6 : ∀ {l : Addr} {ds : List PyData}, l ≠ l1 → Lst h4 (XU X' [l3]) l ds → Lst h6 (XU X' [l3]) l ds := fun hne L => L.mono (fun o q => (sb6.2 _ hne).trans q) (fun b o hn q => (sb6.2 b (fun qq => hn (qq ▸ hX2 _ x1))).trans q) fun _ q _ => q
    have nL1 : l1 ≠ env.locals := fun q => hnl l1 x1 (.inl q)
    have nL2 : l2 ≠ env.locals := fun q => hnl l2 x2 (.inl q)
    have nL3 : l3 ≠ env.locals := fun q => f3.not (.inl q)
    have L1n := moveL nL1 L6
    have L2n := moveL nL2 (move6 (Ne.symm n12) LB)
    have L3n := moveL nL3 (move6 (Ne.symm n13) LC)
    have fr : ∀ e ∈ outer, ∀ L, e.frame = some L → L ≠ env.locals ∧ L ≠ l1 := fun e he L hf => by
      have hm : L ∈ outer.filterMap (·.frame) := List.mem_filterMap.mpr ⟨e, he, hf⟩
      exact ⟨fun q => hnl L (hfX L hm) (.inl q), fun q => n1 (q ▸ hm)⟩
    have fo7 : FrOk h7 (env :: outer) := fun e he => by
      rcases List.mem_cons.mp he with rfl | he
      · obtain ⟨m, ⟨o, es, ep, ho, hd, _⟩, _⟩ := H7.loc
        exact ⟨by rw [F.scope, F.kind]; decide, _, o, hframe, ho, fun vs q => by rw [hd] at q; cases q⟩
      · obtain ⟨hk, L, o, hf, ho, hd⟩ := fo5 e (.tail _ he)
        obtain ⟨q1, q2⟩ := fr e he L hf
        exact ⟨hk, L, o, hf, (sb7.2 L q1).trans ((sb6.2 L q2).trans ho), hd⟩
    refine st_tryrm (L := env.locals) (outer := outer) (s := { s with heap := h7, toks := tk7 }) R1 F H7 hdeep hframe fo7 hfX2 hgf2 rfl rfl rfl rfl rfl rfl rfl fr2 fr3 nf2 nf3 n23 L2n L3n (by omega) (by omega) pB (pA d (by simp)) fun h8 tk8 H8 k8 sl8 L2m L3m => ?_
    refine wpAny_execs_nil ?_
    have n1f : l1 ∉ (env :: outer).filterMap (·.frame) := nf1
    have L1m : Lst h8 (XU X' [l3]) l1 us := L1n.mono (fun o q => k8 l1 o n1f n12 n13 q) (fun b o hn q => k8 b o (fun qq => hn (hfX2 b qq)) (fun qq => hn (qq ▸ hX2 _ x2)) (fun qq => hn (qq ▸ f3.hid)) q) fun _ q _ => q
    have fo8 : FrOk h8 (env :: outer) := fun e he => by
      obtain ⟨hk, L, o, hf, ho, hd⟩ := fo7 e he
      obtain ⟨sl, q⟩ := sl8 L o (List.mem_filterMap.mpr ⟨e, he, hf⟩) ho
      exact ⟨hk, L, _, hf, q, hd⟩
    refine ⟨us.length, by simp, h8, tk8, us, _, _, rfl, H8.weak ?_, fo8, ?_, L1m, L2m, L3m, ?_, fun e he => pA e (by simp [he]), pl_erase pB, Nat.le_trans len_erase lB, ?_, rfl⟩
    · intro x a e
      unfold Sto.set
      by_cases q : x = "item"
      · subst q; cases e
      · rw [if_neg q]; exact e
    · intro b o hb q
      obtain ⟨sl, q1⟩ := sl5 b o hb q
      have hb1 : b ≠ env.locals := fun qq => hnl b (hfX b hb) (.inl qq)
      have hb2 : b ≠ l1 := fun qq => n1 (qq ▸ hb)
      obtain ⟨sl2, q2⟩ := sl8 b _ (by rw [hfs]; exact .tail _ hb) ((sb7.2 b hb1).trans ((sb6.2 b hb2).trans q1))
      exact ⟨sl2, q2⟩
    · rw [← hu, List.reverse_append]; rfl
    · split
      · omega
      · simp; omega
end Mine

end
section
open PySem PySem.W PyProof.Rows
set_option maxRecDepth 100000
set_option maxHeartbeats 4000000
set_option linter.unusedVariables false
namespace Mine
section
variable {w : World} {n : Nat} {sc : Scope} {σ : Sto}
/-- a method asked of a built-in type, two arguments -/
theorem Ev_methT2 {o e1 e2 : Expr} {name : Str} {apos pos : Pos} {T id : String} {a b r : AV} (ho : Ev w n sc σ o (.val (.type T))) (h1 : Ev w n sc σ e1 a) (h2 : Ev w n sc σ e2 b)
    (ht : typeOf (.type T) = pure (.type "type")) (hs : Manifest.isStub T = false) (e : findCls [] (.type T) (.type "type") name = some (.val (.builtin id))) (hh : handedIn (.builtin id) = true)
    (hd : DoesL w n (cB id) [a, b] r) (hse : ∀ env, starEach [e1, e2] env = [(false, eval e1 env), (false, eval e2 env)] := by intro _; rfl)
    (he : ∀ env, ∃ pl, eval (.Call (.Attribute o name apos) [e1, e2] [] pos) env = (do
      let ov ← eval o env
      standAt apos.atName
      let (f, first) ← holding [ov] (getMethod ov name pl)
      callWith pos f first (backTo pos (starEach [e1, e2] env)) (backToKw pos (keywordEach [] env))) := by intro _; exact ⟨_, rfl⟩) :
    Ev w n sc σ (.Call (.Attribute o name apos) [e1, e2] [] pos) r := by
  intro A env h₀ X s Q E R F H h
  obtain ⟨pl, he⟩ := he env
  refine methodCall_KW (pl := pl) ?_ he
  refine ho.run R F H fun v h1' tk1 k1 H1 rv => ?_
  cases rv
  obtain ⟨m, hm, _⟩ := H1.loc
  have F0 : Fr ⟨#[], {}⟩ env.locals h1' m := ⟨hm, fun b o e => absurd (Heap.lt_size e) (Nat.not_lt_zero _), Nat.zero_le _⟩
  refine method_type (s := { s with heap := h1', toks := tk1 }) (K := []) F0 (fun b o e => nomatch e) ht hs e hh ?_
  refine Calls.callWith_builtin (by rw [hse env]; rfl) ?_
  rw [hse env]
  refine Calls.evalArgs_plain (Calls.spliced_cons ?_)
  refine h1.run (s := { s with heap := h1', toks := tk1 + 1 }) R F H1 fun u h2' tk2 k2 H2 ru => Calls.spliced_cons ?_
  refine h2.run (s := { s with heap := h2', toks := tk2 }) R F H2 fun u2 h3' tk3 k3 H3 ru2 => Calls.spliced_nil ?_
  exact hd A X _ [u, u2] _ _ R H3.goodH H3.alive (.cons (ru.keeps k3.x) (.cons ru2 .nil)) fun v h4 tk4 k4 r4 => h v h4 tk4 (((k1.trans k2).trans k3).trans k4) r4
end
end Mine

end
section
open PySem PySem.W PyProof.Rows Builtin
set_option maxRecDepth 100000
set_option maxHeartbeats 4000000
set_option linter.unusedVariables false
namespace Mine
abbrev emptyD : Obj := { cls := .type "dict", data := .dict #[] }
abbrev mmObj (dx : Addr) (va vb vd : Value) : Obj := { cls := .ref 190, dict := some dx, data := .seq #[va, vb, vd] }
section
variable {w : World} {M : Model} {h : Heap}
theorem mm_cls (X : (KF w).In h) : ∃ cd, clsIn (KF w) 190 = some cd ∧ cd.mro = [.ref 190, .type "tuple", .type "object"] ∧ cd.hasDict = false ∧ cd.hasDel = false ∧ cd.bases = [.type "tuple"] := ⟨_, rfl, rfl, rfl, rfl, rfl⟩
theorem mm_mro (X : (KF w).In h) : Looks M h (mroOf (.ref 190)) [.ref 190, .type "tuple", .type "object"] := (looks_clsIn X (K := KF w) (C := 190) rfl).andThen .now
theorem mm_made (X : (KF w).In h) : Looks M h (Bind.madeBy (.ref 190)) none := by
  intro A Q E s k q
  unfold Bind.madeBy
  refine wpAny_bind (mm_mro X A _ E s k ?_)
  rw [List.forIn_cons]
  refine wpAny_bind (wpAny_bind (wpAny_bind (wpAny_bind (wpAny_loadPart (k _ _ (X 190 _ rfl)) (wpAny_pure ?_)))))
  exact wpAny_pure (wpAny_pure (wpAny_pure q))
theorem mm_solid : Looks M h (Slots.bestBase [.type "tuple"]) (.type "tuple") := Looks.of_pure (by kernel_rfl)
theorem mm_base (X : (KF w).In h) : Looks M h (Bind.staticBase (.ref 190)) (.type "tuple") := by
  intro A Q E s k q
  unfold Bind.staticBase
  refine wpAny_bind (mm_mro X A _ E s k ?_)
  rw [List.forIn_cons]
  refine wpAny_bind (wpAny_bind (wpAny_bind (mm_made X A _ E s k ?_)))
  refine wpAny_bind ((looks_clsIn X (K := KF w) (C := 190) rfl) A _ E s k ?_)
  refine wpAny_bind (mm_solid A _ E s k ?_)
  refine wpAny_pure ?_
  dsimp only
  rw [List.forIn_cons, PySem.F.called_tuple.made]
  refine wpAny_bind (wpAny_bind (wpAny_pure (wpAny_pure (wpAny_pure ?_))))
  exact wpAny_pure q
theorem mm_here (X : (KF w).In h) : Looks M h (Bind.madeHere "tuple.__new__" (.ref 190)) () := by
  unfold Bind.madeHere
  refine (mm_base X).andThen ?_
  rw [PySem.F.called_tuple.made]
  exact Looks.of_pure (by kernel_rfl)
end
section
variable {w : World} {A : Around} {s : Shared} {Q : Value → Shared → Prop} {E : Value → Shared → Prop}
theorem check_new (X : (KF w).In s.heap) {t : Addr} {Q : Unit → Shared → Prop} (hq : Q () s) : wpAny (model PG w) A (checkBuiltinCall "tuple.__new__" ⟨[.ref 190, .ref t], []⟩) Q E s := by
  obtain ⟨hp, g, d, tk, os⟩ := s
  have L1 := mm_base (M := model PG w) X
  have L2 : Looks (model PG w) hp (isSubtype (.ref 190) (.type "tuple")) true := looks_mroIn X (K := KF w) (C := 190) rfl
  have hC := X 190 _ rfl
  have hk : builtinKind "tuple.__new__" = some .builtinFn := by decide +kernel
  have hs : splitId "tuple.__new__" = some ("tuple", "__new__") := by decide +kernel
  simp only [checkBuiltinCall, hk, hs]
  have hargs : (match Manifest.signature? "tuple.__new__" with
      | some sig => Bind.checkArgs "tuple.__new__" sig { pos := [Value.ref 190, Value.ref t] }
      | x => pure ()) = (pure () : Sem Unit) := by kernel_rfl
  have hm2 : Bind.madeBy (.type "tuple") = pure (some "tuple.__new__") := PySem.F.called_tuple.made
  repeat (first | simp only [bne_self_eq_false, Bool.false_eq_true, if_false, hm2] | lk)
  exact hq
theorem tuple_new (X : (KF w).In s.heap) {t : Addr} {va vb vd : Value} {n : Nat} (ht : s.heap.get? t = some { cls := .type "tuple", data := .seq #[va, vb, vd] n })
    (hQ : ∀ x dx h', (∀ b o, s.heap.get? b = some o → h'.get? b = some o) → s.heap.get? x = none → s.heap.get? dx = none → h'.get? x = some (mmObj dx va vb vd) → h'.get? dx = some emptyD → Q (.ref x) { s with heap := h' }) :
    wpAny (model PG w) A (call (.builtin "tuple.__new__") [.ref 190, .ref t]) Q E s := by
  have hpl : plainId "tuple.__new__" = true := by decide +kernel
  refine wpAny_call (codeAny_call_builtin hpl PySem.F.entry_tuple_new (check_new X ?_))
  obtain ⟨hp, g, d, tk, os⟩ := s
  have L2 : Looks (model PG w) hp (isSubtype (.ref 190) (.type "tuple")) true := looks_mroIn X (K := KF w) (C := 190) rfl
  have L3 := mm_here (M := model PG w) X
  have L4 : Looks (model PG w) hp (typeLookup (.ref 190) "__init__") (some (.builtin "object.__init__")) := looks_findIn X rfl
  have hC := X 190 _ rfl
  dsimp only at ht L3
  have hcol : ∀ (A : Around) (Q' : List Value → Shared → Prop) (E' : Value → Shared → Prop), (∀ h', (∀ b o', hp.get? b = some o' → h'.get? b = some o') → Q' [va, vb, vd] ⟨h', g, d, tk, os⟩) → wpAny (model PG w) A (collect (.ref t)) Q' E' ⟨hp, g, d, tk, os⟩ :=
    fun A Q' E' hq => wpAny_collect_seq (T := "tuple") t (.inr rfl) ht rfl rfl hq (by show 3 ≤ _; rw [sizeLine_eq]; omega)
  unfold Builtin.«tuple.__new__»
  repeat (first | (with_reducible refine hcol _ _ _ ?_) | simp only [bne_self_eq_false, Bool.false_eq_true, if_false] | lk)
  intro h' hk
  have hC2 := Heap.get?_push_of_some (mmObj h'.objs.size va vb vd) (Heap.get?_push_of_some emptyD (hk _ _ hC))
  refine wpAny_bind (wpAny_pure (wpAny_bind (wpAny_alloc (wpAny_bind ?_))))
  unfold newObj
  dsimp only
  rw [if_neg (by show ¬ 3 > _; rw [sizeLine_eq]; omega)]
  unfold newObjAsIs classHasDel
  refine wpAny_bind (wpAny_alloc (wpAny_bind (wpAny_bind (wpAny_load hC2 (wpAny_pure (wpAny_pure (wpAny_pure ?_)))))))
  have e2 : (h'.push emptyD).objs.size = h'.objs.size + 1 := Heap.size_push _ _
  have hx : ((h'.push emptyD).push (mmObj h'.objs.size va vb vd)).get? (h'.push emptyD).objs.size = some (mmObj h'.objs.size va vb vd) := Heap.get?_push_size _ rfl
  have hd : ((h'.push emptyD).push (mmObj h'.objs.size va vb vd)).get? h'.objs.size = some emptyD := Heap.get?_push_of_some _ (Heap.get?_push_size _ rfl)
  have nn : ∀ b, h'.objs.size ≤ b → hp.get? b = none := fun b hb => by
    cases q : hp.get? b with
    | none => rfl
    | some o => exact absurd (Heap.lt_size (hk _ _ q)) (Nat.not_lt.mpr hb)
  exact hQ (h'.push emptyD).objs.size h'.objs.size _ (fun b o e => Heap.get?_push_of_some _ (Heap.get?_push_of_some _ (hk _ _ e))) (nn _ (by rw [e2]; exact Nat.le_succ _)) (nn _ (Nat.le_refl _)) hx hd
end
end Mine

end
section
open PySem PySem.W PyProof.Rows Builtin
set_option maxRecDepth 100000
set_option maxHeartbeats 4000000
set_option linter.unusedVariables false
set_option linter.unusedSimpArgs false
namespace Mine
def IsMM (a b : Int) (d : PyData) (h : Heap) (X : Addr → Prop) (v : Value) : Prop :=
  ∃ x dx va vb vd, v = .ref x ∧ ¬ X x ∧ ¬ X dx ∧ h.get? x = some (mmObj dx va vb vd) ∧ h.get? dx = some emptyD ∧ (∃ t, va = .int a t) ∧ (∃ t, vb = .int b t) ∧ RdD h X vd d
def MM (a b : Int) (d : PyData) : AV := .such (IsMM a b d) fun h h' X X' v hk hx ⟨x, dx, va, vb, vd, e, n1, n2, h1, h2, e1, e2, r⟩ =>
  ⟨x, dx, va, vb, vd, e, hx _ n1 (by rw [h1]; rfl), hx _ n2 (by rw [h2]; rfl), hk _ _ n1 h1, hk _ _ n2 h2, e1, e2, r.mono hk hx⟩
section
variable {w : World} {n : Nat}
theorem do_new {a b : Int} {d : PyData} : DoesL w n (cB "tuple.__new__") [.val (.ref 190), .dat (.tuple [.int a, .int b, d])] (MM a b d) := fun A X s vals Q E _ G L rs h => by
  cases rs with | cons r1 rs => cases rs with | cons r2 rs =>
    cases rs; cases r1
    cases r2 with | tuple hn ho ra =>
      rename_i t vs m
      obtain ⟨l⟩ := vs
      cases ra with | cons ra rb => cases rb with | cons rb rc => cases rc with | cons rc rd =>
        cases rd
        rename_i va vb vd
        refine tuple_new G.K ho fun x dx h' k nx ndx gx gdx => ?_
        have k : Keeps s.heap h' := k
        have nX : ∀ c, s.heap.get? c = none → ¬ X c := fun c hc q => by have := L c q; rw [hc] at this; cases this
        cases ra; cases rb
        exact h _ h' s.toks k ⟨x, dx, _, _, vd, rfl, nX _ nx, nX _ ndx, gx, gdx, ⟨_, rfl⟩, ⟨_, rfl⟩, RdD.keeps k.x rc⟩
theorem fn_new {a b : Int} {d : PyData} : Fn w (n + 1) 137 [.val (.ref 190), I a, I b, .dat d] (MM a b d) := by
  refine Fn_of (o := _) (fd := _) (body := _) (xs := ["_cls", "actual", "expected", "value"]) rfl rfl rfl ?_ ?_ rfl rfl rfl rfl rfl rfl rfl rfl ?_ ?_
  · intro A env h₀ X s Q E R F O H h
    refine st_expr (d := S _) Ev_str (fun h X v a r => by cases r; exact fun e => nomatch e) R F H fun h2 tk2 H2 => ?_
    refine st_return (a := MM a b d) (Ev_methT2 (T := "tuple") (id := "tuple.__new__") (Ev_builtin rfl rfl rfl (by decide)) (Ev_local rfl rfl) (Ev_tuple (ds := [.int a, .int b, d]) (EvL_cons (Ev_local rfl rfl) (EvL_cons (Ev_local rfl rfl) (EvL_cons (Ev_local rfl rfl) EvL_nil))) (small (by simp))) (ty_T "tuple" (by decide +kernel)) (by decide +kernel) (by kernel_rfl) (by decide +kernel) do_new) R F H2 fun v h' tk' H r => h v h' tk' H.keep r
  · intro vals hv
    match vals, hv with
    | [a, b, c, d], _ => rfl
  · decide
  · decide
theorem tc_weight (args : Args) : (Code.builtin "type.__call__" args).weight ≤ 1 ∧ (Code.builtin "type.__call__" args).cUnits ≤ 4 ∧ (Code.builtin "type.__call__" args).guards = [] ∧ (Code.builtin "type.__call__" args).envs = [] := by
  have h1 : (Code.builtin "type.__call__" args).isGuard = false := by show guardIds.contains "type.__call__" = false; decide +kernel
  have h2 : (Code.builtin "type.__call__" args).isCaller = false := by unfold Code.isCaller; rfl
  have h3 : (Code.builtin "type.__call__" args).frames = 0 := by unfold Code.frames; rfl
  refine ⟨?_, ?_, ?_, ?_⟩
  · unfold Code.weight
    rw [h1, h2, h3]
    split <;> decide
  · show 1 + 3 * (Code.builtin "type.__call__" args).frames ≤ 4
    rw [h3]; decide
  · unfold Code.guards; rw [h1]; rfl
  · unfold Code.envs
    have : (Code.builtin "type.__call__" args).isFrame = false := rfl
    rw [this]; rfl
theorem Room.tc {A : Around} {n : Nat} {args : Args} (r : Room (n + 1) A) : Room n (A.under (.builtin "type.__call__" args)) := by
  obtain ⟨h1, h2, h3, h4⟩ := tc_weight args
  refine ⟨?_, ?_, fun q => ?_, r.2.2.2⟩
  · have := r.1; show A.depth + _ + n < _; omega
  · have := r.2.1; show A.units + _ + 20 * n + 300 < _; omega
  · have := r.2.2.1 (by omega); unfold Around.under; dsimp only; rw [h3]; exact this
theorem mm_getnew {A : Around} {s : Shared} {Q : Value → Shared → Prop} {E : Value → Shared → Prop} {expr : Bool} (X : (KF w).In s.heap) (h : Q (.ref 137) { s with toks := s.toks + 1 }) : wpAny (model PG w) A (getAttr (.ref 190) "__new__" expr) Q E s :=
  cls_bind (mc := .type "type") (g := .builtin "staticmethod.__get__") (a := .ref 191) (obj := .none) (tp := .ref 190) X rfl rfl (wpAny_call (sm_get (f := .ref 137) (rest := []) (s := { s with toks := s.toks + 1 }) X rfl (handed_on rfl h)))
theorem mm_init {A : Around} {s : Shared} {Q : Value → Shared → Prop} {E : Value → Shared → Prop} (X : (KF w).In s.heap) {x dx : Addr} {va vb vd : Value} {vals : List Value} (hx : s.heap.get? x = some (mmObj dx va vb vd)) (h : Q .none s) :
    wpAny (model PG w) A (call (.builtin "object.__init__") (.ref x :: vals)) Q E s := by
  obtain ⟨hh, g, d', t, os⟩ := s
  have ty : Looks (model PG w) hh (typeOf (.ref x)) (.ref 190) := (Looks.ld hx).andThen .now
  have L2 : Looks (model PG w) hh (isSubtype (.ref 190) (.type "object")) true := looks_mroIn X (K := KF w) (C := 190) rfl
  have L1 := mm_made (M := model PG w) X
  have L4 : Looks (model PG w) hh (typeLookup (.ref 190) "__init__") (some (.builtin "object.__init__")) := looks_findIn X rfl
  have ha : argsOk "object.__init__" ⟨.ref x :: vals, []⟩ := by unfold argsOk; kernel_rfl
  refine wpAny_call (codeAny_call_builtin oi_plain entry_oi (@check_slot (model PG w) _ _ _ "object.__init__" "object" "__init__" (.ref x) vals [] _ oi_kind oi_split (ty.andThen L2) ha ?_))
  dsimp only at L1
  unfold Builtin.«object.__init__»
  cases vals with
  | nil => exact wpAny_pure h
  | cons v vs =>
    repeat (first | simp only [bne_self_eq_false, Bool.false_eq_true, if_false] | lk)
    exact h
theorem mm_call {a b : Int} {d : PyData} : DoesL w (n + 8) (fun vs => call (.ref 190) vs) [I a, I b, .dat d] (MM a b d) := fun A X s vals Q E R G L rs h => by
  have X0 := G.K
  have hC := X0 190 _ rfl
  obtain ⟨hh, g, d', t, os⟩ := s
  have call' : Looks (model PG w) hh (specialOf (.ref 190) "__call__") (some (.builtin "type.__call__")) := looks_specialIn X0 rfl
  have typ : Looks (model PG w) hh (isInstance (.ref 190) (.type "type")) true := looks_instIn X0 rfl
  refine wpAny_call (codeAny_of_tree ?_)
  show wpAny _ _ (callAny (.ref 190) _) _ _ _
  refine nd_load hC ?_
  show wpAny _ _ (callAny.viaDunder (.ref 190) _) _ _ _
  unfold callAny.viaDunder
  refine wpAny_bind (call'.at ?_)
  dsimp only
  rw [tc_bind]
  refine wpAny_bind (wpAny_pure (wpAny_bind (wpAny_pure ?_)))
  refine wpAny_pure (a := Fin.again (.call (.builtin "type.__call__") ⟨.ref 190 :: vals, []⟩)) (And.intro rfl ?_)
  refine codeAny_call_builtin_at (Code.quiet_builtin _ (by decide +kernel)) entry_typeCall (check_slot tc_kind tc_split typ (tc_args _ _ _) ?_)
  have R2 := Room.tc (args := ⟨.ref 190 :: vals, []⟩) R
  generalize A.under (.builtin "type.__call__" ⟨.ref 190 :: vals, []⟩) = A2 at *
  unfold Builtin.«type.__call__»
  have hm := mm_mro (M := model PG w) X0
  have L1 := mm_made (M := model PG w) X0
  have hga : ∀ (A : Around) (Q' : Value → Shared → Prop) (E' : Value → Shared → Prop), Q' (.ref 137) ⟨hh, g, d', t + 1, os⟩ → wpAny (model PG w) A (getAttr (.ref 190) (Str.ofString "__new__")) Q' E' ⟨hh, g, d', t, os⟩ := fun A Q' E' hq => mm_getnew X0 hq
  have hcall : ∀ (Q' : Value → Shared → Prop) (E' : Value → Shared → Prop), (∀ v h' tk', Keeps hh h' → RdA h' X v (MM a b d) → Q' v ⟨h', g, d', tk', os⟩) → wpAny (model PG w) A2 (call (.ref 137) (.ref 190 :: vals)) Q' E' ⟨hh, g, d', t + 1, os⟩ :=
    fun Q' E' hq => fn_new (n := n + 6) A2 X ⟨hh, g, d', t + 1, os⟩ (.ref 190 :: vals) Q' E' R2 G L (.cons rfl rs) hq
  repeat (first | (with_reducible refine hga _ _ _ ?_) | (with_reducible refine hcall _ _ ?_) | simp only [Bool.false_eq_true, if_false] | lk)
  intro v h' tk' k r
  obtain ⟨x, dx, va, vb, vd, e, n1, n2, g1, g2, e1, e2, rd⟩ := id r
  subst e
  have X1 := (Good.keeps G k).K
  have ty : Looks (model PG w) h' (typeOf (.ref x)) (.ref 190) := (Looks.ld g1).andThen .now
  have L2 : Looks (model PG w) h' (isSubtype (.ref 190) (.ref 190)) true := looks_mroIn X1 (K := KF w) (C := 190) rfl
  have L4 : Looks (model PG w) h' (typeLookup (.ref 190) (Str.ofString "__init__")) (some (.builtin "object.__init__")) := looks_findIn X1 rfl
  have hinit : ∀ (Q' : Value → Shared → Prop) (E' : Value → Shared → Prop), Q' .none ⟨h', g, d', tk', os⟩ → wpAny (model PG w) A2 (call (.builtin "object.__init__") ([.ref x] ++ vals)) Q' E' ⟨h', g, d', tk', os⟩ := fun Q' E' hq => mm_init X1 g1 hq
  have hob := oi_bind (.ref x)
  unfold isInstance callSpecial? specialOf
  repeat (first | (with_reducible refine hinit _ _ ?_) | simp only [Bool.false_eq_true, if_false, hob] | lk)
  exact h _ h' tk' k r
end
end Mine

end
section
open PySem PySem.W PyProof.Rows Builtin
set_option maxRecDepth 100000
set_option maxHeartbeats 4000000
set_option linter.unusedVariables false
set_option linter.unusedSimpArgs false
namespace Mine
section
variable {w : World} {n : Nat} {sc : Scope} {σ : Sto}
theorem do_getx {a b : Int} {d : PyData} {i : Int} {r : AV} (hi : (i = 0 ∧ r = I a) ∨ (i = 1 ∧ r = I b) ∨ (i = 2 ∧ r = .dat d)) : DoesL w n (cB "tuple.__getitem__") [MM a b d, I i] r := fun A X s vals Q E R G L rs h => by
  cases rs with | cons r1 rs => cases rs with | cons r2 rs =>
    cases rs; cases r2
    rename_i ti
    obtain ⟨x, dx, va, vb, vd, rfl, n1, n2, g1, g2, ⟨ta, rfl⟩, ⟨tb, rfl⟩, rd⟩ := r1
    have X0 := G.K
    have hh : ∀ v : Value, (i = 0 ∧ v = .int a ta) ∨ (i = 1 ∧ v = .int b tb) ∨ (i = 2 ∧ v = vd) → Q v s := fun v hv => by
      refine h v s.heap s.toks (Keeps.refl _) ?_
      rcases hi with ⟨rfl, rfl⟩ | ⟨rfl, rfl⟩ | ⟨rfl, rfl⟩ <;> rcases hv with ⟨q, rfl⟩ | ⟨q, rfl⟩ | ⟨q, rfl⟩ <;> first | (exact absurd q (by decide)) | exact RdD.int _ _ | exact rd
    obtain ⟨hp, g, d', t, os⟩ := s
    have ty : Looks (model PG w) hp (typeOf (.ref x)) (.ref 190) := (Looks.ld g1).andThen .now
    have L2 : Looks (model PG w) hp (isSubtype (.ref 190) (.type "tuple")) true := looks_mroIn X0 (K := KF w) (C := 190) rfl
    have hpl : plainId "tuple.__getitem__" = true := by decide +kernel
    have hk : builtinKind "tuple.__getitem__" = some .slot := by decide +kernel
    have hs : splitId "tuple.__getitem__" = some ("tuple", "__getitem__") := by decide +kernel
    have L3 : ∀ i tk, Looks (model PG w) hp (specialOf (.int i tk) (Str.ofString "__index__")) (some (.builtin "int.__index__")) := fun i tk => by
      unfold specialOf
      exact Looks.andThen (a := .type "int") (Looks.of_pure rfl) (Looks.of_pure _root_.PySem.F.slot_int_index.lookup)
    have hi3 : i = 0 ∨ i = 1 ∨ i = 2 := by rcases hi with q | q | q <;> simp [q.1]
    refine wpAny_call (codeAny_call_builtin hpl _root_.PySem.F.entry_tuple_getitem (@check_slot (model PG w) _ _ _ "tuple.__getitem__" "tuple" "__getitem__" (.ref x) [.int i ti] [] _ hk hs (ty.andThen L2) (_root_.PySem.F.args_tuple_getitem_2 _ _) ?_))
    dsimp only at g1
    have L3' := L3 i ti
    rcases hi3 with rfl | rfl | rfl
    all_goals
      unfold Builtin.«tuple.__getitem__»
      repeat (first | simp only [Bool.false_eq_true, if_false] | lk)
    · exact hh _ (.inl ⟨rfl, rfl⟩)
    · exact hh _ (.inr (.inl ⟨rfl, rfl⟩))
    · exact hh _ (.inr (.inr ⟨rfl, rfl⟩))
theorem do_typeMM {a b : Int} {d : PyData} : DoesL w n (cT "type") [MM a b d] (.val (.ref 190)) := fun A X s vals Q E R G L rs h => by
  cases rs with | cons r1 rs =>
    cases rs
    obtain ⟨x, dx, va, vb, vd, rfl, n1, n2, g1, g2, _, _, rd⟩ := r1
    exact kto_own (C := 190) (od := some emptyD) ⟨g1, rfl, rfl, g2⟩ (h _ s.heap s.toks (Keeps.refl _) rfl)
theorem do_issub : DoesL w n (cB "issubclass") [.val (.ref 190), .val (.type "tuple")] (B true) := fun A X s vals Q E R G L rs h => by
  cases rs with | cons r1 rs => cases rs with | cons r2 rs =>
    cases rs; cases r1; cases r2
    have X0 := G.K
    refine call_issubclass (S := fun _ R s => (KF w).In s.heap ∧ R (.ok (.ret (.bool true))) s) (fun prog w' A R s hs => issubclass_outer ?_) ⟨X0, h _ s.heap s.toks (Keeps.refl _) (.bool _)⟩
    obtain ⟨X1, hR⟩ := hs
    obtain ⟨hp, g, d', t, os⟩ := s
    have L2 : Looks (model prog w') hp (isSubtype (.ref 190) (.type "tuple")) true := looks_mroIn X1 (K := KF w) (C := 190) rfl
    have hC := X1 190 _ rfl
    dsimp only at hC
    unfold Builtin.«issubclass.nested»
    repeat (first | simp only [Bool.false_eq_true, if_false] | lk)
    exact hR
theorem op_isNone {a : AV} (ha : ∀ h X v, RdA h X v a → ∃ x, v = .ref x) : Does2 w n (compareOp .Is) a (.dat .none) (B false) := fun A X s u v Q E _ _ _ ru rv h => by
  cases rv
  obtain ⟨x, rfl⟩ := ha _ _ _ ru
  exact wpAny_is_other rfl (by intro q; cases q) (h _ s.heap s.toks (Keeps.refl _) (.bool _))
theorem mm_ref {a b : Int} {d : PyData} : ∀ h X v, RdA h X v (MM a b d) → ∃ x, v = .ref x := fun h X v r => by obtain ⟨x, _, _, _, _, rfl, _⟩ := r; exact ⟨x, rfl⟩
theorem Ev_attr {x attr : Str} {xp pos : Pos} {a r : AV} (he : Ev w n sc σ (.Name x xp) a) (hd : Does1 w n (fun v => getAttr v attr true) a r)
    (hh : ∀ env, eval (.Attribute (.Name x xp) attr pos) env = (do
      let o ← eval (.Name x xp) env
      standAt pos.atName
      let r ← holding [o] (getAttr o attr true)
      letTemporaryGo (.Name x xp) o r
      pure r) := by intro _; with_unfolding_all rfl) : Ev w n sc σ (.Attribute (.Name x xp) attr pos) r := by
  intro A env h₀ X s Q E R F H h
  refine Attribute_Name_ (he.run R F H fun v h1 tk1 k1 H1 rv => ?_) (hh env)
  exact hd A X _ v _ _ R H1.goodH H1.alive rv fun v h2 tk2 k2 r2 => h v h2 tk2 (k1.trans k2) r2
theorem at_index {p : Addr} {i : Int} (hp : (p = 179 ∧ i = 0) ∨ (p = 182 ∧ i = 1) ∨ (p = 185 ∧ i = 2)) : Does1 w n (fun v => getAttr v "index" true) (.val (.ref p)) (I i) := fun A X s u Q E R G L ru h => by
  cases ru
  have X0 := G.K
  rcases hp with ⟨rfl, rfl⟩ | ⟨rfl, rfl⟩ | ⟨rfl, rfl⟩
  · exact get_value (K := KF w) (C := 60) (od := (KF w).lookup 178) (v := .int 0 442) X0 ⟨X0 179 _ rfl, rfl, rfl, X0 178 _ rfl⟩ rfl rfl rfl (h _ s.heap _ (Keeps.refl _) (.int _ _))
  · exact get_value (K := KF w) (C := 60) (od := (KF w).lookup 181) (v := .int 1 452) X0 ⟨X0 182 _ rfl, rfl, rfl, X0 181 _ rfl⟩ rfl rfl rfl (h _ s.heap _ (Keeps.refl _) (.int _ _))
  · exact get_value (K := KF w) (C := 60) (od := (KF w).lookup 184) (v := .int 2 462) X0 ⟨X0 185 _ rfl, rfl, rfl, X0 184 _ rfl⟩ rfl rfl rfl (h _ s.heap _ (Keeps.refl _) (.int _ _))
theorem fn_get {a b : Int} {d : PyData} {p : Addr} {i : Int} {r : AV} (hp : (p = 179 ∧ i = 0) ∨ (p = 182 ∧ i = 1) ∨ (p = 185 ∧ i = 2)) (hi : (i = 0 ∧ r = I a) ∨ (i = 1 ∧ r = I b) ∨ (i = 2 ∧ r = .dat d)) :
    Fn w (n + 1) 43 [.val (.ref p), MM a b d, .val (.ref 190)] r := by
  refine Fn_ofG (o := _) (fd := _) (body := _) (xs := ["self", "obj", "objtype"]) (as' := [.val (.ref p), MM a b d, .val (.ref 190)]) rfl rfl rfl ?_ ?_ rfl rfl rfl rfl rfl rfl rfl rfl ?_ ?_
  · intro A env h₀ X s Q E R F O H h
    refine st_if (c := false) (EvT_cmp (Ev_local rfl rfl) Ev_none (op_isNone mm_ref)) R F H (fun e => nomatch e) (fun _ h1 tk1 H => ?_)
    refine st_nil ?_
    refine st_if (c := false) (EvT_not (b := true) (EvT_of (Ev_callB (Ev_builtin rfl rfl rfl (by decide)) (EvL_cons (Ev_callT (Ev_builtin rfl rfl rfl (by decide)) (EvL_cons (Ev_local rfl rfl) EvL_nil) do_typeMM) (EvL_cons (Ev_builtin rfl rfl rfl (by decide)) EvL_nil)) do_issub) tr_bool)) R F H (fun e => nomatch e) (fun _ h2 tk2 H => ?_)
    refine st_nil ?_
    refine st_return (Ev_methT2 (T := "tuple") (id := "tuple.__getitem__") (Ev_builtin rfl rfl rfl (by decide)) (Ev_local rfl rfl) (Ev_attr (Ev_local rfl rfl) (at_index hp)) (ty_T "tuple" (by decide +kernel)) (by decide +kernel) (by kernel_rfl) (by decide +kernel) (do_getx hi)) R F H fun v h' tk' H r => h v h' tk' H.keep r
  · intro A X s vals Q E G hX rs h
    cases rs with | cons r1 rs => cases rs with | cons r2 rs => cases rs with | cons r3 rs =>
      cases rs
      rename_i v1 v2 v3
      refine wpAny_bind (m := seqItems? (.ref 36)) (wpAny_bind (wpAny_load (G.K 36 _ rfl) ?_))
      exact wpAny_pure (wpAny_of_eq rfl (h [v1, v2, v3] s.heap s.toks (Keeps.refl _) (.cons r1 (.cons r2 (.cons r3 .nil)))))
  · decide
  · decide
theorem mm_getattr {A : Around} {s : Shared} {Q : Value → Shared → Prop} {E : Value → Shared → Prop} {x dx p : Addr} {va vb vd : Value} {name : Str} (X0 : (KF w).In s.heap) (g1 : s.heap.get? x = some (mmObj dx va vb vd)) (g2 : s.heap.get? dx = some emptyD)
    (hf : findObj (KF w) 190 (some emptyD) name = some (.bind (.ref 43) (.ref p)))
    (h : wpAny (model PG w) A.in1 (call (.ref 43) [.ref p, .ref x, .ref 190]) (fun v s' => wpAny (model PG w) A (handedOut v) Q E s') (fun _ _ => False) { s with toks := s.toks + 1 }) :
    wpAny (model PG w) A (getAttr (.ref x) name true) Q E s := by
  have I0 : InstAt s.heap x (mmObj dx va vb vd) 190 (some emptyD) := ⟨g1, rfl, rfl, g2⟩
  have L0 := I0.type (M := model PG w)
  have L1 : Looks (model PG w) s.heap (typeLookup (.ref 190) "__getattribute__") (some (.builtin "tuple.__getattribute__")) := looks_findIn X0 rfl
  have L2 : Looks (model PG w) s.heap (typeLookup (.ref 190) "__getattr__") none := looks_findIn X0 rfl
  have L3 : Looks (model PG w) s.heap (isInstance (.ref x) (.type "tuple")) true := L0.andThen (looks_mroIn X0 (K := KF w) (C := 190) rfl)
  have L4 := looks_find (M := model PG w) X0 I0 hf
  refine wpAny_bind (wpAny_mkText (wpAny_holding (wpAny_bind (L0 _ _ _ _ (fun _ _ e => e) (wpAny_bind (L1 _ _ _ _ (fun _ _ e => e) ?_))))))
  dsimp only
  rw [show (onTheHeap (.ref 190) && Value.builtin "tuple.__getattribute__" == Value.builtin "object.__getattribute__") = false from by rw [show (Value.builtin "tuple.__getattribute__" == Value.builtin "object.__getattribute__") = false from by decide +kernel, Bool.and_false], if_neg (by decide)]
  refine wpAny_bind (L2 _ _ _ _ (fun _ _ e => e) (wpAny_bind (wpAny_attempt (wpAny_holding ?_))))
  unfold callGetattribute
  rw [show (true && onTheHeap (Value.builtin "tuple.__getattribute__")) = false from rfl, if_neg (by decide)]
  unfold boundAndCalled
  rw [_root_.PySem.F.slot_tuple_getattribute.bind]
  refine wpAny_bind (wpAny_pure ?_)
  show wpAny _ _ (call (.builtin "tuple.__getattribute__") [.ref x, .str name s.toks]) _ _ _
  refine wpAny_call (codeAny_call_builtin _root_.PySem.F.slot_tuple_getattribute.plain am_entry_tuple_getattribute ?_)
  refine @check_slot (model PG w) _ _ { s with toks := s.toks + 1 } "tuple.__getattribute__" "tuple" "__getattribute__" (.ref x) [.str name s.toks] [] _ (by decide +kernel) (by decide +kernel) L3 (_root_.PySem.F.args_tuple_getattribute_2 _ _) ?_
  unfold Builtin.«object.__getattribute__»
  refine wpAny_bind (wpAny_pure (wpAny_bind (wpAny_pure (wpAny_bind (L0 _ _ _ _ (fun _ _ e => e) (wpAny_bind (L4 _ _ _ _ (fun _ _ e => e) ?_)))))))
  show wpAny _ _ (holding [.ref p] (call (.ref 43) [.ref p, .ref x, .ref 190]) >>= ret) _ _ _
  exact wpAny_bind (wpAny_holding (wpAny_mono h (fun v s' z => wpAny_pure z) fun _ _ z => z.elim))
/-- the three attributes of a Mismatch -/
theorem at_mm {a b : Int} {d : PyData} {name : Str} {p : Addr} {i : Int} {r : AV} (hn : (name = "actual" ∧ p = 179 ∧ i = 0) ∨ (name = "expected" ∧ p = 182 ∧ i = 1) ∨ (name = "value" ∧ p = 185 ∧ i = 2)) (hi : (i = 0 ∧ r = I a) ∨ (i = 1 ∧ r = I b) ∨ (i = 2 ∧ r = .dat d)) :
    Does1 w (n + 2) (fun v => getAttr v name true) (MM a b d) r := fun A X s u Q E R G L ru h => by
  obtain ⟨x, dx, va, vb, vd, rfl, n1, n2, g1, g2, e1, e2, rd⟩ := id ru
  have X0 := G.K
  have I0 : InstAt s.heap x (mmObj dx va vb vd) 190 (some emptyD) := ⟨g1, rfl, rfl, g2⟩
  have hp : (p = 179 ∧ i = 0) ∨ (p = 182 ∧ i = 1) ∨ (p = 185 ∧ i = 2) := by
    rcases hn with q | q | q
    · exact .inl q.2
    · exact .inr (.inl q.2)
    · exact .inr (.inr q.2)
  have hf : findObj (KF w) 190 (some emptyD) name = some (.bind (.ref 43) (.ref p)) := by
    rcases hn with ⟨rfl, rfl, rfl⟩ | ⟨rfl, rfl, rfl⟩ | ⟨rfl, rfl, rfl⟩ <;> rfl
  have hh : ∀ v (h : Heap) X, RdA h X v r → handedIn v = true := fun v hq X rv => by
    rcases hi with ⟨_, rfl⟩ | ⟨_, rfl⟩ | ⟨_, rfl⟩
    · cases rv; rfl
    · cases rv; rfl
    · have rv : RdD hq X v d := rv
      cases rv <;> rfl
  refine mm_getattr X0 g1 g2 hf ?_
  refine fn_get hp hi A.in1 X { s with toks := s.toks + 1 } [.ref p, .ref x, .ref 190] _ _ R.in1 G L (.cons rfl (.cons ru (.cons rfl .nil))) fun v h' tk' k r => ?_
  rw [handedOut_of (hh _ _ _ r)]
  exact wpAny_pure (h v h' tk' k r)
end
end Mine

end
section
open PySem PySem.W PyProof.Rows Builtin
set_option maxRecDepth 100000
set_option maxHeartbeats 4000000
set_option linter.unusedVariables false
set_option linter.unusedSimpArgs false
namespace Mine
open AutoSeq1 (wpAny_loadPart')
abbrev nulObj : Obj := { cls := .type "object", data := .plain }
def NUL (nul : Addr) : AV := .such (fun h X v => v = .ref nul ∧ ¬ X nul ∧ h.get? nul = some nulObj) fun h h' X X' v hk hx ⟨e, hn, ho⟩ => ⟨e, hx _ hn (by rw [ho]; rfl), hk _ _ hn ho⟩
theorem int_declines_obj (b : Int) (u : Tok) (l : Addr) :
    Meets (Builtin.«int.__eq__» ⟨[.int b u, .ref l], []⟩) (fun _ R s => s.heap.get? l = some nulObj ∧ R (.ok (.ret .notImplemented)) s) :=
  .of_wp fun prog w A R s h => by obtain ⟨hp, g, d, tk, os⟩ := s; obtain ⟨hl, h⟩ := h; wp_walk using wpAny_load hl; exact ⟨_, rfl, h⟩
theorem str_declines_obj (b : Str) (u : Tok) (l : Addr) :
    Meets (Builtin.«str.__eq__» ⟨[.str b u, .ref l], []⟩) (fun _ R s => s.heap.get? l = some nulObj ∧ R (.ok (.ret .notImplemented)) s) :=
  .of_wp fun prog w A R s h => by obtain ⟨hp, g, d, tk, os⟩ := s; obtain ⟨hl, h⟩ := h; wp_walk using wpAny_load hl; exact ⟨_, rfl, h⟩
theorem list_declines_obj (l : Addr) (items : Array Value) (n : Nat) (dd : Option Addr) (sl : Array (Option Value)) (x : Addr) :
    Meets (Builtin.«list.__eq__» ⟨[.ref l, .ref x], []⟩) (fun _ R s => s.heap.get? l = some { cls := .type "list", dict := dd, data := .seq items n, slots := sl } ∧ s.heap.get? x = some nulObj ∧ R (.ok (.ret .notImplemented)) s) :=
  .of_wp fun prog w A R s h => by
    obtain ⟨hp, g, d, tk, os⟩ := s; obtain ⟨hl, hx, h⟩ := h
    have f1 : isSubtype (.type "object") (.type "list") = pure false := by rw [isSubtype_type]; kernel_rfl
    have hT : Shared.TypeIs ⟨hp, g, d, tk, os⟩ (.ref x) "object" := ⟨_, hx, rfl⟩
    wp_walk using wpAny_loadPart' hl, wpAny_typeOf hT
    exact ⟨_, rfl, h⟩
theorem tuple_declines_obj (l : Addr) (items : Array Value) (n : Nat) (dd : Option Addr) (sl : Array (Option Value)) (x : Addr) :
    Meets (Builtin.«tuple.__eq__» ⟨[.ref l, .ref x], []⟩) (fun _ R s => s.heap.get? l = some { cls := .type "tuple", dict := dd, data := .seq items n, slots := sl } ∧ s.heap.get? x = some nulObj ∧ R (.ok (.ret .notImplemented)) s) :=
  .of_wp fun prog w A R s h => by
    obtain ⟨hp, g, d, tk, os⟩ := s; obtain ⟨hl, hx, h⟩ := h
    have f1 : isSubtype (.type "object") (.type "tuple") = pure false := by rw [isSubtype_type]; kernel_rfl
    have hT : Shared.TypeIs ⟨hp, g, d, tk, os⟩ (.ref x) "object" := ⟨_, hx, rfl⟩
    wp_walk using wpAny_loadPart' hl, wpAny_typeOf hT
    exact ⟨_, rfl, h⟩
section
variable {w : World} {A : Around} {s : Shared} {E : Value → Shared → Prop}
theorem obj_declines {x : Addr} {v : Value} {Q : Value → Shared → Prop} (hx : s.heap.get? x = some nulObj) (hv : ∀ (M : Model) (A : Around) (E' : Value → Shared → Prop) (Q' : Bool → Shared → Prop), Q' false s → wpAny M A (isSame (.ref x) v) Q' E' s) (h : Q .notImplemented s) :
    wpAny (model PG w) A (call (.builtin "object.__eq__") [.ref x, v]) Q E s := by
  have ht : Looks (model PG w) s.heap (isInstance (.ref x) (.type "object")) true := Looks.andThen (a := .type "object") ((Looks.ld hx).andThen .now) (Looks.of_pure (by rw [isSubtype_type]; kernel_rfl))
  refine wpAny_call (codeAny_call_builtin (F.cmp_object.eq.plain) F.cmpEntry_eq (@check_slot (model PG w) _ _ s "object.__eq__" "object" "__eq__" (.ref x) [v] [] _ F.cmpKind_eq F.cmpSplit_eq ht (F.cmpArgs_eq _ _) ?_))
  unfold Builtin.«object.__eq__»
  refine wpAny_bind (wpAny_pure (wpAny_bind (hv _ _ _ _ ?_)))
  exact wpAny_pure h
theorem rc_right_decline {a b : Value} {Tb idb : String} {Q : Value → Shared → Prop} {x : Addr} (ea : a = .ref x) (hx : s.heap.get? x = some nulObj) (hb : s.TypeIs b Tb) (hne : (Value.type "object" != Value.type Tb) = true) (hsub : isSubtype (.type Tb) (.type "object") = pure true) (h2 : Slot Tb (cmpInfo .Eq).2.2 idb)
    (hc2 : ∀ Q' : Value → Shared → Prop, Q' .notImplemented s → wpAny (model PG w) A (call (.builtin idb) [b, a]) Q' E s)
    (hk : ∀ (M : Model) (A : Around) (E' : Value → Shared → Prop) (Q' : Bool → Shared → Prop), Q' false s → wpAny M A (isSame a b) Q' E' s)
    (hr : A.units < cLine) (h : Q (.bool false) s) : wpAny (model PG w) A (compareOp .Eq a b) Q E s := by
  show wpAny _ A (richCompare .Eq _ _) Q E s
  have ha : s.TypeIs a "object" := by subst ea; exact ⟨_, hx, rfl⟩
  have h1 : Slot "object" (cmpInfo .Eq).2.1 "object.__eq__" := _root_.PySem.F.slot_object_eq
  rcases hi : cmpInfo CmpOp.Eq with ⟨sym, f, r⟩
  rw [hi] at h2 h1
  simp only [richCompare, hi, ha.oneThing_none]
  try with_reducible refine wpAny_holding ?_
  refine wpAny_bind (wpAny_cRoomFor_or (.inr hr) ?_)
  refine wpAny_bind (wpAny_typeOf ha (wpAny_bind (wpAny_typeOf hb ?_)))
  simp only [hne, if_true]
  refine wpAny_bind (wpAny_of_eq hsub ?_)
  simp only [if_true]
  refine wpAny_bind (m := tryCompare b _ a) (wpAny_tryCompare_declines hb h2 (hc2 _ ⟨rfl, ?_⟩))
  dsimp only
  have hd : ∀ Q' : Value → Shared → Prop, Q' .notImplemented s → wpAny (model PG w) A (call (.builtin "object.__eq__") [a, b]) Q' E s := fun Q' hq => by
    subst ea; exact obj_declines hx hk hq
  refine wpAny_bind (m := tryCompare a _ b) (wpAny_tryCompare_declines ha h1 (hd _ ⟨rfl, ?_⟩))
  dsimp only
  rw [if_neg (by decide)]
  exact wpAny_bind (wpAny_rule (wpAny_bind (hk _ _ _ _ (wpAny_pure h))))
end
section
variable {w : World} {n : Nat}
/-- the kinds that a thing may have -/
def Kd : PyData → Prop
  | .int _ => True
  | .str _ => True
  | .list _ => True
  | .tuple _ => True
  | _ => False
theorem op_eqNul {nul : Addr} {d : PyData} (hd : Kd d) : Does2 w n (compareOp .Eq) (NUL nul) (.dat d) (B false) := fun A X s u v Q E R _ _ ru rv h => by
  obtain ⟨rfl, hn, ho⟩ := ru
  have hq := h (.bool false) s.heap s.toks (Keeps.refl _) (.bool _)
  have rv : RdD s.heap X v d := rv
  cases rv with
  | none => exact hd.elim
  | bool b => exact hd.elim
  | int i t =>
    exact rc_right_decline rfl ho (typeIs_int s i t) (by decide +kernel) (by rw [isSubtype_type]; kernel_rfl) _root_.PySem.F.slot_int_eq_refl (fun Q' hq' => call_meets _root_.PySem.F.slot_int_eq_refl (typeIs_int s i t) _root_.PySem.F.entry_int_eq (_root_.PySem.F.args_int_eq_2 _ _) (int_declines_obj i t nul) ⟨ho, hq'⟩)
      (fun M A E' Q' hq' => wpAny_isSame_plain rfl (by exact hq')) R.units hq
  | str x t =>
    exact rc_right_decline rfl ho (typeIs_str s x t) (by decide +kernel) (by rw [isSubtype_type]; kernel_rfl) _root_.PySem.F.slot_str_eq_refl (fun Q' hq' => call_meets _root_.PySem.F.slot_str_eq_refl (typeIs_str s x t) _root_.PySem.F.entry_str_eq (_root_.PySem.F.args_str_eq_2 _ _) (str_declines_obj x t nul) ⟨ho, hq'⟩)
      (fun M A E' Q' hq' => wpAny_isSame_plain rfl (by exact hq')) R.units hq
  | list hn2 ho2 ra =>
    rename_i a vs m xs
    have hne : nul ≠ a := fun e => by rw [e, ho2] at ho; exact absurd (congrArg Obj.data (Option.some.inj ho)) (by intro q; cases q)
    exact rc_right_decline rfl ho ⟨_, ho2, rfl⟩ (by decide +kernel) (by rw [isSubtype_type]; kernel_rfl) _root_.PySem.F.slot_list_eq_refl (fun Q' hq' => call_meets _root_.PySem.F.slot_list_eq_refl ⟨_, ho2, rfl⟩ _root_.PySem.F.entry_list_eq (_root_.PySem.F.args_list_eq_2 _ _) (list_declines_obj a vs m none #[] nul) ⟨ho2, ho, hq'⟩)
      (fun M A E' Q' hq' => wpAny_isSame_ref_other hne ho ho2 (by intro e; exact absurd (Value.type.inj e) (by decide)) hq') R.units hq
  | tuple hn2 ho2 ra =>
    rename_i a vs m xs
    have hne : nul ≠ a := fun e => by rw [e, ho2] at ho; exact absurd (congrArg Obj.data (Option.some.inj ho)) (by intro q; cases q)
    exact rc_right_decline rfl ho ⟨_, ho2, rfl⟩ (by decide +kernel) (by rw [isSubtype_type]; kernel_rfl) _root_.PySem.F.slot_tuple_eq_refl (fun Q' hq' => call_meets _root_.PySem.F.slot_tuple_eq_refl ⟨_, ho2, rfl⟩ _root_.PySem.F.entry_tuple_eq (_root_.PySem.F.args_tuple_eq_2 _ _) (tuple_declines_obj a vs m none #[] nul) ⟨ho2, ho, hq'⟩)
      (fun M A E' Q' hq' => wpAny_isSame_ref_other hne ho ho2 (by intro e; exact absurd (Value.type.inj e) (by decide)) hq') R.units hq
theorem op_isNul {nul : Addr} : Does2 w n (compareOp .Is) (NUL nul) (NUL nul) (B true) := fun A X s u v Q E R _ _ ru rv h => by
  obtain ⟨rfl, hn, ho⟩ := ru
  obtain ⟨rfl, _, _⟩ := rv
  exact wpAny_is_ref_self (h _ s.heap s.toks (Keeps.refl _) (.bool _))
theorem op_isNulD {nul : Addr} {d : PyData} : Does2 w n (compareOp .Is) (.dat d) (NUL nul) (B false) := fun A X s u v Q E R _ _ ru rv h => by
  obtain ⟨rfl, hn, ho⟩ := rv
  have hq := h (.bool false) s.heap s.toks (Keeps.refl _) (.bool _)
  have ru : RdD s.heap X u d := ru
  cases ru with
  | none => exact wpAny_is_other rfl (by intro q; cases q) hq
  | bool b => exact wpAny_is_other rfl (by intro q; cases q) hq
  | int i t => exact wpAny_is_other rfl (by intro q; cases q) hq
  | str x t => exact wpAny_is_other rfl (by intro q; cases q) hq
  | list hn2 ho2 ra =>
    rename_i a vs m xs
    have hne : a ≠ nul := fun e => by rw [e, ho] at ho2; exact absurd (congrArg Obj.data (Option.some.inj ho2)) (by intro q; cases q)
    show wpAny _ _ (do return Value.bool (← isSame (.ref a) (.ref nul))) _ _ _
    exact wpAny_bind (SeqAt.wpAny_isSame_ref_other' hne ho2 ho (by intro e; exact absurd (Value.type.inj e) (by decide)) (wpAny_pure hq))
  | tuple hn2 ho2 ra =>
    rename_i a vs m xs
    have hne : a ≠ nul := fun e => by rw [e, ho] at ho2; exact absurd (congrArg Obj.data (Option.some.inj ho2)) (by intro q; cases q)
    show wpAny _ _ (do return Value.bool (← isSame (.ref a) (.ref nul))) _ _ _
    exact wpAny_bind (SeqAt.wpAny_isSame_ref_other' hne ho2 ho (by intro e; exact absurd (Value.type.inj e) (by decide)) (wpAny_pure hq))
end
end Mine

end
section
open PySem PySem.W PyProof.Rows
set_option maxRecDepth 100000
set_option maxHeartbeats 4000000
set_option linter.unusedVariables false
namespace Mine
/-- a list whose things are described one by one -/
def LstA (h : Heap) (X : Addr → Prop) (l : Addr) (as : List AV) : Prop := ∃ vs n, h.get? l = some { cls := .type "list", data := .seq vs n } ∧ RdAs h X vs.toList as
theorem LstA.mono {h h' : Heap} {X X' : Addr → Prop} {l : Addr} {as : List AV} (L : LstA h X l as) (hl : ∀ o, h.get? l = some o → h'.get? l = some o) (hk : ∀ b o, ¬ X b → h.get? b = some o → h'.get? b = some o) (hx : ∀ b, ¬ X b → (h.get? b).isSome → ¬ X' b) : LstA h' X' l as :=
  let ⟨vs, n, ho, r⟩ := L; ⟨vs, n, hl _ ho, r.mono hk hx⟩
theorem LstA.keeps {h h' : Heap} {X : Addr → Prop} {l : Addr} {as : List AV} (L : LstA h X l as) (k : Keeps h h') : LstA h' X l as := L.mono (fun _ e => k _ _ e) (fun _ _ _ e => k _ _ e) fun _ n _ => n
theorem LstA.ground {w : World} {env : Env} {h₀ h₂ h : Heap} {X : Addr → Prop} {σ : Sto} {l : Addr} {as : List AV} (L : LstA h X l as) (C : CellsIn env X) (H : EnvAt w env h₀ X h σ) (hl : ¬ Mineof env l) (hin : ∀ b, ¬ Mineof env b → ¬ False → h₂.get? b = h.get? b) : LstA h₂ X l as :=
  L.mono (fun o e => (hin l hl id).trans e) (fun b o hn e => (hin b (fun m => hn (m.x C H)) id).trans e) fun _ n _ => n
/-- such a list as a value -/
def LAV (as : List AV) : AV := .such (fun h X v => ∃ l, v = .ref l ∧ ¬ X l ∧ LstA h X l as) fun h h' X X' v hk hx ⟨l, e, hn, L⟩ => ⟨l, e, (let ⟨vs, n, ho, _⟩ := L; hx _ hn (by rw [ho]; rfl)), L.mono (fun o ho => hk _ _ hn ho) hk hx⟩
theorem RdAs.length {h : Heap} {X : Addr → Prop} {vs : List Value} {as : List AV} (r : RdAs h X vs as) : vs.length = as.length := rdAs_len r
theorem RdAs.get {h : Heap} {X : Addr → Prop} {vs : List Value} {as : List AV} (r : RdAs h X vs as) : ∀ {i : Nat} {a : AV}, as[i]? = some a → ∃ v, vs[i]? = some v ∧ RdA h X v a := by
  induction r with
  | nil => intro i a e; simp at e
  | cons a b ih =>
    intro i d e
    cases i with
    | zero => simp at e; subst e; exact ⟨_, rfl, a⟩
    | succ i => simp at e; obtain ⟨v, h1, h2⟩ := ih e; exact ⟨v, by simpa using h1, h2⟩
theorem RdAs.get' {h : Heap} {X : Addr → Prop} {vs : List Value} {as : List AV} (r : RdAs h X vs as) {i : Nat} {v : Value} (hv : vs[i]? = some v) : ∃ a, as[i]? = some a ∧ RdA h X v a := by
  have hl := r.length
  have hi : i < vs.length := by
    rcases Nat.lt_or_ge i vs.length with q | q
    · exact q
    · rw [List.getElem?_eq_none q] at hv; cases hv
  have hd : as[i]? = some as[i] := List.getElem?_eq_getElem (by omega)
  obtain ⟨u, hu, ru⟩ := r.get hd
  rw [hv] at hu; cases hu
  exact ⟨_, hd, ru⟩
theorem RdAs.set {h : Heap} {X : Addr → Prop} {vs : List Value} {as : List AV} {v : Value} {a : AV} (r : RdAs h X vs as) (hv : RdA h X v a) : ∀ k : Nat, RdAs h X (vs.set k v) (as.set k a) := by
  induction r with
  | nil => intro k; exact .nil
  | cons a b ih =>
    intro k
    cases k with
    | zero => exact .cons hv b
    | succ k => exact .cons a (ih k)
theorem RdAs.concat {h : Heap} {X : Addr → Prop} {vs : List Value} {as : List AV} {v : Value} {a : AV} (r : RdAs h X vs as) (hv : RdA h X v a) : RdAs h X (vs ++ [v]) (as ++ [a]) := by
  induction r with
  | nil => exact .cons hv .nil
  | cons a b ih => exact .cons a ih
theorem RdAs.of_all {h : Heap} {X : Addr → Prop} : ∀ {vs : List Value} {ds : List PyData}, RdAll h X vs ds → RdAs h X vs (ds.map AV.dat)
  | _, _, .nil => .nil
  | _, _, .cons a b => .cons a (RdAs.of_all b)
section
variable {w : World} {n : Nat} {sc : Scope} {σ : Sto} {A : Around} {env : Env} {h₀ : Heap} {X : Addr → Prop} {s : Shared} {E : Value → Shared → Prop}
-- reading
theorem getA {as : List AV} {i : Int} {a : AV} (h0 : 0 ≤ i) (hf : i < 2 ^ 63) (hx : as[i.toNat]? = some a) : Does2 w n getItem (LAV as) (I i) a := fun A X s o j Q E R _ _ ro rj h => by
  cases rj
  obtain ⟨l, rfl, hn, vs, m, ho, ra⟩ := ro
  obtain ⟨v, hv, rv⟩ := ra.get hx
  exact wpAny_getItem_list ⟨_, ho, rfl, _, rfl⟩ h0 hf (by simpa using hv) (h _ s.heap s.toks (Keeps.refl _) rv)
theorem len_A {as : List AV} (hf : as.length ≤ 1000000) : DoesL w n (cB "len") [LAV as] (I as.length) := fun A X s vals Q E _ _ _ rs h => by
  cases rs with | cons r rs =>
    cases rs
    obtain ⟨l, rfl, hn, vs, m, ho, ra⟩ := r
    have e : vs.size = as.length := by have := ra.length; simpa using this
    refine len_list ⟨_, ho, rfl, _, rfl⟩ (by rw [e]; omega) ?_
    rw [e]
    exact h _ s.heap _ (Keeps.refl _) (.int _ _)
theorem Ev_subA {v i : Expr} {pos : Pos} {as : List AV} {b r : AV} (hv : Ev w n sc σ v (LAV as)) (hi : Ev w n sc σ i b) (hg : Does2 w n getItem (LAV as) b r)
    (hs : ∀ o j, ∃ ops, subscripted i false o j = operate ops (getItem o j) := by intro _ _; exact ⟨_, rfl⟩) : Ev w n sc σ (.Subscript v i pos) r := by
  intro A env h₀ X s Q E R F H h
  refine Subscript_ (hv.run R F H fun u h' tk' k H' ru => ?_)
  refine hi.run (s := { s with heap := h', toks := tk' }) R F H' fun j h2 tk2 k2 H2 rj => ?_
  obtain ⟨ops, e⟩ := hs u j
  have ru' := ru.keeps k2.x
  have hT : ({ s with heap := h2, toks := tk2 } : Shared).TypeIs u "list" := by
    obtain ⟨l, rfl, hn, vs, m, ho, ra⟩ := ru'
    exact ⟨_, ho, rfl⟩
  refine tail_any hT _root_.PySem.F.slot_list_getitem.lookup ?_ e
  exact hg A X _ u j _ _ R H2.goodH H2.alive ru' rj fun v h3 tk3 k3 r3 => h v h3 tk3 ((k.trans k2).trans k3) r3
/-- the frame, with a list of its own shown -/
theorem EnvAt.shown {h : Heap} {x : Str} {l : Addr} {as : List AV} (F : Fit sc env) (H : EnvAt w env h₀ X h σ) (hk : sc.names.lookup x = some .local) (hx : σ x = some (.val (.ref l))) (fnot : ¬ Mineof env l) (L : LstA h X l as) :
    EnvAt w env h₀ (fun b => X b ∧ b ≠ l) h (σ.set x (LAV as)) := by
  have hk' : env.kindOf x = some .local := by unfold Env.kindOf; rw [F.scope]; exact hk
  have hl : ∀ b, X b ∧ b ≠ l → X b := fun b q => q.1
  refine ⟨H.good, H.keep, fun a ha => H.alive a ha.1, ⟨H.hidL, fun e => fnot (.inl e.symm)⟩, H.above, ?_, fun y ky => ?_⟩
  · obtain ⟨m, hm, hr⟩ := H.loc
    refine ⟨m, hm, fun y a e k => ?_⟩
    unfold Sto.set at e
    by_cases q : y = x
    · rw [if_pos q] at e; cases e
      subst q
      obtain ⟨v, hv, r⟩ := hr y _ hx k
      refine ⟨v, hv, l, r, fun q => q.2 rfl, ?_⟩
      exact L.mono (fun _ e => e) (fun _ _ _ e => e |> fun e => e) (fun b n _ q => n q.1) |> fun z => z
    · rw [if_neg q] at e
      obtain ⟨v, hv, r⟩ := hr y a e k
      exact ⟨v, hv, r.less hl⟩
  · obtain ⟨c, o, ov, g1, g2, g3, g4, g5, g6⟩ := H.cel y ky
    refine ⟨c, o, ov, g1, ⟨g2, fun e => fnot (.inr ⟨y, e ▸ g1⟩)⟩, g3, g4, g5, fun a e => ?_⟩
    have q : y ≠ x := by
      rintro rfl
      rw [hk'] at ky
      rcases ky with k | k <;> cases k
    unfold Sto.set at e
    rw [if_neg q] at e
    obtain ⟨v, hv, rv⟩ := g6 a e
    exact ⟨v, hv, rv.less hl⟩
/-- a test over a shown frame -/
theorem st_ifS {t : Expr} {b o rest : List Stmt} {pos : Pos} {c : Bool} {Q : Flow → Shared → Prop} {X2 : Addr → Prop} {σ2 : Sto} {g2 : Heap} (ht : EvT w n sc σ2 t c) (R : Room n A) (F : Fit sc env) (H2 : EnvAt w env g2 X2 s.heap σ2)
    (h1 : c = true → ∀ h' tk', Keeps s.heap h' → Run w A b env (fun f s' => match f with | .next => Run w A rest env Q E s' | f => Q f s') E { s with heap := h', toks := tk' })
    (h2 : c = false → ∀ h' tk', Keeps s.heap h' → Run w A o env (fun f s' => match f with | .next => Run w A rest env Q E s' | f => Q f s') E { s with heap := h', toks := tk' }) : Run w A (.If t b o pos :: rest) env Q E s := by
  refine wpAny_execs_cons (wpAny_If (ht.run R F H2 fun h' tk' k H' => ?_))
  cases hc : c with
  | true => exact h1 hc h' tk' k
  | false => exact h2 hc h' tk' k
/-- x[j] = y -/
theorem st_setA {x j y : Str} {p1 p2 p3 p4 pos : Pos} {l : Addr} {as : List AV} {k : Nat} {a : AV} {rest : List Stmt} {Q : Flow → Shared → Prop} (F : Fit sc env) (H : EnvAt w env h₀ X s.heap σ)
    (hk : sc.names.lookup x = some .local) (hx : σ x = some (.val (.ref l))) (hkj : sc.names.lookup j = some .local) (hj : σ j = some (I (k : Int))) (hky : sc.names.lookup y = some .local) (hy : σ y = some a) (f : Free env h₀ X l) (L : LstA s.heap X l as) (hkl : k < as.length) (hlen : as.length ≤ 1000000)
    (h : ∀ h', EnvAt w env h₀ X h' σ → Heap.SameBut l s.heap h' → LstA h' X l (as.set k a) → Run w A rest env Q E { s with heap := h' })
    (hdx : (x == ("__debug__" : Str)) = false := by decide) (hdj : (j == ("__debug__" : Str)) = false := by decide) (hdy : (y == ("__debug__" : Str)) = false := by decide)
    (hs : swapsWith (.Name y p4) (some (.Subscript (.Name x p1) (.Name j p2) p3)) pos.line env = pure false := by rfl) : Run w A (.Assign [.Subscript (.Name x p1) (.Name j p2) p3] (.Name y p4) pos :: rest) env Q E s := by
  refine wpAny_execs_cons (wpAny_Assign_Subscript ?_ hs)
  refine ld_local F H hky hy (fun u ru => ?_) hdy
  refine ld_local F H hk hx (fun v rv => ?_) hdx
  cases rv
  refine ld_local F H hkj hj (fun v rv => ?_) hdj
  cases rv
  obtain ⟨vs, m, ho, ra⟩ := L
  have e : vs.size = as.length := by have := ra.length; simpa using this
  refine ki_setAt (n := m) ho (by omega) (by omega) (by omega) ?_
  obtain ⟨m', hm'⟩ := mapSeq_get (f := fun z => z.setIfInBounds (k : Int).toNat u) ho
  have sb : Heap.SameBut l s.heap (s.heap.update l (Obj.mapSeq fun z => z.setIfInBounds (k : Int).toNat u)) := Heap.SameBut.update ..
  have kx : KeepsX X s.heap _ := .sameBut sb f.hid
  refine h _ (H.wrote f sb (by rw [hm']; rfl)) sb ⟨_, m', hm', ?_⟩
  rw [Array.toList_setIfInBounds]
  exact (ra.keeps kx).set (ru.keeps kx) k
/-- x.append(y) -/
theorem st_appendA {x y : Str} {p q apos pos spos : Pos} {l : Addr} {as : List AV} {a : AV} {rest : List Stmt} {Q : Flow → Shared → Prop} (F : Fit sc env) (H : EnvAt w env h₀ X s.heap σ) (hk : sc.names.lookup x = some .local) (hx : σ x = some (.val (.ref l))) (hky : sc.names.lookup y = some .local) (hy : σ y = some a) (f : Free env h₀ X l) (L : LstA s.heap X l as) (hz : as.length ≤ 1000)
    (h : ∀ h', EnvAt w env h₀ X h' σ → Heap.SameBut l s.heap h' → LstA h' X l (as ++ [a]) → Run w A rest env Q E { s with heap := h' }) (hd : (x == ("__debug__" : Str)) = false := by decide) (hdy : (y == ("__debug__" : Str)) = false := by decide)
    (hbase : ∀ env, attributeBase (.Name x p) "append" env (eval (.Name x p) env) = eval (.Name x p) env := by intro _; rfl) (hline : (apos.endLine == pos.line) = true := by rfl)
    (hsw : swapsWith (.Call (.Attribute (.Name x p) "append" apos) [.Name y q] [] pos) none spos.line env = pure false := by rfl) :
    Run w A (.Expr (.Call (.Attribute (.Name x p) "append" apos) [.Name y q] [] pos) spos :: rest) env Q E s := by
  have hi : interactive env = false := by unfold interactive; rw [F.scope, F.kind]; rfl
  refine wpAny_execs_cons (wpAny_Expr ?_ hi hsw)
  refine Call_method1 (hbase env) rfl hline (ld_local F H hk hx (fun v rv => ?_) hd)
  cases rv
  obtain ⟨vs, m, ho, ra⟩ := L
  refine ⟨"list", "list.append", _root_.PySem.F.plainAttrs_list, _root_.PySem.F.slot_list_append, _root_.PySem.F.type_list_append, ⟨_, ho, rfl⟩, fun l' e => by cases e; exact ⟨_, ho, rfl⟩, ?_⟩
  refine Calls.callWith_builtin rfl (Calls.evalArgs_plain (Calls.spliced_cons (ld_local F H hky hy (fun u ru => Calls.spliced_nil ?_) hdy)))
  have hsz : vs.size ≤ sizeLine := by have := ra.length; rw [Array.length_toList] at this; rw [this]; exact small (by omega)
  refine call_meets _root_.PySem.F.slot_list_append ⟨_, ho, rfl⟩ _root_.PySem.F.entry_list_append (_root_.PySem.F.args_list_append_2 _ _) (AutoListH.list_append_list_val_0 l vs m u hsz) ⟨ho, ?_⟩
  obtain ⟨m', hm'⟩ := mapSeq_get (f := fun x => x.push u) ho
  have sb : Heap.SameBut l s.heap (s.heap.update l (Obj.mapSeq fun x => x.push u)) := Heap.SameBut.update ..
  have kx : KeepsX X s.heap _ := .sameBut sb f.hid
  refine h _ (H.wrote f sb (by rw [hm']; rfl)) sb ⟨_, m', hm', ?_⟩
  rw [Array.toList_push]
  exact (ra.keeps kx).concat (ru.keeps kx)
/-- x = y = e, e no reference to own things -/
theorem st_assign2 {x y : Str} {p q pos : Pos} {e : Expr} {a : AV} {rest : List Stmt} {Q : Flow → Shared → Prop} (he : Ev w n sc σ e a) (hx : sc.names.lookup x = some .local) (hy : sc.names.lookup y = some .local) (R : Room n A) (F : Fit sc env) (H : EnvAt w env h₀ X s.heap σ)
    (h : ∀ h' tk', EnvAt w env h₀ X h' ((σ.set x a).set y a) → Run w A rest env Q E { s with heap := h', toks := tk' })
    (hte : (assignEach [.Name x p, .Name y q] env).map (·.2) = [assign (.Name x p) env, assign (.Name y q) env] := by rfl)
    (hw : swappedStores [.Name x p, .Name y q] e env = pure none := by rfl) : Run w A (.Assign [.Name x p, .Name y q] e pos :: rest) env Q E s := by
  refine wpAny_execs_cons (wpAny_Assign_two (he.run R F H fun v h' tk' k H' r => ?_) hte hw)
  refine assign_Name (store_local (s := { s with heap := h', toks := tk' }) F H' hx r fun h2 tk2 H2 kx2 => ?_)
  exact assign_Name (store_local (s := { s with heap := h2, toks := tk2 }) F H2 hy (r.keeps kx2) fun h3 tk3 H3 _ => h h3 tk3 H3)
theorem st_continue {pos : Pos} {rest : List Stmt} {Q : Flow → Shared → Prop} (h : Q .cont s) : Run w A (.Continue pos :: rest) env Q E s := wpAny_execs_cons (wpAny_Continue h)
end
end Mine

end
section
open PySem PySem.W PyProof.Rows
set_option maxRecDepth 100000
set_option maxHeartbeats 4000000
set_option linter.unusedVariables false
namespace Mine
theorem EvIt_range {w : World} {n : Nat} {sc : Scope} {σ : Sto} {f : Str} {pf pos : Pos} {e1 e2 : Expr} {a b : Nat} (hf : Ev w n sc σ (.Name f pf) (.val (.type "range"))) (h1 : Ev w n sc σ e1 (I (a : Int))) (h2 : Ev w n sc σ e2 (I (b : Int))) (hab : a ≤ b) (hb : b ≤ 1000000) {x : Str} {p : Pos}
    (hs : ∀ env, starEach [e1, e2] env = [(false, eval e1 env), (false, eval e2 env)] := by intro _; rfl) :
    EvIt w n sc σ (.Call (.Name f pf) [e1, e2] [] pos) (b - a) (.Name x p) [x] (fun i => [I ((a + i : Nat) : Int)]) := by
  intro A env h₀ X s Q E R F H h
  refine Call_Name rfl (hf.run R F H fun v h' tk' k0 H0 rv => ?_)
  cases rv
  refine PyProof.Rows.callWith_type (by rw [hs env]; rfl) ?_
  rw [hs env]
  refine Calls.evalArgs_plain (Calls.spliced_cons (h1.run (s := { s with heap := h', toks := tk' }) R F H0 fun v1 h1' tk1 k1 H1 rv1 => ?_))
  cases rv1
  rename_i ta
  refine Calls.spliced_cons (h2.run (s := { s with heap := h1', toks := tk1 }) R F H1 fun v2 h2' tk2 k2 H2 rv2 => Calls.spliced_nil ?_)
  cases rv2
  rename_i tb
  refine call_range_2 (s := { s with heap := h2', toks := tk2 }) ?_
  have hr := IsRange.new h2' (a : Int) (b : Int) 1 ta tb tk2
  have hsm := small_one (a := (a : Int)) (b := (b : Int)) (by omega) (by omega) (by omega) (by omega)
  refine wpAny_pyIter_range (s := { s with heap := h2'.push { cls := .type "range", data := .fields #[.int (a : Int) ta, .int (b : Int) tb, .int 1 tk2] }, toks := tk2 + 1 }) hr hsm ?_
  have e : Builtin.Range.rangeSize (a : Int) (b : Int) 1 = ((b - a : Nat) : Int) := by rw [rangeSize_one]; split <;> omega
  rw [e]
  generalize hg1 : h2'.push { cls := .type "range", data := .fields #[.int (a : Int) ta, .int (b : Int) tb, .int 1 tk2] } = h3
  have k3 : Keeps h2' h3 := by rw [← hg1]; exact Keeps.push _ _
  have kp := Keeps.push h3 { cls := .type "range_iterator", data := .fields #[rawInt (a : Int), rawInt ((b - a : Nat) : Int), rawInt 1] }
  have W := Walks.range (prog := PG) (w := w) R.hh h3.objs.size (a : Int) 1 (b - a)
  have kk : Keeps s.heap h3 := ((k0.trans k1).trans k2).trans k3
  refine h h3.objs.size [h3.objs.size] [h3.objs.size] _ (fun _ _ => True) _ _ (kk.trans kp) (Turns.name W ?_ ?_ ?_) ?_ trivial ?_ ?_ ?_
  · intro i h' st b hb
    rcases List.mem_singleton.mp hb with rfl
    have st : h'.get? _ = some _ := st
    rw [st]; rfl
  · intro _ _ _ _ _ _ _; trivial
  · intro h' X' i v _ hv hi
    obtain ⟨t, rfl⟩ := hv
    have e2 : ((a : Int) + (i : Int) * 1) = ((a + i : Nat) : Int) := by push_cast; omega
    rw [e2]
    exact RdD.int _ _
  · have : ((a : Int) + ((0 : Nat) : Int) * 1) = (a : Int) := by simp
    show IsRangeIter _ _ ((a : Int) + ((0 : Nat) : Int) * 1) (((b - a : Nat) : Int) - ((0 : Nat) : Int)) 1
    rw [this, show (((b - a : Nat) : Int) - ((0 : Nat) : Int)) = ((b - a : Nat) : Int) by simp]
    exact Heap.get?_push_size _ rfl
  · intro b hb
    rcases List.mem_singleton.mp hb with rfl
    exact none_of_size kk (Nat.le_refl _)
  · intro b hb hnb
    exact absurd hb hnb
  · intro b hb
    rcases List.mem_singleton.mp hb with rfl
    rw [Heap.get?_push_size _ rfl]; rfl
/-- a list of described values as a source -/
theorem EvIt_listA {w : World} {n : Nat} {sc : Scope} {σ : Sto} {iter : Expr} {as : List AV} {d0 : AV} (he : Ev w n sc σ iter (LAV as)) {x : Str} {p : Pos} : EvIt w n sc σ iter as.length (.Name x p) [x] (fun i => [as.getD i d0]) := by
  intro A env h₀ X s Q E R F H h
  refine he.run R F H fun v h1 tk1 k1 H1 rv => ?_
  obtain ⟨a, rfl, hn, vs, m, ho, ra⟩ := rv
  refine wpAny_pyIter_list (s := { s with heap := h1, toks := tk1 }) ⟨_, ho, rfl, _, rfl⟩ ?_
  have hne : a ≠ h1.objs.size := Nat.ne_of_lt (Heap.lt_size ho)
  have hlen : vs.size = as.length := by have := ra.length; simpa using this
  have kp := Keeps.push h1 { cls := .type "list_iterator", data := .fields #[.ref a, .int 0 0] }
  have W := Walks.list (prog := PG) (w := w) R.hh h1.objs.size a hne vs
  rw [hlen] at W
  refine h h1.objs.size [h1.objs.size, a] [h1.objs.size] _ (fun h X => RdAs h X vs.toList as) _ tk1 (k1.trans kp) (Turns.name W ?_ ?_ ?_) ?_ ?_ ?_ ?_ ?_
  · intro i h' st b hb
    rcases List.mem_singleton.mp hb with rfl
    obtain ⟨o, ho', _⟩ := st.1
    rw [ho']; rfl
  · intro h h' X X' r hk hx; exact r.mono hk hx
  · intro h' X' i v r hv hi
    obtain ⟨d, hd, rd⟩ := r.get' (by simpa using hv)
    have e : as.getD i d0 = d := by rw [List.getD_eq_getElem?_getD, hd]; rfl
    rw [e]; exact rd
  · exact ⟨⟨_, Heap.get?_push_size _ rfl, rfl, rfl⟩, _, Heap.get?_push_of_some _ ho, rfl, _, rfl⟩
  · refine ra.mono (fun b o _ e => kp _ _ e) fun b hn hs hx => ?_
    rcases hx with hx | hx
    · exact hn hx
    · rcases List.mem_singleton.mp hx with rfl
      obtain ⟨o, ho'⟩ := Option.isSome_iff_exists.mp hs
      exact absurd (Heap.lt_size ho') (Nat.lt_irrefl _)
  · intro b hb
    rcases List.mem_singleton.mp hb with rfl
    exact none_of_size k1 (Nat.le_refl _)
  · intro b hb hnb
    rcases List.mem_cons.mp hb with rfl | hb
    · exact absurd (List.mem_singleton.mpr rfl) hnb
    · rcases List.mem_singleton.mp hb with rfl
      exact hn
  · intro b hb
    rcases List.mem_cons.mp hb with rfl | hb
    · rw [Heap.get?_push_size _ rfl]; rfl
    · rcases List.mem_singleton.mp hb with rfl
      rw [kp _ _ ho]; rfl
end Mine

end
section
open PySem PySem.W PyProof.Rows
set_option maxRecDepth 100000
set_option maxHeartbeats 4000000
set_option linter.unusedVariables false
namespace Mine
section
variable {w : World} {n : Nat} {sc : Scope} {σ : Sto} {A : Around} {env : Env} {h₀ : Heap} {X : Addr → Prop} {s : Shared} {E : Value → Shared → Prop}
/-- for x, y in enumerate(z): the list z is the frame's own, and its things may change -/
theorem st_forM {f z x y : Str} {pf pz pos1 p q pt pos : Pos} {kk : Nat} {body rest : List Stmt} {Q : Flow → Shared → Prop} {N : Nat} {l : Addr} (b : Nat → AV) (σs : Nat → Sto) (OW : Addr → Prop) (J : Nat → Heap → (Addr → Prop) → Prop)
    (hf : Ev w n sc σ (.Name f pf) (.val (.type "enumerate"))) (hz : sc.names.lookup z = some .local) (hzσ : σ z = some (.val (.ref l))) (hxs : ∀ c ∈ [x, y], sc.names.lookup c = some .local) (hσ : ∀ x a, σs 0 x = some a → σ x = some a) (R : Room n A) (F : Fit sc env) (O : Own env h₀) (H : EnvAt w env h₀ X s.heap σ)
    (hOW : ∀ b, OW b → X b ∧ b ≠ env.locals ∧ h₀.get? b = none) (hl : OW l) (hJ : ∀ i h h' X X', J i h X → (∀ b o, (¬ X b ∨ OW b) → h.get? b = some o → h'.get? b = some o) → (∀ b, ¬ X b → (h.get? b).isSome → ¬ X' b) → J i h' X')
    (hcur : ∀ i h X, J i h X → ∃ as, LstA h X l as ∧ as.length = N ∧ (i < N → as[i]? = some (b i))) (hJ0 : J 0 s.heap X)
    (step : ∀ i h₁ X' h' tk' E', i < N → Keeps h₀ h₁ → (∀ b, X b → X' b) → Own env h₁ → EnvAt w env h₁ X' h' ((σs i).sets [x, y] [I (i : Int), b i]) → J i h' X' → (∀ b, OW b → h₁.get? b = none) →
      Run w A body env (EndsFor w env h₁ X' (σs (i + 1)) (fun h => J (i + 1) h X') Q s) E' { s with heap := h', toks := tk' })
    (h : ∀ h' tk', EnvAt w env h₀ X h' (σs N) → J N h' X → Run w A rest env Q E { s with heap := h', toks := tk' })
    (hs : ∀ x, foldedSetIterable (.Call (.Name f pf) [.Name z pz] [] pos1) env x = pure x := by intro _; rfl) (hdz : (z == ("__debug__" : Str)) = false := by decide) :
    Run w A (.For (.Tuple [.Name x p, .Name y q] kk pt) (.Call (.Name f pf) [.Name z pz] [] pos1) body [] pos :: rest) env Q E s := by
  refine wpAny_execs_cons (wpAny_For ?_ hs)
  refine Call_Name rfl (hf.run R F H fun v hB tkB kB HB rv => ?_)
  cases rv
  refine PyProof.Rows.callWith_type rfl (Calls.evalArgs_plain (Calls.spliced_cons (ld_local (s := { s with heap := hB, toks := tkB }) F HB hz hzσ (fun v rv => Calls.spliced_nil ?_) hdz)))
  cases rv
  have jB : J 0 hB X := hJ _ _ _ _ _ hJ0 (fun b o _ e => kB _ _ e) fun _ hn _ => hn
  obtain ⟨as0, ⟨vs0, m0, ho0, ra0⟩, hlen0, _⟩ := hcur 0 hB X jB
  refine call_enumerate_1 (s := { s with heap := hB, toks := tkB }) ho0 fun hA he2 hit2 hz2 kA => ?_
  refine wpAny_pyIter_enum (s := { s with heap := hA, toks := tkB }) he2 ?_
  have kA : Keeps hB hA := kA
  have hlt0 := Heap.lt_size ho0
  generalize hee : hB.objs.size + 1 = e at *
  generalize hii : hB.objs.size = it at *
  have hei : e ≠ it := by rw [← hee]; exact Nat.succ_ne_self _
  have hle : l ≠ e := by rw [← hee]; exact Nat.ne_of_lt (Nat.lt_succ_of_lt hlt0)
  have hli : l ≠ it := Nat.ne_of_lt hlt0
  have hwr : ∀ b ∈ [e, it], hB.get? b = none := fun b hb => by
    rcases List.mem_cons.mp hb with rfl | hb
    · exact none_of_size (Keeps.refl _) (by rw [← hee, hii]; exact Nat.le_succ _)
    · rcases List.mem_singleton.mp hb with rfl
      exact none_of_size (Keeps.refl _) (by rw [hii]; exact Nat.le_refl _)
  have C := HB.cells O
  have hX' : ∀ b, X b → XU X [e, it] b := fun b hb => .inl hb
  have HA : EnvAt w env h₀ (XU X [e, it]) hA σ := HB.grow kA hwr fun b hb => by
    rcases List.mem_cons.mp hb with rfl | hb
    · rw [he2]; rfl
    · rcases List.mem_singleton.mp hb with rfl
      obtain ⟨o, e2, _⟩ := hit2; rw [e2]; rfl
  have hXw : ∀ b, X b → b ∉ [e, it] := fun b hb q => by have := HB.alive b hb; rw [hwr b q] at this; cases this
  have hLw : env.locals ∉ [e, it] := hXw _ HB.hidL
  have hLf : env.locals ∉ [e, it, l] := fun q => by
    rcases List.mem_cons.mp q with q | q
    · exact hLw (q ▸ .head _)
    · rcases List.mem_cons.mp q with q | q
      · exact hLw (q ▸ .tail _ (.head _))
      · exact (hOW l hl).2.1 (List.mem_singleton.mp q).symm
  have hcw : ∀ x c, env.cells.lookup x = some c → c ∉ [e, it] := fun x c q => hXw _ (C x c q).1
  have hOf : ∀ b, OW b → b ∉ [e, it] := fun b hb => hXw _ (hOW b hb).1
  have h0w : ∀ b ∈ [e, it], h₀.get? b = none := fun b hb => by
    cases q : h₀.get? b with
    | none => rfl
    | some o => have := HB.keep _ _ q; rw [hwr b hb] at this; cases this
  have CX : CellsIn env (XU X [e, it]) := fun x c e => ⟨.inl (C x c e).1, (C x c e).2⟩
  refine codeAny_forLoop_any (fun k s' => ∃ i h' tk', s' = { s with heap := h', toks := tk' } ∧ (∃ old, IsEnum h' e it (i : Nat) old) ∧ h'.IsListIter it l i ∧ EnvAt w env h₀ (XU X [e, it]) h' (σs i) ∧ J i h' (XU X [e, it]) ∧ i ≤ N ∧ k = N + 1 - i) ?_ (N + 1)
    ⟨0, hA, tkB, rfl, ⟨_, he2⟩, hit2, HA.weak hσ, hJ _ _ _ _ _ jB (fun b o _ e => kA _ _ e) (fun b hn hb hx => hx.elim hn fun hw => by rw [hwr b hw] at hb; cases hb), Nat.zero_le _, rfl⟩
  rintro k s' ⟨i, h', tk', rfl, stE, stI, H', j, hi, rfl⟩
  obtain ⟨as, ⟨vs, m, ho, ra⟩, hlen, hb⟩ := hcur i h' _ j
  have hvs : vs.size = N := by have := ra.length; rw [Array.length_toList] at this; omega
  have W := WalksT.enumerate (prog := PG) (w := w) (A := A) R.hh e it l hei hle hli vs
  rw [hvs] at W
  by_cases hlt : i < N
  · have T : Turns w A e [e, it, l] [e, it] N (.Tuple [.Name x p, .Name y q] kk pt) [x, y] (fun i => [I (i : Int), as.getD i (.dat .none)]) _ (fun h X => RdAs h X vs.toList as) := Turns.pair R.hh W (fun i h' st b hb => by
        obtain ⟨⟨old, e1⟩, ⟨o, e2, _⟩, _⟩ := st
        rcases List.mem_cons.mp hb with rfl | hb
        · rw [e1]; rfl
        · rcases List.mem_singleton.mp hb with rfl
          rw [e2]; rfl) (fun h h' X X' r hk hx => r.mono hk hx) (fun h' X' i vals r hv hi => by
        obtain ⟨t, u, hu, rfl⟩ := hv
        obtain ⟨d, hd, rd⟩ := r.get' (by simpa using hu)
        have e : as.getD i (.dat .none) = d := by rw [List.getD_eq_getElem?_getD, hd]; rfl
        refine ⟨_, _, rfl, RdD.int _ _, ?_⟩
        rw [e]; exact rd)
    have eb : as.getD i (.dat .none) = b i := by rw [List.getD_eq_getElem?_getD, hb hlt]; rfl
    refine wpAny_mono (T.turn i sc env h₀ (XU X [e, it]) { s with heap := h', toks := tk' } (σs i) _ _ hlt ⟨stE, stI, _, ho, rfl, _, rfl⟩ ra F hxs H' (fun b hb => .inr hb) hLf (fun x c _ e q => hcw x c e q) h0w fun h2 tk2 st2 H2 kx2 k2 => ?_) (fun r s1 hr => by obtain ⟨v, rfl, hr⟩ := hr; exact hr) (fun _ _ e => e)
    dsimp only at kx2 k2 H2 ⊢
    rw [eb] at H2
    have j2 : J i h2 (XU X [e, it]) := hJ _ _ _ _ _ j (fun b o hb e => hb.elim (fun hn => kx2 b o hn e) fun hb => k2 b o (hOf b hb) (hOW b hb).2.1 e) (fun _ hn _ => hn)
    obtain ⟨h₁, k01, H1, O1, hin, hout⟩ := H2.full O OW (fun b hb => (hOW b hb).2.2)
    refine wpAny_mono (step i h₁ (XU X [e, it]) h2 tk2 _ hlt k01 hX' O1 H1 j2 hout) (fun f s3 h3 => ?_) (fun _ _ e => e)
    have fin : ∀ h3 tk3, EnvAt w env h₁ (XU X [e, it]) h3 (σs (i + 1)) → J (i + 1) h3 (XU X [e, it]) → ∃ m, m < N + 1 - i ∧ ∃ i h' tk', ({ s with heap := h3, toks := tk3 } : Shared) = { s with heap := h', toks := tk' } ∧ (∃ old, IsEnum h' e it (i : Nat) old) ∧ h'.IsListIter it l i ∧ EnvAt w env h₀ (XU X [e, it]) h' (σs i) ∧ J i h' (XU X [e, it]) ∧ i ≤ N ∧ m = N + 1 - i := by
      intro h3 tk3 H3 j3
      have kin : ∀ b o, ¬ Mineof env b → ¬ OW b → h2.get? b = some o → h3.get? b = some o := fun b o hm ho e => H3.keep _ _ ((hin b hm ho).trans e)
      have hnm : ∀ b, b ∈ [e, it] → ¬ Mineof env b := fun b hb m => by
        rcases m with rfl | ⟨x, hx⟩
        · exact hLw hb
        · exact hcw x b hx hb
      obtain ⟨⟨old, sE⟩, sI, _⟩ := st2
      refine ⟨N + 1 - (i + 1), by omega, i + 1, h3, tk3, rfl, ⟨old, kin e _ (hnm _ (.head _)) (fun q => hOf _ q (.head _)) sE⟩, ?_, ?_, j3, hlt, rfl⟩
      · obtain ⟨o, ho, r⟩ := sI
        exact ⟨o, kin it _ (hnm _ (.tail _ (.head _))) (fun q => hOf _ q (.tail _ (.head _))) ho, r⟩
      · exact H3.rebase H2.good (k01.trans H3.keep) H2.above
    cases f with
    | next => obtain ⟨h3, tk3, rfl, H3, j3⟩ := h3; exact fin h3 tk3 H3 j3
    | cont => obtain ⟨h3, tk3, rfl, H3, j3⟩ := h3; exact fin h3 tk3 H3 j3
    | brk => exact h3.elim
    | ret v => exact h3
  · have hiN : i = N := by omega
    subst hiN
    refine W.done _ _ _ ⟨stE, stI, _, ho, rfl, _, rfl⟩ fun h2 tk2 k2 => wpAny_execs_nil ?_
    dsimp only at k2
    have kx : KeepsX (XU X [e, it]) h' h2 := fun b o hn e => k2 b o (fun q => hn (.inr q)) e
    refine h h2 tk2 ?_ (hJ _ _ _ _ _ j (fun b o hb e => hb.elim (fun hn => kx b o hn e) fun hb => k2 b o (hOf b hb) e) (fun b hn _ hx => hn (hX' b hx)))
    refine ⟨H.good, fun b o e => k2 b o (fun q => by rw [h0w b q] at e; cases e) (H'.keep _ _ e), fun b hb => ?_, H.hidL, H.above, ?_, fun y ky => ?_⟩
    · obtain ⟨o, ho⟩ := Option.isSome_iff_exists.mp (H'.alive b (hX' b hb))
      rw [k2 b o (hXw b hb) ho]; rfl
    · obtain ⟨m, hm, hr⟩ := H'.loc
      refine ⟨m, hm.at fun o e => k2 _ o hLw e, fun y a e kk => ?_⟩
      obtain ⟨v, hv, rv⟩ := hr y a e kk
      exact ⟨v, hv, (rv.keeps kx).less hX'⟩
    · obtain ⟨c, o, ov, g1, g2, g3, g4, g5, g6⟩ := H'.cel y ky
      refine ⟨c, o, ov, g1, (C y c g1).1, g3, k2 c o (hcw y c g1) g4, g5, fun a e => ?_⟩
      obtain ⟨v, hv, rv⟩ := g6 a e
      exact ⟨v, hv, (rv.keeps kx).less hX'⟩
end
end Mine

end
section
open PySem PySem.W PyProof.Rows
set_option maxRecDepth 100000
set_option maxHeartbeats 4000000
set_option linter.unusedVariables false
set_option linter.unusedSimpArgs false
namespace Mine
theorem entry_onew : entryFor table "object.__new__" = some Builtin.«object.__new__» := entryFor_of_tree (by kernel_rfl)
theorem mro_object : mroOf (.type "object") = pure [.type "object"] := by rw [mroOf_type]; kernel_rfl
theorem lookup_object_new : typeLookup (.type "object") "__new__" = pure (some (.builtin "object.__new__")) := by rw [typeLookup_type, builtinLookup_eq_fast]; kernel_rfl
theorem slot_object_init : Slot "object" "__init__" "object.__init__" :=
  .of (owner := "object") (n := "__init__") (by rw [typeLookup_type, builtinLookup_eq_fast]; kernel_rfl) (by decide +kernel) (by decide +kernel) (by decide +kernel)
    (by first | exact .inl (by decide +kernel) | exact .inr (by decide +kernel)) (by rw [isSubtype_type]; kernel_rfl)
theorem called_object : TypeCalled "object" "object.__new__" "object.__init__" :=
  ⟨by decide +kernel, by decide +kernel, ⟨_, _, mro_object⟩, madeBy_type mro_object lookup_object_new (by decide +kernel), by decide +kernel, by rw [isSubtype_type]; kernel_rfl, slot_object_init⟩
theorem typeCall_object_0 : checkTypeCall "object" ⟨[], []⟩ = pure () := by kernel_rfl
theorem newCall_object_0 : checkBuiltinCall "object.__new__" ⟨[.type "object"], []⟩ = pure () := by kernel_rfl
theorem onew_meets : Meets (Builtin.«object.__new__» ⟨[.type "object"], []⟩) (fun _ R s => R (.ok (.ret (.ref s.heap.objs.size))) { s with heap := s.heap.push nulObj }) := fun prog w A R s h => by
  obtain ⟨hp, g, d, tk, os⟩ := s
  have hm : Bind.madeHere "object.__new__" (.type "object") = pure () := by kernel_rfl
  have lm : Looks (model prog w) hp (Bind.madeHere "object.__new__" (.type "object")) () := Looks.of_pure hm
  unfold Builtin.«object.__new__»
  repeat (first | simp only [bne_self_eq_false, Bool.false_eq_true, if_false] | lk)
  exact h
theorem oinit_meets (a : Value) : Meets (Builtin.«object.__init__» ⟨[a], []⟩) (fun _ R s => R (.ok (.ret .none)) s) := fun prog w A R s h => by
  rw [oi_run]; exact wpAny_pure h
section
variable {w : World} {n : Nat} {sc : Scope} {σ : Sto} {A : Around} {env : Env} {h₀ : Heap} {X : Addr → Prop} {s : Shared} {E : Value → Shared → Prop}
theorem call_object {Q : Value → Shared → Prop} (h : Q (.ref s.heap.objs.size) { s with heap := s.heap.push nulObj }) : wpAny (model PG w) A (call (.type "object") []) Q E s :=
  callType_meets (Q₁ := fun obj s₁ => s₁.TypeIs obj "object" ∧ Q obj s₁) called_object typeCall_object_0 newCall_object_0 entry_onew entry_oi onew_meets ⟨⟨_, Heap.get?_push_size _ rfl, rfl⟩, h⟩ fun obj s₁ h₁ => ⟨h₁.1, oi_args obj, _, oinit_meets obj, rfl, h₁.2⟩
/-- x = object() -/
theorem st_object {x f : Str} {p pf pos1 pos : Pos} {rest : List Stmt} {Q : Flow → Shared → Prop} (hf : Ev w n sc σ (.Name f pf) (.val (.type "object"))) (hx : sc.names.lookup x = some .local) (R : Room n A) (F : Fit sc env) (H : EnvAt w env h₀ X s.heap σ)
    (h : ∀ nul h' tk', EnvAt w env h₀ X h' (σ.set x (NUL nul)) → (∀ b o, b ≠ env.locals → s.heap.get? b = some o → h'.get? b = some o) → Run w A rest env Q E { s with heap := h', toks := tk' })
    (hsw : swapsWith (.Call (.Name f pf) [] [] pos1) (some (.Name x p)) pos.line env = pure false := by rfl) : Run w A (.Assign [.Name x p] (.Call (.Name f pf) [] [] pos1) pos :: rest) env Q E s := by
  refine wpAny_execs_cons (wpAny_Assign_Name (Call_Name rfl (hf.run R F H fun v h1 tk1 k1 H1 rv => ?_)) hsw)
  cases rv
  refine PyProof.Rows.callWith_type rfl (wpAny_of_eq (a := ⟨[], []⟩) rfl ?_)
  refine call_object (s := { s with heap := h1, toks := tk1 }) ?_
  have kp := Keeps.push h1 nulObj
  refine store_localS (s := { s with heap := h1.push nulObj, toks := tk1 }) (a := NUL h1.objs.size) F (H1.keeps kp) hx ⟨rfl, H1.new, Heap.get?_push_size _ rfl⟩ fun h2 tk2 H2 kx2 sb2 => ?_
  exact h h1.objs.size h2 tk2 H2 fun b o hb e => (sb2.2 b hb).trans (kp _ _ (k1 _ _ e))
/-- list(x), its own list -/
theorem own_list {x f : Str} {p pf pos : Pos} {ds : List PyData} {Q : Value → Shared → Prop} (hf : Ev w n sc σ (.Name f pf) (.val (.type "list"))) (hk : sc.names.lookup x = some .local) (hx : σ x = some (.dat (.list ds))) (hz : ds.length ≤ 1000000) (R : Room n A) (F : Fit sc env) (H : EnvAt w env h₀ X s.heap σ) {g : Heap} (Hg : EnvAt w env h₀ X g σ) (kg : Keeps g s.heap)
    (h : ∀ l vs m h' tk', Keeps s.heap h' → EnvAt w env h₀ X h' σ → s.heap.get? l = none → h'.get? l = some { cls := .type "list", data := .seq vs m } → RdAll g X vs.toList ds → Q (.ref l) { s with heap := h', toks := tk' })
    (hd : (x == ("__debug__" : Str)) = false := by decide) : wpAny (model PG w) A (eval (.Call (.Name f pf) [.Name x p] [] pos) env) Q E s := by
  have hk' : env.kindOf x = some .local := by unfold Env.kindOf; rw [F.scope]; exact hk
  obtain ⟨m0, hm0, hr0⟩ := Hg.loc
  obtain ⟨v0, hv0, r0⟩ := hr0 x _ hx hk'
  refine Call_Name rfl (hf.run R F H fun v h1 tk1 k1 H1 rv => ?_)
  cases rv
  refine PyProof.Rows.callWith_type rfl (Calls.evalArgs_plain (Calls.spliced_cons ?_))
  refine wpAny_Name ?_ hd
  refine wpAny_loadName_local (s := { s with heap := h1, toks := tk1 }) (by rw [F.scope]; exact F.kind) hk' (hm0.keeps (kg.trans k1)) hv0 (Calls.spliced_nil ?_)
  have r0 : RdD g X v0 (.list ds) := r0
  cases r0 with | list hn ho ra =>
    rename_i a vs m
    have e : vs.size = ds.length := by have := ra.length; simpa using this
    refine call_list_seq (hsz := by rw [e]; exact small hz) _ (.inl rfl) (k1 _ _ (kg _ _ ho)) rfl rfl fun h' c' hk hD => ?_
    have k : Keeps h1 h' := hk
    refine h _ vs _ h' tk1 (k1.trans k) (H1.keeps k) ?_ hD ra
    exact none_of_size k1 (Nat.le_refl _)
/-- a call of the class -/
theorem Ev_callC {x : Str} {p pos : Pos} {e : Expr} {es : List Expr} {as : List AV} {r : AV} (hf : Ev w n sc σ (.Name x p) (.val (.ref 190))) (he : EvL w n sc σ (e :: es) as) (hd : DoesL w n (fun vs => call (.ref 190) vs) as r)
    (hs : ∀ env, starEach (e :: es) env = (false, eval e env) :: starEach es env := by intro _; rfl) (hp : ∀ env, (backTo pos (starEach es env)).any (·.1) = false := by intro _; rfl) : Ev w n sc σ (.Call (.Name x p) (e :: es) [] pos) r := by
  intro A env h₀ X s Q E R F H h
  refine Call_Name rfl (hf.run R F H fun v h1 tk1 k1 H1 rv => ?_)
  cases rv
  refine callWith_K (K := KF w) (h₀ := h1) H1.goodH.K rfl (he.run (s := { s with heap := h1, toks := tk1 }) R F H1 fun vs h2 tk2 k2 H2 rs => ⟨H2.goodH.K, ?_⟩) (hs env) (hp env)
  exact hd A X _ vs _ _ R H2.goodH H2.alive rs fun v h3 tk3 k3 r3 => h v h3 tk3 ((k1.trans k2).trans k3) r3
/-- x, y = (e1, e2) over a shown frame -/
theorem st_unpackS2 {x y : Str} {p q pt pt2 pos : Pos} {k k2 : Nat} {e1 e2 : Expr} {a b : Int} {rest : List Stmt} {Q : Flow → Shared → Prop} {X2 : Addr → Prop} {σ2 : Sto} {g2 : Heap} (he : EvL w n sc σ2 [e1, e2] [I a, I b]) (hx : sc.names.lookup x = some .local) (hy : sc.names.lookup y = some .local)
    (R : Room n A) (F : Fit sc env) (O : Own env h₀) (H : EnvAt w env h₀ X s.heap σ) (H2 : EnvAt w env g2 X2 s.heap σ2)
    (h : ∀ h' tk', EnvAt w env h₀ X h' ((σ.set y (I b)).set x (I a)) → (∀ c o, c ≠ env.locals → s.heap.get? c = some o → h'.get? c = some o) → Run w A rest env Q E { s with heap := h', toks := tk' })
    (hs : swapsWithSole [.Tuple [.Name x p, .Name y q] k pt] (.Tuple [e1, e2] k2 pt2) pos.line env = pure false := by rfl)
    (hw : ∀ env : Env, env.scope = sc → swappedStores [.Tuple [.Name x p, .Name y q] k pt] (.Tuple [e1, e2] k2 pt2) env = pure (some [x, y])) : Run w A (.Assign [.Tuple [.Name x p, .Name y q] k pt] (.Tuple [e1, e2] k2 pt2) pos :: rest) env Q E s := by
  refine wpAny_execs_cons (Assign_Tuple_swapped ?_ hs (hw env F.scope))
  refine wpAny_Tuple (he.run R F H2 fun vs h1 tk1 k1 _ rs => ?_)
  have H1 := H.keeps k1
  cases rs with | cons ra rb => cases rb with | cons rb rc =>
    cases rc; cases ra; cases rb
    rename_i t1 t2
    refine ⟨by show 2 ≤ _; rw [sizeLine_eq]; omega, ?_⟩
    have kp := Keeps.push h1 { cls := .type "tuple", data := .seq #[.int a t1, .int b t2] }
    refine unpackItems_tuple (items := #[.int a t1, .int b t2]) (s := { s with heap := h1.push { cls := .type "tuple", data := .seq #[.int a t1, .int b t2] }, toks := tk1 }) R.hh ⟨_, Heap.get?_push_size _ rfl, rfl, _, rfl⟩ fun h3 hx3 => ?_
    have k3 : Keeps (h1.push { cls := .type "tuple", data := .seq #[.int a t1, .int b t2] }) h3 := fun b o e => hx3 b o (Nat.ne_of_lt (Heap.lt_size e)) e
    have k13 := kp.trans k3
    show wpAny (model PG w) A (assignInOrder [bindName env y, bindName env x] [.int b t2, .int a t1]) _ E { s with heap := h3, toks := tk1 }
    refine wpAny_bind (wpAny_holding (wpAny_bindName ?_))
    refine store_localS (s := { s with heap := h3, toks := tk1 }) (a := I b) F (H1.keeps k13) hy (RdD.int _ _) fun h4 tk4 H4 kx4 sb4 => ?_
    refine wpAny_bind (wpAny_holding (wpAny_bindName ?_))
    exact store_localS (s := { s with heap := h4, toks := tk4 }) (a := I a) F H4 hx (RdD.int _ _) fun h5 tk5 H5 kx5 sb5 => wpAny_pure (h h5 tk5 H5 fun c o hc e => (sb5.2 c hc).trans ((sb4.2 c hc).trans (k13 _ _ (k1 _ _ e))))
/-- x, y = (list(a), list(b)): two lists of its own -/
theorem st_own2 {x y a b f : Str} {p q pa pb pf pg pa2 pb2 pt pt2 pos : Pos} {k k2 : Nat} {ds es : List PyData} {rest : List Stmt} {Q : Flow → Shared → Prop} (hf : ∀ pf, Ev w n sc σ (.Name f pf) (.val (.type "list"))) (hka : sc.names.lookup a = some .local) (ha : σ a = some (.dat (.list ds))) (hkb : sc.names.lookup b = some .local) (hb : σ b = some (.dat (.list es))) (hz : ds.length ≤ 1000000) (hz2 : es.length ≤ 1000000)
    (hx : sc.names.lookup x = some .local) (hy : sc.names.lookup y = some .local) (R : Room n A) (F : Fit sc env) (O : Own env h₀) (H : EnvAt w env h₀ X s.heap σ)
    (h : ∀ l1 l2 h' tk', EnvAt w env h₀ (XU X [l1, l2]) h' ((σ.set y (.val (.ref l2))).set x (.val (.ref l1))) → s.heap.get? l1 = none → s.heap.get? l2 = none → l1 ≠ l2 → Free env h₀ (XU X [l1, l2]) l1 → Free env h₀ (XU X [l1, l2]) l2 → LstA h' (XU X [l1, l2]) l1 (ds.map .dat) → LstA h' (XU X [l1, l2]) l2 (es.map .dat) → Run w A rest env Q E { s with heap := h', toks := tk' })
    (hs : swapsWithSole [.Tuple [.Name x p, .Name y q] k pt] (.Tuple [.Call (.Name f pf) [.Name a pa] [] pa2, .Call (.Name f pg) [.Name b pb] [] pb2] k2 pt2) pos.line env = pure false := by rfl)
    (hw : ∀ env : Env, env.scope = sc → swappedStores [.Tuple [.Name x p, .Name y q] k pt] (.Tuple [.Call (.Name f pf) [.Name a pa] [] pa2, .Call (.Name f pg) [.Name b pb] [] pb2] k2 pt2) env = pure (some [x, y]))
    (hda : (a == ("__debug__" : Str)) = false := by decide) (hdb : (b == ("__debug__" : Str)) = false := by decide) :
    Run w A (.Assign [.Tuple [.Name x p, .Name y q] k pt] (.Tuple [.Call (.Name f pf) [.Name a pa] [] pa2, .Call (.Name f pg) [.Name b pb] [] pb2] k2 pt2) pos :: rest) env Q E s := by
  refine wpAny_execs_cons (Assign_Tuple_swapped ?_ hs (hw env F.scope))
  refine wpAny_Tuple (Calls.spliced_cons ?_)
  refine own_list (hf pf) hka ha hz R F H H (Keeps.refl _) (fun l1 vs1 m1 h1 tk1 k1 H1 n1 g1 ra1 => Calls.spliced_cons ?_) hda
  refine own_list (s := { s with heap := h1, toks := tk1 }) (hf pg) hkb hb hz2 R F H1 H k1 (fun l2 vs2 m2 h2 tk2 k2 H2 n2 g2 ra2 => Calls.spliced_nil ?_) hdb
  refine ⟨by show 2 ≤ _; rw [sizeLine_eq]; omega, ?_⟩
  have k12 : Keeps s.heap h2 := k1.trans k2
  have n2s : s.heap.get? l2 = none := by
    cases q : s.heap.get? l2 with
    | none => rfl
    | some o => have := k1 _ _ q; rw [n2] at this; cases this
  have hne : l1 ≠ l2 := fun e => by rw [← e, g1] at n2; cases n2
  have hwr : ∀ c ∈ [l1, l2], s.heap.get? c = none := fun c hc => by
    rcases List.mem_cons.mp hc with rfl | hc
    · exact n1
    · rcases List.mem_singleton.mp hc with rfl; exact n2s
  have g1' := k2 _ _ g1
  have HG : EnvAt w env h₀ (XU X [l1, l2]) h2 σ := H.grow k12 hwr fun c hc => by
    rcases List.mem_cons.mp hc with rfl | hc
    · rw [g1']; rfl
    · rcases List.mem_singleton.mp hc with rfl; rw [g2]; rfl
  have free : ∀ c ∈ [l1, l2], Free env h₀ (XU X [l1, l2]) c := fun c hc => by
    refine ⟨.inr hc, fun m => ?_, ?_⟩
    · have := H.alive c (m.x (H.cells O) H)
      rw [hwr c hc] at this; cases this
    · cases q : h₀.get? c with
      | none => rfl
      | some o => have := H.keep _ _ q; rw [hwr c hc] at this; cases this
  have up : ∀ {vs : List Value} {ds : List PyData}, RdAll s.heap X vs ds → RdAll h2 (XU X [l1, l2]) vs ds := fun r =>
    r.mono (fun c o _ e => k12 _ _ e) fun c hn hs q => q.elim hn fun q => by rw [hwr c q] at hs; cases hs
  have L1 : LstA h2 (XU X [l1, l2]) l1 (ds.map .dat) := ⟨_, _, g1', RdAs.of_all (up ra1)⟩
  have L2 : LstA h2 (XU X [l1, l2]) l2 (es.map .dat) := ⟨_, _, g2, RdAs.of_all (up ra2)⟩
  have kp := Keeps.push h2 { cls := .type "tuple", data := .seq #[.ref l1, .ref l2] }
  refine unpackItems_tuple (items := #[.ref l1, .ref l2]) (s := { s with heap := h2.push { cls := .type "tuple", data := .seq #[.ref l1, .ref l2] }, toks := tk2 }) R.hh ⟨_, Heap.get?_push_size _ rfl, rfl, _, rfl⟩ fun h3 hx3 => ?_
  have k3 : Keeps (h2.push { cls := .type "tuple", data := .seq #[.ref l1, .ref l2] }) h3 := fun b o e => hx3 b o (Nat.ne_of_lt (Heap.lt_size e)) e
  have k13 := kp.trans k3
  have f1 := free l1 (.head _)
  have f2 := free l2 (.tail _ (.head _))
  show wpAny (model PG w) A (assignInOrder [bindName env y, bindName env x] [.ref l2, .ref l1]) _ E { s with heap := h3, toks := tk2 }
  refine wpAny_bind (wpAny_holding (wpAny_bindName ?_))
  refine store_localS (s := { s with heap := h3, toks := tk2 }) (a := .val (.ref l2)) F (HG.keeps k13) hy rfl fun h4 tk4 H4 kx4 sb4 => ?_
  refine wpAny_bind (wpAny_holding (wpAny_bindName ?_))
  refine store_localS (s := { s with heap := h4, toks := tk4 }) (a := .val (.ref l1)) F H4 hx rfl fun h5 tk5 H5 kx5 sb5 => wpAny_pure ?_
  have mv : ∀ {l : Addr} {as : List AV}, l ≠ env.locals → LstA h2 (XU X [l1, l2]) l as → LstA h5 (XU X [l1, l2]) l as := fun hne L =>
    ((L.keeps k13).mono (fun o e => (sb4.2 _ hne).trans e) kx4 fun _ q _ => q).mono (fun o e => (sb5.2 _ hne).trans e) kx5 fun _ q _ => q
  exact h l1 l2 h5 tk5 H5 n1 n2s hne f1 f2 (mv (fun e => f1.not (.inl e)) L1) (mv (fun e => f2.not (.inl e)) L2)
end
end Mine

end
section
open PySem PySem.W PyProof.Rows
set_option maxRecDepth 100000
set_option maxHeartbeats 8000000
set_option linter.unusedVariables false
namespace Mine
def av (nul : Addr) : Option PyData → AV
  | some d => .dat d
  | none => NUL nul
def eqO (o : Option PyData) (d : PyData) : Bool := match o with
  | some y => PyData.eqv y d
  | none => false
def kstep (d : PyData) (st : Nat × List (Option PyData)) (j : Nat) : Nat × List (Option PyData) := if eqO (st.2.getD j none) d then (st.1 + 1, st.2.set j none) else st
/-- the count of what equals d from i on, and the list with all these struck out -/
def knock (d : PyData) (os : List (Option PyData)) (i : Nat) : Nat → Nat × List (Option PyData)
  | 0 => (0, os)
  | k + 1 => kstep d (knock d os i k) (i + k)
theorem kstep_len {d : PyData} {st : Nat × List (Option PyData)} {j : Nat} : (kstep d st j).2.length = st.2.length := by
  unfold kstep; split
  · exact List.length_set
  · rfl
theorem knock_len {d : PyData} {os : List (Option PyData)} {i : Nat} : ∀ k, (knock d os i k).2.length = os.length
  | 0 => rfl
  | k + 1 => by unfold knock; rw [kstep_len, knock_len k]
theorem knock_cnt {d : PyData} {os : List (Option PyData)} {i : Nat} : ∀ k, (knock d os i k).1 ≤ k
  | 0 => Nat.le_refl _
  | k + 1 => by
    have := knock_cnt (d := d) (os := os) (i := i) k
    unfold knock kstep
    split
    · exact Nat.succ_le_succ this
    · exact Nat.le_succ_of_le this
/-- what is in such a list may be compared -/
def Okd (d : PyData) : Prop := Pl d ∧ Kd d
def Oks (os : List (Option PyData)) : Prop := ∀ d, some d ∈ os → Okd d
theorem Oks.kstep {d : PyData} {st : Nat × List (Option PyData)} {j : Nat} (h : Oks st.2) : Oks (kstep d st j).2 := by
  unfold Mine.kstep; split
  · intro e he
    rcases List.mem_or_eq_of_mem_set he with q | q
    · exact h e q
    · cases q
  · exact h
theorem Oks.knock {d : PyData} {os : List (Option PyData)} {i : Nat} (h : Oks os) : ∀ k, Oks (knock d os i k).2
  | 0 => h
  | k + 1 => by unfold Mine.knock; exact (Oks.knock h k).kstep
theorem getD_memO {os : List (Option PyData)} {j : Nat} {d : PyData} (e : os.getD j none = some d) : some d ∈ os := by
  rw [List.getD_eq_getElem?_getD] at e
  cases q : os[j]? with
  | none => rw [q] at e; cases e
  | some o => rw [q] at e; simp at e; subst e; exact List.mem_of_getElem? q
theorem map_av_get {nul : Addr} {os : List (Option PyData)} {k : Nat} (h : k < os.length) : (os.map (av nul))[k]? = some (av nul (os.getD k none)) := by
  rw [List.getElem?_map, List.getD_eq_getElem?_getD, List.getElem?_eq_getElem h]; rfl
theorem map_av_set {nul : Addr} {os : List (Option PyData)} {k : Nat} : (os.map (av nul)).set k (NUL nul) = (os.set k none).map (av nul) := by
  rw [List.map_set]; rfl
theorem weakC {σ : Sto} {c j : Str} {A A' v : AV} (hj : σ j = none) : ∀ x a, (σ.set c A') x = some a → (((σ.set c A).sets [j] [v]).set c A') x = some a := fun x a e => by
  show (((σ.set c A).set j v).set c A') x = some a
  unfold Sto.set at e ⊢
  by_cases h1 : x = c
  · rw [if_pos h1] at e ⊢; exact e
  · rw [if_neg h1] at e ⊢
    by_cases h2 : x = j
    · rw [h2, hj] at e; cases e
    · rw [if_neg h2, if_neg h1]; exact e
theorem weakC2 {σ : Sto} {c j o : Str} {A A' v u : AV} (hj : σ j = none) (ho : σ o = none) : ∀ x a, (σ.set c A') x = some a → (((σ.set c A).sets [j, o] [v, u]).set c A') x = some a := fun x a e => by
  show ((((σ.set c A).set j v).set o u).set c A') x = some a
  unfold Sto.set at e ⊢
  by_cases h1 : x = c
  · rw [if_pos h1] at e ⊢; exact e
  · rw [if_neg h1] at e ⊢
    by_cases h2 : x = o
    · rw [h2, ho] at e; cases e
    · rw [if_neg h2]
      by_cases h3 : x = j
      · rw [h3, hj] at e; cases e
      · rw [if_neg h3, if_neg h1]; exact e
section
variable {w : World} {n : Nat} {sc : Scope} {σ : Sto} {A : Around} {env : Env} {h₀ : Heap} {X : Addr → Prop} {s : Shared} {E : Value → Shared → Prop}
theorem op_eqO {nul : Addr} {o : Option PyData} {d : PyData} (ho : ∀ y, o = some y → Okd y) (hd : Okd d) : Does2 w n (compareOp .Eq) (av nul o) (.dat d) (B (eqO o d)) := by
  cases o with
  | none => exact op_eqNul hd.2
  | some y => exact op_eqD (ho y rfl).1.plain hd.1.plain
/-- for j in range(i, m): if z[j] == el: c += 1; z[j] = nu -/
theorem st_knock {z c j el nu i m : Str} {pj pr pi pm p1 pz pj2 ps pe pc pcn pk pa pz2 pj3 ps2 pn pas pif pos : Pos} {l nul : Addr} {d : PyData} {os : List (Option PyData)} {iv N : Nat} {rest : List Stmt} {Q : Flow → Shared → Prop} (OW : Addr → Prop) (K : Heap → (Addr → Prop) → Prop)
    (hr : Ev w n sc σ (.Name "range" pr) (.val (.type "range"))) (hkj : sc.names.lookup j = some .local) (hkz : sc.names.lookup z = some .local) (hkc : sc.names.lookup c = some .local) (hke : sc.names.lookup el = some .local) (hkn : sc.names.lookup nu = some .local) (hki : sc.names.lookup i = some .local) (hkm : sc.names.lookup m = some .local)
    (hz : σ z = some (.val (.ref l))) (hc : σ c = some (I 0)) (he : σ el = some (.dat d)) (hn : σ nu = some (NUL nul)) (hi : σ i = some (I (iv : Int))) (hm : σ m = some (I (N : Int))) (hj : σ j = none)
    (hd : z ≠ c ∧ z ≠ j ∧ c ≠ j ∧ el ≠ c ∧ el ≠ j ∧ el ≠ z ∧ nu ≠ c ∧ nu ≠ j ∧ i ≠ j ∧ m ≠ j)
    (hdb : (z == ("__debug__" : Str)) = false ∧ (c == ("__debug__" : Str)) = false ∧ (j == ("__debug__" : Str)) = false ∧ (el == ("__debug__" : Str)) = false ∧ (nu == ("__debug__" : Str)) = false ∧ (i == ("__debug__" : Str)) = false ∧ (m == ("__debug__" : Str)) = false)
    (hiN : iv ≤ N) (hN : os.length = N) (hN2 : N ≤ 1000) (hos : Oks os) (hod : Okd d)
    (R : Room n A) (F : Fit sc env) (O : Own env h₀) (H : EnvAt w env h₀ X s.heap σ)
    (hOW : ∀ b, OW b → Free env h₀ X b) (hl : OW l) (hK : ∀ h h' X X', K h X → (∀ b o, (¬ X b ∨ (OW b ∧ b ≠ l)) → h.get? b = some o → h'.get? b = some o) → (∀ b, ¬ X b → (h.get? b).isSome → ¬ X' b) → K h' X')
    (L : LstA s.heap X l (os.map (av nul))) (K0 : K s.heap X)
    (h : ∀ h' tk', EnvAt w env h₀ X h' (σ.set c (I (((knock d os iv (N - iv)).1 : Nat) : Int))) → LstA h' X l ((knock d os iv (N - iv)).2.map (av nul)) → K h' X → Run w A rest env Q E { s with heap := h', toks := tk' }) :
    Run w A (.For (.Name j pj) (.Call (.Name "range" pr) [.Name i pi, .Name m pm] [] p1) [.If (.Compare (.Subscript (.Name z pz) (.Name j pj2) ps) [.Eq] [.Name el pe] pc) [.AugAssign (.Name c pcn) .Add (.Constant (.int 1) 0 pk) pa, .Assign [.Subscript (.Name z pz2) (.Name j pj3) ps2] (.Name nu pn) pas] [] pif] [] pos :: rest) env Q E s := by
  obtain ⟨d1, d2, d3, d4, d5, d6, d7, d8, d9, d10⟩ := hd
  obtain ⟨b1, b2, b3, b4, b5, b6, b7⟩ := hdb
  refine st_for (fun t => σ.set c (I (((knock d os iv t).1 : Nat) : Int))) OW (fun t h X => LstA h X l ((knock d os iv t).2.map (av nul)) ∧ K h X)
    (EvIt_range hr (Ev_local hki hi b6) (Ev_local hkm hm b7) hiN (by omega)) (by intro x hx; rcases List.mem_singleton.mp hx with rfl; exact hkj) ?_ R F O H (fun b hb => ⟨(hOW b hb).hid, fun e => (hOW b hb).not (.inl e), (hOW b hb).above⟩) ?_ ⟨L, K0⟩ ?_ ?_
  · intro x a e
    unfold Sto.set at e
    by_cases q : x = c
    · rw [if_pos q] at e; cases e; rw [q]; exact hc
    · rw [if_neg q] at e; exact e
  · rintro t h h' X X' ⟨j1, j2⟩ hk hx
    exact ⟨j1.mono (fun o e => hk l o (.inr hl) e) (fun b o hn e => hk b o (.inl hn) e) hx, hK _ _ _ _ j2 (fun b o hb e => hk b o (hb.imp id fun q => q.1) e) hx⟩
  · rintro t h₁ X' h' tk' E' ht k01 hXX O1 H1 ⟨L1, K1⟩ hout
    have hlen := knock_len (d := d) (os := os) (i := iv) t
    have hok := Oks.knock (d := d) (i := iv) hos t
    have fr : Free env h₁ X' l := (hOW l hl).more hXX (hout l hl)
    have C1 := H1.cells O1
    obtain ⟨h₂, k12, H2, O2, hin, _⟩ := H1.full O1 (fun _ => False) (fun _ e => e.elim)
    have L2 := L1.ground C1 H1 fr.not hin
    have K2 : K h₂ X' := hK _ _ _ _ K1 (fun b o hb e => (hin b (hb.elim (fun hn m => hn (m.x C1 H1)) fun q => (hOW b q.1).not) id).trans e) fun _ q _ => q
    have hknS : knock d os iv (t + 1) = kstep d (knock d os iv t) (iv + t) := rfl
    generalize hst : knock d os iv t = st at *
    have hbound : iv + t < st.2.length := by rw [hlen]; omega
    generalize hσ' : (Sto.set σ c (I ((st.1 : Nat) : Int))).sets [j] [I ((iv + t : Nat) : Int)] = σ' at *
    have e0 : ∀ x, σ' x = if x = j then some (I ((iv + t : Nat) : Int)) else if x = c then some (I ((st.1 : Nat) : Int)) else σ x := fun x => by rw [← hσ']; rfl
    have ej : σ' j = some (I ((iv + t : Nat) : Int)) := by rw [e0, if_pos rfl]
    have ez : σ' z = some (.val (.ref l)) := by rw [e0, if_neg d2, if_neg d1]; exact hz
    have ee : σ' el = some (.dat d) := by rw [e0, if_neg d5, if_neg d4]; exact he
    have en : σ' nu = some (NUL nul) := by rw [e0, if_neg d8, if_neg d7]; exact hn
    have ec : σ' c = some (I ((st.1 : Nat) : Int)) := by rw [e0, if_neg d3, if_pos rfl]
    have H2s := EnvAt.shown F H2 hkz ez fr.not L1
    have t1 : ∀ x, x ≠ z → (σ'.set z (LAV (st.2.map (av nul)))) x = σ' x := fun x q => by unfold Sto.set; rw [if_neg q]
    have t2 : (σ'.set z (LAV (st.2.map (av nul)))) z = some (LAV (st.2.map (av nul))) := by unfold Sto.set; rw [if_pos rfl]
    refine st_ifS (c := eqO (st.2.getD (iv + t) none) d) (EvT_cmp (Ev_subA (Ev_local hkz t2 b1) (Ev_local hkj ((t1 j (Ne.symm d2)).trans ej) b3) (getA (a := av nul (st.2.getD (iv + t) none)) (by omega) (by omega) (map_av_get hbound))) (Ev_local hke ((t1 el d6).trans ee) b4) (op_eqO (fun y q => hok y (getD_memO q)) hod)) R F H2s (fun hc3 h3 tk3 k3 => ?_) (fun hc3 h3 tk3 k3 => ?_)
    · have H3 := H2.keeps k3
      refine st_aug (s := { s with heap := h3, toks := tk3 }) (x := c) (op := .Add) ec Ev_int op_iadd hkc R F H3 fun h4 tk4 H4 => ?_
      have L4 := L2.keeps H4.keep
      have K4 : K h4 X' := hK _ _ _ _ K2 (fun b o _ e => H4.keep _ _ e) fun _ q _ => q
      have H4' := H4.rebase H1.good (k12.trans H4.keep) H1.above
      have u1 : ∀ x, x ≠ c → (σ'.set c (I (((st.1 : Nat) : Int) + 1))) x = σ' x := fun x q => by unfold Sto.set; rw [if_neg q]
      refine st_setA (s := { s with heap := h4, toks := tk4 }) (k := iv + t) (a := NUL nul) F H4' hkz ((u1 z d1).trans ez) hkj ((u1 j (Ne.symm d3)).trans ej) hkn ((u1 nu d7).trans en) fr L4 (by rw [List.length_map]; exact hbound) (by rw [List.length_map, hlen]; omega) (fun h5 H5 sb5 L5 => ?_) b1 b3 b5
      rw [map_av_set] at L5
      have K5 : K h5 X' := hK _ _ _ _ K4 (fun b o hb e => (sb5.2 b (hb.elim (fun hn q => hn (q ▸ fr.hid)) fun q => q.2)).trans e) fun _ q _ => q
      have ek : kstep d st (iv + t) = (st.1 + 1, st.2.set (iv + t) none) := by unfold kstep; rw [if_pos hc3]
      refine st_nil (st_nil ⟨h5, tk4, rfl, H5.weak ?_, ?_, K5⟩)
      · rw [hknS, ek, ← hσ']
        have e1 : ((st.1 : Nat) : Int) + 1 = ((st.1 + 1 : Nat) : Int) := by push_cast; rfl
        rw [e1]
        exact weakC hj
      · rw [hknS, ek]; exact L5
    · have ek : kstep d st (iv + t) = st := by unfold kstep; rw [if_neg (by rw [hc3]; decide)]
      have H3 := H2.keeps k3
      refine st_nil (st_nil ⟨h3, tk3, rfl, (H3.rebase H1.good (k12.trans H3.keep) H1.above).weak ?_, ?_, hK _ _ _ _ K2 (fun b o _ e => H3.keep _ _ e) fun _ q _ => q⟩)
      · rw [hknS, ek, ← hσ']
        exact weak1 (by unfold Sto.set; rw [if_neg (Ne.symm d3)]; exact hj)
      · rw [hknS, ek]; exact L2.keeps H3.keep
  · rintro h2 tk2 H2 ⟨L2, K2⟩
    exact h h2 tk2 H2 L2 K2
/-- for j, oe in enumerate(z): if oe == el: c += 1; z[j] = nu -/
theorem st_knockE {z c j oe el nu : Str} {pj po pr p1 pz po2 pe pc pcn pk pa pz2 pj3 ps2 pn pas pif pt pos : Pos} {kk : Nat} {l nul : Addr} {d : PyData} {os : List (Option PyData)} {rest : List Stmt} {Q : Flow → Shared → Prop} (OW : Addr → Prop) (K : Heap → (Addr → Prop) → Prop)
    (hr : Ev w n sc σ (.Name "enumerate" pr) (.val (.type "enumerate"))) (hkj : sc.names.lookup j = some .local) (hko : sc.names.lookup oe = some .local) (hkz : sc.names.lookup z = some .local) (hkc : sc.names.lookup c = some .local) (hke : sc.names.lookup el = some .local) (hkn : sc.names.lookup nu = some .local)
    (hz : σ z = some (.val (.ref l))) (hc : σ c = some (I 0)) (he : σ el = some (.dat d)) (hn : σ nu = some (NUL nul)) (hj : σ j = none) (ho : σ oe = none)
    (hd : z ≠ c ∧ z ≠ j ∧ c ≠ j ∧ el ≠ c ∧ el ≠ j ∧ z ≠ oe ∧ nu ≠ c ∧ nu ≠ j ∧ c ≠ oe ∧ el ≠ oe ∧ nu ≠ oe ∧ j ≠ oe)
    (hdb : (z == ("__debug__" : Str)) = false ∧ (c == ("__debug__" : Str)) = false ∧ (j == ("__debug__" : Str)) = false ∧ (el == ("__debug__" : Str)) = false ∧ (nu == ("__debug__" : Str)) = false ∧ (oe == ("__debug__" : Str)) = false)
    (hN2 : os.length ≤ 1000) (hos : Oks os) (hod : Okd d)
    (R : Room n A) (F : Fit sc env) (O : Own env h₀) (H : EnvAt w env h₀ X s.heap σ)
    (hOW : ∀ b, OW b → Free env h₀ X b) (hl : OW l) (hK : ∀ h h' X X', K h X → (∀ b o, (¬ X b ∨ (OW b ∧ b ≠ l)) → h.get? b = some o → h'.get? b = some o) → (∀ b, ¬ X b → (h.get? b).isSome → ¬ X' b) → K h' X')
    (L : LstA s.heap X l (os.map (av nul))) (K0 : K s.heap X)
    (h : ∀ h' tk', EnvAt w env h₀ X h' (σ.set c (I (((knock d os 0 os.length).1 : Nat) : Int))) → LstA h' X l ((knock d os 0 os.length).2.map (av nul)) → K h' X → Run w A rest env Q E { s with heap := h', toks := tk' }) :
    Run w A (.For (.Tuple [.Name j pj, .Name oe po] kk pt) (.Call (.Name "enumerate" pr) [.Name z pz] [] p1) [.If (.Compare (.Name oe po2) [.Eq] [.Name el pe] pc) [.AugAssign (.Name c pcn) .Add (.Constant (.int 1) 0 pk) pa, .Assign [.Subscript (.Name z pz2) (.Name j pj3) ps2] (.Name nu pn) pas] [] pif] [] pos :: rest) env Q E s := by
  obtain ⟨d1, d2, d3, d4, d5, d6, d7, d8, d9, d10, d11, d12⟩ := hd
  obtain ⟨b1, b2, b3, b4, b5, b6⟩ := hdb
  refine st_forM (N := os.length) (l := l) (fun t => av nul ((knock d os 0 t).2.getD t none)) (fun t => σ.set c (I (((knock d os 0 t).1 : Nat) : Int))) OW (fun t h X => LstA h X l ((knock d os 0 t).2.map (av nul)) ∧ K h X)
    hr hkz hz (by
      intro x hx
      rcases List.mem_cons.mp hx with rfl | hx
      · exact hkj
      · rcases List.mem_singleton.mp hx with rfl; exact hko) ?_ R F O H (fun b hb => ⟨(hOW b hb).hid, fun e => (hOW b hb).not (.inl e), (hOW b hb).above⟩) hl ?_ ?_ ⟨L, K0⟩ ?_ ?_ (hdz := b1)
  · intro x a e
    unfold Sto.set at e
    by_cases q : x = c
    · rw [if_pos q] at e; cases e; rw [q]; exact hc
    · rw [if_neg q] at e; exact e
  · rintro t h h' X X' ⟨j1, j2⟩ hk hx
    exact ⟨j1.mono (fun o e => hk l o (.inr hl) e) (fun b o hn e => hk b o (.inl hn) e) hx, hK _ _ _ _ j2 (fun b o hb e => hk b o (hb.imp id fun q => q.1) e) hx⟩
  · rintro t h X ⟨j1, _⟩
    have hlen := knock_len (d := d) (os := os) (i := 0) t
    exact ⟨_, j1, by rw [List.length_map, hlen], fun ht => map_av_get (by rw [hlen]; exact ht)⟩
  · rintro t h₁ X' h' tk' E' ht k01 hXX O1 H1 ⟨L1, K1⟩ hout
    have hlen := knock_len (d := d) (os := os) (i := 0) t
    have hok := Oks.knock (d := d) (i := 0) hos t
    have fr : Free env h₁ X' l := (hOW l hl).more hXX (hout l hl)
    have C1 := H1.cells O1
    obtain ⟨h₂, k12, H2, O2, hin, _⟩ := H1.full O1 (fun _ => False) (fun _ e => e.elim)
    have L2 := L1.ground C1 H1 fr.not hin
    have K2 : K h₂ X' := hK _ _ _ _ K1 (fun b o hb e => (hin b (hb.elim (fun hn m => hn (m.x C1 H1)) fun q => (hOW b q.1).not) id).trans e) fun _ q _ => q
    have hknS : knock d os 0 (t + 1) = kstep d (knock d os 0 t) (0 + t) := rfl
    rw [Nat.zero_add] at hknS
    generalize hst : knock d os 0 t = st at *
    have hbound : t < st.2.length := by rw [hlen]; exact ht
    generalize hσ' : (Sto.set σ c (I ((st.1 : Nat) : Int))).sets [j, oe] [I ((t : Nat) : Int), av nul (st.2.getD t none)] = σ' at *
    have e0 : ∀ x, σ' x = if x = oe then some (av nul (st.2.getD t none)) else if x = j then some (I ((t : Nat) : Int)) else if x = c then some (I ((st.1 : Nat) : Int)) else σ x := fun x => by rw [← hσ']; rfl
    have ej : σ' j = some (I ((t : Nat) : Int)) := by rw [e0, if_neg d12, if_pos rfl]
    have eo : σ' oe = some (av nul (st.2.getD t none)) := by rw [e0, if_pos rfl]
    have ez : σ' z = some (.val (.ref l)) := by rw [e0, if_neg d6, if_neg d2, if_neg d1]; exact hz
    have ee : σ' el = some (.dat d) := by rw [e0, if_neg d10, if_neg d5, if_neg d4]; exact he
    have en : σ' nu = some (NUL nul) := by rw [e0, if_neg d11, if_neg d8, if_neg d7]; exact hn
    have ec : σ' c = some (I ((st.1 : Nat) : Int)) := by rw [e0, if_neg d9, if_neg d3, if_pos rfl]
    refine st_ifS (c := eqO (st.2.getD t none) d) (EvT_cmp (Ev_local hko eo b6) (Ev_local hke ee b4) (op_eqO (fun y q => hok y (getD_memO q)) hod)) R F H2 (fun hc3 h3 tk3 k3 => ?_) (fun hc3 h3 tk3 k3 => ?_)
    · have H3 := H2.keeps k3
      refine st_aug (s := { s with heap := h3, toks := tk3 }) (x := c) (op := .Add) ec Ev_int op_iadd hkc R F H3 fun h4 tk4 H4 => ?_
      have L4 := L2.keeps H4.keep
      have K4 : K h4 X' := hK _ _ _ _ K2 (fun b o _ e => H4.keep _ _ e) fun _ q _ => q
      have H4' := H4.rebase H1.good (k12.trans H4.keep) H1.above
      have u1 : ∀ x, x ≠ c → (σ'.set c (I (((st.1 : Nat) : Int) + 1))) x = σ' x := fun x q => by unfold Sto.set; rw [if_neg q]
      refine st_setA (s := { s with heap := h4, toks := tk4 }) (k := t) (a := NUL nul) F H4' hkz ((u1 z d1).trans ez) hkj ((u1 j (Ne.symm d3)).trans ej) hkn ((u1 nu d7).trans en) fr L4 (by rw [List.length_map]; exact hbound) (by rw [List.length_map, hlen]; omega) (fun h5 H5 sb5 L5 => ?_) b1 b3 b5
      rw [map_av_set] at L5
      have K5 : K h5 X' := hK _ _ _ _ K4 (fun b o hb e => (sb5.2 b (hb.elim (fun hn q => hn (q ▸ fr.hid)) fun q => q.2)).trans e) fun _ q _ => q
      have ek : kstep d st t = (st.1 + 1, st.2.set t none) := by unfold kstep; rw [if_pos hc3]
      refine st_nil (st_nil ⟨h5, tk4, rfl, H5.weak ?_, ?_, K5⟩)
      · rw [hknS, ek, ← hσ']
        have e1 : ((st.1 : Nat) : Int) + 1 = ((st.1 + 1 : Nat) : Int) := by push_cast; rfl
        rw [e1]
        exact weakC2 hj ho
      · rw [hknS, ek]; exact L5
    · have ek : kstep d st t = st := by unfold kstep; rw [if_neg (by rw [hc3]; decide)]
      have H3 := H2.keeps k3
      refine st_nil (st_nil ⟨h3, tk3, rfl, (H3.rebase H1.good (k12.trans H3.keep) H1.above).weak ?_, ?_, hK _ _ _ _ K2 (fun b o _ e => H3.keep _ _ e) fun _ q _ => q⟩)
      · rw [hknS, ek, ← hσ']
        exact weak2 (by unfold Sto.set; rw [if_neg (Ne.symm d3)]; exact hj) (by unfold Sto.set; rw [if_neg (Ne.symm d9)]; exact ho)
      · rw [hknS, ek]; exact L2.keeps H3.keep
  · rintro h2 tk2 H2 ⟨L2, K2⟩
    exact h h2 tk2 H2 L2 K2
end
end Mine

end
section
open PySem PySem.W PyProof.Rows
set_option maxRecDepth 100000
set_option maxHeartbeats 8000000
set_option linter.unusedVariables false
namespace Mine
abbrev CdSt := List (Option PyData) × List (Option PyData) × List (Nat × Nat × PyData)
def step1 (S : CdSt) (i : Nat) : CdSt := match S.1.getD i none with
  | none => S
  | some d => ((knock d S.1 i (S.1.length - i)).2, (knock d S.2.1 0 S.2.1.length).2,
      if (knock d S.1 i (S.1.length - i)).1 != (knock d S.2.1 0 S.2.1.length).1 then S.2.2 ++ [((knock d S.1 i (S.1.length - i)).1, (knock d S.2.1 0 S.2.1.length).1, d)] else S.2.2)
def it1 (S : CdSt) : Nat → CdSt
  | 0 => S
  | k + 1 => step1 (it1 S k) k
def step2 (S : List (Option PyData) × List (Nat × Nat × PyData)) (i : Nat) : List (Option PyData) × List (Nat × Nat × PyData) := match S.1.getD i none with
  | none => S
  | some d => ((knock d S.1 i (S.1.length - i)).2, S.2 ++ [(0, (knock d S.1 i (S.1.length - i)).1, d)])
def it2 (S : List (Option PyData) × List (Nat × Nat × PyData)) : Nat → List (Option PyData) × List (Nat × Nat × PyData)
  | 0 => S
  | k + 1 => step2 (it2 S k) k
def cdS (xs ys : List PyData) : CdSt := it1 (xs.map some, ys.map some, []) xs.length
def cdF (xs ys : List PyData) : List (Nat × Nat × PyData) := (it2 ((cdS xs ys).2.1, (cdS xs ys).2.2) ys.length).2
abbrev mmv (r : Nat × Nat × PyData) : AV := MM (r.1 : Int) (r.2.1 : Int) r.2.2
structure Ok1 (m n k : Nat) (S : CdSt) : Prop where
  len1 : S.1.length = m
  len2 : S.2.1.length = n
  ok1 : Oks S.1
  ok2 : Oks S.2.1
  res : S.2.2.length ≤ k
theorem Ok1.step {m n k : Nat} {S : CdSt} (h : Ok1 m n k S) (i : Nat) : Ok1 m n (k + 1) (step1 S i) := by
  unfold step1
  split
  · exact ⟨h.len1, h.len2, h.ok1, h.ok2, Nat.le_succ_of_le h.res⟩
  · refine ⟨by rw [knock_len]; exact h.len1, by rw [knock_len]; exact h.len2, h.ok1.knock _, h.ok2.knock _, ?_⟩
    dsimp only
    have := h.res
    split
    · rw [List.length_append]; show _ + 1 ≤ _; omega
    · omega
theorem Ok1.it {m n : Nat} {S : CdSt} (h : Ok1 m n 0 S) : ∀ k, Ok1 m n k (it1 S k)
  | 0 => h
  | k + 1 => (Ok1.it h k).step k
structure Ok2 (n k : Nat) (S : List (Option PyData) × List (Nat × Nat × PyData)) : Prop where
  len : S.1.length = n
  ok : Oks S.1
  res : S.2.length ≤ k
theorem Ok2.step {n k : Nat} {S : List (Option PyData) × List (Nat × Nat × PyData)} (h : Ok2 n k S) (i : Nat) : Ok2 n (k + 1) (step2 S i) := by
  unfold step2
  split
  · exact ⟨h.len, h.ok, Nat.le_succ_of_le h.res⟩
  · refine ⟨by rw [knock_len]; exact h.len, h.ok.knock _, ?_⟩
    have := h.res
    dsimp only
    rw [List.length_append]; show _ + 1 ≤ _; omega
theorem Ok2.it {n m : Nat} {S : List (Option PyData) × List (Nat × Nat × PyData)} (h : Ok2 n m S) : ∀ k, Ok2 n (m + k) (it2 S k)
  | 0 => h
  | k + 1 => (Ok2.it h k).step k
theorem map_some_av {nul : Addr} (xs : List PyData) : (xs.map some).map (av nul) = xs.map .dat := by rw [List.map_map]; rfl

theorem fn_cd {w : World} {n : Nat} {xs ys : List PyData} (hxs : ∀ d ∈ xs, Okd d) (hys : ∀ d ∈ ys, Okd d) (hlx : xs.length ≤ 200) (hly : ys.length ≤ 200) :
    Fn w (n + 12) 200 [.dat (.list xs), .dat (.list ys)] (LAV ((cdF xs ys).map mmv)) := by
  refine Fn_of (o := _) (fd := _) (body := _) (xs := ["actual", "expected"]) rfl rfl rfl ?_ ?_ rfl rfl rfl rfl rfl rfl rfl rfl ?_ ?_
  · intro A env h₀ X s Q E R F O H h
    refine st_expr (d := S _) Ev_str (fun h X v a r => by cases r; exact fun e => nomatch e) R F H fun h1 tk1 H1 => ?_
    refine st_own2 (fun pf => Ev_builtin rfl rfl rfl (by decide)) rfl rfl rfl rfl (by omega) (by omega) rfl rfl R F O H1 (fun ls lt h2 tk2 H2 ns nt hst fs ft Ls Lt => ?_) rfl (fun env e => by cases env; cases e; rfl)
    have Hs := EnvAt.shown (x := "s") F H2 rfl rfl fs.not Ls
    have Lt' : LstA h2 (fun b => XU X [ls, lt] b ∧ b ≠ ls) lt (ys.map .dat) := Lt.mono (fun _ e => e) (fun _ _ _ e => e) fun b q _ z => q z.1
    have Hst := EnvAt.shown (x := "t") F Hs rfl rfl ft.not Lt'
    refine st_unpackS2 (a := ((xs.map AV.dat).length : Nat)) (b := ((ys.map AV.dat).length : Nat)) (EvL_cons (Ev_callB (Ev_builtin rfl rfl rfl (by decide)) (EvL_cons (Ev_local (a := LAV (xs.map AV.dat)) rfl rfl) EvL_nil) (len_A (by rw [List.length_map]; omega))) (EvL_cons (Ev_callB (Ev_builtin rfl rfl rfl (by decide)) (EvL_cons (Ev_local (a := LAV (ys.map AV.dat)) rfl rfl) EvL_nil) (len_A (by rw [List.length_map]; omega))) EvL_nil)) rfl rfl R F O H2 Hst (fun h3 tk3 H3 k3 => ?_) rfl (fun env e => by cases env; cases e; rfl)
    rw [List.length_map, List.length_map] at H3
    have mv : ∀ {g g' : Heap} {Y : Addr → Prop} {l : Addr} {as : List AV}, Y env.locals → l ≠ env.locals → (∀ c o, c ≠ env.locals → g.get? c = some o → g'.get? c = some o) → LstA g Y l as → LstA g' Y l as := fun hY hl k L =>
      L.mono (fun o e => k _ o hl e) (fun b o hn e => k b o (fun q => hn (q ▸ hY)) e) fun _ q _ => q
    have Ls3 := mv H2.hidL (fun e => fs.not (.inl e)) k3 Ls
    have Lt3 := mv H2.hidL (fun e => ft.not (.inl e)) k3 Lt
    refine st_object (Ev_builtin rfl rfl rfl (by decide)) rfl R F H3 fun nul h4 tk4 H4 k4 => ?_
    have Ls4 := mv H2.hidL (fun e => fs.not (.inl e)) k4 Ls3
    have Lt4 := mv H2.hidL (fun e => ft.not (.inl e)) k4 Lt3
    refine st_new rfl F O H4 fun lr h5 tk5 H5 nr fr Lr k5 => ?_
    have nrl : ∀ {l : Addr} {as : List AV}, LstA h4 (XU X [ls, lt]) l as → l ≠ lr := fun ⟨_, _, q, _⟩ e => by rw [e, nr] at q; cases q
    have nsr := nrl Ls4
    have ntr := nrl Lt4
    have grow : ∀ {l : Addr} {as : List AV}, LstA h4 (XU X [ls, lt]) l as → LstA h4 (XU (XU X [ls, lt]) [lr]) l as := fun L =>
      L.mono (fun _ e => e) (fun _ _ _ e => e) fun b q hs z => z.elim q fun z => by rw [List.mem_singleton.mp z, nr] at hs; cases hs
    have Ls5 := mv H5.hidL (fun e => fs.not (.inl e)) k5 (grow Ls4)
    have Lt5 := mv H5.hidL (fun e => ft.not (.inl e)) k5 (grow Lt4)
    have Lr5 : LstA h5 (XU (XU X [ls, lt]) [lr]) lr [] := by
      obtain ⟨vs, m, ho, ra⟩ := Lr
      cases vs with | mk l => cases ra; exact ⟨_, m, ho, .nil⟩
    have fs5 : Free env h₀ (XU (XU X [ls, lt]) [lr]) ls := fs.more (fun b hb => .inl hb) fs.above
    have ft5 : Free env h₀ (XU (XU X [ls, lt]) [lr]) lt := ft.more (fun b hb => .inl hb) ft.above
    have hOW : ∀ b, (b = ls ∨ b = lt ∨ b = lr) → Free env h₀ (XU (XU X [ls, lt]) [lr]) b := fun b hb => by
      rcases hb with rfl | rfl | rfl
      · exact fs5
      · exact ft5
      · exact fr
    rw [← map_some_av (nul := nul)] at Ls5 Lt5
    have ok0 : Ok1 xs.length ys.length 0 (xs.map some, ys.map some, []) := ⟨List.length_map _, List.length_map _, fun d hd => by
        obtain ⟨y, hy, e⟩ := List.mem_map.mp hd; cases e; exact hxs _ hy, fun d hd => by
        obtain ⟨y, hy, e⟩ := List.mem_map.mp hd; cases e; exact hys _ hy, Nat.le_refl _⟩
    refine st_forM (N := xs.length) (l := ls) (fun i => av nul ((it1 (xs.map some, ys.map some, []) i).1.getD i none)) (fun _ => _) (fun b => b = ls ∨ b = lt ∨ b = lr)
      (fun i h Y => LstA h Y ls ((it1 (xs.map some, ys.map some, []) i).1.map (av nul)) ∧ LstA h Y lt ((it1 (xs.map some, ys.map some, []) i).2.1.map (av nul)) ∧ LstA h Y lr ((it1 (xs.map some, ys.map some, []) i).2.2.map mmv))
      (Ev_builtin rfl rfl rfl (by decide)) rfl rfl (by decide) (fun x a e => e) R F O H5 (fun b hb => ⟨(hOW b hb).hid, fun e => (hOW b hb).not (.inl e), (hOW b hb).above⟩) (.inl rfl) ?_ ?_ ⟨Ls5, Lt5, Lr5⟩ ?_ ?_
    · rintro i g g' Y Y' ⟨a1, a2, a3⟩ hk hx
      exact ⟨a1.mono (fun o e => hk _ o (.inr (.inl rfl)) e) (fun b o hn e => hk b o (.inl hn) e) hx, a2.mono (fun o e => hk _ o (.inr (.inr (.inl rfl))) e) (fun b o hn e => hk b o (.inl hn) e) hx, a3.mono (fun o e => hk _ o (.inr (.inr (.inr rfl))) e) (fun b o hn e => hk b o (.inl hn) e) hx⟩
    · rintro i g Y ⟨a1, _⟩
      have ok := ok0.it i
      exact ⟨_, a1, by rw [List.length_map, ok.len1], fun hi => map_av_get (by rw [ok.len1]; exact hi)⟩
    · rintro i h₁ X' h' tk' E' hi k01 hXX O1 H1' ⟨a1, a2, a3⟩ hout
      have ok := ok0.it i
      have eS : it1 (xs.map some, ys.map some, []) (i + 1) = step1 (it1 (xs.map some, ys.map some, []) i) i := rfl
      generalize it1 (xs.map some, ys.map some, []) i = S at *
      rw [eS]
      have fr1 : ∀ b, (b = ls ∨ b = lt ∨ b = lr) → Free env h₁ X' b := fun b hb => (hOW b hb).more hXX (hout b hb)
      have C1 := H1'.cells O1
      obtain ⟨h₂, k12, G2, O2, hin, _⟩ := H1'.full O1 (fun _ => False) (fun _ e => e.elim)
      have b1 := a1.ground C1 H1' (fr1 _ (.inl rfl)).not hin
      have b2 := a2.ground C1 H1' (fr1 _ (.inr (.inl rfl))).not hin
      have b3 := a3.ground C1 H1' (fr1 _ (.inr (.inr rfl))).not hin
      cases hd : S.1.getD i none with
      | none =>
        rw [hd] at G2 H1'
        have es : step1 S i = S := by unfold step1; rw [hd]
        rw [es]
        refine st_ifS (c := true) (EvT_cmp (Ev_local (a := NUL nul) rfl rfl) (Ev_local (a := NUL nul) rfl rfl) op_isNul) R F G2 (fun _ g3 t3 k3 => ?_) (fun e => nomatch e)
        have G3 := G2.keeps k3
        exact st_continue ⟨g3, t3, rfl, (G3.rebase H1'.good (k12.trans G3.keep) H1'.above).weak (weak2 rfl rfl), b1.keeps G3.keep, b2.keeps G3.keep, b3.keeps G3.keep⟩
      | some d =>
        rw [hd] at G2 H1'
        have hod : Okd d := ok.ok1 d (getD_memO hd)
        have es : step1 S i = ((knock d S.1 i (S.1.length - i)).2, (knock d S.2.1 0 S.2.1.length).2,
            if (knock d S.1 i (S.1.length - i)).1 != (knock d S.2.1 0 S.2.1.length).1 then S.2.2 ++ [((knock d S.1 i (S.1.length - i)).1, (knock d S.2.1 0 S.2.1.length).1, d)] else S.2.2) := by unfold step1; rw [hd]
        rw [es]
        rw [ok.len1, ok.len2]
        refine st_ifS (c := false) (EvT_cmp (Ev_local (a := .dat d) rfl rfl) (Ev_local (a := NUL nul) rfl rfl) op_isNulD) R F G2 (fun e => nomatch e) (fun _ g3 t3 k3 => ?_)
        have G3 := G2.keeps k3
        refine st_nil ?_
        refine st_assign2 (s := { s with heap := g3, toks := t3 }) Ev_int rfl rfl R F G3 fun g4 t4 G4 => ?_
        have G4' := G4.rebase H1'.good (k12.trans G4.keep) H1'.above
        refine st_knock (s := { s with heap := g4, toks := t4 }) (l := ls) (nul := nul) (d := d) (os := S.1) (iv := i) (N := xs.length) (fun b => b = ls ∨ b = lt ∨ b = lr) (fun g Y => LstA g Y lt (S.2.1.map (av nul)) ∧ LstA g Y lr (S.2.2.map mmv)) (Ev_builtin rfl rfl rfl (by decide)) rfl rfl rfl rfl rfl rfl rfl rfl rfl rfl rfl rfl rfl rfl (by decide) (by decide) (Nat.le_of_lt hi) ok.len1 (by omega) ok.ok1 hod R F O1 G4' fr1 (.inl rfl) ?_ (b1.keeps G4.keep) ⟨b2.keeps G4.keep, b3.keeps G4.keep⟩ fun g5 t5 G5 c1 c23 => ?_
        · rintro g g' Y Y' ⟨q1, q2⟩ hk hx
          exact ⟨q1.mono (fun o e => hk _ o (.inr ⟨.inr (.inl rfl), Ne.symm hst⟩) e) (fun b o hn e => hk b o (.inl hn) e) hx, q2.mono (fun o e => hk _ o (.inr ⟨.inr (.inr rfl), Ne.symm nsr⟩) e) (fun b o hn e => hk b o (.inl hn) e) hx⟩
        obtain ⟨c2, c3⟩ := c23
        refine st_knockE (s := { s with heap := g5, toks := t5 }) (l := lt) (nul := nul) (d := d) (os := S.2.1) (fun b => b = ls ∨ b = lt ∨ b = lr) (fun g Y => LstA g Y ls ((knock d S.1 i (xs.length - i)).2.map (av nul)) ∧ LstA g Y lr (S.2.2.map mmv)) (Ev_builtin rfl rfl rfl (by decide)) rfl rfl rfl rfl rfl rfl rfl rfl rfl rfl rfl rfl (by decide) (by decide) (by rw [ok.len2]; omega) ok.ok2 hod R F O1 G5 fr1 (.inr (.inl rfl)) ?_ c2 ⟨c1, c3⟩ fun g6 t6 G6 d2 d13 => ?_
        · rintro g g' Y Y' ⟨q1, q2⟩ hk hx
          exact ⟨q1.mono (fun o e => hk _ o (.inr ⟨.inl rfl, hst⟩) e) (fun b o hn e => hk b o (.inl hn) e) hx, q2.mono (fun o e => hk _ o (.inr ⟨.inr (.inr rfl), Ne.symm ntr⟩) e) (fun b o hn e => hk b o (.inl hn) e) hx⟩
        obtain ⟨d1, d3⟩ := d13
        rw [ok.len2] at G6 d2
        generalize knock d S.1 i (xs.length - i) = cs at *
        generalize knock d S.2.1 0 ys.length = ct at *
        have C6 := G6.cells O1
        obtain ⟨h₄, k14, G7, O4, hin4, _⟩ := G6.full O1 (fun _ => False) (fun _ e => e.elim)
        have e1 := d1.ground C6 G6 (fr1 _ (.inl rfl)).not hin4
        have e2 := d2.ground C6 G6 (fr1 _ (.inr (.inl rfl))).not hin4
        have e3 := d3.ground C6 G6 (fr1 _ (.inr (.inr rfl))).not hin4
        refine st_ifS (s := { s with heap := g6, toks := t6 }) (c := ((cs.1 : Nat) : Int) != ((ct.1 : Nat) : Int)) (EvT_cmp (Ev_local rfl rfl) (Ev_local rfl rfl) op_neI) R F G7 (fun hc g8 t8 k8 => ?_) (fun hc g8 t8 k8 => ?_)
        · have G8 := G7.keeps k8
          have hc' : (cs.1 != ct.1) = true := by
            rw [bne_iff_ne] at hc ⊢
            exact fun q => hc (by rw [q])
          rw [if_pos hc']
          refine st_assign (s := { s with heap := g8, toks := t8 }) (a := MM ((cs.1 : Nat) : Int) ((ct.1 : Nat) : Int) d) (Ev_callC (Ev_glob rfl rfl) (EvL_cons (Ev_local rfl rfl) (EvL_cons (Ev_local rfl rfl) (EvL_cons (Ev_local rfl rfl) EvL_nil))) (mm_call (n := n + 3))) (.inl rfl) R F O4 G8 fun g9 t9 G9 => ?_
          have G9' := G9.rebase H1'.good (k14.trans G9.keep) H1'.above
          have := ok.res
          refine st_appendA (s := { s with heap := g9, toks := t9 }) F G9' rfl rfl rfl rfl (fr1 _ (.inr (.inr rfl))) (e3.keeps G9.keep) (by rw [List.length_map]; omega) fun g10 G10 sb10 L10 => ?_
          have mv10 : ∀ {l : Addr} {as : List AV}, l ≠ lr → LstA g9 X' l as → LstA g10 X' l as := fun hne L => L.mono (fun o e => (sb10.2 _ hne).trans e) (fun b o hn e => (sb10.2 b (fun q => hn (q ▸ (fr1 _ (.inr (.inr rfl))).hid))).trans e) fun _ q _ => q
          refine st_nil (st_nil ⟨g10, t9, rfl, G10.weak ?_, mv10 nsr (e1.keeps G9.keep), mv10 ntr (e2.keeps G9.keep), ?_⟩)
          · exact weak_set (weak_set (weak_set (weak_set (weak_set (weak2 rfl rfl) rfl) rfl) rfl) rfl) rfl
          · rw [List.map_append]; exact L10
        · have G8 := G7.keeps k8
          have hc' : (cs.1 != ct.1) = false := by
            rw [bne_eq_false_iff_eq] at hc ⊢
            exact Int.ofNat_inj.mp hc
          rw [hc', if_neg (by decide)]
          refine st_nil (st_nil ⟨g8, t8, rfl, (G8.rebase H1'.good (k14.trans G8.keep) H1'.above).weak ?_, e1.keeps G8.keep, e2.keeps G8.keep, e3.keeps G8.keep⟩)
          exact weak_set (weak_set (weak_set (weak_set (weak2 rfl rfl) rfl) rfl) rfl) rfl
    · rintro h6 tk6 H6 ⟨a1, a2, a3⟩
      have ok1 := ok0.it xs.length
      have ecd : it1 (xs.map some, ys.map some, []) xs.length = cdS xs ys := rfl
      rw [ecd] at a2 a3 ok1
      have okz : Ok2 ys.length xs.length ((cdS xs ys).2.1, (cdS xs ys).2.2) := ⟨ok1.len2, ok1.ok2, ok1.res⟩
      refine st_forM (N := ys.length) (l := lt) (fun i => av nul ((it2 ((cdS xs ys).2.1, (cdS xs ys).2.2) i).1.getD i none)) (fun _ => _) (fun b => b = ls ∨ b = lt ∨ b = lr)
        (fun i h Y => LstA h Y lt ((it2 ((cdS xs ys).2.1, (cdS xs ys).2.2) i).1.map (av nul)) ∧ LstA h Y lr ((it2 ((cdS xs ys).2.1, (cdS xs ys).2.2) i).2.map mmv))
        (Ev_builtin rfl rfl rfl (by decide)) rfl rfl (by decide) (fun x a e => e) R F O H6 (fun b hb => ⟨(hOW b hb).hid, fun e => (hOW b hb).not (.inl e), (hOW b hb).above⟩) (.inr (.inl rfl)) ?_ ?_ ⟨a2, a3⟩ ?_ ?_
      · rintro i g g' Y Y' ⟨a2, a3⟩ hk hx
        exact ⟨a2.mono (fun o e => hk _ o (.inr (.inr (.inl rfl))) e) (fun b o hn e => hk b o (.inl hn) e) hx, a3.mono (fun o e => hk _ o (.inr (.inr (.inr rfl))) e) (fun b o hn e => hk b o (.inl hn) e) hx⟩
      · rintro i g Y ⟨a1, _⟩
        have ok := okz.it i
        exact ⟨_, a1, by rw [List.length_map, ok.len], fun hi => map_av_get (by rw [ok.len]; exact hi)⟩
      · rintro i h₁ X' h' tk' E' hi k01 hXX O1 H1' ⟨a2, a3⟩ hout
        have ok := okz.it i
        have eS : it2 ((cdS xs ys).2.1, (cdS xs ys).2.2) (i + 1) = step2 (it2 ((cdS xs ys).2.1, (cdS xs ys).2.2) i) i := rfl
        generalize it2 ((cdS xs ys).2.1, (cdS xs ys).2.2) i = S at *
        rw [eS]
        have fr1 : ∀ b, (b = ls ∨ b = lt ∨ b = lr) → Free env h₁ X' b := fun b hb => (hOW b hb).more hXX (hout b hb)
        have C1 := H1'.cells O1
        obtain ⟨h₂, k12, G2, O2, hin, _⟩ := H1'.full O1 (fun _ => False) (fun _ e => e.elim)
        have b2 := a2.ground C1 H1' (fr1 _ (.inr (.inl rfl))).not hin
        have b3 := a3.ground C1 H1' (fr1 _ (.inr (.inr rfl))).not hin
        cases hd : S.1.getD i none with
        | none =>
          rw [hd] at G2 H1'
          have es : step2 S i = S := by unfold step2; rw [hd]
          rw [es]
          refine st_ifS (c := true) (EvT_cmp (Ev_local (a := NUL nul) rfl rfl) (Ev_local (a := NUL nul) rfl rfl) op_isNul) R F G2 (fun _ g3 t3 k3 => ?_) (fun e => nomatch e)
          have G3 := G2.keeps k3
          exact st_continue ⟨g3, t3, rfl, (G3.rebase H1'.good (k12.trans G3.keep) H1'.above).weak (weak2 rfl rfl), b2.keeps G3.keep, b3.keeps G3.keep⟩
        | some d =>
          rw [hd] at G2 H1'
          have hod : Okd d := ok.ok d (getD_memO hd)
          have es : step2 S i = ((knock d S.1 i (S.1.length - i)).2, S.2 ++ [(0, (knock d S.1 i (S.1.length - i)).1, d)]) := by unfold step2; rw [hd]
          rw [es]
          rw [ok.len]
          refine st_ifS (c := false) (EvT_cmp (Ev_local (a := .dat d) rfl rfl) (Ev_local (a := NUL nul) rfl rfl) op_isNulD) R F G2 (fun e => nomatch e) (fun _ g3 t3 k3 => ?_)
          have G3 := G2.keeps k3
          refine st_nil ?_
          refine st_assign (s := { s with heap := g3, toks := t3 }) Ev_int (.inl rfl) R F O2 G3 fun g4 t4 G4 => ?_
          have G4' := G4.rebase H1'.good (k12.trans G4.keep) H1'.above
          refine st_knock (s := { s with heap := g4, toks := t4 }) (l := lt) (nul := nul) (d := d) (os := S.1) (iv := i) (N := ys.length) (fun b => b = ls ∨ b = lt ∨ b = lr) (fun g Y => LstA g Y lr (S.2.map mmv)) (Ev_builtin rfl rfl rfl (by decide)) rfl rfl rfl rfl rfl rfl rfl rfl rfl rfl rfl rfl rfl rfl (by decide) (by decide) (Nat.le_of_lt hi) ok.len (by omega) ok.ok hod R F O1 G4' fr1 (.inr (.inl rfl)) ?_ (b2.keeps G4.keep) (b3.keeps G4.keep) fun g5 t5 G5 c2 c3 => ?_
          · rintro g g' Y Y' q2 hk hx
            exact q2.mono (fun o e => hk _ o (.inr ⟨.inr (.inr rfl), Ne.symm ntr⟩) e) (fun b o hn e => hk b o (.inl hn) e) hx
          generalize knock d S.1 i (ys.length - i) = ct at *
          have C5 := G5.cells O1
          obtain ⟨h₄, k14, G7, O4, hin4, _⟩ := G5.full O1 (fun _ => False) (fun _ e => e.elim)
          have e2 := c2.ground C5 G5 (fr1 _ (.inr (.inl rfl))).not hin4
          have e3 := c3.ground C5 G5 (fr1 _ (.inr (.inr rfl))).not hin4
          refine st_assign (s := { s with heap := g5, toks := t5 }) (a := MM ((0 : Nat) : Int) ((ct.1 : Nat) : Int) d) (Ev_callC (Ev_glob rfl rfl) (EvL_cons (Ev_int (i := 0)) (EvL_cons (Ev_local rfl rfl) (EvL_cons (Ev_local rfl rfl) EvL_nil))) (mm_call (n := n + 3) (a := 0))) (.inl rfl) R F O4 G7 fun g9 t9 G9 => ?_
          have G9' := G9.rebase H1'.good (k14.trans G9.keep) H1'.above
          have := ok.res
          refine st_appendA (s := { s with heap := g9, toks := t9 }) F G9' rfl rfl rfl rfl (fr1 _ (.inr (.inr rfl))) (e3.keeps G9.keep) (by rw [List.length_map]; omega) fun g10 G10 sb10 L10 => ?_
          have mv10 : ∀ {l : Addr} {as : List AV}, l ≠ lr → LstA g9 X' l as → LstA g10 X' l as := fun hne L => L.mono (fun o e => (sb10.2 _ hne).trans e) (fun b o hn e => (sb10.2 b (fun q => hn (q ▸ (fr1 _ (.inr (.inr rfl))).hid))).trans e) fun _ q _ => q
          refine st_nil ⟨g10, t9, rfl, G10.weak ?_, mv10 ntr (e2.keeps G9.keep), ?_⟩
          · exact weak_set (weak_set (weak_set (weak2 rfl rfl) rfl) rfl) rfl
          · rw [List.map_append]; exact L10
      · rintro h7 tk7 H7 ⟨_, a3⟩
        have ecf : (it2 ((cdS xs ys).2.1, (cdS xs ys).2.2) ys.length).2 = cdF xs ys := rfl
        rw [ecf] at a3
        obtain ⟨h₂, k02, H8, O2, hin, _⟩ := H7.full O (fun _ => False) (fun _ e => e.elim)
        have L8 := a3.ground (H7.cells O) H7 fr.not hin
        refine st_return (s := { s with heap := h7, toks := tk7 }) (a := .val (.ref lr)) (Ev_local rfl rfl) R F H8 fun v h' tk' H9 r => ?_
        cases r
        refine h _ h' tk' (k02.trans H9.keep) ⟨lr, rfl, fun q => ?_, ?_⟩
        · have := H4.alive lr (.inl q)
          rw [nr] at this; cases this
        · exact (L8.keeps H9.keep).mono (fun _ e => e) (fun _ _ _ e => e) fun b q _ z => q (.inl (.inl z))
  · intro vals hv
    match vals, hv with
    | [a, b], _ => rfl
  · decide
  · decide
end Mine

end
section
open PySem PySem.W PyProof.Rows
set_option maxRecDepth 100000
set_option maxHeartbeats 8000000
set_option linter.unusedVariables false
namespace Mine
/-- the table may have grown -/
structure TG (h h' : Heap) : Prop where
  tab : ∃ ps more, h.TableAt 103 PT ps ∧ h'.TableAt 103 PT (ps ++ more)
  ok : TabOk h'
theorem TG.trans {a b c : Heap} (x : TG a b) (y : TG b c) : TG a c := by
  obtain ⟨ps, m1, t1, t2⟩ := x.tab
  obtain ⟨qs, m2, t3, t4⟩ := y.tab
  have e := tab_eq t2 t3
  subst e
  exact ⟨⟨ps, m1 ++ m2, t1, by rw [← Array.append_assoc]; exact t4⟩, y.ok⟩
theorem TG.of {h h' : Heap} (T : TabOk h) (kP : ∀ o, h.get? PT = some o → h'.get? PT = some o) (k3 : ∀ o, h.get? 103 = some o → h'.get? 103 = some o) : TG h h' := by
  obtain ⟨ps, i, ⟨⟨o, vs, a, r⟩, t2⟩⟩ := T
  have t' : h'.TableAt 103 PT ps := ⟨⟨o, vs, k3 _ a, r⟩, kP _ t2⟩
  refine ⟨⟨ps, #[], ⟨⟨o, vs, a, r⟩, t2⟩, by rw [Array.append_empty]; exact t'⟩, ps, ?_, t'⟩
  obtain ⟨o, vs, file, tf, flags, tg, inF, text, tt, op, a, r1, r2, r3, r4, r5, r6, b, r⟩ := i
  exact ⟨o, vs, file, tf, flags, tg, inF, text, tt, op, k3 _ a, r1, r2, r3, r4, r5, r6, kP _ b, r⟩
theorem TG.of_gk {h h' : Heap} (k : Gk h h') : TG h h' := ⟨k.tab, k.ok⟩
theorem TG.of_keeps {h h' : Heap} (T : TabOk h) (k : Keeps h h') : TG h h' := .of T (fun _ e => k _ _ e) fun _ e => k _ _ e
section
variable {w : World} {n : Nat} {sc : Scope} {σ : Sto} {A : Around} {env : Env} {h₀ h h' : Heap} {X : Addr → Prop} {s : Shared} {E : Value → Shared → Prop} {fs wr : List Addr}
theorem EnvAt.after (H : EnvAt w env h₀ X h σ) (k : ∀ b o, b ∉ fs → b ∉ wr → h.get? b = some o → h'.get? b = some o) (sl : ∀ b o, b ∈ fs → h.get? b = some o → ∃ sl, h'.get? b = some { o with slots := sl })
    (hfX : ∀ b ∈ fs, X b) (hg : ∀ b ∈ fs, h₀.get? b = none) (hw : ∀ b ∈ wr, X b ∧ ¬ Mineof env b ∧ h₀.get? b = none ∧ (h'.get? b).isSome) (hfw : ∀ b ∈ fs, b ∉ wr) (hc : CellsIn env X) : EnvAt w env h₀ X h' σ := by
  have kx : KeepsX X h h' := fun b o hn e => k b o (fun q => hn (hfX b q)) (fun q => hn (hw b q).1) e
  have some' : ∀ b o, b ∉ wr → h.get? b = some o → ∃ sl, h'.get? b = some { o with slots := sl } := fun b o hb e => by
    by_cases q : b ∈ fs
    · exact sl b o q e
    · exact ⟨o.slots, k b o q hb e⟩
  refine ⟨H.good, fun b o e => k b o (fun q => by rw [hg b q] at e; cases e) (fun q => by rw [(hw b q).2.2.1] at e; cases e) (H.keep _ _ e), fun a ha => ?_, H.hidL, H.above, ?_, fun y ky => ?_⟩
  · by_cases q : a ∈ wr
    · exact (hw a q).2.2.2
    · obtain ⟨o, ho⟩ := Option.isSome_iff_exists.mp (H.alive a ha)
      obtain ⟨sl, e⟩ := some' a o q ho
      rw [e]; rfl
  · obtain ⟨m, ⟨o, es, ep, ho, hd, r⟩, hr⟩ := H.loc
    obtain ⟨sl, e⟩ := some' _ o (fun q => (hw _ q).2.1 (.inl rfl)) ho
    refine ⟨m, ⟨_, es, ep, e, hd, r⟩, fun y a e kk => ?_⟩
    obtain ⟨v, hv, rv⟩ := hr y a e kk
    exact ⟨v, hv, rv.keeps kx⟩
  · obtain ⟨c, o, ov, g1, g2, g3, g4, g5, g6⟩ := H.cel y ky
    obtain ⟨sl, e⟩ := some' _ o (fun q => (hw _ q).2.1 (.inr ⟨y, g1⟩)) g4
    refine ⟨c, _, ov, g1, g2, g3, e, g5, fun a e => ?_⟩
    obtain ⟨v, hv, rv⟩ := g6 a e
    exact ⟨v, hv, rv.keeps kx⟩
theorem EnvAt.gk (H : EnvAt w env h₀ X h σ) (k : Gk h h') (hXP : X PT) (hgP : h₀.get? PT = none) (T : TabOk h) : EnvAt w env h₀ X h' σ := by
  obtain ⟨ps, _, t⟩ := T
  have nP : ∀ b o, h.get? b = some o → (∀ vs, o.data ≠ .fields vs) → b ≠ PT := fun b o e hd q => by
    rw [q, t.2] at e; cases e; exact hd _ rfl
  refine H.moved (wr := [PT]) (fun b o hb e => k.keep b o (fun q => hb (List.mem_singleton.mpr q)) e) (fun b hb => by rcases List.mem_singleton.mp hb with rfl; exact hXP) (fun hb => ?_) (fun x c kc e hb => ?_) (fun b hb => by rcases List.mem_singleton.mp hb with rfl; exact hgP) (fun b hb => ?_)
  · obtain ⟨m, ⟨o, es, ep, ho, hd, r⟩, _⟩ := H.loc
    exact nP _ o ho (fun vs q => by rw [hd] at q; cases q) (List.mem_singleton.mp hb)
  · obtain ⟨c', o, ov, g1, g2, g3, g4, g5, g6⟩ := H.cel x kc
    rw [e] at g1; cases g1
    exact nP _ o g4 (fun vs q => by rw [g5] at q; cases q) (List.mem_singleton.mp hb)
  · rcases List.mem_singleton.mp hb with rfl
    obtain ⟨ps, _, t⟩ := k.ok
    rw [t.2]; rfl
/-- what _common_shorten_repr gives for these rows -/
def csrD (ds : List PyData) : PyData := .tuple ((csrF (ds.map PyData.shown) (maxI ((ds.map PyData.shown).map fun y => (y.length : Int))) (cpre (minS (ds.map PyData.shown)) (maxS (ds.map PyData.shown)))).map .str)
structure CsrOk (ds : List PyData) : Prop where
  len : ds.length = 1 ∨ ds.length = 2 ∨ ds.length = 3
  wok : ∀ d ∈ ds, Wok d ∧ d.depth ≤ 60 ∧ d.shown.length ≤ 200000
  m0 : 0 ≤ maxI ((ds.map PyData.shown).map fun y => (y.length : Int))
  m1 : maxI ((ds.map PyData.shown).map fun y => (y.length : Int)) ≤ 200000
  hb : ∀ i, i < (minS (ds.map PyData.shown)).length → (∀ j, j < i → chr (minS (ds.map PyData.shown)) j = chr (maxS (ds.map PyData.shown)) j) → i < (maxS (ds.map PyData.shown)).length
  pl : (cpre (minS (ds.map PyData.shown)) (maxS (ds.map PyData.shown))).length ≤ 200000
  mn : (minS (ds.map PyData.shown)).length ≤ 1000000
theorem ev_csr {x : Str} {p pos : Pos} {e : Expr} {es : List Expr} {ds : List PyData} {Q : Value → Shared → Prop} (ok : CsrOk ds) (hf : Ev w (n + 108) sc σ (.Name x p) (.val (.ref 104))) (he : EvL w (n + 108) sc σ (e :: es) (ds.map .dat)) (R : Room (n + 108) A) (F : Fit sc env) (H : EnvAt w env h₀ X s.heap σ) (hXP : X PT) (hgP : h₀.get? PT = none) (T : TabOk s.heap) (Bg : AllBare s.gens)
    (h : ∀ v h' tk' g', KeepsX X s.heap h' → EnvAt w env h₀ X h' σ → TG s.heap h' → AllBare g' → RdA h' X v (.dat (csrD ds)) → Q v { s with heap := h', toks := tk', gens := g' })
    (hs : ∀ env, starEach (e :: es) env = (false, eval e env) :: starEach es env := by intro _; rfl) : wpAny (model PG w) A (eval (.Call (.Name x p) (e :: es) [] pos) env) Q E s := by
  refine Call_Name rfl (hf.run R F H fun v h1 tk1 k1 H1 rv => ?_)
  cases rv
  refine Calls.callWith_function (o := _) (fd := _) (evalArgs_of he (s := { s with heap := h1, toks := tk1 }) R F H1 (hs env) fun vs h2 tk2 k2 H2 rs => ⟨⟨H2.goodH.K 104 _ rfl, rfl⟩, ?_⟩)
  have k12 := k1.trans k2
  have T2 : TabOk h2 := T.keeps k12
  refine fn_csr ok.len ok.wok rfl rfl ok.m0 ok.m1 ok.hb rfl ok.pl ok.mn A X { s with heap := h2, toks := tk2 } vs _ _ R H2.goodH H2.alive hXP T2 Bg rs fun v h' tk' g' k b r => ?_
  exact h v h' tk' g' (k12.x.trans fun b o hn e => k.keep b o (fun q => hn (q ▸ hXP)) e) (H2.gk k hXP hgP T2) ((TG.of_keeps T k12).trans (.of_gk k)) b r
end
end Mine

end
section
open PySem PySem.W PyProof.Rows
set_option maxRecDepth 100000
set_option maxHeartbeats 8000000
set_option linter.unusedVariables false
namespace Mine
def repLine (r : Nat × Nat × PyData) : PyData := .str (lineT r.1 r.2.1 (told r.2.2.shown))
def missF (xs ys : List PyData) : List PyData := (uldR ys.reverse xs []).1
def leftF (xs ys : List PyData) : List PyData := (uldR ys.reverse xs []).2
def repD (xs ys zs : List PyData) : PyData :=
  .list [.list [csrD [.list xs], csrD [.list xs, .list ys], csrD [.list ys, .list zs, .list xs], csrD [.list (missF xs ys), .list (leftF xs ys)]],
    .list ((cdF xs ys).map repLine), .str (PyData.shown (.list (missF xs ys))), .str (PyData.shown (.list (leftF xs ys)))]
structure RepOk (xs ys zs : List PyData) : Prop where
  ox : ∀ d ∈ xs, Okd d
  oy : ∀ d ∈ ys, Okd d
  lx : xs.length ≤ 100
  ly : ys.length ≤ 100
  lz : zs.length ≤ 100
  c1 : CsrOk [.list xs]
  c2 : CsrOk [.list xs, .list ys]
  c3 : CsrOk [.list ys, .list zs, .list xs]
  c4 : CsrOk [.list (missF xs ys), .list (leftF xs ys)]
  cd : ∀ r ∈ cdF xs ys, r.1 ≤ 1000 ∧ r.2.1 ≤ 1000 ∧ Wok r.2.2 ∧ r.2.2.depth ≤ 60 ∧ r.2.2.shown.length ≤ 200000
  cl : (cdF xs ys).length ≤ 1000
theorem none_of_size' {h h' : Heap} (k : Keeps h h') {c : Addr} (hc : h'.get? c = none) : h.get? c = none := by
  cases q : h.get? c with
  | none => rfl
  | some o => rw [k _ _ q] at hc; cases hc
theorem cw_fn {w : World} {A : Around} {s : Shared} {E : Value → Shared → Prop} {Q : Value → Shared → Prop} {pos : Pos} {f : Addr} {o : Obj} {fd : FuncData} {x : Sem Value} {rest : List (Bool × Sem Value)} (ho : (KF w).lookup f = some o) (hfd : o.data = .func fd)
    (h : wpAny (model PG w) A (spliced ((false, x) :: rest)) (fun vs s₁ => Good w s₁.heap ∧ wpAny (model PG w) A (call (.ref f) vs) Q E s₁) E s) : wpAny (model PG w) A (callWith pos (.ref f) [] ((false, x) :: rest) []) Q E s :=
  Calls.callWith_function (o := o) (fd := fd) (Calls.evalArgs_plain (wpAny_mono h (fun vs s₁ h₁ => ⟨⟨h₁.1.K _ _ ho, hfd⟩, h₁.2⟩) fun _ _ e => e))
theorem fn_report {w : World} {n : Nat} {A : Around} {X : Addr → Prop} {s : Shared} {xs ys zs : List PyData} {outer : List Env} {g : Heap} {vals : List Value} {Q : Value → Shared → Prop} {E : Value → Shared → Prop} (ok : RepOk xs ys zs)
    (R : Room (n + 200) A) (hfr : A.frames = some outer) (fo : FrOk s.heap outer) (G : Good w s.heap) (hX : Alive X s.heap) (hfX : ∀ b ∈ outer.filterMap (·.frame), X b) (hXP : X PT) (T0 : TabOk s.heap) (Bg : AllBare s.gens) (Gg : Good w g) (kg : Keeps g s.heap) (hgf : ∀ b ∈ outer.filterMap (·.frame), g.get? b = none) (hgP : g.get? PT = none)
    (rs : RdAs s.heap X vals [.dat (.list xs), .dat (.list ys), .dat (.list zs)])
    (h : ∀ v h' tk' g', (∀ b o, b ∉ outer.filterMap (·.frame) → b ≠ PT → s.heap.get? b = some o → h'.get? b = some o) → (∀ b o, b ∈ outer.filterMap (·.frame) → s.heap.get? b = some o → ∃ sl, h'.get? b = some { o with slots := sl }) → TG s.heap h' → AllBare g' → RdA h' X v (.dat (repD xs ys zs)) → Q v { s with heap := h', toks := tk', gens := g' }) :
    wpAny (model PG w) A (call (.ref 239) vals) Q E s := by
  refine wpAny_call (codeAny_call_function (o := _) (fd := _) (body := _) R.depth (G.K 239 _ rfl) rfl rfl rfl rfl (codeRec_of G.K rfl) ?_)
  have hv3 : vals.length = 3 := rdAs_len rs
  match vals, hv3 with
  | [v1, v2, v3], _ =>
  refine wpAny_of_eq (a := [(("actual" : Str), v1), (("expected" : Str), v2), (("common" : Str), v3)]) rfl ?_
  refine new_env (as := [.dat (.list xs), .dat (.list ys), .dat (.list zs)]) (n := n + 199) (X := X) G hX rfl ?_ ?_ ?_ ?_ rs fun env X' h1 tk1 F hcf O hXX H => ?_
  · intro x e; exact absurd rfl ((by decide : ∀ p ∈ _, p.2 ≠ NameKind.free) _ (Fn_of.lookup_mem_kind e))
  · exact fun x e => Fn_of.lookup_mem_kind e
  · decide
  · intro p hp
    rcases List.mem_cons.mp hp with rfl | hp
    · exact .inl rfl
    · rcases List.mem_cons.mp hp with rfl | hp
      · exact .inl rfl
      · rcases List.mem_singleton.mp hp with rfl
        exact .inl rfl
  refine ⟨H.goodH.nolimit, codeAny_func ?_⟩
  obtain ⟨hcode, hframe, hback⟩ := hcf
  have R1 : Room (n + 199) (A.deeper env) := R.deeper env
  have hdeep : (A.deeper env).frames = some (env :: outer) := by show A.frames.map (env :: ·) = _; rw [hfr]; rfl
  have hfs : (env :: outer).filterMap (·.frame) = env.locals :: outer.filterMap (·.frame) := by rw [List.filterMap_cons, hframe]
  have hLn : s.heap.get? env.locals = none := H.above
  -- missing, left = ...
  refine wpAny_execs_cons (Assign_Tuple ?_ rfl ?_)
  rotate_left
  · have e := F.scope
    cases env; cases e; rfl
  refine Call_Name rfl ((Ev_glob (v := .ref 119) rfl rfl).run R1 F H fun v h2 tk2 k2 H2 rv => ?_)
  cases rv
  refine cw_fn (f := 119) (w := w) rfl rfl (Calls.spliced_cons ?_)
  refine own_list (s := { s with heap := h2, toks := tk2 }) (x := "expected") (ds := ys) (Ev_builtin rfl rfl rfl (by decide)) rfl rfl (by have := ok.ly; omega) R1 F H2 H2 (Keeps.refl _) fun l1 vs1 m1 h3 tk3 k3 H3 n1 g1 ra1 => Calls.spliced_cons ?_
  refine own_list (s := { s with heap := h3, toks := tk3 }) (x := "actual") (ds := xs) (Ev_builtin rfl rfl rfl (by decide)) rfl rfl (by have := ok.lx; omega) R1 F H3 H2 k3 fun l2 vs2 m2 h4 tk4 k4 H4 n2 g2 ra2 => Calls.spliced_nil ?_
  refine ⟨H4.goodH, ?_⟩
  dsimp only at k3 k4 n1 n2
  -- the ground
  have kg1 : Keeps g (blank s.heap fun a => a ∈ outer.filterMap (·.frame) ∨ a = PT) := keeps_blank kg fun a ha => by
    rcases ha with ha | rfl
    · exact hgf a ha
    · exact hgP
  have gn : ∀ a, s.heap.get? a = none → (blank s.heap fun a => a ∈ outer.filterMap (·.frame) ∨ a = PT).get? a = none := fun a ha => by
    cases q : (blank s.heap fun a => a ∈ outer.filterMap (·.frame) ∨ a = PT).get? a with
    | none => rfl
    | some o => have := blank_keeps _ _ q; rw [ha] at this; cases this
  generalize hgg : (blank s.heap fun a => a ∈ outer.filterMap (·.frame) ∨ a = PT) = gA at *
  have kgA : Keeps gA s.heap := by rw [← hgg]; exact blank_keeps
  have gin : ∀ b o, b ∉ outer.filterMap (·.frame) → b ≠ PT → s.heap.get? b = some o → gA.get? b = some o := fun b o q1 q2 e => by
    rw [← hgg, blank_in (D := fun a => a ∈ outer.filterMap (·.frame) ∨ a = PT) (fun q => q.elim q1 q2)]; exact e
  have gout : ∀ b, (b ∈ outer.filterMap (·.frame) ∨ b = PT) → gA.get? b = none := fun b q => by rw [← hgg]; exact blank_out (D := fun a => a ∈ outer.filterMap (·.frame) ∨ a = PT) q
  have G_A : Good w gA := Gg.keeps kg1
  -- freshness
  have s1 : s.heap.get? l1 = none := none_of_size' (H2.keep) n1
  have h21 : h2.get? l1 = none := n1
  have s2 : s.heap.get? l2 = none := none_of_size' (H3.keep) n2
  have h22 : h2.get? l2 = none := none_of_size' k3 n2
  have n12 : l1 ≠ l2 := fun e => by rw [← e, g1] at n2; cases n2
  have hwr : ∀ c ∈ [l1, l2], h2.get? c = none := fun c hc => by
    rcases List.mem_cons.mp hc with rfl | hc
    · exact h21
    · rcases List.mem_singleton.mp hc with rfl; exact h22
  have g1' := k4 _ _ g1
  have k24 : Keeps h2 h4 := k3.trans k4
  have nX' : ∀ c ∈ [l1, l2], ¬ X' c := fun c hc q => by have := H2.alive c q; rw [hwr c hc] at this; cases this
  have nX : ∀ c ∈ [l1, l2], ¬ X c := fun c hc q => nX' c hc (hXX c q)
  have H5 : EnvAt w env s.heap (XU X' [l1, l2]) h4 _ := H2.grow k24 hwr fun c hc => by
    rcases List.mem_cons.mp hc with rfl | hc
    · rw [g1']; rfl
    · rcases List.mem_singleton.mp hc with rfl; rw [g2]; rfl
  have H5A : EnvAt w env gA (XU X' [l1, l2]) h4 _ := H5.rebase G_A (kgA.trans H5.keep) (gn _ hLn)
  have OA : Own env gA := ⟨fun x c e => gn _ (O.above x c e), O.inj, O.kind⟩
  have up : ∀ {vs : List Value} {ds : List PyData}, RdAll h2 X' vs ds → RdAll h4 (XU X' [l1, l2]) vs ds := fun r =>
    r.mono (fun c o _ e => k24 _ _ e) fun c hn hs q => q.elim hn fun q => by rw [hwr c q] at hs; cases hs
  have L1 : Lst h4 (XU X' [l1, l2]) l1 ys := ⟨_, _, g1', up ra1⟩
  have L2 : Lst h4 (XU X' [l1, l2]) l2 xs := ⟨_, _, g2, up ra2⟩
  have notMine : ∀ c, h2.get? c = none → ¬ Mineof env c := fun c hc m => by
    have := H2.alive c (m.x (H2.cells O) H2)
    rw [hc] at this; cases this
  have memf : ∀ b, b ∈ (env :: outer).filterMap (·.frame) → b = env.locals ∨ b ∈ outer.filterMap (·.frame) := fun b hb => by rw [hfs] at hb; exact List.mem_cons.mp hb
  have frs : ∀ b ∈ outer.filterMap (·.frame), (s.heap.get? b).isSome := fun b hb => hX b (hfX b hb)
  have nf : ∀ c, h2.get? c = none → c ∉ (env :: outer).filterMap (·.frame) := fun c hc hb => by
    rcases memf c hb with rfl | hb
    · have := H2.alive _ H2.hidL; rw [hc] at this; cases this
    · obtain ⟨o, ho⟩ := Option.isSome_iff_exists.mp (frs c hb)
      rw [H2.keep _ _ ho] at hc; cases hc
  have fo4 : FrOk h4 (env :: outer) := fun e he => by
    rcases List.mem_cons.mp he with rfl | he
    · obtain ⟨m, ⟨o, es, ep, ho, hd, _⟩, _⟩ := H4.loc
      exact ⟨by rw [F.scope, F.kind]; decide, _, o, hframe, ho, fun vs q => by rw [hd] at q; cases q⟩
    · obtain ⟨hk, L, o, hf, ho, hd⟩ := fo e he
      exact ⟨hk, L, o, hf, H4.keep _ _ ho, hd⟩
  have hfX2 : ∀ b ∈ (env :: outer).filterMap (·.frame), XU X' [l1, l2] b := fun b hb => by
    rcases memf b hb with rfl | hb
    · exact .inl H2.hidL
    · exact .inl (hXX _ (hfX b hb))
  have hgf2 : ∀ b ∈ (env :: outer).filterMap (·.frame), gA.get? b = none := fun b hb => by
    rcases memf b hb with rfl | hb
    · exact gn _ hLn
    · exact gout _ (.inl hb)
  refine fn_uld (n := n + 198) (A := A.deeper env) (X := XU X' [l1, l2]) (s := { s with heap := h4, toks := tk4 }) (l1 := l1) (l2 := l2) (xs := ys) (ys := xs) (outer := env :: outer) (g := gA) R1 hdeep fo4 H4.goodH H5.alive hfX2 G_A (kgA.trans H4.keep) hgf2 (gn _ s1) (gn _ s2) (.inr (.head _)) (.inr (.tail _ (.head _))) n12 (nf _ h21) (nf _ h22) L1 L2 (fun d hd => (ok.oy d hd).1) (fun d hd => (ok.ox d hd).1) ok.ly ok.lx fun t l3 h5 tk5 k5 sl5 nt nl3 nlt gt Lm Ll => ?_
  dsimp only at k5 sl5 nt nl3
  have kS : Sl ((env :: outer).filterMap (·.frame)) h2 h5 := ⟨fun b o hb e => k5 b o hb (fun q => by rw [q, h21] at e; cases e) (fun q => by rw [q, h22] at e; cases e) (k24 _ _ e), fun b o hb e => sl5 b o hb (k24 _ _ e)⟩
  have hfX' : ∀ b ∈ (env :: outer).filterMap (·.frame), X' b := fun b hb => by
    rcases memf b hb with rfl | hb
    · exact H2.hidL
    · exact hXX _ (hfX b hb)
  have H6 := (H2.rebase G_A (kgA.trans H2.keep) (gn _ hLn)).slots kS hfX' hgf2
  have nl3' : h2.get? l3 = none := none_of_size' k24 nl3
  have nX3 : ¬ X' l3 := fun q => by have := H2.alive l3 q; rw [nl3'] at this; cases this
  have nX2 : ¬ X' l2 := nX' l2 (.tail _ (.head _))
  have lessU : ∀ b, X' b → XU X' [l1, l2] b := fun b hb => .inl hb
  have rm : RdA h5 X' (.ref l3) (.dat (.list (missF xs ys))) := Lm.out lessU nX3
  have rl : RdA h5 X' (.ref l2) (.dat (.list (leftF xs ys))) := Ll.out lessU nX2
  refine assign_Tuple_tuple (items := #[.ref l3, .ref l2]) (s := { s with heap := h5, toks := tk5 }) R1.hh ⟨_, gt, rfl, _, rfl⟩ rfl rfl fun h6 hx6 => ?_
  have k56 : Keeps h5 h6 := fun b o e => hx6 b o (Nat.ne_of_lt (Heap.lt_size e)) e
  show wpAny (model PG w) (A.deeper env) (assignInOrder [assign (.Name "missing" _) env, assign (.Name "left" _) env] [.ref l3, .ref l2]) _ _ { s with heap := h6, toks := tk5 }
  refine wpAny_bind (wpAny_holding (PyProof.Rows.assign_Name ?_))
  refine store_localS (s := { s with heap := h6, toks := tk5 }) (a := .dat (.list (missF xs ys))) F (H6.keeps k56) rfl (rm.keeps k56.x) fun h7 tk7 H7 kx7 sb7 => ?_
  refine wpAny_bind (wpAny_holding (PyProof.Rows.assign_Name ?_))
  refine store_localS (s := { s with heap := h7, toks := tk7 }) (a := .dat (.list (leftF xs ys))) F H7 rfl ((rl.keeps k56.x).keeps kx7) fun h8 tk8 H8 kx8 sb8 => wpAny_pure ?_
  dsimp only at sb7 sb8
  have k58 : ∀ b o, b ≠ env.locals → h5.get? b = some o → h8.get? b = some o := fun b o hb e => (sb8.2 b hb).trans ((sb7.2 b hb).trans (k56 _ _ e))
  have nLoc : ∀ b o, s.heap.get? b = some o → b ≠ env.locals := fun b o e q => by rw [q, hLn] at e; cases e
  have nf0 : ∀ b, b ∉ outer.filterMap (·.frame) → b ≠ env.locals → b ∉ (env :: outer).filterMap (·.frame) := fun b h1 h2 q => (memf b q).elim h2 h1
  have keep8 : ∀ b o, b ∉ outer.filterMap (·.frame) → s.heap.get? b = some o → h8.get? b = some o := fun b o hb e => k58 b o (nLoc b o e) (kS.keep b o (nf0 b hb (nLoc b o e)) (H2.keep _ _ e))
  have slot8 : ∀ b o, b ∈ outer.filterMap (·.frame) → s.heap.get? b = some o → ∃ sl, h8.get? b = some { o with slots := sl } := fun b o hb e => by
    obtain ⟨sl, q⟩ := kS.slot b o (by rw [hfs]; exact .tail _ hb) (H2.keep _ _ e)
    exact ⟨sl, k58 b _ (nLoc b o e) q⟩
  have ffields : ∀ b o, s.heap.get? b = some o → (∃ vs, o.data = .fields vs) → b ∉ outer.filterMap (·.frame) := fun b o e ⟨vs, hvs⟩ hb => by
    obtain ⟨ev, he, q⟩ := List.mem_filterMap.mp hb
    obtain ⟨_, L, o', hf, ho, hd⟩ := fo ev he
    rw [hf] at q; cases q
    rw [e] at ho; cases ho
    exact hd vs hvs
  have tg8 : TG s.heap h8 := .of T0 (fun o e => by
      obtain ⟨ps, _, tt⟩ := T0
      exact keep8 _ o (ffields _ _ tt.2 ⟨_, rfl⟩) e) (fun o e => by
      have := G.K 103 _ rfl
      exact keep8 _ o (ffields _ _ this ⟨_, rfl⟩) e)
  obtain ⟨h₁, kA1, H9, O9, hin9, hout9⟩ := H8.full OA (fun b => b = PT) (fun b e => by subst e; exact gout _ (.inr rfl))
  have hP1 : h₁.get? PT = none := hout9 _ rfl
  have hXP' : X' PT := hXX _ hXP
  refine wpAny_execs_cons (wpAny_Assign_Name (wpAny_List ?_) rfl)
  refine Calls.spliced_cons (ev_csr (n := n + 91) (s := { s with heap := h8, toks := tk8 }) ok.c1 (Ev_glob rfl rfl) (EvL_cons (Ev_local rfl rfl) EvL_nil) R1 F H9 hXP' hP1 tg8.ok Bg fun v1 c1 t1 g1 kx1 H10 tg1 bg1 r1 => ?_)
  refine Calls.spliced_cons (ev_csr (n := n + 91) (s := { s with heap := c1, toks := t1, gens := g1 }) ok.c2 (Ev_glob rfl rfl) (EvL_cons (Ev_local rfl rfl) (EvL_cons (Ev_local rfl rfl) EvL_nil)) R1 F H10 hXP' hP1 tg1.ok bg1 fun v2 c2 t2 g2 kx2 H11 tg2 bg2 r2 => ?_)
  refine Calls.spliced_cons (ev_csr (n := n + 91) (s := { s with heap := c2, toks := t2, gens := g2 }) ok.c3 (Ev_glob rfl rfl) (EvL_cons (Ev_local rfl rfl) (EvL_cons (Ev_local rfl rfl) (EvL_cons (Ev_local rfl rfl) EvL_nil))) R1 F H11 hXP' hP1 tg2.ok bg2 fun v3 c3 t3 g3 kx3 H12 tg3 bg3 r3 => ?_)
  refine Calls.spliced_cons (ev_csr (n := n + 91) (s := { s with heap := c3, toks := t3, gens := g3 }) ok.c4 (Ev_glob rfl rfl) (EvL_cons (Ev_local rfl rfl) (EvL_cons (Ev_local rfl rfl) EvL_nil)) R1 F H12 hXP' hP1 tg3.ok bg3 fun v4 c4 t4 g4 kx4 H13 tg4 bg4 r4 => Calls.spliced_nil ?_)
  refine ⟨by show 4 ≤ _; rw [sizeLine_eq]; omega, ?_⟩
  have kp := Keeps.push c4 { cls := .type "list", data := .seq #[v1, v2, v3, v4] }
  have rsh : RdA (c4.push { cls := .type "list", data := .seq #[v1, v2, v3, v4] }) X' (.ref c4.objs.size) (.dat (.list [csrD [.list xs], csrD [.list xs, .list ys], csrD [.list ys, .list zs, .list xs], csrD [.list (missF xs ys), .list (leftF xs ys)]])) :=
    RdD.list H13.new (Heap.get?_push_size _ rfl) (RdAll.keeps kp.x (.cons (RdD.keeps kx4 (RdD.keeps kx3 (RdD.keeps kx2 r1))) (.cons (RdD.keeps kx4 (RdD.keeps kx3 r2)) (.cons (RdD.keeps kx4 r3) (.cons r4 .nil)))))
  refine store_localS (s := { s with heap := c4.push { cls := .type "list", data := .seq #[v1, v2, v3, v4] }, toks := t4, gens := g4 }) (x := "shorts") F (H13.keeps kp) rfl rsh fun c5 t5 H14 kx5 sb5 => ?_
  dsimp only at sb5
  have pLoc : PT ≠ env.locals := fun q => by
    obtain ⟨ps, _, tt⟩ := T0
    exact nLoc _ _ tt.2 q
  have cLoc : (103 : Addr) ≠ env.locals := fun q => nLoc _ _ (G.K 103 _ rfl) q
  have tgc4 : TG s.heap c4 := (((tg8.trans tg1).trans tg2).trans tg3).trans tg4
  have tg5 : TG s.heap c5 := (tgc4.trans (.of_keeps tgc4.ok kp)).trans (.of (tgc4.ok.keeps kp) (fun o e => (sb5.2 _ pLoc).trans e) fun o e => (sb5.2 _ cLoc).trans e)
  obtain ⟨h₂, kB, H15, O15, hin15, _⟩ := H14.full O9 (fun _ => False) (fun _ e => e.elim)
  show Run w (A.deeper env) _ env _ _ { s with heap := c5, toks := t5, gens := g4 }
  have hlen : ((cdF xs ys).map mmv).length = (cdF xs ys).length := List.length_map _
  have ewd : ((cdF xs ys).map repLine) = pickN (fun _ => true) (fun i => repLine ((cdF xs ys).getD i (0, 0, .none))) ((cdF xs ys).map mmv).length := by
    unfold pickN
    rw [List.filter_eq_self.mpr (fun _ _ => rfl), hlen]
    apply List.ext_getElem?
    intro i
    by_cases hi : i < (cdF xs ys).length
    · simp [hi, List.getElem?_eq_getElem hi]
    · simp [List.getElem?_eq_none (Nat.le_of_not_lt hi), hi]
  refine st_comp (s := { s with heap := c5, toks := t5, gens := g4 }) (p := fun _ => true) (g := fun i => repLine ((cdF xs ys).getD i (0, 0, .none)))
    (EvIt_listA (d0 := .val .none) (Ev_callF (f := 200) (Ev_glob rfl rfl) rfl rfl (EvL_cons (Ev_local rfl rfl) (EvL_cons (Ev_local rfl rfl) EvL_nil)) (fn_cd (n := n + 187) ok.ox ok.oy (by have := ok.lx; omega) (by have := ok.ly; omega)))) ⟨rfl, by decide, by decide, by decide, by decide⟩ (small (by rw [hlen]; have := ok.cl; omega)) (fun i hi => .nil) (fun i hi _ => ?_) rfl R1 F H15 (fun h6' tk6' H16 => ?_) (fun env e => by cases env; cases e; rfl)
  · have hi' : i < (cdF xs ys).length := by rw [hlen] at hi; exact hi
    have e1 : ((cdF xs ys).map mmv).getD i (.val .none) = mmv ((cdF xs ys).getD i (0, 0, .none)) := by
      rw [List.getD_eq_getElem?_getD, List.getElem?_map, List.getD_eq_getElem?_getD, List.getElem?_eq_getElem hi']; rfl
    rw [e1]
    have hm : (cdF xs ys).getD i (0, 0, .none) ∈ cdF xs ys := by
      rw [List.getD_eq_getElem?_getD, List.getElem?_eq_getElem hi']
      exact List.getElem_mem hi'
    generalize (cdF xs ys).getD i (0, 0, .none) = r at *
    obtain ⟨q1, q2, q3, q4, q5⟩ := ok.cd r hm
    obtain ⟨ca, cb, d⟩ := r
    dsimp only at q1 q2 q3 q4 q5
    refine Ev_bin (b := .dat (.tuple [.int ca, .int cb, .str (told d.shown)])) Ev_str (Ev_tuple (ds := [.int ca, .int cb, .str (told d.shown)]) (EvL_cons (Ev_attr (Ev_local rfl rfl) (at_mm (n := n + 197) (p := 179) (i := 0) (.inl ⟨rfl, rfl, rfl⟩) (.inl ⟨rfl, rfl⟩))) (EvL_cons (Ev_attr (Ev_local rfl rfl) (at_mm (n := n + 197) (p := 182) (i := 1) (.inr (.inl ⟨rfl, rfl, rfl⟩)) (.inr (.inl ⟨rfl, rfl⟩)))) (EvL_cons (Ev_callF (f := 112) (Ev_glob rfl rfl) rfl rfl (EvL_cons (Ev_attr (Ev_local rfl rfl) (at_mm (n := n + 197) (p := 185) (i := 2) (.inr (.inr ⟨rfl, rfl, rfl⟩)) (.inr (.inr ⟨rfl, rfl⟩)))) (EvL_cons Ev_bool EvL_nil)) (fn_safe2 (n := n + 98) q3 q4 q5)) EvL_nil))) (small (by simp))) (op_first (by omega) (by omega) (by omega) (by omega) (Nat.le_trans (told_len q5) (by decide)))
  rw [← ewd] at H16
  obtain ⟨w1, w2, w3⟩ := ok.c4.wok _ (.head _)
  obtain ⟨u1, u2, u3⟩ := ok.c4.wok _ (.tail _ (.head _))
  refine st_return (s := { s with heap := h6', toks := tk6', gens := g4 }) (a := .dat (repD xs ys zs)) (Ev_list (EvL_cons (Ev_local rfl rfl) (EvL_cons (Ev_local rfl rfl) (EvL_cons (Ev_callF (f := 112) (Ev_glob rfl rfl) rfl rfl (EvL_cons (Ev_local rfl rfl) EvL_nil) (fn_safe1 (n := n + 98) w1 w2 w3)) (EvL_cons (Ev_callF (f := 112) (Ev_glob rfl rfl) rfl rfl (EvL_cons (Ev_local rfl rfl) EvL_nil) (fn_safe1 (n := n + 98) u1 u2 u3)) EvL_nil)))) (small (by simp))) R1 F H16 fun v hf tkf H17 r => ?_
  have hmine : ∀ b o, s.heap.get? b = some o → ¬ Mineof env b := fun b o e m => by
    have := m.above O H
    rw [e] at this; cases this
  have kfin : ∀ b o, (∃ q, s.heap.get? b = some q) → b ≠ PT → h8.get? b = some o → hf.get? b = some o := fun b o ⟨q, hq⟩ hb e => by
    have e1 : h₁.get? b = some o := (hin9 b (hmine b q hq) hb).trans e
    have e2 : c5.get? b = some o := H14.keep _ _ e1
    have e3 : h₂.get? b = some o := (hin15 b (hmine b q hq) id).trans e2
    exact H17.keep _ _ e3
  refine h v hf tkf g4 (fun b o hb hP e => kfin b o ⟨o, e⟩ hP (keep8 b o hb e)) (fun b o hb e => ?_) (tg5.trans (.of tg5.ok (fun o e => ?_) fun o e => ?_)) bg4 (r.less hXX)
  · obtain ⟨sl, q⟩ := slot8 b o hb e
    exact ⟨sl, kfin b _ ⟨o, e⟩ (fun q2 => by
      obtain ⟨ps, _, tt⟩ := T0
      exact ffields _ _ tt.2 ⟨_, rfl⟩ (q2 ▸ hb)) q⟩
  · obtain ⟨ps, _, tt⟩ := T0
    exact H17.keep _ _ ((hin15 _ (hmine _ _ tt.2) id).trans e)
  · exact H17.keep _ _ ((hin15 _ (hmine _ _ (G.K 103 _ rfl)) id).trans e)
end Mine

end
section
open PySem PySem.W PyProof.Rows
set_option maxRecDepth 100000
set_option maxHeartbeats 8000000
set_option linter.unusedVariables false
namespace Mine
def cellsF (ns : List Int) : List Int := if ((ns.take 10).map fun c => c.fmod 120).isEmpty then [113, 15, 28] else (ns.take 10).map fun c => c.fmod 120
def actF (cs : List Int) : List PyData := (cs.filter fun c => c.fmod 3 != 1).map fun c => thing (c.fdiv 3)
def expF (cs : List Int) : List PyData := (cs.filter fun c => c.fmod 3 != 0).map fun c => thing (c.fdiv 3)
def comF (cs : List Int) : List PyData := (cs.filter fun c => c.fmod 3 == 2).map fun c => thing (c.fdiv 3)
def shortOf (rows : List PyData) : PyData := match rows.map PyData.shown with
  | [] => .none
  | y0 :: ys' => .tuple ((shortL y0 (y0 :: ys') (maxI ((y0 :: ys').map fun y => (y.length : Int))) ((cpre (minS (y0 :: ys')) (maxS (y0 :: ys'))).length)).map .str)
def shortD : PyData → PyData
  | .list rows => shortOf rows
  | _ => .none
structure ShortOk (rows : List PyData) : Prop where
  ne : ∃ y0 ys', rows.map PyData.shown = y0 :: ys'
  len : rows.length ≤ 10
  wok : ∀ d ∈ rows, d.depth ≤ 5 ∧ Wok d ∧ d.shown.length ≤ 100000
  L : ∃ L : Nat, minI ((rows.map PyData.shown).map fun y => (y.length : Int)) = (L : Int) ∧ L ≤ 1000000 ∧ (cpre (minS (rows.map PyData.shown)) (maxS (rows.map PyData.shown))).length ≤ L ∧
    ∀ y0 ys', rows.map PyData.shown = y0 :: ys' → ∀ m : Nat, m ≤ L → ((y0 :: ys').map fun y => Txt.slice y none (some (m : Int)) == Txt.slice y0 none (some (m : Int))).all id = decide (m ≤ (cpre (minS (y0 :: ys')) (maxS (y0 :: ys'))).length)
  m0 : 0 ≤ maxI ((rows.map PyData.shown).map fun y => (y.length : Int))
  m1 : maxI ((rows.map PyData.shown).map fun y => (y.length : Int)) ≤ 100000
  pl : (cpre (minS (rows.map PyData.shown)) (maxS (rows.map PyData.shown))).length ≤ 100000
theorem fn_short' {w : World} {n : Nat} {rows : List PyData} (ok : ShortOk rows) : Fn w (n + 7) 222 [.dat (.list rows)] (.dat (shortOf rows)) := by
  obtain ⟨y0, ys', hy⟩ := ok.ne
  obtain ⟨L, hL, hLb, hKL, hK⟩ := ok.L
  have hm0 := ok.m0
  have hm1 := ok.m1
  have hpl := ok.pl
  rw [hy] at hL hKL hm0 hm1 hpl
  have e : shortOf rows = .tuple ((shortL y0 (y0 :: ys') (maxI ((y0 :: ys').map fun y => (y.length : Int))) ((cpre (minS (y0 :: ys')) (maxS (y0 :: ys'))).length)).map .str) := by unfold shortOf; rw [hy]
  rw [e]
  have hlen : (y0 :: ys').length = rows.length := by rw [← hy, List.length_map]
  refine fn_short (n := n) (m := 5) (rows := rows) (fun d hd => ⟨(ok.wok d hd).1, (ok.wok d hd).2.1⟩) hy (by rw [hlen]; have := ok.len; omega) (fun y hyy => ?_) hL rfl hm0 hm1 hLb hKL (hK y0 ys' hy) hpl
  rw [← hy] at hyy
  obtain ⟨d, hd, rfl⟩ := List.mem_map.mp hyy
  exact (ok.wok d hd).2.2
def toldD (A B C : List PyData) : PyData :=
  .list [.list [shortOf [.list A], shortOf [.list A, .list B], shortOf [.list B, .list C, .list A], shortOf [.list (beyondF B.reverse A), .list (beyondF A B)]],
    .list (linesF A B), .str (PyData.shown (.list (beyondF B.reverse A))), .str (PyData.shown (.list (beyondF A B)))]
def onI (f : Int → PyData) : PyData → PyData
  | .int c => f c
  | _ => .none
def pI (p : Int → Bool) : PyData → Bool
  | .int c => p c
  | _ => false
theorem map_onI (f : Int → PyData) (cs : List Int) : (cs.map PyData.int).map (onI f) = cs.map f := by rw [List.map_map]; rfl
theorem filter_pI (p : Int → Bool) (cs : List Int) : (cs.map PyData.int).filter (pI p) = (cs.filter p).map .int := by rw [List.filter_map]; rfl
theorem thing_arg {c : Int} (h : 0 ≤ c ∧ c < 120) : 0 ≤ c.fdiv 3 ∧ c.fdiv 3 < 40 := by
  rw [Int.fdiv_eq_ediv_of_nonneg _ (by omega)]; omega
structure LawOk (A B C : List PyData) : Prop where
  oa : ∀ d ∈ A, Okd d
  ob : ∀ d ∈ B, Okd d
  wo : ∀ d ∈ A ++ B, d.depth ≤ 5 ∧ Wok d ∧ d.shown.length ≤ 200000
  la : A.length ≤ 10
  lb : B.length ≤ 10
  s1 : ShortOk [.list A]
  s2 : ShortOk [.list A, .list B]
  s3 : ShortOk [.list B, .list C, .list A]
  s4 : ShortOk [.list (beyondF B.reverse A), .list (beyondF A B)]
  rep : RepOk A B C
  eq : repD A B C = toldD A B C
  pl : Plain (toldD A B C)
  self : PyData.eqv (toldD A B C) (toldD A B C) = true
theorem fn_law {w : World} {n : Nat} {A : Around} {X : Addr → Prop} {s : Shared} {ns : List Int} {vals : List Value} {Q : Value → Shared → Prop} {E : Value → Shared → Prop} (hns : ns.length ≤ 1000) (ok : LawOk (actF (cellsF ns)) (expF (cellsF ns)) (comF (cellsF ns)))
    (R : Room (n + 201) A) (hfr : A.frames = some []) (G : Good w s.heap) (hX : Alive X s.heap) (hXP : X PT) (T0 : TabOk s.heap) (Bg : AllBare s.gens)
    (rs : RdAs s.heap X vals [.dat (.list (ns.map .int))])
    (h : ∀ h' tk' g', (∀ b o, b ≠ PT → s.heap.get? b = some o → h'.get? b = some o) → TG s.heap h' → AllBare g' → Q (.bool true) { s with heap := h', toks := tk', gens := g' }) :
    wpAny (model PG w) A (call (.ref 244) vals) Q E s := by
  refine wpAny_call (codeAny_call_function (o := _) (fd := _) (body := _) R.depth (G.K 244 _ rfl) rfl rfl rfl rfl (codeRec_of G.K rfl) ?_)
  have hv1 : vals.length = 1 := rdAs_len rs
  match vals, hv1 with
  | [v1], _ =>
  refine wpAny_of_eq (a := [(("script" : Str), v1)]) rfl ?_
  refine new_env (as := [.dat (.list (ns.map .int))]) (n := n + 200) (X := X) G hX rfl ?_ ?_ ?_ ?_ rs fun env X' h1 tk1 F hcf O hXX H => ?_
  · intro x e; exact absurd rfl ((by decide : ∀ p ∈ _, p.2 ≠ NameKind.free) _ (Fn_of.lookup_mem_kind e))
  · exact fun x e => Fn_of.lookup_mem_kind e
  · decide
  · intro p hp
    rcases List.mem_singleton.mp hp with rfl
    exact .inl rfl
  refine ⟨H.goodH.nolimit, codeAny_func ?_⟩
  obtain ⟨hcode, hframe, hback⟩ := hcf
  have R1 : Room (n + 200) (A.deeper env) := R.deeper env
  have hdeep : (A.deeper env).frames = some [env] := by show A.frames.map (env :: ·) = _; rw [hfr]; rfl
  -- cells
  have hcs : ∀ c ∈ cellsF ns, 0 ≤ c ∧ c < 120 := fun c hc => by
    unfold cellsF at hc
    split at hc
    · simp at hc; omega
    · obtain ⟨k, _, rfl⟩ := List.mem_map.mp hc
      exact ⟨Int.fmod_nonneg_of_pos k (by omega), Int.fmod_lt_of_pos k (by omega)⟩
  have hcl : (cellsF ns).length ≤ 10 := by
    unfold cellsF
    split
    · decide
    · rw [List.length_map, List.length_take]; omega
  have hmod : ((ns.map PyData.int).take 10).map (onI fun c => .int (c.fmod 120)) = ((ns.take 10).map fun c => c.fmod 120).map .int := by
    rw [← List.map_take, map_onI, List.map_map]; rfl
  refine st_assign (a := .dat (.list ((cellsF ns).map .int))) (Ev_or (a := .dat (.list (((ns.take 10).map fun c => c.fmod 120).map .int))) (b := .dat (.list ([113, 15, 28].map .int))) (t := !((ns.take 10).map fun c => c.fmod 120).isEmpty) ?_ ?_ (fun ht => ?_) (fun ht => ⟨?_, ?_⟩)) (.inl rfl) R1 F O H fun h2 tk2 H2 => ?_
  · rw [← hmod]
    refine Ev_compM (onI fun c => .int (c.fmod 120)) (EvIt_list (Ev_sub (Ev_local rfl rfl) (Ev_slice .none (.some Ev_int) .none) hasT_list _root_.PySem.F.slot_list_getitem.lookup (get_upto (k := 10) rfl (small (by rw [List.length_map]; omega))))) ⟨rfl, by decide, by decide, by decide, by decide⟩ (small (by rw [List.length_take]; omega)) (fun d hd => ?_)
    obtain ⟨c, _, rfl⟩ := List.mem_map.mp (List.mem_of_mem_take hd)
    exact Ev_bin (Ev_local (a := I c) rfl rfl) Ev_int (op_mod (by decide))
  · have e : ((ns.take 10).map fun c => c.fmod 120).isEmpty = ((((ns.take 10).map fun c => c.fmod 120).map PyData.int)).isEmpty := by
      cases ((ns.take 10).map fun c => c.fmod 120) <;> rfl
    rw [e]
    exact tr_list (small (by rw [List.length_map, List.length_map, List.length_take]; omega))
  · have : cellsF ns = (ns.take 10).map fun c => c.fmod 120 := by
      unfold cellsF
      rw [if_neg]
      intro q; rw [q] at ht; cases ht
    rw [this]
  · exact Ev_list (ds := [113, 15, 28].map .int) (EvL_cons Ev_int (EvL_cons Ev_int (EvL_cons Ev_int EvL_nil))) (small (by simp))
  · have : cellsF ns = [113, 15, 28] := by
      unfold cellsF
      rw [if_pos]
      cases q : ((ns.take 10).map fun c => c.fmod 120).isEmpty with
      | true => rfl
      | false => rw [q] at ht; cases ht
    rw [this]
  generalize cellsF ns = cs at *
  have hcz : (cs.map PyData.int).length ≤ sizeLine := small (by rw [List.length_map]; omega)
  have hA : ((cs.map PyData.int).filter (pI fun c => c.fmod 3 != 1)).map (onI fun c => thing (c.fdiv 3)) = actF cs := by rw [filter_pI, map_onI]; rfl
  have hB : ((cs.map PyData.int).filter (pI fun c => c.fmod 3 != 0)).map (onI fun c => thing (c.fdiv 3)) = expF cs := by rw [filter_pI, map_onI]; rfl
  have hC : ((cs.map PyData.int).filter (pI fun c => c.fmod 3 == 2)).map (onI fun c => thing (c.fdiv 3)) = comF cs := by rw [filter_pI, map_onI]; rfl
  refine st_compF (s := { s with heap := h2, toks := tk2 }) (pI fun c => c.fmod 3 != 1) (onI fun c => thing (c.fdiv 3)) (EvIt_list (Ev_local rfl rfl)) ⟨rfl, by decide, by decide, by decide, by decide⟩ hcz (fun d hd => ?_) (fun d hd _ => ?_) rfl R1 F H2 (fun h3 tk3 H3 => ?_) (fun env e => by cases env; cases e; rfl)
  · obtain ⟨c, hc, rfl⟩ := List.mem_map.mp hd
    exact .one (EvT_cmp (Ev_bin (Ev_local (a := I c) rfl rfl) Ev_int (op_mod (by decide))) Ev_int op_neI)
  · obtain ⟨c, hc, rfl⟩ := List.mem_map.mp hd
    have ht := thing_arg (hcs c hc)
    exact Ev_callF (f := 207) (Ev_glob rfl rfl) rfl rfl (EvL_cons (Ev_bin (Ev_local (a := I c) rfl rfl) Ev_int (op_fdiv (by decide) (by decide))) EvL_nil) (fn_thing (n := n + 199) ht.1 ht.2)
  rw [hA] at H3
  refine st_compF (s := { s with heap := h3, toks := tk3 }) (pI fun c => c.fmod 3 != 0) (onI fun c => thing (c.fdiv 3)) (EvIt_list (Ev_local rfl rfl)) ⟨rfl, by decide, by decide, by decide, by decide⟩ hcz (fun d hd => ?_) (fun d hd _ => ?_) rfl R1 F H3 (fun h4 tk4 H4 => ?_) (fun env e => by cases env; cases e; rfl)
  · obtain ⟨c, hc, rfl⟩ := List.mem_map.mp hd
    exact .one (EvT_cmp (Ev_bin (Ev_local (a := I c) rfl rfl) Ev_int (op_mod (by decide))) Ev_int op_neI)
  · obtain ⟨c, hc, rfl⟩ := List.mem_map.mp hd
    have ht := thing_arg (hcs c hc)
    exact Ev_callF (f := 207) (Ev_glob rfl rfl) rfl rfl (EvL_cons (Ev_bin (Ev_local (a := I c) rfl rfl) Ev_int (op_fdiv (by decide) (by decide))) EvL_nil) (fn_thing (n := n + 199) ht.1 ht.2)
  rw [hB] at H4
  refine st_compF (s := { s with heap := h4, toks := tk4 }) (pI fun c => c.fmod 3 == 2) (onI fun c => thing (c.fdiv 3)) (EvIt_list (Ev_local rfl rfl)) ⟨rfl, by decide, by decide, by decide, by decide⟩ hcz (fun d hd => ?_) (fun d hd _ => ?_) rfl R1 F H4 (fun h5 tk5 H5 => ?_) (fun env e => by cases env; cases e; rfl)
  · obtain ⟨c, hc, rfl⟩ := List.mem_map.mp hd
    exact .one (EvT_cmp (Ev_bin (Ev_local (a := I c) rfl rfl) Ev_int (op_mod (by decide))) Ev_int op_eqI)
  · obtain ⟨c, hc, rfl⟩ := List.mem_map.mp hd
    have ht := thing_arg (hcs c hc)
    exact Ev_callF (f := 207) (Ev_glob rfl rfl) rfl rfl (EvL_cons (Ev_bin (Ev_local (a := I c) rfl rfl) Ev_int (op_fdiv (by decide) (by decide))) EvL_nil) (fn_thing (n := n + 199) ht.1 ht.2)
  rw [hC] at H5
  generalize actF cs = A' at *
  generalize expF cs = B' at *
  generalize comF cs = C' at *
  have hla := ok.la
  have hlb := ok.lb
  refine st_unpackS (s := { s with heap := h5, toks := tk5 }) (a := .dat (.list (beyondF B'.reverse A'))) (b := .dat (.list (beyondF A' B'))) (EvL_cons (Ev_callF (f := 227) (Ev_glob rfl rfl) rfl rfl (EvL_cons (Ev_sub (Ev_local rfl rfl) (Ev_slice .none .none (.some (Ev_un Ev_int op_neg))) hasT_list _root_.PySem.F.slot_list_getitem.lookup (get_rev (small (by omega)))) (EvL_cons (Ev_local rfl rfl) EvL_nil)) (fn_beyond (n := n + 199) (fun d hd => (ok.ob d (List.mem_reverse.mp hd)).1) (fun d hd => (ok.oa d hd).1) (by rw [List.length_reverse]; omega)))
    (EvL_cons (Ev_callF (f := 227) (Ev_glob rfl rfl) rfl rfl (EvL_cons (Ev_local rfl rfl) (EvL_cons (Ev_local rfl rfl) EvL_nil)) (fn_beyond (n := n + 199) (fun d hd => (ok.oa d hd).1) (fun d hd => (ok.ob d hd).1) (by omega))) EvL_nil)) rfl rfl R1 F O H5 (fun h6 tk6 H6 => ?_) rfl (fun env e => by cases env; cases e; rfl)
  refine st_compM (s := { s with heap := h6, toks := tk6 }) shortD (EvIt_list (ds := [.list [.list A'], .list [.list A', .list B'], .list [.list B', .list C', .list A'], .list [.list (beyondF B'.reverse A'), .list (beyondF A' B')]]) (Ev_list (EvL_cons (Ev_list (ds := [.list A']) (EvL_cons (Ev_local rfl rfl) EvL_nil) (small (by simp))) (EvL_cons (Ev_list (ds := [.list A', .list B']) (EvL_cons (Ev_local rfl rfl) (EvL_cons (Ev_local rfl rfl) EvL_nil)) (small (by simp))) (EvL_cons (Ev_list (ds := [.list B', .list C', .list A']) (EvL_cons (Ev_local rfl rfl) (EvL_cons (Ev_local rfl rfl) (EvL_cons (Ev_local rfl rfl) EvL_nil))) (small (by simp))) (EvL_cons (Ev_list (ds := [.list (beyondF B'.reverse A'), .list (beyondF A' B')]) (EvL_cons (Ev_local rfl rfl) (EvL_cons (Ev_local rfl rfl) EvL_nil)) (small (by simp))) EvL_nil)))) (small (by simp)))) ⟨rfl, by decide, by decide, by decide, by decide⟩ (small (by simp)) (fun d hd => ?_) rfl R1 F H6 (fun h7 tk7 H7 => ?_) (fun env e => by cases env; cases e; rfl)
  · have hrow : ∃ rows, d = .list rows ∧ ShortOk rows := by
      rcases List.mem_cons.mp hd with rfl | hd
      · exact ⟨_, rfl, ok.s1⟩
      rcases List.mem_cons.mp hd with rfl | hd
      · exact ⟨_, rfl, ok.s2⟩
      rcases List.mem_cons.mp hd with rfl | hd
      · exact ⟨_, rfl, ok.s3⟩
      rcases List.mem_singleton.mp hd with rfl
      exact ⟨_, rfl, ok.s4⟩
    obtain ⟨rows, rfl, hok⟩ := hrow
    exact Ev_callF (f := 222) (Ev_glob rfl rfl) rfl rfl (EvL_cons (Ev_local (a := .dat (.list rows)) rfl rfl) EvL_nil) (fn_short' (n := n + 193) hok)
  have w4a := ok.s4.wok _ (.head _)
  have w4b := ok.s4.wok _ (.tail _ (.head _))
  refine st_assign (s := { s with heap := h7, toks := tk7 }) (a := .dat (toldD A' B' C')) (Ev_list (EvL_cons (Ev_local rfl rfl) (EvL_cons (Ev_callF (f := 234) (Ev_glob rfl rfl) rfl rfl (EvL_cons (Ev_local rfl rfl) (EvL_cons (Ev_local rfl rfl) EvL_nil)) (fn_lines (n := n + 193) (m := 5) (fun d hd => (ok.oa d hd).1) (fun d hd => (ok.ob d hd).1) ok.wo (by omega) (by omega))) (EvL_cons (Ev_callF (f := 212) (Ev_glob rfl rfl) rfl rfl (EvL_cons (Ev_local rfl rfl) EvL_nil) (fn_written (n := n + 194) 5 _ w4a.1 w4a.2.1)) (EvL_cons (Ev_callF (f := 212) (Ev_glob rfl rfl) rfl rfl (EvL_cons (Ev_local rfl rfl) EvL_nil) (fn_written (n := n + 194) 5 _ w4b.1 w4b.2.1)) EvL_nil)))) (small (by simp))) (.inl rfl) R1 F O H7 fun h8 tk8 H8 => ?_
  -- the report
  have hLn : s.heap.get? env.locals = none := H.above
  have hgP : (blank s.heap fun a => a = PT).get? PT = none := blank_out (D := fun a => a = PT) rfl
  have G_g : Good w (blank s.heap fun a => a = PT) := G.but T0 fun b o hb e => by rw [blank_in (D := fun a => a = PT) hb]; exact e
  have kgs : Keeps (blank s.heap fun a => a = PT) s.heap := blank_keeps
  have gnL : (blank s.heap fun a => a = PT).get? env.locals = none := none_of_size' kgs hLn
  have gin : ∀ b o, b ≠ PT → s.heap.get? b = some o → (blank s.heap fun a => a = PT).get? b = some o := fun b o hb e => by rw [blank_in (D := fun a => a = PT) hb]; exact e
  generalize (blank s.heap fun a => a = PT) = gA at *
  have H8A := H8.rebase G_g (kgs.trans H8.keep) gnL
  have hXP' : X' PT := hXX _ hXP
  have hfs : [env].filterMap (·.frame) = [env.locals] := by rw [List.filterMap_cons, hframe]; rfl
  have pLoc : PT ≠ env.locals := fun q => by
    obtain ⟨ps, _, tt⟩ := T0
    have t2 := tt.2
    rw [q, hLn] at t2; cases t2
  refine wpAny_execs_cons (wpAny_Return_some (wpAny_Compare1 ?_ (by with_unfolding_all rfl)))
  refine Call_Name rfl ((Ev_glob (v := .ref 239) rfl rfl).run (s := { s with heap := h8, toks := tk8 }) R1 F H8A fun v h9 tk9 k9 H9 rv => ?_)
  cases rv
  refine Calls.callWith_function (o := _) (fd := _) (evalArgs_of (as := [.dat (.list A'), .dat (.list B'), .dat (.list C')]) (EvL_cons (Ev_local rfl rfl) (EvL_cons (Ev_local rfl rfl) (EvL_cons (Ev_local rfl rfl) EvL_nil))) (s := { s with heap := h9, toks := tk9 }) R1 F H9 rfl fun vs h10 tk10 k10 H10 rs10 => ⟨⟨H10.goodH.K 239 _ rfl, rfl⟩, ?_⟩)
  have k8 : Keeps s.heap h8 := H8.keep
  have T10 : TabOk h10 := ((T0.keeps k8).keeps k9).keeps k10
  have fo10 : FrOk h10 [env] := fun e he => by
    rcases List.mem_singleton.mp he with rfl
    obtain ⟨m, ⟨o, es, ep, ho, hd, _⟩, _⟩ := H10.loc
    exact ⟨by rw [F.scope, F.kind]; decide, _, o, hframe, ho, fun vs q => by rw [hd] at q; cases q⟩
  refine fn_report (n := n) (A := A.deeper env) (X := X') (s := { s with heap := h10, toks := tk10 }) (xs := A') (ys := B') (zs := C') (outer := [env]) (g := gA) ok.rep R1 hdeep fo10 H10.goodH H10.alive (fun b hb => ?_) hXP' T10 Bg G_g H10.keep (fun b hb => ?_) hgP rs10 fun v h11 tk11 g11 k11 sl11 tg11 bg11 r11 => ?_
  · rw [hfs] at hb; rcases List.mem_singleton.mp hb with rfl; exact H10.hidL
  · rw [hfs] at hb; rcases List.mem_singleton.mp hb with rfl; exact gnL
  dsimp only at k11 sl11 tg11
  rw [hfs] at k11 sl11
  obtain ⟨ps11, _, tt11⟩ := id tg11.ok
  obtain ⟨ps10, _, tt10⟩ := id T10
  have nP : ∀ b o, h10.get? b = some o → (∀ vs, o.data ≠ .fields vs) → b ≠ PT := fun b o e hd q => by
    rw [q, tt10.2] at e; cases e; exact hd _ rfl
  have H11 : EnvAt w env gA X' h11 _ := H10.after (fs := [env.locals]) (wr := [PT]) (fun b o h1 h2 e => k11 b o h1 (fun q => h2 (List.mem_singleton.mpr q)) e) sl11 (fun b hb => by rcases List.mem_singleton.mp hb with rfl; exact H10.hidL) (fun b hb => by rcases List.mem_singleton.mp hb with rfl; exact gnL)
    (fun b hb => by
      rcases List.mem_singleton.mp hb with rfl
      refine ⟨hXP', fun m => ?_, hgP, by rw [tt11.2]; rfl⟩
      rcases m with q | ⟨x, hx⟩
      · exact pLoc q
      · obtain ⟨c, o, ov, q1, _, _, q4, q5, _⟩ := H10.cel x (.inl (O.kind x _ hx))
        rw [hx] at q1; cases q1
        exact nP _ o q4 (fun vs q => by rw [q5] at q; cases q) rfl) (fun b hb q => by
      rcases List.mem_singleton.mp hb with rfl
      exact pLoc (List.mem_singleton.mp q).symm) (H8.cells O)
  refine ld_local (s := { s with heap := h11, toks := tk11, gens := g11 }) F H11 rfl (a := .dat (toldD A' B' C')) rfl fun u ru => ?_
  rw [ok.eq] at r11
  refine op_eqD ok.pl ok.pl (A.deeper env) X' { s with heap := h11, toks := tk11, gens := g11 } v u _ _ R1 H11.goodH H11.alive r11 ru fun v3 h12 tk12 k12 r12 => ?_
  rw [ok.self] at r12
  cases r12
  have nLoc : ∀ b o, s.heap.get? b = some o → b ≠ env.locals := fun b o e q => by rw [q, hLn] at e; cases e
  refine h h12 tk12 g11 (fun b o hb e => k12 _ _ (k11 b o (fun q => nLoc b o e (List.mem_singleton.mp q)) hb (k10 _ _ (k9 _ _ (k8 _ _ e))))) ?_ bg11
  exact ((TG.of_keeps T0 ((k8.trans k9).trans k10)).trans tg11).trans (.of_keeps tg11.ok k12)
end Mine

end
section
open PySem PySem.W PyProof.Rows
set_option maxRecDepth 100000
set_option maxHeartbeats 8000000
set_option linter.unusedVariables false
namespace Mine
theorem ints_well {P : Params} {h : Heap} {X : Addr → Prop} : ∀ {ns : List Int} {vs : List Value}, WellAll P h vs (ofPys (ns.map PyData.int)) → RdAll h X vs (ns.map .int)
  | [], _, r => by
    have r : WellAll P h _ [] := r
    cases r; exact .nil
  | n :: ns, _, r => by
    have r : WellAll P h _ (WData.int n :: ofPys (ns.map PyData.int)) := r
    cases r with | cons a b =>
      cases a
      exact .cons (.int _ _) (ints_well b)
theorem args_well {P : Params} {h : Heap} {X : Addr → Prop} {ns : List Int} {v : Value} (hX : ∀ o, v = .ref PT → h.get? PT = some o → o.cls = .type "list" → False) (r : Well P h v (ofPy (.list (ns.map PyData.int)))) (hX2 : ∀ a, X a → a = PT) : RdD h X v (.list (ns.map .int)) := by
  have r : Well P h v (WData.list (ofPys (ns.map PyData.int))) := r
  cases r with | list ho ra =>
    exact .list (fun q => hX _ (by rw [hX2 _ q]) (by rw [← hX2 _ q]; exact ho) rfl) ho (ints_well ra)
theorem isCode_P {w : World} {h : Heap} {c P : Addr} {ps : Array Value} (X : (KF w).In h) (hc : c = 103) (i : h.IsCode c P ps) : P = PT := by
  subst hc
  obtain ⟨o, vs, file, tf, flags, tg, inF, text, tt, op, a, r1, r2, _⟩ := i
  rw [X 103 _ rfl] at a
  cases a; cases r1
  have r2 : Value.ref 99 = .ref P := r2
  cases r2; rfl
theorem law_top (hlaw : ∀ ns : List Int, LawOk (actF (cellsF ns)) (expF (cellsF ns)) (comF (cellsF ns))) : PySem.Challenge.rw_ox0165_01.Holds := hd (by
  intro w s₀ s₁ mg mb G Y a o pm cd doc dV kV ho hd' hcd hD hmg hg args vals as hpre hlay hrd hwl hlo
  have KX : (KF w).In s₁.heap := kIn_of Y
  refine Ground.open G ?_
  intro T B D TE TW
  have Tg := T.g
  have Tb := T.b
  have Tbu := T.builtins
  obtain ⟨bm, ob, M⟩ := bmod_of_top T
  have GG : Good w s₁.heap := ⟨KX, ⟨mb, Tb, Tbu⟩, mg, bm, ob, M⟩
  have hmg' : ∀ {x : Str} {f : Addr}, nsIn (KF w) mainGlobals x = some (some (.ref f)) → mg x = some (.ref f) := fun e => mg_of KX Tg e
  have ha : a = 244 := by
    have e1 := hmg' (x := "law") (f := 244) rfl
    have e2 : mg "law" = some (.ref a) := hmg
    rw [e1] at e2; cases e2; rfl
  have T0 : TabOk s₁.heap := by
    obtain ⟨a', o', fd', c, P, h1, h2, h3, h4, h5, h6⟩ := T.tab _ (List.mem_of_find?_eq_some (p := fun e : DefRec => e.name == "_common_shorten_repr") rfl)
    have e1 := hmg' (x := "_common_shorten_repr") (f := 104) rfl
    rw [show mg _ = some (.ref 104) from e1] at h1
    cases h1
    rw [KX 104 _ rfl] at h2
    cases h2; cases h3; cases h4
    have eP := isCode_P KX rfl h5
    subst eP
    exact ⟨_, h5, h6⟩
  clear hD hcd
  wrow_args hpre hlay hrd hwl hlo
  rename_i ns _ _ _ _ _ _ _ l vs _ hLi _ w1 _ hI _ hc1 _
  subst ha
  have hlen : ns.length ≤ 63 := by
    have : ¬ ((63 : Int) < (ns.length : Int)) := hc1
    omega
  obtain ⟨ps, icode, tt⟩ := id T0
  show wpAny (model PG w) callerA (call (.ref 244) [.ref l]) _ _ s₁
  refine fn_law (n := 0) (X := fun b => b = PT) (ns := ns) (by omega) (hlaw ns) ?_ rfl GG ?_ rfl T0 ?_ (.cons (args_well (fun o e q1 q2 => ?_) w1 fun a q => q) .nil) fun h' tk' g' hk tg bg => ?_
  · exact ⟨by decide +kernel, by decide +kernel, fun _ => rfl, rfl⟩
  · rintro b rfl
    rw [tt.2]; rfl
  · rw [hg]; exact AllBare.empty
  · rw [tt.2] at q1; cases q1; cases q2
  · obtain ⟨qs, more, t1, t2⟩ := tg.tab
    refine ⟨.inl ⟨.bool true, .bool true, [], rfl, ?_, .bool _, ?_, ?_⟩, ?_, rfl, bg⟩
    · intro cls; rfl
    · wrow_post
    · exact fun _ => ⟨List.nodup_nil, fun a h => nomatch h⟩
    · exact OldK.step_table (OldK.refl _) t1 t1 t2 (fun b o hb e => hk b o hb e) (by decide))
end Mine

end
section
open PySem PySem.W PyProof.Rows
set_option maxRecDepth 100000
set_option linter.unusedVariables false
namespace Mine
abbrev cl (x : Str) : List Nat := x.cps.toList
theorem cl_len (x : Str) : (cl x).length = x.length := by unfold cl; rw [Array.length_toList]; rfl
theorem cl_inj {x y : Str} (h : cl x = cl y) : x = y := by
  cases x; cases y
  have := Array.toList_inj.mp h
  simp_all
theorem cl_app (x y : Str) : cl (x ++ y) = cl x ++ cl y := by
  show (x.cps ++ y.cps).toList = _
  exact Array.toList_append
theorem sl_to {x : Str} {m : Nat} (h : m ≤ x.length) : cl (Txt.slice x none (some (m : Int))) = (cl x).take m := by
  have := slice_closes_to (x := x) (j := (m : Int)) ⟨by omega, by rw [cl_len]; omega⟩
  rw [beq_iff_eq] at this
  rw [this]
  simp [cl]
theorem sl_from {x : Str} {m : Nat} (h : m ≤ x.length) : cl (Txt.slice x (some (m : Int)) none) = (cl x).drop m := by
  have := slice_closes_from (x := x) (i := (m : Int)) ⟨by omega, by rw [cl_len]; omega⟩
  rw [beq_iff_eq] at this
  rw [this]
  have : x.cps.size = x.length := rfl
  simp only [cl]
  rw [List.take_of_length_le]
  · simp
  · simp
theorem best_spec {α : Type} (lt : α → α → Bool) (hle : ∀ a b c, lt b a = false → lt c b = false → lt c a = false) (has : ∀ a b, lt a b = true → lt b a = false) : ∀ (xs : List α) (x : α), best lt x xs ∈ x :: xs ∧ ∀ y ∈ x :: xs, lt y (best lt x xs) = false := by
  have hi : ∀ x, lt x x = false := fun x => by
    cases q : lt x x with
    | false => rfl
    | true => have := has _ _ q; rw [q] at this; exact this
  intro xs
  induction xs with
  | nil => intro x; exact ⟨.head _, fun y hy => by rcases List.mem_singleton.mp hy with rfl; exact hi _⟩
  | cons z xs ih =>
    intro x
    have e : best lt x (z :: xs) = best lt (if lt z x then z else x) xs := rfl
    rw [e]
    cases hz : lt z x with
    | true =>
      simp only [if_true]
      obtain ⟨h1, h2⟩ := ih z
      refine ⟨.tail _ h1, fun y hy => ?_⟩
      rcases List.mem_cons.mp hy with rfl | hy
      · exact hle _ _ _ (h2 z (.head _)) (has _ _ hz)
      · exact h2 y hy
    | false =>
      simp only [Bool.false_eq_true, if_false]
      obtain ⟨h1, h2⟩ := ih x
      refine ⟨?_, fun y hy => ?_⟩
      · rcases List.mem_cons.mp h1 with q | q
        · rw [q]; exact .head _
        · exact .tail _ (.tail _ q)
      · rcases List.mem_cons.mp hy with rfl | hy
        · exact h2 _ (.head _)
        · rcases List.mem_cons.mp hy with rfl | hy
          · exact hle _ _ _ (h2 x (.head _)) hz
          · exact h2 y (.tail _ hy)
theorem minI_spec {is : List Int} (hne : is ≠ []) : minI is ∈ is ∧ ∀ y ∈ is, minI is ≤ y := by
  cases is with
  | nil => exact absurd rfl hne
  | cons x xs =>
    obtain ⟨h1, h2⟩ := best_spec (fun a b : Int => decide (a < b)) (fun a b c h1 h2 => by simp at *; omega) (fun a b h => by simp at *; omega) xs x
    exact ⟨h1, fun y hy => by have := h2 y hy; simp at this; exact this⟩
theorem maxI_spec {is : List Int} (hne : is ≠ []) : maxI is ∈ is ∧ ∀ y ∈ is, y ≤ maxI is := by
  cases is with
  | nil => exact absurd rfl hne
  | cons x xs =>
    obtain ⟨h1, h2⟩ := best_spec (fun a b : Int => decide (b < a)) (fun a b c h1 h2 => by simp at *; omega) (fun a b h => by simp at *; omega) xs x
    exact ⟨h1, fun y hy => by have := h2 y hy; simp at this; exact this⟩
theorem minS_spec {is : List Str} (hne : is ≠ []) : minS is ∈ is ∧ ∀ y ∈ is, ¬ (cl y < cl (minS is)) := by
  cases is with
  | nil => exact absurd rfl hne
  | cons x xs =>
    obtain ⟨h1, h2⟩ := best_spec (fun a b : Str => ltS a b) (fun a b c h1 h2 => by
      unfold ltS at *
      rw [decide_eq_false_iff_not] at *
      exact List.le_trans h1 h2) (fun a b h => by
      unfold ltS at *
      rw [decide_eq_true_eq] at h
      rw [decide_eq_false_iff_not]
      exact List.lt_asymm h) xs x
    exact ⟨h1, fun y hy => by have := h2 y hy; unfold ltS at this; rw [decide_eq_false_iff_not] at this; exact this⟩
theorem maxS_spec {is : List Str} (hne : is ≠ []) : maxS is ∈ is ∧ ∀ y ∈ is, ¬ (cl (maxS is) < cl y) := by
  cases is with
  | nil => exact absurd rfl hne
  | cons x xs =>
    obtain ⟨h1, h2⟩ := best_spec (fun a b : Str => ltS b a) (fun a b c h1 h2 => by
      unfold ltS at *
      rw [decide_eq_false_iff_not] at *
      exact List.le_trans h2 h1) (fun a b h => by
      unfold ltS at *
      rw [decide_eq_true_eq] at h
      rw [decide_eq_false_iff_not]
      exact List.lt_asymm h) xs x
    exact ⟨h1, fun y hy => by have := h2 y hy; unfold ltS at this; rw [decide_eq_false_iff_not] at this; exact this⟩
/-- between two lists with a common front lies that front -/
theorem sandwich : ∀ (K : Nat) (a b y : List Nat), ¬ y < a → ¬ b < y → K ≤ a.length → K ≤ b.length → a.take K = b.take K → K ≤ y.length ∧ y.take K = a.take K
  | 0, a, b, y, _, _, _, _, _ => ⟨Nat.zero_le _, by simp⟩
  | K + 1, [], _, _, _, _, h, _, _ => absurd h (by simp)
  | K + 1, _ :: _, [], _, _, _, _, h, _ => absurd h (by simp)
  | K + 1, c :: a, d :: b, [], h, _, _, _, _ => absurd (List.nil_lt_cons _ _) h
  | K + 1, c :: a, d :: b, e :: y, h1, h2, h3, h4, h5 => by
    rw [List.take_succ_cons, List.take_succ_cons] at h5
    injection h5 with h6 h7
    subst h6
    rw [List.cons_lt_cons_iff] at h1 h2
    have he : e = c := by
      have a1 : ¬ e < c := fun q => h1 (.inl q)
      have a2 : ¬ c < e := fun q => h2 (.inl q)
      omega
    subst he
    obtain ⟨k1, k2⟩ := sandwich K a b y (fun q => h1 (.inr ⟨rfl, q⟩)) (fun q => h2 (.inr ⟨rfl, q⟩)) (by simpa using h3) (by simpa using h4) h7
    exact ⟨by simpa using k1, by rw [List.take_succ_cons, List.take_succ_cons, k2]⟩
/-- a longer list is not below its front -/
theorem front_lt : ∀ (b a : List Nat), b.length < a.length → a.take b.length = b → b < a
  | [], [], h, _ => absurd h (by simp)
  | [], _ :: _, _, _ => List.nil_lt_cons _ _
  | c :: b, [], h, _ => absurd h (by simp)
  | c :: b, d :: a, h, e => by
    rw [List.length_cons, List.take_succ_cons] at e
    injection e with e1 e2
    subst e1
    exact List.cons_lt_cons_iff.mpr (.inr ⟨rfl, front_lt b a (by simpa using h) e2⟩)
end Mine

end
section
open PySem PySem.W PyProof.Rows
set_option maxRecDepth 100000
set_option linter.unusedVariables false
namespace Mine
theorem chr_eq {a b : Str} {j : Nat} (ha : j < a.length) (hb : j < b.length) (h : chr a j = chr b j) : (cl a)[j]? = (cl b)[j]? := by
  unfold chr at h
  have h := congrArg (fun x : Str => x.cps[0]?) h
  have ea : a.cps[j]? = some a.cps[j] := Array.getElem?_eq_getElem ha
  have eb : b.cps[j]? = some b.cps[j] := Array.getElem?_eq_getElem hb
  unfold cl
  rw [Array.getElem?_toList, Array.getElem?_toList, ea, eb]
  rw [ea, eb] at h
  simpa using h
theorem chr_of {a b : Str} {j : Nat} (ha : j < a.length) (hb : j < b.length) (h : (cl a)[j]? = (cl b)[j]?) : chr a j = chr b j := by
  unfold cl at h
  rw [Array.getElem?_toList, Array.getElem?_toList] at h
  unfold chr
  rw [h]
theorem front_eq {a b : Str} {n : Nat} (ha : n ≤ a.length) (hb : n ≤ b.length) (h : ∀ j, j < n → chr a j = chr b j) : (cl a).take n = (cl b).take n := by
  apply List.ext_getElem?
  intro j
  rw [List.getElem?_take, List.getElem?_take]
  split
  · exact chr_eq (by omega) (by omega) (h j (by assumption))
  · rfl
theorem hb_of {a b : Str} (hab : ¬ cl b < cl a) : ∀ i, i < a.length → (∀ j, j < i → chr a j = chr b j) → i < b.length := by
  intro i hi h
  rcases Nat.lt_or_ge i b.length with q | q
  · exact q
  · exfalso
    have e := front_eq (a := a) (b := b) (n := b.length) (by omega) (Nat.le_refl _) (fun j hj => h j (by omega))
    apply hab
    refine front_lt (cl b) (cl a) (by rw [cl_len, cl_len]; omega) ?_
    rw [cl_len, e]
    rw [List.take_of_length_le]
    rw [cl_len]; exact Nat.le_refl _
structure CpSpec (a b : Str) (K : Nat) : Prop where
  ka : K ≤ a.length
  kb : K ≤ b.length
  cp : cl (cpre a b) = (cl a).take K
  eq : (cl a).take K = (cl b).take K
  top : K = a.length ∨ (K < a.length ∧ K < b.length ∧ (cl a)[K]? ≠ (cl b)[K]?)
theorem cpre_spec {a b : Str} (hab : ¬ cl b < cl a) : CpSpec a b (cpre a b).length := by
  have hbo := hb_of hab
  cases hf : (List.range a.length).find? (fun i => chr a i != chr b i) with
  | none =>
    have e : cpre a b = a := by unfold cpre; rw [hf]
    have hall : ∀ j, j < a.length → chr a j = chr b j := fun j hj => by
      have := List.find?_eq_none.mp hf j (List.mem_range.mpr hj)
      simpa using this
    have hle : a.length ≤ b.length := by
      cases hn : a.length with
      | zero => exact Nat.zero_le _
      | succ k =>
        have := hbo k (by omega) (fun j hj => hall j (by omega))
        omega
    rw [e]
    refine ⟨Nat.le_refl _, hle, ?_, front_eq (Nat.le_refl _) hle hall, .inl rfl⟩
    rw [e, List.take_of_length_le (by rw [cl_len]; exact Nat.le_refl _)]
  | some i =>
    have e : cpre a b = Txt.slice a none (some (i : Int)) := by unfold cpre; rw [hf]
    obtain ⟨h1, h2, h3⟩ := List.find?_range_eq_some.mp hf
    have hi := List.mem_range.mp h2
    have hall : ∀ j, j < i → chr a j = chr b j := fun j hj => by
      have := h3 j hj
      simpa using this
    have hib := hbo i hi hall
    have ecl : cl (cpre a b) = (cl a).take i := by rw [e]; exact sl_to (Nat.le_of_lt hi)
    have eK : (cpre a b).length = i := by
      rw [← cl_len, ecl, List.length_take, cl_len]; omega
    rw [eK]
    refine ⟨Nat.le_of_lt hi, Nat.le_of_lt hib, ecl, front_eq (Nat.le_of_lt hi) (Nat.le_of_lt hib) hall, .inr ⟨hi, hib, fun q => ?_⟩⟩
    have := chr_of hi hib q
    simp [this] at h1
structure Lcp (ys : List Str) (p : Str) : Prop where
  len : ∀ y ∈ ys, p.length ≤ y.length
  pre : ∀ y ∈ ys, (cl y).take p.length = cl p
  top : ∀ m, p.length < m → (∀ y ∈ ys, m ≤ y.length) → ∃ y ∈ ys, ∃ z ∈ ys, (cl y).take m ≠ (cl z).take m
theorem lcp_of {ys : List Str} (hne : ys ≠ []) : Lcp ys (cpre (minS ys) (maxS ys)) ∧ (∀ i, i < (minS ys).length → (∀ j, j < i → chr (minS ys) j = chr (maxS ys) j) → i < (maxS ys).length) := by
  obtain ⟨m1, m2⟩ := minS_spec hne
  obtain ⟨x1, x2⟩ := maxS_spec hne
  have hab := m2 _ x1
  have C := cpre_spec hab
  refine ⟨⟨fun y hy => ?_, fun y hy => ?_, fun m hm hl => ?_⟩, hb_of hab⟩
  · have := (sandwich _ _ _ _ (m2 y hy) (x2 y hy) (by rw [cl_len]; exact C.ka) (by rw [cl_len]; exact C.kb) C.eq).1
    rw [cl_len] at this; exact this
  · rw [(sandwich _ _ _ _ (m2 y hy) (x2 y hy) (by rw [cl_len]; exact C.ka) (by rw [cl_len]; exact C.kb) C.eq).2, C.cp]
  · refine ⟨_, m1, _, x1, fun q => ?_⟩
    rcases C.top with q1 | ⟨q1, q2, q3⟩
    · have := hl _ m1; omega
    · apply q3
      have := congrArg (fun l : List Nat => l[(cpre (minS ys) (maxS ys)).length]?) q
      rw [List.getElem?_take, List.getElem?_take, if_pos hm, if_pos hm] at this
      exact this
theorem lens_ne {ys : List Str} (hne : ys ≠ []) : (ys.map fun y => (y.length : Int)) ≠ [] := by
  intro q; exact hne (List.map_eq_nil_iff.mp q)
theorem shortOk_of {rows : List PyData} (hne : rows ≠ []) (hl : rows.length ≤ 10) (hw : ∀ d ∈ rows, d.depth ≤ 5 ∧ Wok d ∧ d.shown.length ≤ 100000) : ShortOk rows := by
  have hys : rows.map PyData.shown ≠ [] := fun q => hne (List.map_eq_nil_iff.mp q)
  obtain ⟨P, _⟩ := lcp_of hys
  have hlen : ∀ y ∈ rows.map PyData.shown, y.length ≤ 100000 := fun y hy => by
    obtain ⟨d, hd, rfl⟩ := List.mem_map.mp hy
    exact (hw d hd).2.2
  obtain ⟨n1, n2⟩ := minI_spec (lens_ne hys)
  obtain ⟨x1, x2⟩ := maxI_spec (lens_ne hys)
  obtain ⟨ym, hym, em⟩ := List.mem_map.mp n1
  obtain ⟨yx, hyx, ex⟩ := List.mem_map.mp x1
  have hp := P.len ym hym
  have hm := hlen ym hym
  refine ⟨?_, hl, hw, ⟨ym.length, em.symm, by omega, hp, ?_⟩, by rw [← ex]; omega, by rw [← ex]; have := hlen yx hyx; omega, by omega⟩
  · cases q : rows.map PyData.shown with
    | nil => exact absurd q hys
    | cons y0 ys' => exact ⟨_, _, rfl⟩
  · intro y0 ys' e m hmL
    rw [e] at P n2 em
    have hall : ∀ y ∈ y0 :: ys', m ≤ y.length := fun y hy => by
      have := n2 _ (List.mem_map.mpr ⟨y, hy, rfl⟩)
      rw [← em] at this
      omega
    rw [Bool.eq_iff_iff, List.all_eq_true, decide_eq_true_eq]
    constructor
    · intro h
      rcases Nat.lt_or_ge (cpre (minS (y0 :: ys')) (maxS (y0 :: ys'))).length m with q | q
      · exfalso
        obtain ⟨y, hy, z, hz, hyz⟩ := P.top m q hall
        have g : ∀ y ∈ y0 :: ys', (cl y).take m = (cl y0).take m := fun y hy => by
          have := h _ (List.mem_map.mpr ⟨y, hy, rfl⟩)
          rw [id, beq_iff_eq] at this
          have := congrArg cl this
          rw [sl_to (hall y hy), sl_to (hall y0 (.head _))] at this
          exact this
        exact hyz ((g y hy).trans (g z hz).symm)
      · exact q
    · intro h b hb
      obtain ⟨y, hy, rfl⟩ := List.mem_map.mp hb
      rw [id, beq_iff_eq]
      apply cl_inj
      rw [sl_to (hall y hy), sl_to (hall y0 (.head _))]
      have g : ∀ y ∈ y0 :: ys', (cl y).take m = (cl (cpre (minS (y0 :: ys')) (maxS (y0 :: ys')))).take m := fun y hy => by
        rw [← P.pre y hy, List.take_take]
        congr 1
        omega
      rw [g y hy, g y0 (.head _)]
theorem csrOk_of {ds : List PyData} (hl : ds.length = 1 ∨ ds.length = 2 ∨ ds.length = 3) (hw : ∀ d ∈ ds, d.depth ≤ 5 ∧ Wok d ∧ d.shown.length ≤ 100000) : CsrOk ds := by
  have hne : ds ≠ [] := by rintro rfl; simp at hl
  have hys : ds.map PyData.shown ≠ [] := fun q => hne (List.map_eq_nil_iff.mp q)
  obtain ⟨P, hb⟩ := lcp_of hys
  have hlen : ∀ y ∈ ds.map PyData.shown, y.length ≤ 100000 := fun y hy => by
    obtain ⟨d, hd, rfl⟩ := List.mem_map.mp hy
    exact (hw d hd).2.2
  obtain ⟨x1, x2⟩ := maxI_spec (lens_ne hys)
  obtain ⟨yx, hyx, ex⟩ := List.mem_map.mp x1
  have hx := hlen yx hyx
  have hmn := hlen _ (minS_spec hys).1
  have hp := P.len yx hyx
  exact ⟨hl, fun d hd => ⟨(hw d hd).2.1, by have := (hw d hd).1; omega, by have := (hw d hd).2.2; omega⟩, by rw [← ex]; omega, by rw [← ex]; omega, hb, by omega, by omega⟩
end Mine

end
section
open PySem PySem.W PyProof.Rows
set_option maxRecDepth 100000
set_option linter.unusedVariables false
namespace Mine
theorem app_assoc (a b c : Str) : a ++ b ++ c = a ++ (b ++ c) := cl_inj (by rw [cl_app, cl_app, cl_app, cl_app, List.append_assoc])
theorem endF_eq (e : Str) : shortF e 41 5 = endF e := by
  unfold shortF endF
  by_cases h : (e.length : Int) ≤ 58
  · rw [if_pos h, if_neg (by omega)]
  · rw [if_neg h, if_pos (by omega)]
    have e1 : (e.length : Int) - 41 - 5 = e.length - 46 := by omega
    have e2 := slice_closes_from_neg (x := e) (i := -5) (a := (e.length : Int) - 5) (b := e.length) (by omega) (by omega) (by omega) rfl
    have e3 := slice_closes_fromL (x := e) (i := (e.length : Int) - 5) (b := e.length) (by omega) (by omega) rfl
    rw [beq_iff_eq] at e2 e3
    rw [e2, e3, e1]
    rw [app_assoc (Txt.slice e none (some 41)), app_assoc (Txt.slice e none (some 41))]
theorem frontF_eq {y p : Str} (h : Txt.slice y none (some (p.length : Int)) = p) : shortF p 5 5 = frontF y p.length := by
  unfold shortF frontF
  rw [h]
  by_cases q : (22 : Int) < p.length
  · rw [if_pos q, if_pos (by omega)]
    have e1 : (p.length : Int) - 5 - 5 = p.length - 10 := by omega
    rw [e1, app_assoc (Txt.slice p none (some 5)), app_assoc (Txt.slice p none (some 5))]
  · rw [if_neg q, if_neg (by omega)]
theorem cutA_eq {y p : Str} {M : Int} (hle : p.length ≤ y.length) (h : (cl y).take p.length = cl p) (hM : 80 < M) (hK : M - p.length < 58) : shortF p 5 (80 - (M - p.length + 5 + 12)) ++ Txt.slice y (some (p.length : Int)) none = cutA M y := by
  unfold shortF cutA
  rw [if_pos (by omega)]
  have e1 : (p.length : Int) - 5 - (80 - (M - p.length + 5 + 12)) = M - 68 := by omega
  have e2 : (p.length : Int) - (80 - (M - p.length + 5 + 12)) = M - 63 := by omega
  rw [e1, e2]
  obtain ⟨m, rfl⟩ : ∃ m : Nat, M = m := ⟨M.toNat, by omega⟩
  have e3 : (m : Int) - 63 = ((m - 63 : Nat) : Int) := by omega
  rw [e3]
  have s1 : cl (Txt.slice p none (some (5 : Int))) = (cl p).take 5 := sl_to (m := 5) (by omega)
  have s2 : cl (Txt.slice y none (some (5 : Int))) = (cl y).take 5 := sl_to (m := 5) (by omega)
  have s3 : cl (Txt.slice p (some ((m - 63 : Nat) : Int)) none) = (cl p).drop (m - 63) := sl_from (by omega)
  have s4 : cl (Txt.slice y (some ((m - 63 : Nat) : Int)) none) = (cl y).drop (m - 63) := sl_from (by omega)
  have s5 : cl (Txt.slice y (some (p.length : Int)) none) = (cl y).drop p.length := sl_from hle
  have t1 : (cl p).take 5 = (cl y).take 5 := by rw [← h, List.take_take]; congr 1; omega
  have t2 : (cl y).drop (m - 63) = (cl p).drop (m - 63) ++ (cl y).drop p.length := by
    rw [← h]
    conv => lhs; rw [← List.take_append_drop p.length (cl y)]
    rw [List.drop_append_of_le_length]
    rw [List.length_take, cl_len]; omega
  apply cl_inj
  simp only [cl_app, s1, s2, s3, s4, s5, t1, t2, List.append_assoc]
theorem maxI_ne {ys : List Str} : True := trivial
theorem csrF_eq {y0 : Str} {ys' : List Str} {p : Str} (M : Int) (P : Lcp (y0 :: ys') p) : csrF (y0 :: ys') M p = shortL y0 (y0 :: ys') M p.length := by
  unfold csrF shortL
  by_cases h1 : M ≤ 80
  · rw [if_pos h1, if_pos h1]
  rw [if_neg h1, if_neg h1]
  by_cases h2 : M - p.length < 58
  · rw [if_pos h2, if_pos (by omega)]
    exact List.map_congr_left fun y hy => cutA_eq (P.len y hy) (P.pre y hy) (by omega) h2
  · rw [if_neg h2, if_neg (by omega), List.map_map]
    refine List.map_congr_left fun y hy => ?_
    have e0 : Txt.slice y0 none (some (p.length : Int)) = p := cl_inj (by rw [sl_to (P.len _ (.head _))]; exact P.pre _ (.head _))
    show _ = frontF y0 p.length ++ endF (Txt.slice y (some (p.length : Int)) none)
    rw [frontF_eq e0, endF_eq]
theorem csrD_eq {rows : List PyData} (hne : rows ≠ []) : csrD rows = shortOf rows := by
  unfold csrD shortOf
  cases q : rows.map PyData.shown with
  | nil => exact absurd (List.map_eq_nil_iff.mp q) hne
  | cons y0 ys' =>
    dsimp only
    rw [csrF_eq _ (lcp_of (by simp)).1]
end Mine

end
section
open PySem PySem.W PyProof.Rows
set_option maxRecDepth 100000
set_option linter.unusedVariables false
namespace Mine
mutual
theorem eqv_eq : ∀ a b : PyData, Wok a → Wok b → PyData.eqv a b = true → a = b
  | .none, _, ha, _, _ => by unfold Wok at ha; exact ha.elim
  | .bool _, _, ha, _, _ => by unfold Wok at ha; exact ha.elim
  | .dict _, _, ha, _, _ => by unfold Wok at ha; exact ha.elim
  | .int i, b, _, hb, h => by
    cases b with
    | int j => rw [PyData.eqv, beq_iff_eq] at h; rw [h]
    | bool _ => unfold Wok at hb; exact hb.elim
    | _ => simp [PyData.eqv] at h
  | .str i, b, _, hb, h => by
    cases b with
    | str j => rw [PyData.eqv, beq_iff_eq] at h; rw [h]
    | _ => simp [PyData.eqv] at h
  | .list xs, b, ha, hb, h => by
    cases b with
    | list ys =>
      unfold Wok at ha hb
      rw [PyData.eqv] at h
      rw [eqvAll_eq' xs ys ha.1 hb.1 h]
    | _ => simp [PyData.eqv] at h
  | .tuple xs, b, ha, hb, h => by
    cases b with
    | tuple ys =>
      unfold Wok at ha hb
      rw [PyData.eqv] at h
      rw [eqvAll_eq' xs ys ha.1 hb.1 h]
    | _ => simp [PyData.eqv] at h
theorem eqvAll_eq' : ∀ xs ys : List PyData, WokA xs → WokA ys → PyData.eqvAll xs ys = true → xs = ys
  | [], [], _, _, _ => rfl
  | [], _ :: _, _, _, h => by simp [PyData.eqvAll] at h
  | _ :: _, [], _, _, h => by simp [PyData.eqvAll] at h
  | x :: xs, y :: ys, ha, hb, h => by
    unfold WokA at ha hb
    rw [PyData.eqvAll, Bool.and_eq_true] at h
    rw [eqv_eq x y ha.1 hb.1 h.1, eqvAll_eq' xs ys ha.2 hb.2 h.2]
end
/-- data on which == is equality -/
def Sd (d : PyData) : Prop := d.canLay0 = true ∧ Wok d
theorem Sd.eqv {a b : PyData} (ha : Sd a) (hb : Sd b) : PyData.eqv a b = true ↔ a = b :=
  ⟨eqv_eq a b ha.2 hb.2, fun e => by subst e; exact PySem.SeqAt.eqv_refl a ha.1⟩
open Classical in
noncomputable def kp (f : PyData → Nat) : List PyData → List PyData
  | [] => []
  | x :: xs => (if f x = 0 then [x] else []) ++ kp (fun c => f c - if x = c then 1 else 0) xs
theorem kp_nil {f : PyData → Nat} : kp f [] = [] := by unfold kp; rfl
open Classical in
theorem kp_cons {f : PyData → Nat} {x : PyData} {xs : List PyData} : kp f (x :: xs) = (if f x = 0 then [x] else []) ++ kp (fun c => f c - if x = c then 1 else 0) xs := by
  conv => lhs; unfold kp
open Classical in
theorem kp_zero : ∀ xs : List PyData, kp (fun _ => 0) xs = xs
  | [] => kp_nil
  | x :: xs => by
    rw [kp_cons, if_pos rfl]
    simp only [Nat.zero_sub]
    rw [kp_zero xs]; rfl
theorem kp_sub : ∀ (xs : List PyData) (f : PyData → Nat), ∀ d ∈ kp f xs, d ∈ xs
  | [], f, d, h => by rw [kp_nil] at h; exact h
  | x :: xs, f, d, h => by
    rw [kp_cons] at h
    rcases List.mem_append.mp h with h | h
    · split at h
      · rcases List.mem_singleton.mp h with rfl; exact .head _
      · exact nomatch h
    · exact .tail _ (kp_sub xs _ d h)
open Classical in
theorem kp_len : ∀ (xs : List PyData) (f : PyData → Nat), (kp f xs).length ≤ xs.length
  | [], f => by rw [kp_nil]; exact Nat.le_refl _
  | x :: xs, f => by
    rw [kp_cons, List.length_append, List.length_cons]
    have := kp_len xs (fun c => f c - if x = c then 1 else 0)
    split <;> simp <;> omega
open Classical in
/-- one more to drop -/
theorem kp_erase : ∀ (xs : List PyData) (f : PyData → Nat) (d : PyData), (∀ x ∈ xs, PyData.eqv x d = true ↔ x = d) → (kp f xs).eraseP (fun y => PyData.eqv y d) = kp (fun c => f c + if d = c then 1 else 0) xs
  | [], f, d, h => by rw [kp_nil, kp_nil]; rfl
  | x :: xs, f, d, h => by
    have ih := fun g => kp_erase xs g d fun y hy => h y (.tail _ hy)
    have hx := h x (.head _)
    rw [kp_cons, kp_cons]
    by_cases hxd : x = d
    · subst hxd
      have e1 : ∀ c, (f c + if x = c then 1 else 0) - (if x = c then 1 else 0) = f c := fun c => by omega
      simp only [if_true, e1]
      rw [if_neg (by omega : ¬ f x + 1 = 0)]
      by_cases h0 : f x = 0
      · rw [if_pos h0]
        show List.eraseP _ (x :: kp _ xs) = _
        rw [List.eraseP_cons_of_pos (p := fun y => PyData.eqv y x) (hx.mpr rfl)]
        have : (fun c => f c - if x = c then 1 else 0) = f := by
          funext c
          by_cases q : x = c
          · subst q; simp [h0]
          · rw [if_neg q]; rfl
        rw [this]; rfl
      · rw [if_neg h0, List.nil_append, List.nil_append, ih]
        congr 1
        funext c
        by_cases q : x = c
        · subst q; simp only [if_true]; omega
        · rw [if_neg q]; rfl
    · have e0 : (f x + if d = x then 1 else 0) = f x := by rw [if_neg (Ne.symm hxd)]; rfl
      have e1 : (fun c => (f c - if x = c then 1 else 0) + if d = c then 1 else 0) = fun c => (f c + if d = c then 1 else 0) - if x = c then 1 else 0 := by
        funext c
        by_cases q : x = c
        · subst q; rw [if_pos rfl, if_neg (Ne.symm hxd)]; rfl
        · rw [if_neg q]; rfl
      rw [e0]
      by_cases h0 : f x = 0
      · rw [if_pos h0]
        show List.eraseP _ (x :: kp _ xs) = x :: kp _ xs
        rw [List.eraseP_cons_of_neg (p := fun y => PyData.eqv y d) (fun q => hxd (hx.mp q)), ih, e1]
      · rw [if_neg h0, List.nil_append, List.nil_append, ih, e1]
open Classical in
theorem kp_mem : ∀ (xs : List PyData) (f : PyData → Nat) (d : PyData), (∀ x ∈ xs, PyData.eqv x d = true ↔ x = d) → (d ∈ kp f xs ↔ f d < cnt xs d)
  | [], f, d, h => by rw [kp_nil]; simp
  | x :: xs, f, d, h => by
    have ih := fun g => kp_mem xs g d fun y hy => h y (.tail _ hy)
    have hx := h x (.head _)
    rw [kp_cons, List.mem_append, ih]
    unfold cnt
    rw [List.countP_cons]
    by_cases hxd : x = d
    · subst hxd
      rw [if_pos (hx.mpr rfl)]
      simp only [if_true]
      by_cases h0 : f x = 0
      · rw [if_pos h0]; simp; omega
      · rw [if_neg h0]; simp; omega
    · rw [if_neg (fun q => hxd (hx.mp q))]
      simp only [if_neg hxd]
      have : ¬ d ∈ (if f x = 0 then [x] else []) := by
        split
        · simp; exact fun q => hxd q.symm
        · simp
      simp [this]
theorem rmIdx_find : ∀ (ys : List PyData) (d : PyData), rmIdx ys d = ys.findIdx? fun y => PyData.eqv y d
  | [], d => rfl
  | y :: ys, d => by
    unfold rmIdx
    rw [List.length_cons, List.range_succ_eq_map, List.find?_cons, List.findIdx?_cons]
    show (match PyData.eqv y d with | true => _ | false => _) = _
    cases PyData.eqv y d with
    | true => rfl
    | false =>
      dsimp only
      rw [List.find?_map]
      show Option.map Nat.succ (rmIdx ys d) = _
      rw [rmIdx_find ys d]
      rfl
theorem uldR_cons {d : PyData} {r ys ms : List PyData} : uldR (d :: r) ys ms = uldR r (ys.eraseP fun y => PyData.eqv y d) (if ys.any (fun y => PyData.eqv y d) then ms else ms ++ [d]) := by
  conv => lhs; unfold uldR
  rw [rmIdx_find, List.eraseP_eq_eraseIdx]
  have := @List.findIdx?_isSome _ ys (fun y => PyData.eqv y d)
  cases q : ys.findIdx? fun y => PyData.eqv y d with
  | none => rw [q] at this; rw [← this]; rfl
  | some j => rw [q] at this; rw [← this]; rfl
open Classical in
theorem uldR_kp : ∀ (r A ms : List PyData) (f : PyData → Nat), (∀ x ∈ A, ∀ d ∈ r, PyData.eqv x d = true ↔ x = d) → (∀ x ∈ r, ∀ d ∈ r, PyData.eqv x d = true ↔ x = d) →
    uldR r (kp f A) ms = (ms ++ kp (fun c => cnt A c - f c) r, kp (fun c => f c + r.count c) A)
  | [], A, ms, f, h, h2 => by rw [kp_nil, List.append_nil]; unfold uldR; rfl
  | d :: r, A, ms, f, h, h2 => by
    have hd : ∀ x ∈ A, PyData.eqv x d = true ↔ x = d := fun x hx => h x hx d (.head _)
    rw [uldR_cons, kp_erase A f d hd, uldR_kp r A _ _ (fun x hx d hd => h x hx d (.tail _ hd)) (fun x hx d hd => h2 x (.tail _ hx) d (.tail _ hd))]
    have hany : (kp f A).any (fun y => PyData.eqv y d) = decide (f d < cnt A d) := by
      rw [Bool.eq_iff_iff, List.any_eq_true, decide_eq_true_eq, ← kp_mem A f d hd]
      constructor
      · rintro ⟨x, hx, e⟩
        rw [(hd x (kp_sub _ _ _ hx)).mp e] at hx
        exact hx
      · exact fun hx => ⟨d, hx, (hd d (kp_sub _ _ _ hx)).mpr rfl⟩
    rw [hany]
    refine Prod.ext ?_ ?_
    · show _ = ms ++ kp _ (d :: r)
      rw [kp_cons]
      have e1 : kp (fun c => cnt A c - (f c + if d = c then 1 else 0)) r = kp (fun c => (cnt A c - f c) - if d = c then 1 else 0) r := by
        congr 1
        funext c
        omega
      dsimp only
      rw [e1]
      by_cases q : f d < cnt A d
      · rw [if_pos (by simpa using q), if_neg (by omega), List.nil_append]
      · rw [if_neg (by simpa using q), if_pos (by omega), List.append_assoc]
    · show kp _ A = kp _ A
      congr 1
      funext c
      rw [List.count_cons]
      by_cases q : d = c
      · subst q; simp; omega
      · rw [if_neg q, if_neg (by simpa using q)]; omega
theorem kp_congr : ∀ (xs : List PyData) {f g : PyData → Nat}, (∀ c ∈ xs, f c = g c) → kp f xs = kp g xs
  | [], f, g, h => by rw [kp_nil, kp_nil]
  | x :: xs, f, g, h => by
    rw [kp_cons, kp_cons, h x (.head _), kp_congr xs fun c hc => by rw [h c (.tail _ hc)]]
end Mine

end
section
open PySem PySem.W PyProof.Rows
set_option maxRecDepth 100000
set_option linter.unusedVariables false
namespace Mine
theorem pickN_front (p : Nat → Bool) (g : Nat → PyData) (n : Nat) : pickN p g (n + 1) = (if p 0 then [g 0] else []) ++ pickN (fun i => p (i + 1)) (fun i => g (i + 1)) n := by
  unfold pickN
  rw [List.range_succ_eq_map, List.filter_cons, List.filter_map]
  split <;> simp [Function.comp_def]
theorem pickN_congr {p q : Nat → Bool} {g : Nat → PyData} {n : Nat} (h : ∀ i, i < n → p i = q i) : pickN p g n = pickN q g n := by
  unfold pickN
  rw [List.filter_congr fun i hi => h i (List.mem_range.mp hi)]
theorem pickN_congr2 {p q : Nat → Bool} {g k : Nat → PyData} {n : Nat} (h : ∀ i, i < n → p i = q i) (h2 : ∀ i, i < n → g i = k i) : pickN p g n = pickN q k n := by
  rw [pickN_congr h]
  unfold pickN
  exact List.map_congr_left fun i hi => h2 i (List.mem_range.mp (List.mem_filter.mp hi).1)
open Classical in
theorem pick_kp : ∀ (xs : List PyData) (f : PyData → Nat), (∀ x ∈ xs, ∀ d ∈ xs, PyData.eqv x d = true ↔ x = d) →
    pickN (fun i => decide (f (xs.getD i .none) < cnt (xs.take (i + 1)) (xs.getD i .none))) (fun i => xs.getD i .none) xs.length = kp f xs
  | [], f, h => by rw [kp_nil]; rfl
  | x :: xs, f, h => by
    rw [List.length_cons, pickN_front, kp_cons]
    congr 1
    · have e : cnt ((x :: xs).take (0 + 1)) x = 1 := by
        show List.countP _ [x] = 1
        rw [List.countP_cons, if_pos ((h x (.head _) x (.head _)).mpr rfl)]; rfl
      show (if decide (f x < cnt ((x :: xs).take (0 + 1)) x) then [x] else []) = _
      rw [e]
      by_cases q : f x = 0
      · rw [if_pos q, if_pos (by simp [q])]
      · rw [if_neg q, if_neg (by simp; omega)]
    · rw [← pick_kp xs _ fun x hx d hd => h x (.tail _ hx) d (.tail _ hd)]
      refine pickN_congr2 (fun i hi => ?_) fun i hi => rfl
      show decide (f (xs.getD i .none) < cnt (x :: xs.take (i + 1)) (xs.getD i .none)) = _
      have hm : xs.getD i .none ∈ xs := getD_mem' hi
      have hpos : 0 < cnt (xs.take (i + 1)) (xs.getD i .none) := by
        refine List.countP_pos_iff.mpr ⟨xs.getD i .none, ?_, (h _ (.tail _ hm) _ (.tail _ hm)).mpr rfl⟩
        rw [List.getD_eq_getElem?_getD, List.getElem?_eq_getElem hi]
        exact List.mem_take_iff_getElem.mpr ⟨i, by omega, rfl⟩
      generalize xs.getD i .none = d at *
      unfold cnt at *
      rw [List.countP_cons]
      by_cases q : x = d
      · rw [if_pos ((h x (.head _) d (.tail _ hm)).mpr q), if_pos q]
        congr 1
        apply propext
        omega
      · rw [if_neg (fun e => q ((h x (.head _) d (.tail _ hm)).mp e)), if_neg q]
        rfl
theorem beyond_kp {row other : List PyData} (h : ∀ x ∈ row, ∀ d ∈ row, PyData.eqv x d = true ↔ x = d) : beyondF row other = kp (cnt other) row := by
  rw [← pick_kp row (cnt other) h]
  unfold beyondF
  refine pickN_congr fun i hi => ?_
  congr 1
  apply propext
  exact Int.ofNat_lt
theorem beyond_sub {row other : List PyData} : ∀ d ∈ beyondF row other, d ∈ row := fun d hd => by
  unfold beyondF pickN at hd
  obtain ⟨i, hi, rfl⟩ := List.mem_map.mp hd
  exact getD_mem' (List.mem_range.mp (List.mem_filter.mp hi).1)
theorem beyond_len {row other : List PyData} : (beyondF row other).length ≤ row.length := by
  unfold beyondF; exact pickN_len _ _ _
open Classical in
theorem miss_eq {A B : List PyData} (hA : ∀ d ∈ A, Sd d) (hB : ∀ d ∈ B, Sd d) : missF A B = beyondF B.reverse A ∧ leftF A B = beyondF A B := by
  have hB' : ∀ d ∈ B.reverse, Sd d := fun d hd => hB d (List.mem_reverse.mp hd)
  have e := uldR_kp B.reverse A [] (fun _ => 0) (fun x hx d hd => (hA x hx).eqv (hB' d hd)) (fun x hx d hd => (hB' x hx).eqv (hB' d hd))
  rw [kp_zero, List.nil_append] at e
  unfold missF leftF
  rw [e, beyond_kp fun x hx d hd => (hB' x hx).eqv (hB' d hd), beyond_kp fun x hx d hd => (hA x hx).eqv (hA d hd)]
  refine ⟨rfl, ?_⟩
  show kp _ A = kp _ A
  refine kp_congr A fun c hc => ?_
  rw [Nat.zero_add, List.count_reverse]
  unfold cnt
  rw [List.count_eq_countP]
  refine List.countP_congr fun x hx => ?_
  rw [beq_iff_eq, (hB x hx).eqv (hA c hc)]
end Mine

end
section
open PySem PySem.W PyProof.Rows
set_option maxRecDepth 100000
set_option linter.unusedVariables false
namespace Mine
theorem knock_spec {d : PyData} {os : List (Option PyData)} {i : Nat} : ∀ k, i + k ≤ os.length →
    (knock d os i k).1 = ((os.drop i).take k).countP (fun o => eqO o d) ∧ ∀ j, (knock d os i k).2[j]? = if i ≤ j ∧ j < i + k ∧ eqO (os.getD j none) d = true then some none else os[j]?
  | 0, h => by
    refine ⟨rfl, fun j => ?_⟩
    rw [if_neg (by omega)]; rfl
  | k + 1, h => by
    obtain ⟨h1, h2⟩ := knock_spec (d := d) (os := os) (i := i) k (by omega)
    have hk : i + k < os.length := by omega
    have eg : (knock d os i k).2.getD (i + k) none = os[i + k] := by
      rw [List.getD_eq_getElem?_getD, h2, if_neg (by omega), List.getElem?_eq_getElem hk]; rfl
    have eo : ∀ j, (hj : j < os.length) → os.getD j none = os[j] := fun j hj => by rw [List.getD_eq_getElem?_getD, List.getElem?_eq_getElem hj]; rfl
    have et : (os.drop i).take (k + 1) = (os.drop i).take k ++ [os[i + k]] := by
      rw [List.take_add_one, List.getElem?_drop, List.getElem?_eq_getElem hk]; rfl
    unfold knock kstep
    rw [eg, et, List.countP_append, List.countP_cons, ← h1]
    by_cases q : eqO os[i + k] d = true
    · rw [if_pos q, if_pos q]
      refine ⟨rfl, fun j => ?_⟩
      dsimp only
      rw [List.getElem?_set, knock_len, h2]
      by_cases e : i + k = j
      · subst e
        rw [if_pos rfl, if_pos hk, if_pos ⟨by omega, by omega, by rw [eo _ hk]; exact q⟩]
      · rw [if_neg e]
        by_cases c : i ≤ j ∧ j < i + k ∧ eqO (os.getD j none) d = true
        · rw [if_pos c, if_pos ⟨c.1, by omega, c.2.2⟩]
        · rw [if_neg c, if_neg (fun c' => c ⟨c'.1, by omega, c'.2.2⟩)]
    · rw [if_neg q, if_neg q]
      refine ⟨rfl, fun j => ?_⟩
      rw [h2]
      by_cases e : i + k = j
      · subst e
        rw [if_neg (by omega), if_neg (fun c => q (by rw [← eo _ hk]; exact c.2.2))]
      · by_cases c : i ≤ j ∧ j < i + k ∧ eqO (os.getD j none) d = true
        · rw [if_pos c, if_pos ⟨c.1, by omega, c.2.2⟩]
        · rw [if_neg c, if_neg (fun c' => c ⟨c'.1, by omega, c'.2.2⟩)]
open Classical in
noncomputable def mask (P : PyData → Prop) (xs : List PyData) : List (Option PyData) := xs.map fun x => if P x then none else some x
theorem mask_len {P : PyData → Prop} {xs : List PyData} : (mask P xs).length = xs.length := by unfold mask; rw [List.length_map]
theorem mask_congr {P P' : PyData → Prop} {xs : List PyData} (h : ∀ x ∈ xs, P x ↔ P' x) : mask P xs = mask P' xs := by
  unfold mask
  refine List.map_congr_left fun x hx => ?_
  rw [propext (h x hx)]
theorem mask_all {xs : List PyData} : mask (fun _ => False) xs = xs.map some := by
  unfold mask
  refine List.map_congr_left fun x hx => ?_
  rw [if_neg id]
theorem mask_get0 {P : PyData → Prop} {xs : List PyData} {i : Nat} (hi : i < xs.length) : (P xs[i] → (mask P xs)[i]? = some none) ∧ (¬ P xs[i] → (mask P xs)[i]? = some (some xs[i])) := by
  unfold mask
  rw [List.getElem?_map, List.getElem?_eq_getElem hi]
  exact ⟨fun h => by simp [h], fun h => by simp [h]⟩
theorem mask_get {P : PyData → Prop} {xs : List PyData} {i : Nat} (hi : i < xs.length) : (P xs[i] → (mask P xs).getD i none = none) ∧ (¬ P xs[i] → (mask P xs).getD i none = some xs[i]) := by
  unfold mask
  rw [List.getD_eq_getElem?_getD, List.getElem?_map, List.getElem?_eq_getElem hi]
  exact ⟨fun h => by simp [h], fun h => by simp [h]⟩
open Classical in
theorem eqO_mask {P : PyData → Prop} {xs : List PyData} {d : PyData} (hp : ¬ P d) (hx : ∀ x ∈ xs, PyData.eqv x d = true ↔ x = d) : (mask P xs).countP (fun o => eqO o d) = cnt xs d := by
  unfold mask cnt
  rw [List.countP_map]
  refine List.countP_congr fun x hxx => ?_
  show eqO (if P x then none else some x) d = true ↔ _
  split
  · rename_i q
    constructor
    · exact fun e => nomatch e
    · intro e; rw [(hx x hxx).mp e] at q; exact absurd q hp
  · exact Iff.rfl
/-- one strike of all that equals d -/
theorem knock_mask {P : PyData → Prop} {xs : List PyData} {d : PyData} {i : Nat} (hi : i ≤ xs.length) (hp : ¬ P d) (hx : ∀ x ∈ xs, PyData.eqv x d = true ↔ x = d) (hb : ∀ x ∈ xs.take i, P x) :
    knock d (mask P xs) i ((mask P xs).length - i) = (cnt xs d, mask (fun x => P x ∨ x = d) xs) := by
  rw [mask_len]
  obtain ⟨h1, h2⟩ := knock_spec (d := d) (os := mask P xs) (i := i) (xs.length - i) (by rw [mask_len]; omega)
  refine Prod.ext ?_ ?_
  · show _ = cnt xs d
    rw [h1, List.take_of_length_le (by rw [List.length_drop, mask_len]; exact Nat.le_refl _), ← eqO_mask hp hx]
    conv => rhs; rw [← List.take_append_drop i (mask P xs), List.countP_append]
    have : ((mask P xs).take i).countP (fun o => eqO o d) = 0 := by
      rw [List.countP_eq_zero]
      intro o ho
      unfold mask at ho
      rw [← List.map_take] at ho
      obtain ⟨x, hxx, rfl⟩ := List.mem_map.mp ho
      rw [if_pos (hb x hxx)]
      exact fun e => nomatch e
    omega
  · apply List.ext_getElem?
    intro j
    rw [h2]
    rcases Nat.lt_or_ge j xs.length with hj | hj
    · have hxj := hx _ (List.getElem_mem hj)
      obtain ⟨a1, a2⟩ := mask_get0 (P := fun x => P x ∨ x = d) hj
      obtain ⟨b1, b2⟩ := mask_get0 (P := P) hj
      obtain ⟨g1, g2⟩ := mask_get (P := P) hj
      by_cases c1 : P xs[j]
      · rw [a1 (.inl c1), b1 c1, g1 c1, if_neg (fun q => nomatch q.2.2)]
      · rw [b2 c1, g2 c1]
        by_cases c2 : xs[j] = d
        · have hij : i ≤ j := by
            rcases Nat.lt_or_ge j i with q | q
            · exact absurd (hb _ (List.mem_take_iff_getElem.mpr ⟨j, by omega, rfl⟩)) c1
            · exact q
          rw [a1 (.inr c2), if_pos ⟨hij, by omega, hxj.mpr c2⟩]
        · rw [a2 (fun q => q.elim c1 c2), if_neg (fun q => c2 (hxj.mp q.2.2))]
    · rw [if_neg (by omega), List.getElem?_eq_none (by rw [mask_len]; exact hj), List.getElem?_eq_none (by rw [mask_len]; exact hj)]
structure Cdi (xs ys : List PyData) (i : Nat) (res : List (Nat × Nat × PyData)) : Prop where
  map : res.map repLine = pickN (lineP xs ys) (lineG xs ys) i
  bd : ∀ r ∈ res, r.1 ≤ xs.length ∧ r.2.1 ≤ ys.length ∧ r.2.2 ∈ xs ++ ys
  len : res.length ≤ i
theorem Cdi.skip {xs ys : List PyData} {i : Nat} {res : List (Nat × Nat × PyData)} (h : Cdi xs ys i res) (q : lineP xs ys i = false) : Cdi xs ys (i + 1) res :=
  ⟨by rw [h.map, pickN_succ, q]; simp, h.bd, Nat.le_succ_of_le h.len⟩
theorem Cdi.push {xs ys : List PyData} {i a b : Nat} {d : PyData} {res : List (Nat × Nat × PyData)} (h : Cdi xs ys i res) (q : lineP xs ys i = true) (e : repLine (a, b, d) = lineG xs ys i) (ha : a ≤ xs.length) (hb : b ≤ ys.length) (hd : d ∈ xs ++ ys) : Cdi xs ys (i + 1) (res ++ [(a, b, d)]) :=
  ⟨by rw [List.map_append, h.map, pickN_succ, q, List.map_cons, List.map_nil, e]; simp, fun r hr => by
    rcases List.mem_append.mp hr with hr | hr
    · exact h.bd r hr
    · rcases List.mem_singleton.mp hr with rfl; exact ⟨ha, hb, hd⟩, by rw [List.length_append]; exact Nat.succ_le_succ h.len⟩
theorem lineP_eq {xs ys : List PyData} {i : Nat} (hi : i < (xs ++ ys).length) (h : ∀ x ∈ xs ++ ys, ∀ d ∈ xs ++ ys, PyData.eqv x d = true ↔ x = d) :
    lineP xs ys i = true ↔ (xs ++ ys)[i] ∉ (xs ++ ys).take i ∧ cnt xs (xs ++ ys)[i] ≠ cnt ys (xs ++ ys)[i] := by
  unfold lineP
  have e : (xs ++ ys).getD i .none = (xs ++ ys)[i] := by rw [List.getD_eq_getElem?_getD, List.getElem?_eq_getElem hi]; rfl
  rw [e, Bool.and_eq_true, Bool.not_eq_true', bne_iff_ne, ne_eq, Int.ofNat_inj]
  refine and_congr_left fun _ => ?_
  rw [← Bool.not_eq_true]
  refine not_congr ?_
  rw [List.any_eq_true]
  constructor
  · rintro ⟨x, hx, q⟩
    rw [(h x (List.mem_of_mem_take hx) _ (List.getElem_mem hi)).mp q] at hx
    exact hx
  · exact fun hx => ⟨_, hx, (h _ (List.getElem_mem hi) _ (List.getElem_mem hi)).mpr rfl⟩
theorem take_mem_succ {xs : List PyData} {i : Nat} (hi : i < xs.length) (x : PyData) : x ∈ xs.take (i + 1) ↔ x ∈ xs.take i ∨ x = xs[i] := by
  rw [List.take_add_one, List.getElem?_eq_getElem hi, List.mem_append]
  simp
theorem cd_loop1 {xs ys : List PyData} (h : ∀ x ∈ xs ++ ys, ∀ d ∈ xs ++ ys, PyData.eqv x d = true ↔ x = d) : ∀ i, i ≤ xs.length →
    ∃ res, it1 (xs.map some, ys.map some, []) i = (mask (· ∈ xs.take i) xs, mask (· ∈ xs.take i) ys, res) ∧ Cdi xs ys i res
  | 0, _ => ⟨[], by
      have : (fun x : PyData => x ∈ xs.take 0) = fun _ => False := by funext x; simp
      rw [this, mask_all, mask_all]; rfl, ⟨rfl, (fun r hr => nomatch hr), Nat.le_refl _⟩⟩
  | i + 1, hi => by
    obtain ⟨res, e, C⟩ := cd_loop1 h i (by omega)
    have hi' : i < (xs ++ ys).length := by rw [List.length_append]; omega
    have hlp := lineP_eq hi' h
    have eW : (xs ++ ys)[i] = xs[i] := List.getElem_append_left (by omega)
    rw [eW, List.take_append_of_le_length (by omega)] at hlp
    unfold it1 step1
    rw [e]
    dsimp only
    obtain ⟨g1, g2⟩ := mask_get (P := (· ∈ xs.take i)) (i := i) (xs := xs) (by omega)
    by_cases c : xs[i] ∈ xs.take i
    · rw [g1 c]
      refine ⟨res, ?_, C.skip ?_⟩
      · dsimp only
        rw [mask_congr (P := (· ∈ xs.take (i + 1))) (P' := (· ∈ xs.take i)) (xs := xs), mask_congr (P := (· ∈ xs.take (i + 1))) (P' := (· ∈ xs.take i)) (xs := ys)]
        · intro x _; rw [take_mem_succ (by omega)]
          exact ⟨fun q => q.elim id fun q => q ▸ c, .inl⟩
        · intro x _; rw [take_mem_succ (by omega)]
          exact ⟨fun q => q.elim id fun q => q ▸ c, .inl⟩
      · rw [← Bool.not_eq_true, hlp]; exact fun q => q.1 c
    · rw [g2 c]
      dsimp only
      have hm : xs[i] ∈ xs ++ ys := List.mem_append_left _ (List.getElem_mem _)
      rw [knock_mask (P := (· ∈ xs.take i)) (xs := xs) (by omega) c (fun x hx => h x (List.mem_append_left _ hx) _ hm) fun x hx => hx]
      have k2 := knock_mask (P := (· ∈ xs.take i)) (xs := ys) (d := xs[i]) (i := 0) (Nat.zero_le _) c (fun x hx => h x (List.mem_append_right _ hx) _ hm) (fun x hx => by simp at hx)
      rw [Nat.sub_zero] at k2
      rw [k2]
      dsimp only
      have em : ∀ zs, mask (fun x => x ∈ xs.take i ∨ x = xs[i]) zs = mask (· ∈ xs.take (i + 1)) zs := fun zs => mask_congr fun x _ => (take_mem_succ (by omega) x).symm
      rw [em, em]
      by_cases q : cnt xs xs[i] = cnt ys xs[i]
      · refine ⟨_, rfl, ?_⟩
        rw [if_neg (by simp [q])]
        refine C.skip ?_
        rw [← Bool.not_eq_true, hlp]; exact fun z => z.2 q
      · refine ⟨_, rfl, ?_⟩
        rw [if_pos (by simpa using q)]
        refine C.push (hlp.mpr ⟨c, q⟩) ?_ cnt_le cnt_le hm
        unfold lineG repLine
        have e : (xs ++ ys).getD i .none = xs[i] := by rw [List.getD_eq_getElem?_getD, List.getElem?_eq_getElem hi', eW]; rfl
        rw [e]
theorem cd_loop2 {xs ys : List PyData} {res0 : List (Nat × Nat × PyData)} (h : ∀ x ∈ xs ++ ys, ∀ d ∈ xs ++ ys, PyData.eqv x d = true ↔ x = d) (C0 : Cdi xs ys xs.length res0) : ∀ k, k ≤ ys.length →
    ∃ res, it2 (mask (· ∈ xs) ys, res0) k = (mask (fun x => x ∈ xs ∨ x ∈ ys.take k) ys, res) ∧ Cdi xs ys (xs.length + k) res
  | 0, _ => ⟨res0, by
      rw [mask_congr (P := fun x => x ∈ xs ∨ x ∈ ys.take 0) (P' := (· ∈ xs)) (fun x _ => by simp)]; rfl, C0⟩
  | k + 1, hk => by
    obtain ⟨res, e, C⟩ := cd_loop2 h C0 k (by omega)
    have hi' : xs.length + k < (xs ++ ys).length := by rw [List.length_append]; omega
    have hlp := lineP_eq hi' h
    have eW : (xs ++ ys)[xs.length + k] = ys[k] := by
      rw [List.getElem_append_right (by omega)]
      congr 1
      omega
    rw [eW, List.take_append, List.take_of_length_le (by omega)] at hlp
    have ek : xs.length + k - xs.length = k := by omega
    rw [ek, List.mem_append] at hlp
    unfold it2 step2
    rw [e]
    dsimp only
    obtain ⟨g1, g2⟩ := mask_get (P := fun x => x ∈ xs ∨ x ∈ ys.take k) (i := k) (xs := ys) (by omega)
    by_cases c : ys[k] ∈ xs ∨ ys[k] ∈ ys.take k
    · rw [g1 c]
      refine ⟨res, ?_, C.skip ?_⟩
      · dsimp only
        rw [mask_congr (P := fun x => x ∈ xs ∨ x ∈ ys.take (k + 1)) (P' := fun x => x ∈ xs ∨ x ∈ ys.take k)]
        intro x _; rw [take_mem_succ (by omega)]
        exact ⟨fun q => q.elim .inl fun q => q.elim .inr fun q => q ▸ c, fun q => q.elim .inl fun q => .inr (.inl q)⟩
      · rw [← Bool.not_eq_true, hlp]; exact fun q => q.1 c
    · rw [g2 c]
      dsimp only
      have hm : ys[k] ∈ xs ++ ys := List.mem_append_right _ (List.getElem_mem _)
      rw [knock_mask (P := fun x => x ∈ xs ∨ x ∈ ys.take k) (xs := ys) (by omega) c (fun x hx => h x (List.mem_append_right _ hx) _ hm) fun x hx => .inr hx]
      dsimp only
      rw [mask_congr (P := fun x => (x ∈ xs ∨ x ∈ ys.take k) ∨ x = ys[k]) (P' := fun x => x ∈ xs ∨ x ∈ ys.take (k + 1)) (fun x _ => by rw [take_mem_succ (by omega), or_assoc])]
      have z0 : cnt xs ys[k] = 0 := by
        refine List.countP_eq_zero.mpr fun x hx q => c (.inl ?_)
        rw [← (h x (List.mem_append_left _ hx) _ hm).mp q]
        exact hx
      have z1 : 0 < cnt ys ys[k] := List.countP_pos_iff.mpr ⟨_, List.getElem_mem _, (h _ hm _ hm).mpr rfl⟩
      refine ⟨_, rfl, C.push (hlp.mpr ⟨c, by omega⟩) ?_ (Nat.zero_le _) cnt_le hm⟩
      unfold lineG repLine
      have e : (xs ++ ys).getD (xs.length + k) .none = ys[k] := by rw [List.getD_eq_getElem?_getD, List.getElem?_eq_getElem hi', eW]; rfl
      rw [e, z0]
theorem cd_law {xs ys : List PyData} (h : ∀ x ∈ xs ++ ys, ∀ d ∈ xs ++ ys, PyData.eqv x d = true ↔ x = d) : Cdi xs ys (xs.length + ys.length) (cdF xs ys) := by
  obtain ⟨r1, e1, C1⟩ := cd_loop1 h xs.length (Nat.le_refl _)
  rw [List.take_length] at e1
  obtain ⟨r2, e2, C2⟩ := cd_loop2 h C1 ys.length (Nat.le_refl _)
  unfold cdF cdS
  rw [e1]
  dsimp only
  rw [e2]
  exact C2
theorem lines_law {xs ys : List PyData} (h : ∀ x ∈ xs ++ ys, ∀ d ∈ xs ++ ys, PyData.eqv x d = true ↔ x = d) : (cdF xs ys).map repLine = linesF xs ys := by
  rw [(cd_law h).map]
  unfold linesF
  rw [List.length_append]
end Mine

end
section
open PySem PySem.W PyProof.Rows
set_option maxRecDepth 100000
set_option linter.unusedVariables false
namespace Mine
abbrev Gs (x : Str) : Prop := PyData.strOk x = true
theorem gs_iff {x : Str} : Gs x ↔ ∀ c ∈ cl x, c < 0x110000 := by
  unfold Gs PyData.strOk cl
  rw [← Array.all_toList, List.all_eq_true]
  simp
theorem gs_app {x y : Str} (hx : Gs x) (hy : Gs y) : Gs (x ++ y) := by
  rw [gs_iff] at *
  intro c hc
  rw [cl_app] at hc
  exact (List.mem_append.mp hc).elim (hx c) (hy c)
theorem gs_of (s : String) : Gs (Str.ofString s) := by
  rw [gs_iff, Str.ofString_eq_toList]
  intro c hc
  simp only [cl] at hc
  obtain ⟨ch, _, rfl⟩ := List.mem_map.mp hc
  have := ch.valid
  rcases this with q | q
  · exact Nat.lt_trans q (by decide)
  · exact q.2
theorem gs_slice {x : Str} (l u : Option Int) (hx : Gs x) : Gs (Txt.slice x l u) := by
  show Gs (StrLaws.sliceText x l u)
  unfold StrLaws.sliceText
  split
  · exact hx
  · rw [gs_iff] at *
    intro c hc
    simp only [cl] at hc
    obtain ⟨i, _, e⟩ := List.mem_filterMap.mp hc
    exact hx c (Array.mem_toList_iff.mpr (Array.mem_of_getElem? e))
theorem gs_textFrom : ∀ (ts : List Str) (k : Nat) (acc : Str), (∀ t ∈ ts, Gs t) → Gs acc → Gs (textFrom k acc ts)
  | [], _, _, _, h => h
  | t :: ts, k, acc, h, ha => gs_textFrom ts (k + 1) _ (fun u hu => h u (.tail _ hu)) (gs_app (gs_app ha (gs_of _)) (h t (.head _)))
theorem gs_listText {ts : List Str} (h : ∀ t ∈ ts, Gs t) : Gs (listText ts) := gs_app (gs_textFrom ts 0 _ h (gs_of _)) (gs_of _)
theorem listText_len (ts : List Str) : (listText ts).length ≤ piled ts + 2 := by
  cases ts with
  | nil => decide
  | cons t r =>
    show (textFrom 1 (("[" : Str) ++ (if (0 : Nat) > 0 then ", " else "" : String) ++ t) r ++ ("]" : Str)).length ≤ _
    rw [cat_len, textFrom_length_pos _ _ _ (Nat.succ_pos 0), cat_len, cat_len, piled_cons]
    have e1 : ("[" : Str).length = 1 := rfl
    have e2 : ("]" : Str).length = 1 := rfl
    have e3 : (Str.ofString (if (0 : Nat) > 0 then ", " else "" : String)).length = 0 := rfl
    rw [e1, e2, e3]
    omega
/-- what every thing of this program is -/
structure Tg (d : PyData) : Prop where
  lay : d.canLay0 = true
  dep : d.depth ≤ 2
  kd : Kd d
  wok : Wok d
  len : d.shown.length ≤ 100
  gs : Gs d.shown
theorem all40 {P : Int → Prop} {s : Int} (h0 : 0 ≤ s) (h9 : s < 40) (h : ∀ i : Fin 40, P (i.val : Int)) : P s := by
  have := h ⟨s.toNat, by omega⟩
  simpa [Int.toNat_of_nonneg h0] using this
theorem thing_dec {k : Int} (h0 : 0 ≤ k) (h1 : k < 40) : (thing k).canLay0 = true ∧ (thing k).depth ≤ 2 ∧ (thing k).shown.length ≤ 100 ∧ Gs (thing k).shown :=
  all40 (P := fun k => (thing k).canLay0 = true ∧ (thing k).depth ≤ 2 ∧ (thing k).shown.length ≤ 100 ∧ Gs (thing k).shown) h0 h1 (by decide +kernel)
theorem wok_digit {sz : Int} (h0 : 0 ≤ sz) (h9 : sz ≤ 9) : Wok (.int sz) := by
  unfold Wok
  exact .inr ⟨h0, by omega⟩
theorem thingD_wok {kd sz : Int} (h0 : 0 ≤ sz) (h9 : sz ≤ 9) : Kd (thingD kd sz) ∧ Wok (thingD kd sz) := by
  unfold thingD
  split
  · refine ⟨trivial, ?_⟩
    unfold Wok
    exact .inl (all10 (P := fun sz => (sz - 4) * 10 ^ sz.toNat ∈ nums) h0 h9 (by decide +kernel))
  split
  · refine ⟨trivial, ?_⟩
    unfold Wok
    exact all10 (P := fun sz => reprText (Txt.mul (Txt.item "abcdefghij" sz) (cntL.getD sz.toNat 0)) = "'" ++ Txt.mul (Txt.item "abcdefghij" sz) (cntL.getD sz.toNat 0) ++ "'" ∧ (Txt.mul (Txt.item "abcdefghij" sz) (cntL.getD sz.toNat 0)).length ≤ 1000) h0 h9 (by decide +kernel)
  split
  · refine ⟨trivial, ?_⟩
    unfold Wok
    refine ⟨wokA_of fun d hd => ?_, ?_⟩
    · rw [List.eq_of_mem_replicate hd]; exact wok_digit h0 h9
    · exact all10 (P := fun sz => piled (PyData.shownAll (List.replicate (sz.fmod 3).toNat (.int sz))) ≤ 100000) h0 h9 (by decide +kernel)
  · refine ⟨trivial, ?_⟩
    unfold Wok
    refine ⟨wokA_of fun d hd => ?_, ?_⟩
    · rcases List.mem_cons.mp hd with rfl | hd
      · exact wok_digit h0 h9
      · rcases List.mem_singleton.mp hd with rfl
        unfold Wok
        refine ⟨wokA_of fun d hd => ?_, ?_⟩
        · rw [List.eq_of_mem_replicate hd]; exact wok_digit h0 h9
        · exact all10 (P := fun sz => piled (PyData.shownAll (List.replicate (sz.fmod 2).toNat (.int sz))) ≤ 100000) h0 h9 (by decide +kernel)
    · exact all10 (P := fun sz => piled (PyData.shownAll [.int sz, .list (List.replicate (sz.fmod 2).toNat (.int sz))]) ≤ 100000) h0 h9 (by decide +kernel)
theorem tg_thing {k : Int} (h0 : 0 ≤ k) (h1 : k < 40) : Tg (thing k) := by
  obtain ⟨a1, a2, a3, a4⟩ := thing_dec h0 h1
  obtain ⟨b1, b2⟩ := thingD_wok (kd := k.fmod 4) (sz := k.fdiv 4) (by rw [Int.fdiv_eq_ediv_of_nonneg _ (by omega)]; omega) (by rw [Int.fdiv_eq_ediv_of_nonneg _ (by omega)]; omega)
  exact ⟨a1, a2, b1, b2, a3, a4⟩
theorem Tg.okd {d : PyData} (h : Tg d) : Okd d := ⟨⟨h.lay, Nat.le_trans h.dep (by decide)⟩, h.kd⟩
theorem Tg.sd {d : PyData} (h : Tg d) : Sd d := ⟨h.lay, h.wok⟩
theorem piled_tg : ∀ {xs : List PyData}, (∀ d ∈ xs, Tg d) → piled (PyData.shownAll xs) ≤ 102 * xs.length
  | [], _ => Nat.zero_le _
  | x :: xs, h => by
    have := piled_tg (xs := xs) fun d hd => h d (.tail _ hd)
    have := (h x (.head _)).len
    unfold PyData.shownAll
    rw [piled_cons, List.length_cons]
    omega
/-- what a row of things is -/
theorem row_ok {xs : List PyData} (h : ∀ d ∈ xs, Tg d) (hl : xs.length ≤ 10) : (PyData.list xs).depth ≤ 5 ∧ Wok (.list xs) ∧ (PyData.list xs).shown.length ≤ 100000 := by
  have hp := piled_tg h
  refine ⟨?_, ?_, ?_⟩
  · unfold PyData.depth
    have := depthAll_le (k := 2) fun d hd => (h d hd).dep
    omega
  · unfold Wok
    exact ⟨wokA_of fun d hd => (h d hd).wok, by omega⟩
  · have := listText_len (PyData.shownAll xs)
    unfold PyData.shown
    omega
theorem row_gs {xs : List PyData} (h : ∀ d ∈ xs, Tg d) : Gs (PyData.list xs).shown := by
  unfold PyData.shown
  rw [shownAll_map]
  refine gs_listText fun t ht => ?_
  obtain ⟨d, hd, rfl⟩ := List.mem_map.mp ht
  exact (h d hd).gs
end Mine

end
section
open PySem PySem.W PyProof.Rows
set_option maxRecDepth 100000
set_option linter.unusedVariables false
namespace Mine
theorem gs_chars (i : Int) : Gs (chars i) := gs_app (gs_app (gs_of _) (gs_of _)) (gs_of _)
theorem gs_short {y0 : Str} {ys : List Str} {M K : Int} (h0 : Gs y0) (h : ∀ y ∈ ys, Gs y) : ∀ y ∈ shortL y0 ys M K, Gs y := fun y hy => by
  unfold shortL at hy
  split at hy
  · exact h y hy
  split at hy
  · obtain ⟨z, hz, rfl⟩ := List.mem_map.mp hy
    exact gs_app (gs_app (gs_slice _ _ (h z hz)) (gs_chars _)) (gs_slice _ _ (h z hz))
  · rw [List.map_map] at hy
    obtain ⟨z, hz, rfl⟩ := List.mem_map.mp hy
    refine gs_app ?_ ?_
    · unfold frontF
      split
      · exact gs_app (gs_app (gs_slice _ _ (gs_slice _ _ h0)) (gs_chars _)) (gs_slice _ _ (gs_slice _ _ h0))
      · exact gs_slice _ _ h0
    · unfold endF
      have := gs_slice (some K) none (h z hz)
      split
      · exact this
      · exact gs_app (gs_app (gs_slice _ _ this) (gs_chars _)) (gs_slice _ _ this)
theorem lay_strs {ys : List Str} (h : ∀ y ∈ ys, Gs y) : PyData.canLayAll0 (ys.map .str) = true := canLayAll_iff.mpr fun d hd => by
  obtain ⟨y, hy, rfl⟩ := List.mem_map.mp hd
  unfold PyData.canLay0
  exact h y hy
theorem dep_strs {ys : List Str} : PyData.depthAll (ys.map .str) ≤ 0 := depthAll_le fun d hd => by
  obtain ⟨y, hy, rfl⟩ := List.mem_map.mp hd
  unfold PyData.depth
  exact Nat.le_refl _
theorem short_pl {rows : List PyData} (h : ∀ d ∈ rows, Gs d.shown) : (shortOf rows).canLay0 = true ∧ (shortOf rows).depth ≤ 1 := by
  have hg : ∀ y ∈ rows.map PyData.shown, Gs y := fun y hy => by
    obtain ⟨d, hd, rfl⟩ := List.mem_map.mp hy
    exact h d hd
  unfold shortOf
  cases q : rows.map PyData.shown with
  | nil => exact ⟨rfl, Nat.zero_le _⟩
  | cons y0 ys' =>
    rw [q] at hg
    dsimp only
    constructor
    · unfold PyData.canLay0
      exact lay_strs (gs_short (hg y0 (.head _)) hg)
    · unfold PyData.depth
      exact Nat.succ_le_succ dep_strs
theorem gs_told {y : Str} (h : Gs y) : Gs (told y) := by
  unfold told
  split
  · exact h
  · exact gs_app (gs_slice _ _ h) (gs_of _)
theorem gs_lineT {a b : Nat} {y : Str} (h : Gs y) : Gs (lineT a b y) :=
  gs_app (gs_app (gs_app (gs_app (gs_app (gs_of _) (gs_of _)) (gs_of _)) (gs_of _)) (gs_of _)) h
theorem lines_pl {A B : List PyData} (h : ∀ d ∈ A ++ B, Tg d) : (PyData.list (linesF A B)).canLay0 = true ∧ (PyData.list (linesF A B)).depth ≤ 1 := by
  have hs : ∀ d ∈ linesF A B, ∃ y, d = .str y ∧ Gs y := fun d hd => by
    unfold linesF pickN at hd
    obtain ⟨i, hi, rfl⟩ := List.mem_map.mp hd
    have := List.mem_range.mp (List.mem_filter.mp hi).1
    exact ⟨_, rfl, gs_lineT (gs_told (h _ (getD_mem' this)).gs)⟩
  constructor
  · unfold PyData.canLay0
    refine canLayAll_iff.mpr fun d hd => ?_
    obtain ⟨y, rfl, hy⟩ := hs d hd
    unfold PyData.canLay0
    exact hy
  · unfold PyData.depth
    refine Nat.succ_le_succ (depthAll_le fun d hd => ?_)
    obtain ⟨y, rfl, hy⟩ := hs d hd
    unfold PyData.depth
    exact Nat.le_refl _
theorem pl_list {xs : List PyData} {k : Nat} (h : ∀ d ∈ xs, d.canLay0 = true ∧ d.depth ≤ k) : (PyData.list xs).canLay0 = true ∧ (PyData.list xs).depth ≤ k + 1 := by
  constructor
  · unfold PyData.canLay0
    exact canLayAll_iff.mpr fun d hd => (h d hd).1
  · unfold PyData.depth
    exact Nat.succ_le_succ (depthAll_le fun d hd => (h d hd).2)
theorem pl_str {y : Str} (h : Gs y) : (PyData.str y).canLay0 = true ∧ (PyData.str y).depth ≤ 5 := by
  constructor
  · unfold PyData.canLay0; exact h
  · unfold PyData.depth; exact Nat.zero_le _
theorem law_of {A B C : List PyData} (hA : ∀ d ∈ A, Tg d) (hB : ∀ d ∈ B, Tg d) (hC : ∀ d ∈ C, Tg d) (la : A.length ≤ 10) (lb : B.length ≤ 10) (lc : C.length ≤ 10) : LawOk A B C := by
  have hAB : ∀ d ∈ A ++ B, Tg d := fun d hd => (List.mem_append.mp hd).elim (hA d) (hB d)
  have hM : ∀ d ∈ beyondF B.reverse A, Tg d := fun d hd => hB d (List.mem_reverse.mp (beyond_sub d hd))
  have hL : ∀ d ∈ beyondF A B, Tg d := fun d hd => hA d (beyond_sub d hd)
  have lm : (beyondF B.reverse A).length ≤ 10 := Nat.le_trans beyond_len (by rw [List.length_reverse]; exact lb)
  have ll : (beyondF A B).length ≤ 10 := Nat.le_trans beyond_len la
  have rA := row_ok hA la
  have rB := row_ok hB lb
  have rC := row_ok hC lc
  have rM := row_ok hM lm
  have rL := row_ok hL ll
  have gA := row_gs hA
  have gB := row_gs hB
  have gC := row_gs hC
  have gM := row_gs hM
  have gL := row_gs hL
  have hEq : ∀ x ∈ A ++ B, ∀ d ∈ A ++ B, PyData.eqv x d = true ↔ x = d := fun x hx d hd => (hAB x hx).sd.eqv (hAB d hd).sd
  obtain ⟨em, el⟩ := miss_eq (A := A) (B := B) (fun d hd => (hA d hd).sd) (fun d hd => (hB d hd).sd)
  have w1 : ∀ d ∈ [PyData.list A], d.depth ≤ 5 ∧ Wok d ∧ d.shown.length ≤ 100000 := fun d hd => by
    rcases List.mem_singleton.mp hd with rfl; exact rA
  have w2 : ∀ d ∈ [PyData.list A, .list B], d.depth ≤ 5 ∧ Wok d ∧ d.shown.length ≤ 100000 := fun d hd => by
    rcases List.mem_cons.mp hd with rfl | hd
    · exact rA
    rcases List.mem_singleton.mp hd with rfl; exact rB
  have w3 : ∀ d ∈ [PyData.list B, .list C, .list A], d.depth ≤ 5 ∧ Wok d ∧ d.shown.length ≤ 100000 := fun d hd => by
    rcases List.mem_cons.mp hd with rfl | hd
    · exact rB
    rcases List.mem_cons.mp hd with rfl | hd
    · exact rC
    rcases List.mem_singleton.mp hd with rfl; exact rA
  have w4 : ∀ d ∈ [PyData.list (beyondF B.reverse A), .list (beyondF A B)], d.depth ≤ 5 ∧ Wok d ∧ d.shown.length ≤ 100000 := fun d hd => by
    rcases List.mem_cons.mp hd with rfl | hd
    · exact rM
    rcases List.mem_singleton.mp hd with rfl; exact rL
  have pl : (toldD A B C).canLay0 = true ∧ (toldD A B C).depth ≤ 10 := by
    unfold toldD
    refine pl_list (k := 9) fun d hd => ?_
    rcases List.mem_cons.mp hd with rfl | hd
    · have : ∀ d ∈ [shortOf [.list A], shortOf [.list A, .list B], shortOf [.list B, .list C, .list A], shortOf [.list (beyondF B.reverse A), .list (beyondF A B)]], d.canLay0 = true ∧ d.depth ≤ 1 := fun d hd => by
        rcases List.mem_cons.mp hd with rfl | hd
        · refine short_pl fun d hd => ?_
          rcases List.mem_singleton.mp hd with rfl; exact gA
        rcases List.mem_cons.mp hd with rfl | hd
        · refine short_pl fun d hd => ?_
          rcases List.mem_cons.mp hd with rfl | hd
          · exact gA
          rcases List.mem_singleton.mp hd with rfl; exact gB
        rcases List.mem_cons.mp hd with rfl | hd
        · refine short_pl fun d hd => ?_
          rcases List.mem_cons.mp hd with rfl | hd
          · exact gB
          rcases List.mem_cons.mp hd with rfl | hd
          · exact gC
          rcases List.mem_singleton.mp hd with rfl; exact gA
        rcases List.mem_singleton.mp hd with rfl
        refine short_pl fun d hd => ?_
        rcases List.mem_cons.mp hd with rfl | hd
        · exact gM
        rcases List.mem_singleton.mp hd with rfl; exact gL
      have := pl_list this
      exact ⟨this.1, Nat.le_trans this.2 (by decide)⟩
    rcases List.mem_cons.mp hd with rfl | hd
    · have := lines_pl hAB
      exact ⟨this.1, Nat.le_trans this.2 (by decide)⟩
    rcases List.mem_cons.mp hd with rfl | hd
    · have := pl_str gM
      exact ⟨this.1, Nat.le_trans this.2 (by decide)⟩
    rcases List.mem_singleton.mp hd with rfl
    have := pl_str gL
    exact ⟨this.1, Nat.le_trans this.2 (by decide)⟩
  have cd := cd_law hEq
  refine ⟨fun d hd => (hA d hd).okd, fun d hd => (hB d hd).okd, fun d hd => ⟨Nat.le_trans (hAB d hd).dep (by decide), (hAB d hd).wok, Nat.le_trans (hAB d hd).len (by decide)⟩, la, lb,
    shortOk_of (by simp) (by simp) w1, shortOk_of (by simp) (by simp) w2, shortOk_of (by simp) (by simp) w3, shortOk_of (by simp) (by simp) w4, ?_, ?_, ⟨pl.1, Nat.le_trans pl.2 (by decide)⟩, PySem.SeqAt.eqv_refl _ pl.1⟩
  · refine ⟨fun d hd => (hA d hd).okd, fun d hd => (hB d hd).okd, by omega, by omega, by omega, csrOk_of (.inl rfl) w1, csrOk_of (.inr (.inl rfl)) w2, csrOk_of (.inr (.inr rfl)) w3, ?_, fun r hr => ?_, ?_⟩
    · rw [em, el]; exact csrOk_of (.inr (.inl rfl)) w4
    · obtain ⟨b1, b2, b3⟩ := cd.bd r hr
      have t := hAB _ b3
      exact ⟨by omega, by omega, t.wok, Nat.le_trans t.dep (by decide), Nat.le_trans t.len (by decide)⟩
    · have := cd.len; omega
  · unfold repD toldD
    rw [em, el, lines_law hEq, csrD_eq (by simp), csrD_eq (by simp), csrD_eq (by simp), csrD_eq (by simp)]
theorem law_ok (ns : List Int) : LawOk (actF (cellsF ns)) (expF (cellsF ns)) (comF (cellsF ns)) := by
  have hcs : ∀ c ∈ cellsF ns, 0 ≤ c ∧ c < 120 := fun c hc => by
    unfold cellsF at hc
    split at hc
    · simp at hc; omega
    · obtain ⟨k, _, rfl⟩ := List.mem_map.mp hc
      exact ⟨Int.fmod_nonneg_of_pos k (by omega), Int.fmod_lt_of_pos k (by omega)⟩
  have hcl : (cellsF ns).length ≤ 10 := by
    unfold cellsF
    split
    · decide
    · rw [List.length_map, List.length_take]; omega
  generalize cellsF ns = cs at *
  have hf : ∀ (p : Int → Bool), (∀ d ∈ (cs.filter p).map fun c => thing (c.fdiv 3), Tg d) ∧ ((cs.filter p).map fun c => thing (c.fdiv 3)).length ≤ 10 := fun p => by
    refine ⟨fun d hd => ?_, ?_⟩
    · obtain ⟨c, hc, rfl⟩ := List.mem_map.mp hd
      have ht := thing_arg (hcs c (List.mem_filter.mp hc).1)
      exact tg_thing ht.1 ht.2
    · rw [List.length_map]
      exact Nat.le_trans (List.length_filter_le _ _) hcl
  exact law_of (hf _).1 (hf _).1 (hf _).1 (hf _).2 (hf _).2 (hf _).2
theorem law_holds : PySem.Challenge.rw_ox0165_01.Holds := law_top law_ok
end Mine

end
theorem PySem.Challenge.cw_ox0165_01_holds : PySem.Challenge.rw_ox0165_01.Holds := by
  exact Mine.law_holds
