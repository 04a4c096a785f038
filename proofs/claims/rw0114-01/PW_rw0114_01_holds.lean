import PyProof.Rows.All
import Wide.All
import OpenK.AllK
import Wide.FinOn
import Lean
import PySem.Challenge.RW_rw0114_01
open PySem PySem.W PyProof.Rows
set_option Elab.async false
set_option maxRecDepth 100000
set_option maxHeartbeats 8000000
set_option autoImplicit false
set_option linter.unusedVariables false
namespace Mine
noncomputable section
abbrev Pr := Heap → Value → Prop
def Mono (P : Pr) : Prop := ∀ h h' v, h.StaysIn h' → P h v → P h' v
def D (d : PyData) : Pr := fun h v => ∃ as, Reads h v d as
def Is (v : Value) : Pr := fun _ x => x = v
theorem D_mono (d : PyData) : Mono (D d) := fun _ _ _ hk ⟨as, r⟩ => ⟨as, Reads.keeps hk r⟩
theorem Is_mono (v : Value) : Mono (Is v) := fun _ _ _ _ e => e
structure Cx where
  prog : Program
  w : World
  H : Heap
  mg : Str → Option Value
  mb : Str → Option Value
abbrev Cx.M (c : Cx) : Model := model c.prog c.w
structure Cx.Ok (c : Cx) : Prop where
  g : c.H.Ns mainGlobals c.mg
  b : c.H.Ns builtinsNs c.mb
  lim : c.H.NoLimit
structure Kp (g : Bool) (s s' : Shared) : Prop where
  heap : s.heap.StaysIn s'.heap
  os : s'.os = s.os
  drawn : s'.drawn = s.drawn
  gens : ∀ (i : Nat) (y : GenState), s.gens[i]? = some y → s'.gens[i]? = some y
  bare : AllBare s.gens → AllBare s'.gens
  same : g = false → s'.gens = s.gens
theorem Kp.refl (g : Bool) (s : Shared) : Kp g s s := ⟨fun _ _ e => e, rfl, rfl, fun _ _ e => e, id, fun _ => rfl⟩
theorem Kp.trans {g : Bool} {s s₁ s₂ : Shared} (a : Kp g s s₁) (b : Kp g s₁ s₂) : Kp g s s₂ :=
  ⟨fun x o e => b.heap x o (a.heap x o e), b.os.trans a.os, b.drawn.trans a.drawn, fun i y e => b.gens i y (a.gens i y e), fun h => b.bare (a.bare h), fun h => (b.same h).trans (a.same h)⟩
theorem Kp.up {g : Bool} {s s' : Shared} (a : Kp false s s') : Kp g s s' := ⟨a.heap, a.os, a.drawn, a.gens, a.bare, fun _ => a.same rfl⟩
theorem Kp.tk {g : Bool} (s : Shared) (t : Nat) : Kp g s { s with toks := t } := ⟨fun _ _ e => e, rfl, rfl, fun _ _ e => e, id, fun _ => rfl⟩
theorem Kp.hp {g : Bool} {s : Shared} {h' : Heap} (t : Nat) (hk : s.heap.StaysIn h') : Kp g s { s with heap := h', toks := t } := ⟨hk, rfl, rfl, fun _ _ e => e, id, fun _ => rfl⟩
theorem Kp.hp' {g : Bool} {s : Shared} {h' : Heap} (hk : s.heap.StaysIn h') : Kp g s { s with heap := h' } := ⟨hk, rfl, rfl, fun _ _ e => e, id, fun _ => rfl⟩
theorem Kp.push {g : Bool} (s : Shared) (o : Obj) : Kp g s { s with heap := s.heap.push o } := Kp.hp' fun _ _ e => Heap.get?_push_of_some _ e
theorem Kp.of {g : Bool} {s s' : Shared} (k : Keeps s s') : Kp g s s' := by
  obtain ⟨h', tk, rfl, hk⟩ := k
  exact Kp.hp tk hk
theorem Kp.keeps {s s' : Shared} (k : Kp false s s') : Keeps s s' := by
  obtain ⟨h, g, d, t, o⟩ := s
  obtain ⟨h', g', d', t', o'⟩ := s'
  obtain ⟨a, b, c, _, _, f⟩ := k
  dsimp only at a b c f
  subst b c
  rw [f rfl]
  exact ⟨h', t', rfl, a⟩
def Room (k : Nat) (A : Around) : Prop := A.handled = none ∧ A.depth + k < recursionLimit ∧ A.units + 10 * k < cLine
theorem Room.le {k k' : Nat} {A : Around} (r : Room k A) (h : k' ≤ k) : Room k' A := ⟨r.1, by have := r.2.1; omega, by have := r.2.2; omega⟩
theorem Room.deeper {k : Nat} {A : Around} (r : Room (k + 1) A) (env : Env) : Room k (A.deeper env) :=
  ⟨r.1, by show A.depth + 1 + k < _; have := r.2.1; omega, by show A.units + 3 + 10 * k < _; have := r.2.2; omega⟩
theorem Room.depth {k : Nat} {A : Around} (r : Room k A) : A.depth < recursionLimit := by have := r.2.1; omega
theorem hide_mono {Y : List Addr} {h h' : Heap} (hk : ∀ b o, b ∉ Y → h.get? b = some o → h'.get? b = some o) : (hideAll h Y).StaysIn (hideAll h' Y) := fun b o e => by
  by_cases q : b ∈ Y
  · rw [hideAll_none Y q] at e; cases e
  · exact hideAll_get Y (hk b o q (of_hideAll Y e)) q
theorem hide_stays {Y : List Addr} {h h' : Heap} (hk : h.StaysIn h') : (hideAll h Y).StaysIn (hideAll h' Y) := hide_mono fun b o _ e => hk b o e
theorem hide_anti {X Y : List Addr} {h : Heap} (hs : ∀ b, b ∈ X → b ∈ Y) : (hideAll h Y).StaysIn (hideAll h X) := fun b o e => by
  have n : b ∉ Y := fun q => by rw [hideAll_none Y q] at e; cases e
  exact hideAll_get X (of_hideAll Y e) fun q => n (hs b q)
theorem hide_le {Y : List Addr} {h : Heap} : (hideAll h Y).StaysIn h := fun _ _ e => of_hideAll Y e
def Lk (h : Heap) (env : Env) (x : Str) (v : Value) : Prop :=
  (env.kindOf x = some .local ∧ ∃ m, h.Ns env.locals m ∧ m x = some v) ∨ (env.kindOf x = some .cell ∧ ∃ a, env.cells.lookup x = some a ∧ h.IsCell a (some v))
theorem Lk.keeps {h h' : Heap} {env : Env} {x : Str} {v : Value} (l : Lk h env x v) (hk : h.StaysIn h') : Lk h' env x v := by
  rcases l with ⟨a, m, b, e⟩ | ⟨a, q, b, e⟩
  · exact .inl ⟨a, m, b.keeps hk, e⟩
  · exact .inr ⟨a, q, b, e.keeps hk⟩
structure RdSt (c : Cx) (env : Env) (V : List (Str × Pr)) (Y : List Addr) (s : Shared) : Prop where
  kind : env.scope.kind = .function
  eg : env.globals = mainGlobals
  eb : env.builtins = builtinsNs
  ok : c.Ok
  base : c.H.StaysIn s.heap
  ex : ∀ b ∈ Y, (s.heap.get? b).isSome = true
  look : ∀ x P, (x, P) ∈ V → ∃ v, Lk s.heap env x v ∧ P (hideAll s.heap Y) v ∧ Mono P
theorem RdSt.kp {c : Cx} {env : Env} {V : List (Str × Pr)} {Y : List Addr} {s s' : Shared} {g : Bool} (r : RdSt c env V Y s) (k : Kp g s s') : RdSt c env V Y s' :=
  ⟨r.kind, r.eg, r.eb, r.ok, fun b o e => k.heap b o (r.base b o e), fun b hb => by
    obtain ⟨o, e⟩ := Option.isSome_iff_exists.mp (r.ex b hb)
    rw [k.heap b o e]; rfl, fun x P hx => by
    obtain ⟨v, l, p, m⟩ := r.look x P hx
    exact ⟨v, l.keeps k.heap, m _ _ _ (hide_stays k.heap) p, m⟩⟩
theorem RdSt.fresh {c : Cx} {env : Env} {V : List (Str × Pr)} {Y : List Addr} {s : Shared} (r : RdSt c env V Y s) : s.heap.objs.size ∉ Y := fun q => by
  obtain ⟨o, e⟩ := Option.isSome_iff_exists.mp (r.ex _ q)
  exact Nat.lt_irrefl _ (Heap.lt_size e)
theorem RdSt.freshAt {c : Cx} {env : Env} {V : List (Str × Pr)} {Y : List Addr} {s : Shared} (r : RdSt c env V Y s) {a : Addr} (ha : s.heap.get? a = none) : a ∉ Y := fun q => by
  obtain ⟨o, e⟩ := Option.isSome_iff_exists.mp (r.ex _ q)
  rw [ha] at e; cases e
def EvOK (g : Bool) (k : Nat) (c : Cx) (env : Env) (V : List (Str × Pr)) (e : Expr) (P : Pr) : Prop :=
  ∀ (A : Around) (Y : List Addr) (s : Shared) (Q : Value → Shared → Prop) (E : Value → Shared → Prop), Room k A → RdSt c env V Y s →
    (∀ v s', Kp g s s' → P (hideAll s'.heap Y) v → Q v s') → wpAny c.M A (eval e env) Q E s
def TrOK (g : Bool) (k : Nat) (c : Cx) (env : Env) (V : List (Str × Pr)) (e : Expr) (b : Bool) : Prop :=
  ∀ (A : Around) (Y : List Addr) (s : Shared) (Q : Bool → Shared → Prop) (E : Value → Shared → Prop), Room k A → RdSt c env V Y s →
    (∀ s', Kp g s s' → Q b s') → wpAny c.M A (isTrue e env (eval e env)) Q E s
def AlOK (g : Bool) (k : Nat) (c : Cx) (env : Env) (V : List (Str × Pr)) (op : BoolOp) (es : List Expr) (b : Bool) : Prop :=
  ∀ (A : Around) (Y : List Addr) (s : Shared) (Q : Bool → Shared → Prop) (E : Value → Shared → Prop), Room k A → RdSt c env V Y s →
    (∀ s', Kp g s s' → Q b s') → wpAny c.M A (allTrue op es env) Q E s
inductive All2 : List Pr → Heap → List Value → Prop
  | nil {h} : All2 [] h []
  | cons {P Ps h v vs} : P h v → All2 Ps h vs → All2 (P :: Ps) h (v :: vs)
def ArOK (g : Bool) (k : Nat) (c : Cx) (env : Env) (V : List (Str × Pr)) (es : List (Bool × Sem Value)) (Ps : List Pr) : Prop :=
  ∀ (A : Around) (Y : List Addr) (s : Shared) (Q : List Value → Shared → Prop) (E : Value → Shared → Prop), Room k A → RdSt c env V Y s →
    (∀ vs s', Kp g s s' → All2 Ps (hideAll s'.heap Y) vs → Q vs s') → wpAny c.M A (spliced es) Q E s
def CallOK (g : Bool) (k : Nat) (c : Cx) (f : Value) (Ps : List Pr) (P : Pr) : Prop :=
  ∀ (A : Around) (Y : List Addr) (s : Shared) (vs : List Value) (Q : Value → Shared → Prop) (E : Value → Shared → Prop), Room k A → c.Ok → c.H.StaysIn s.heap →
    (∀ b ∈ Y, (s.heap.get? b).isSome = true) → All2 Ps (hideAll s.heap Y) vs → (∀ v s', Kp g s s' → P (hideAll s'.heap Y) v → Q v s') → wpAny c.M A (call f vs) Q E s
theorem CallOK.le {g : Bool} {k k' : Nat} {c : Cx} {f : Value} {Ps : List Pr} {P : Pr} (h : CallOK g k c f Ps P) (hk : k ≤ k') : CallOK g k' c f Ps P :=
  fun A Y s vs Q E r => h A Y s vs Q E (r.le hk)
theorem CallOK.up {g : Bool} {k : Nat} {c : Cx} {f : Value} {Ps : List Pr} {P : Pr} (h : CallOK false k c f Ps P) : CallOK g k c f Ps P :=
  fun A Y s vs Q E r o b e a q => h A Y s vs Q E r o b e a fun v s' kp p => q v s' kp.up p
theorem EvOK.up {g : Bool} {k : Nat} {c : Cx} {env : Env} {V : List (Str × Pr)} {e : Expr} {P : Pr} (h : EvOK false k c env V e P) : EvOK g k c env V e P :=
  fun A Y s Q E r o q => h A Y s Q E r o fun v s' kp p => q v s' kp.up p
theorem TrOK.up {g : Bool} {k : Nat} {c : Cx} {env : Env} {V : List (Str × Pr)} {e : Expr} {b : Bool} (h : TrOK false k c env V e b) : TrOK g k c env V e b :=
  fun A Y s Q E r o q => h A Y s Q E r o fun s' kp => q s' kp.up
theorem EvOK.mono {g : Bool} {k : Nat} {c : Cx} {env : Env} {V : List (Str × Pr)} {e : Expr} {P P' : Pr} (h : EvOK g k c env V e P) (hp : ∀ h v, P h v → P' h v) : EvOK g k c env V e P' :=
  fun A Y s Q E r o q => h A Y s Q E r o fun v s' kp p => q v s' kp (hp _ _ p)
theorem All2.keeps {Ps : List Pr} {h h' : Heap} {vs : List Value} (a : All2 Ps h vs) (hm : ∀ P ∈ Ps, Mono P) (hk : h.StaysIn h') : All2 Ps h' vs := by
  induction a with
  | nil => exact .nil
  | cons p _ ih => exact .cons (hm _ (.head _) _ _ _ hk p) (ih (fun P q => hm P (.tail _ q)) hk)
section
variable {g : Bool} {k : Nat} {c : Cx} {env : Env} {V : List (Str × Pr)}
theorem ev_name {x : Str} {P : Pr} {pos : Pos} (hx : (x, P) ∈ V) (hd : (x == ("__debug__" : Str)) = false := by decide) : EvOK g k c env V (.Name x pos) P := fun A Y s Q E _ r q => by
  obtain ⟨v, l, p, _⟩ := r.look x P hx
  refine wpAny_Name ?_ hd
  rcases l with ⟨a, m, b, e⟩ | ⟨a, q', b, e⟩
  · exact wpAny_loadName_local r.kind a b e (q v s (.refl ..) p)
  · exact wpAny_loadName_cell r.kind a b e (q v s (.refl ..) p)
theorem ev_glob {x : Str} {v : Value} {pos : Pos} (hk : env.kindOf x = some .globalImplicit) (hv : c.mg x = some v) (hd : (x == ("__debug__" : Str)) = false := by decide) :
    EvOK g k c env V (.Name x pos) (Is v) := fun A Y s Q E _ r q =>
  Calls.Name_function_global r.kind hk (Calls.loadGlobal_global (by rw [r.eg]; exact r.ok.g.keeps r.base) hv (q v s (.refl ..) rfl)) hd
theorem ev_built {x : Str} {v : Value} {pos : Pos} (hk : env.kindOf x = some .globalImplicit) (hm : c.mg x = none) (hv : c.mb x = some v) (hd : (x == ("__debug__" : Str)) = false := by decide) :
    EvOK g k c env V (.Name x pos) (Is v) := fun A Y s Q E _ r q =>
  Calls.Name_function_global r.kind hk (Calls.loadGlobal_builtin (by rw [r.eg]; exact r.ok.g.keeps r.base) hm (by rw [r.eb]; exact r.ok.b.keeps r.base) hv (q v s (.refl ..) rfl)) hd
theorem D_int {i : Int} {h : Heap} {v : Value} : D (.int i) h v ↔ ∃ t, v = .int i t := ⟨fun ⟨_, r⟩ => by cases r; exact ⟨_, rfl⟩, fun ⟨t, e⟩ => e ▸ ⟨_, .int i t⟩⟩
theorem D_str {x : Str} {h : Heap} {v : Value} : D (.str x) h v ↔ ∃ t, v = .str x t := ⟨fun ⟨_, r⟩ => by cases r; exact ⟨_, rfl⟩, fun ⟨t, e⟩ => e ▸ ⟨_, .str x t⟩⟩
theorem D_bool {b : Bool} {h : Heap} {v : Value} : D (.bool b) h v ↔ v = .bool b := ⟨fun ⟨_, r⟩ => by cases r; rfl, fun e => e ▸ ⟨_, .bool b⟩⟩
theorem D_none {h : Heap} {v : Value} : D .none h v ↔ v = .none := ⟨fun ⟨_, r⟩ => by cases r; rfl, fun e => e ▸ ⟨_, .none⟩⟩
theorem ev_int {i : Int} {n : Nat} {pos : Pos} : EvOK g k c env V (.Constant (.int i) n pos) (D (.int i)) := fun A Y s Q E _ r q =>
  wpAny_Constant_int (q _ _ (Kp.tk s _) (D_int.mpr ⟨_, rfl⟩))
theorem ev_str {x : Str} {n : Nat} {pos : Pos} : EvOK g k c env V (.Constant (.str x) n pos) (D (.str x)) := fun A Y s Q E _ r q =>
  Calls.Constant_str (q _ _ (Kp.tk s _) (D_str.mpr ⟨_, rfl⟩))
theorem ev_bool {b : Bool} {n : Nat} {pos : Pos} : EvOK g k c env V (.Constant (.bool b) n pos) (D (.bool b)) := fun A Y s Q E _ r q =>
  Constant_bool (q _ _ (Kp.refl ..) (D_bool.mpr rfl))
theorem ev_none {n : Nat} {pos : Pos} : EvOK g k c env V (.Constant .none n pos) (D .none) := fun A Y s Q E _ r q =>
  Constant_none (q _ _ (Kp.refl ..) (D_none.mpr rfl))
theorem ev_bin {l r : Expr} {op : Operator} {pos : Pos} {P1 P2 P : Pr} (h1 : EvOK g k c env V l P1) (h2 : EvOK g k c env V r P2) (m1 : Mono P1)
    (h : ∀ (A : Around) (Y : List Addr) (s : Shared) (a b : Value) (Q E : Value → Shared → Prop), Room k A → RdSt c env V Y s → P1 (hideAll s.heap Y) a → P2 (hideAll s.heap Y) b →
      (∀ v s', Kp g s s' → P (hideAll s'.heap Y) v → Q v s') → wpAny c.M A (binaryOp op a b) Q E s) : EvOK g k c env V (.BinOp l op r pos) P := fun A Y s Q E rm st q =>
  wpAny_BinOp (h1 A Y s _ E rm st fun a s₁ k₁ p₁ => h2 A Y s₁ _ E rm (st.kp k₁) fun b s₂ k₂ p₂ => h A Y s₂ a b _ E rm ((st.kp k₁).kp k₂) (m1 _ _ _ (hide_stays k₂.heap) p₁) p₂
    fun v s' k₃ p => q v s' ((k₁.trans k₂).trans k₃) p)
theorem tr_cmp {l r : Expr} {op : CmpOp} {pos : Pos} {P1 P2 : Pr} {b : Bool} (h1 : EvOK g k c env V l P1) (h2 : EvOK g k c env V r P2) (m1 : Mono P1)
    (h : ∀ (A : Around) (Y : List Addr) (s : Shared) (x y : Value) (Q E : Value → Shared → Prop), Room k A → RdSt c env V Y s → P1 (hideAll s.heap Y) x → P2 (hideAll s.heap Y) y →
      (∀ s', Kp g s s' → Q (.bool b) s') → wpAny c.M A (compareOp op x y) Q E s) (hm : behindInMarks op r = false := by with_unfolding_all rfl) : TrOK g k c env V (.Compare l [op] [r] pos) b := fun A Y s Q E rm st q =>
  wpAny_isTrue_Compare1 (h1 A Y s _ E rm st fun x s₁ k₁ p₁ => h2 A Y s₁ _ E rm (st.kp k₁) fun y s₂ k₂ p₂ => h A Y s₂ x y _ E rm ((st.kp k₁).kp k₂) (m1 _ _ _ (hide_stays k₂.heap) p₁) p₂
    fun s' k₃ => wpAny_truthy_bool (q s' ((k₁.trans k₂).trans k₃))) hm
theorem ev_cmp {l r : Expr} {op : CmpOp} {pos : Pos} {P1 P2 : Pr} {b : Bool} (h1 : EvOK g k c env V l P1) (h2 : EvOK g k c env V r P2) (m1 : Mono P1)
    (h : ∀ (A : Around) (Y : List Addr) (s : Shared) (x y : Value) (Q E : Value → Shared → Prop), Room k A → RdSt c env V Y s → P1 (hideAll s.heap Y) x → P2 (hideAll s.heap Y) y →
      (∀ s', Kp g s s' → Q (.bool b) s') → wpAny c.M A (compareOp op x y) Q E s) (hm : behindInMarks op r = false := by with_unfolding_all rfl) : EvOK g k c env V (.Compare l [op] [r] pos) (D (.bool b)) := fun A Y s Q E rm st q =>
  wpAny_Compare1 (h1 A Y s _ E rm st fun x s₁ k₁ p₁ => h2 A Y s₁ _ E rm (st.kp k₁) fun y s₂ k₂ p₂ => h A Y s₂ x y _ E rm ((st.kp k₁).kp k₂) (m1 _ _ _ (hide_stays k₂.heap) p₁) p₂
    fun s' k₃ => q _ s' ((k₁.trans k₂).trans k₃) (D_bool.mpr rfl)) hm
end
section
variable {g : Bool} {k : Nat} {c : Cx} {env : Env} {V : List (Str × Pr)} {l r : Expr} {pos : Pos}
theorem ev_add {a b : Int} (h1 : EvOK g k c env V l (D (.int a))) (h2 : EvOK g k c env V r (D (.int b))) : EvOK g k c env V (.BinOp l .Add r pos) (D (.int (a + b))) :=
  ev_bin h1 h2 (D_mono _) fun A Y s x y Q E rm st p1 p2 q => by
    obtain ⟨t, rfl⟩ := D_int.mp p1; obtain ⟨u, rfl⟩ := D_int.mp p2
    exact PyProof.Rows.add_int (q _ _ (Kp.tk ..) (D_int.mpr ⟨_, rfl⟩))
theorem ev_sub {a b : Int} (h1 : EvOK g k c env V l (D (.int a))) (h2 : EvOK g k c env V r (D (.int b))) : EvOK g k c env V (.BinOp l .Sub r pos) (D (.int (a - b))) :=
  ev_bin h1 h2 (D_mono _) fun A Y s x y Q E rm st p1 p2 q => by
    obtain ⟨t, rfl⟩ := D_int.mp p1; obtain ⟨u, rfl⟩ := D_int.mp p2
    exact PyProof.Rows.sub_int (q _ _ (Kp.tk ..) (D_int.mpr ⟨_, rfl⟩))
theorem ev_mul {a b : Int} (h1 : EvOK g k c env V l (D (.int a))) (h2 : EvOK g k c env V r (D (.int b))) (hm : IntMulOk a b) : EvOK g k c env V (.BinOp l .Mult r pos) (D (.int (a * b))) :=
  ev_bin h1 h2 (D_mono _) fun A Y s x y Q E rm st p1 p2 q => by
    obtain ⟨t, rfl⟩ := D_int.mp p1; obtain ⟨u, rfl⟩ := D_int.mp p2
    exact P.mul_int (q _ _ (Kp.tk ..) (D_int.mpr ⟨_, rfl⟩)) hm
theorem ev_mod {a b : Int} (h1 : EvOK g k c env V l (D (.int a))) (h2 : EvOK g k c env V r (D (.int b))) (hb : b ≠ 0) : EvOK g k c env V (.BinOp l .Mod r pos) (D (.int (a.fmod b))) :=
  ev_bin h1 h2 (D_mono _) fun A Y s x y Q E rm st p1 p2 q => by
    obtain ⟨t, rfl⟩ := D_int.mp p1; obtain ⟨u, rfl⟩ := D_int.mp p2
    exact PyProof.Rows.mod_int hb (q _ _ (Kp.tk ..) (D_int.mpr ⟨_, rfl⟩))
theorem ev_fdiv {a b : Int} (h1 : EvOK g k c env V l (D (.int a))) (h2 : EvOK g k c env V r (D (.int b))) (hb : b ≠ 0) (hp : Builtin.divisionGoesByPylong a b = false) : EvOK g k c env V (.BinOp l .FloorDiv r pos) (D (.int (a.fdiv b))) :=
  ev_bin h1 h2 (D_mono _) fun A Y s x y Q E rm st p1 p2 q => by
    obtain ⟨t, rfl⟩ := D_int.mp p1; obtain ⟨u, rfl⟩ := D_int.mp p2
    exact PyProof.Rows.floordiv_int hb (q _ _ (Kp.tk ..) (D_int.mpr ⟨_, rfl⟩)) (Or.inl hp)
theorem ev_neg {a : Int} (h1 : EvOK g k c env V l (D (.int a))) : EvOK g k c env V (.UnaryOp .USub l pos) (D (.int (-a))) := fun A Y s Q E rm st q =>
  UnaryOp_ (h1 A Y s _ E rm st fun v s₁ k₁ p => by
    obtain ⟨t, rfl⟩ := D_int.mp p
    exact PyProof.Rows.neg_int (q _ _ (k₁.trans (Kp.tk ..)) (D_int.mpr ⟨_, rfl⟩)))
theorem ev_cat {x y : Str} (h1 : EvOK g k c env V l (D (.str x))) (h2 : EvOK g k c env V r (D (.str y))) (hs : x.length + y.length ≤ sizeLine) : EvOK g k c env V (.BinOp l .Add r pos) (D (.str (x ++ y))) :=
  ev_bin h1 h2 (D_mono _) fun A Y s _ _ Q E rm st p1 p2 q => by
    obtain ⟨t, rfl⟩ := D_str.mp p1; obtain ⟨u, rfl⟩ := D_str.mp p2
    exact PyProof.Rows.add_str (fun t' tk => q _ _ (Kp.tk ..) (D_str.mpr ⟨_, rfl⟩)) hs
theorem ev_times {x : Str} {n : Int} (h1 : EvOK g k c env V l (D (.str x))) (h2 : EvOK g k c env V r (D (.int n))) (hs : MulOk x n) : EvOK g k c env V (.BinOp l .Mult r pos) (D (.str (Txt.mul x n))) :=
  ev_bin h1 h2 (D_mono _) fun A Y s _ _ Q E rm st p1 p2 q => by
    obtain ⟨t, rfl⟩ := D_str.mp p1; obtain ⟨u, rfl⟩ := D_int.mp p2
    exact SB.mul hs (fun t' tk => q _ _ (Kp.tk ..) (D_str.mpr ⟨_, rfl⟩))
def cmpI : CmpOp → Int → Int → Option Bool
  | .Eq, a, b => some (a == b)
  | .NotEq, a, b => some (a != b)
  | .Lt, a, b => some (decide (a < b))
  | .LtE, a, b => some (decide (a ≤ b))
  | .Gt, a, b => some (decide (b < a))
  | .GtE, a, b => some (decide (b ≤ a))
  | _, _, _ => none
theorem cmpI_ok {c : Cx} {op : CmpOp} {a b : Int} {t u : Tok} {v : Bool} {A : Around} {s : Shared} {Q E : Value → Shared → Prop} (h : cmpI op a b = some v) (q : Q (.bool v) s) : wpAny c.M A (compareOp op (.int a t) (.int b u)) Q E s := by
  cases op <;> simp only [cmpI, Option.some.injEq, reduceCtorEq] at h <;> subst h
  · exact PyProof.Rows.eq_int q
  · exact PyProof.Rows.ne_int q
  · exact PyProof.Rows.lt_int q
  · exact PyProof.Rows.le_int q
  · exact PyProof.Rows.gt_int q
  · exact PyProof.Rows.ge_int q
theorem tr_int {op : CmpOp} {a b : Int} {v : Bool} (h1 : EvOK g k c env V l (D (.int a))) (h2 : EvOK g k c env V r (D (.int b))) (h : cmpI op a b = some v) (hm : behindInMarks op r = false := by with_unfolding_all rfl) :
    TrOK g k c env V (.Compare l [op] [r] pos) v := tr_cmp h1 h2 (D_mono _) (fun A Y s x y Q E rm st p1 p2 q => by
    obtain ⟨t, rfl⟩ := D_int.mp p1; obtain ⟨u, rfl⟩ := D_int.mp p2
    exact cmpI_ok h (q _ (Kp.refl ..))) hm
theorem ev_cmpI {op : CmpOp} {a b : Int} {v : Bool} (h1 : EvOK g k c env V l (D (.int a))) (h2 : EvOK g k c env V r (D (.int b))) (h : cmpI op a b = some v) (hm : behindInMarks op r = false := by with_unfolding_all rfl) :
    EvOK g k c env V (.Compare l [op] [r] pos) (D (.bool v)) := ev_cmp h1 h2 (D_mono _) (fun A Y s x y Q E rm st p1 p2 q => by
    obtain ⟨t, rfl⟩ := D_int.mp p1; obtain ⟨u, rfl⟩ := D_int.mp p2
    exact cmpI_ok h (q _ (Kp.refl ..))) hm
def cmpS : CmpOp → Str → Str → Option Bool
  | .Eq, a, b => some (a == b)
  | .NotEq, a, b => some (a != b)
  | .In, a, b => some (Txt.contains b a)
  | .NotIn, a, b => some (!Txt.contains b a)
  | _, _, _ => none
theorem cmpS_ok {c : Cx} {op : CmpOp} {a b : Str} {t u : Tok} {v : Bool} {A : Around} {s : Shared} {Q E : Value → Shared → Prop} (h : cmpS op a b = some v) (q : Q (.bool v) s) : wpAny c.M A (compareOp op (.str a t) (.str b u)) Q E s := by
  cases op <;> simp only [cmpS, Option.some.injEq, reduceCtorEq] at h <;> subst h
  · exact PyProof.Rows.eq_str q
  · exact PyProof.Rows.ne_str q
  · exact SB.contains q
  · exact SB.notContains q
theorem tr_str {op : CmpOp} {a b : Str} {v : Bool} (h1 : EvOK g k c env V l (D (.str a))) (h2 : EvOK g k c env V r (D (.str b))) (h : cmpS op a b = some v) (hm : behindInMarks op r = false := by with_unfolding_all rfl) :
    TrOK g k c env V (.Compare l [op] [r] pos) v := tr_cmp h1 h2 (D_mono _) (fun A Y s x y Q E rm st p1 p2 q => by
    obtain ⟨t, rfl⟩ := D_str.mp p1; obtain ⟨u, rfl⟩ := D_str.mp p2
    exact cmpS_ok h (q _ (Kp.refl ..))) hm
def isB : CmpOp → Bool → Bool → Option Bool
  | .Is, a, b => some (a == b)
  | .IsNot, a, b => some (!(a == b))
  | _, _, _ => none
theorem tr_isB {op : CmpOp} {a b v : Bool} (h1 : EvOK g k c env V l (D (.bool a))) (h2 : EvOK g k c env V r (D (.bool b))) (h : isB op a b = some v) (hm : behindInMarks op r = false := by with_unfolding_all rfl) :
    TrOK g k c env V (.Compare l [op] [r] pos) v := tr_cmp h1 h2 (D_mono _) (fun A Y s x y Q E rm st p1 p2 q => by
    cases D_bool.mp p1; cases D_bool.mp p2
    cases op <;> simp only [isB, Option.some.injEq, reduceCtorEq] at h <;> subst h
    · refine wpAny_is_plain rfl ?_; cases a <;> cases b <;> exact q _ (Kp.refl ..)
    · refine wpAny_isNot_plain rfl ?_; cases a <;> cases b <;> exact q _ (Kp.refl ..)) hm
def isNone : PyData → Bool
  | .none => true
  | _ => false
theorem tr_isN {d : PyData} (h1 : EvOK g k c env V l (D d)) (h2 : EvOK g k c env V r (D .none)) (hm : behindInMarks .Is r = false := by with_unfolding_all rfl) :
    TrOK g k c env V (.Compare l [.Is] [r] pos) (isNone d) := tr_cmp h1 h2 (D_mono _) (fun A Y s x y Q E rm st p1 p2 q => by
    cases D_none.mp p2
    obtain ⟨_, rx⟩ := p1
    cases rx
    case none => exact wpAny_is_self rfl (q _ (Kp.refl ..))
    all_goals exact wpAny_is_plain rfl (q _ (Kp.refl ..))) hm
theorem ev_if {t b o : Expr} {v : Bool} {P : Pr} (h : TrOK g k c env V t v) (hb : v = true → EvOK g k c env V b P) (ho : v = false → EvOK g k c env V o P) : EvOK g k c env V (.IfExp t b o pos) P := fun A Y s Q E rm st q =>
  IfExp_ (h A Y s _ E rm st fun s₁ k₁ => by
    cases v with
    | true => exact hb rfl A Y s₁ Q E rm (st.kp k₁) fun x s' k₂ p => q x s' (k₁.trans k₂) p
    | false => exact ho rfl A Y s₁ Q E rm (st.kp k₁) fun x s' k₂ p => q x s' (k₁.trans k₂) p)
theorem tr_op {op : BoolOp} {es : List Expr} {v : Bool} (h : AlOK g k c env V op es v) : TrOK g k c env V (.BoolOp op es pos) v := h
theorem al_nil {op : BoolOp} : AlOK g k c env V op [] (op == .And) := fun A Y s Q E rm st q => wpAny_pure (q s (Kp.refl ..))
theorem al_and {e : Expr} {es : List Expr} {v v' : Bool} (h : TrOK g k c env V e v) (h' : v = true → AlOK g k c env V .And es v') : AlOK g k c env V .And (e :: es) (v && v') := fun A Y s Q E rm st q => by
  show wpAny c.M A (do
    match BoolOp.And, ← isTrue e env (eval e env) with
    | .And, false => pure false
    | .Or, true => pure true
    | _, _ => allTrue .And es env) Q E s
  refine wpAny_bind (h A Y s _ E rm st fun s₁ k₁ => ?_)
  cases v with
  | false => exact wpAny_pure (q s₁ k₁)
  | true => exact h' rfl A Y s₁ Q E rm (st.kp k₁) fun s' k₂ => q s' (k₁.trans k₂)
theorem al_or {e : Expr} {es : List Expr} {v v' : Bool} (h : TrOK g k c env V e v) (h' : v = false → AlOK g k c env V .Or es v') : AlOK g k c env V .Or (e :: es) (v || v') := fun A Y s Q E rm st q => by
  show wpAny c.M A (do
    match BoolOp.Or, ← isTrue e env (eval e env) with
    | .And, false => pure false
    | .Or, true => pure true
    | _, _ => allTrue .Or es env) Q E s
  refine wpAny_bind (h A Y s _ E rm st fun s₁ k₁ => ?_)
  cases v with
  | true => exact wpAny_pure (q s₁ k₁)
  | false => exact h' rfl A Y s₁ Q E rm (st.kp k₁) fun s' k₂ => q s' (k₁.trans k₂)
theorem ar_nil : ArOK g k c env V (backTo pos (starEach [] env)) [] := fun A Y s Q E rm st q => Calls.spliced_nil (q _ _ (Kp.refl ..) .nil)
theorem ar_cons {e : Expr} {es : List Expr} {P : Pr} {Ps : List Pr} (m : Mono P) (h : EvOK g k c env V e P) (h' : ArOK g k c env V (backTo pos (starEach es env)) Ps)
    (he : starEach (e :: es) env = (false, eval e env) :: starEach es env := by rfl) : ArOK g k c env V (backTo pos (starEach (e :: es) env)) (P :: Ps) := fun A Y s Q E rm st q => by
  rw [he]
  refine Calls.spliced_cons (h A Y s _ E rm st fun v s₁ k₁ p => h' A Y s₁ _ E rm (st.kp k₁) fun vs s₂ k₂ ps => q _ _ (k₁.trans k₂) (.cons (m _ _ _ (hide_stays k₂.heap) p) ps))
end
theorem D_list {xs : List PyData} {h : Heap} {v : Value} (p : D (.list xs) h v) : ∃ a vs as, v = .ref a ∧ h.IsList a vs.toArray ∧ ReadsAll h vs xs as := by
  obtain ⟨_, r⟩ := p
  obtain ⟨a, l, bs, e, _, hl, hr⟩ := reads_list_items r
  exact ⟨a, l, bs, e, hl, hr⟩
theorem D_tuple {xs : List PyData} {h : Heap} {v : Value} (p : D (.tuple xs) h v) : ∃ a vs as, v = .ref a ∧ IsTup h a vs.toArray ∧ ReadsAll h vs xs as := by
  obtain ⟨as, r⟩ := p
  obtain ⟨a, l, e, hl, hr⟩ := reads_tuple_items r
  exact ⟨a, l, as, e, hl, hr⟩
theorem D_ints {ns : List Int} {h : Heap} {v : Value} (p : D (.list (ns.map .int)) h v) : ∃ a vs, v = .ref a ∧ h.IsList a vs.toArray ∧ IntsAre vs ns := by
  obtain ⟨a, vs, as, e, hl, hr⟩ := D_list p
  exact ⟨a, vs, e, hl, (readsAll_intsAre hr).1⟩
theorem D_strs {ss : List Str} {h : Heap} {v : Value} (p : D (.list (ss.map .str)) h v) : ∃ a vs, v = .ref a ∧ h.IsList a vs.toArray ∧ StrsAre vs ss := by
  obtain ⟨a, vs, as, e, hl, hr⟩ := D_list p
  exact ⟨a, vs, e, hl, (readsAll_strsAre hr).1⟩
theorem mk_list {xs : List PyData} {h : Heap} {a : Addr} {vs : List Value} {as : List Addr} (hl : h.IsList a vs.toArray) (r : ReadsAll h vs xs as) : D (.list xs) h (.ref a) := by
  obtain ⟨o, ho, hc, n, hd⟩ := hl
  exact ⟨_, .list ho hc hd (by simpa using r)⟩
theorem mk_tuple {xs : List PyData} {h : Heap} {a : Addr} {vs : List Value} {as : List Addr} (hl : IsTup h a vs.toArray) (r : ReadsAll h vs xs as) : D (.tuple xs) h (.ref a) := by
  obtain ⟨o, ho, hc, n, hd⟩ := hl
  exact ⟨_, .tuple ho hc hd (by simpa using r)⟩
theorem mk_ints {ns : List Int} {h : Heap} {a : Addr} {vs : List Value} (hl : h.IsList a vs.toArray) (r : IntsAre vs ns) : D (.list (ns.map .int)) h (.ref a) := mk_list hl (IntsAre.reads h r)
theorem mk_strs {ss : List Str} {h : Heap} {a : Addr} {vs : List Value} (hl : h.IsList a vs.toArray) (r : StrsAre vs ss) : D (.list (ss.map .str)) h (.ref a) := mk_list hl (StrsAre.reads h r)
theorem isList_keeps {h h' : Heap} {a : Addr} {vs : Array Value} (x : h.IsList a vs) (hk : h.StaysIn h') : h'.IsList a vs := let ⟨o, ho, r⟩ := x; ⟨o, hk _ _ ho, r⟩
theorem isList_hide {h : Heap} {a : Addr} {vs : Array Value} {Y : List Addr} (x : h.IsList a vs) (hn : a ∉ Y) : (hideAll h Y).IsList a vs := let ⟨o, ho, r⟩ := x; ⟨o, hideAll_get Y ho hn, r⟩
theorem isTup_hide {h : Heap} {a : Addr} {vs : Array Value} {Y : List Addr} (x : IsTup h a vs) (hn : a ∉ Y) : IsTup (hideAll h Y) a vs := let ⟨o, ho, r⟩ := x; ⟨o, hideAll_get Y ho hn, r⟩
theorem isList_full {h : Heap} {a : Addr} {vs : Array Value} {Y : List Addr} (x : (hideAll h Y).IsList a vs) : h.IsList a vs := isList_keeps x hide_le
theorem isTup_full {h : Heap} {a : Addr} {vs : Array Value} {Y : List Addr} (x : IsTup (hideAll h Y) a vs) : IsTup h a vs := x.keeps hide_le
theorem All2.one {P : Pr} {h : Heap} {vs : List Value} (a : All2 [P] h vs) : ∃ v, vs = [v] ∧ P h v := by
  cases a with | cons p t => cases t; exact ⟨_, rfl, p⟩
theorem All2.two {P P' : Pr} {h : Heap} {vs : List Value} (a : All2 [P, P'] h vs) : ∃ v v', vs = [v, v'] ∧ P h v ∧ P' h v' := by
  cases a with | cons p t => obtain ⟨v', rfl, p'⟩ := t.one; exact ⟨_, _, rfl, p, p'⟩
theorem All2.three {P P' P'' : Pr} {h : Heap} {vs : List Value} (a : All2 [P, P', P''] h vs) : ∃ v v' v'', vs = [v, v', v''] ∧ P h v ∧ P' h v' ∧ P'' h v'' := by
  cases a with | cons p t => obtain ⟨v', v'', rfl, p', p''⟩ := t.two; exact ⟨_, _, _, rfl, p, p', p''⟩
section
variable {g : Bool} {k : Nat} {c : Cx} {env : Env} {V : List (Str × Pr)} {pos np : Pos}
theorem ev_callB {f : Str} {id : String} {e : Expr} {es : List Expr} {Ps : List Pr} {P : Pr} (hf : EvOK g k c env V (.Name f np) (Is (.builtin id))) (ha : ArOK g k c env V (backTo pos (starEach (e :: es) env)) Ps)
    (hc : CallOK g k c (.builtin id) Ps P) (he : starEach (e :: es) env = (false, eval e env) :: starEach es env := by rfl) (hplain : (backTo pos (starEach es env)).any (·.1) = false := by rfl) :
    EvOK g k c env V (.Call (.Name f np) (e :: es) [] pos) P := fun A Y s Q E rm st q =>
  wpAny_Call_ofName (hf A Y s _ E rm st fun v s₁ k₁ p => by
    cases p
    refine Calls.callWith_builtin (by show (backTo pos (starEach (e :: es) env)).any (·.1) = false; rw [he]; show (false || (backTo pos (starEach es env)).any (·.1)) = false; rw [hplain]; rfl) ?_
    rw [he]
    refine Calls.evalArgs_plain ?_
    have h1 := ha A Y s₁ (fun vs s' => wpAny c.M A (call (.builtin id) ([] ++ vs)) Q E s') E rm (st.kp k₁) fun vs s₂ k₂ ps =>
      hc A Y s₂ vs Q E rm st.ok ((st.kp k₁).kp k₂).base ((st.kp k₁).kp k₂).ex ps fun v s' k₃ p => q v s' ((k₁.trans k₂).trans k₃) p
    rw [he] at h1
    exact h1)
theorem ev_callT {f : Str} {T : String} {e : Expr} {es : List Expr} {Ps : List Pr} {P : Pr} (hf : EvOK g k c env V (.Name f np) (Is (.type T))) (ha : ArOK g k c env V (backTo pos (starEach (e :: es) env)) Ps)
    (hc : CallOK g k c (.type T) Ps P) (he : starEach (e :: es) env = (false, eval e env) :: starEach es env := by rfl) (hplain : (backTo pos (starEach es env)).any (·.1) = false := by rfl) :
    EvOK g k c env V (.Call (.Name f np) (e :: es) [] pos) P := fun A Y s Q E rm st q =>
  wpAny_Call_ofName (hf A Y s _ E rm st fun v s₁ k₁ p => by
    cases p
    refine PyProof.Rows.callWith_type (by show (backTo pos (starEach (e :: es) env)).any (·.1) = false; rw [he]; show (false || (backTo pos (starEach es env)).any (·.1)) = false; rw [hplain]; rfl) ?_
    rw [he]
    refine Calls.evalArgs_plain ?_
    have h1 := ha A Y s₁ (fun vs s' => wpAny c.M A (call (.type T) ([] ++ vs)) Q E s') E rm (st.kp k₁) fun vs s₂ k₂ ps =>
      hc A Y s₂ vs Q E rm st.ok ((st.kp k₁).kp k₂).base ((st.kp k₁).kp k₂).ex ps fun v s' k₃ p => q v s' ((k₁.trans k₂).trans k₃) p
    rw [he] at h1
    exact h1)
theorem ev_callF {f : Str} {a : Addr} {o : Obj} {fd : FuncData} {e : Expr} {es : List Expr} {Ps : List Pr} {P : Pr} (hf : EvOK g k c env V (.Name f np) (Is (.ref a))) (ho : c.H.get? a = some o) (hd : o.data = .func fd)
    (ha : ArOK g k c env V (backTo pos (starEach (e :: es) env)) Ps) (hc : CallOK g k c (.ref a) Ps P) (he : starEach (e :: es) env = (false, eval e env) :: starEach es env := by rfl) :
    EvOK g k c env V (.Call (.Name f np) (e :: es) [] pos) P := fun A Y s Q E rm st q =>
  wpAny_Call_ofName (hf A Y s _ E rm st fun v s₁ k₁ p => by
    cases p
    refine Calls.callWith_function (o := o) (fd := fd) ?_
    rw [he]
    refine Calls.evalArgs_plain ?_
    have h1 := ha A Y s₁ (fun vs s' => (s'.heap.get? a = some o ∧ o.data = .func fd) ∧ wpAny c.M A (call (.ref a) ([] ++ vs)) Q E s') E rm (st.kp k₁) fun vs s₂ k₂ ps =>
      ⟨⟨((st.kp k₁).kp k₂).base _ _ ho, hd⟩, hc A Y s₂ vs Q E rm st.ok ((st.kp k₁).kp k₂).base ((st.kp k₁).kp k₂).ex ps fun v s' k₃ p => q v s' ((k₁.trans k₂).trans k₃) p⟩
    rw [he] at h1
    exact h1)
theorem call_len_list {xs : List PyData} (hn : xs.length < 2 ^ 62) : CallOK g k c (.builtin "len") [D (.list xs)] (D (.int xs.length)) := fun A Y s vs Q E rm ok bs ex a q => by
  obtain ⟨v, rfl, p⟩ := a.one
  obtain ⟨a, ws, as, rfl, hl, hr⟩ := D_list p
  have e : ws.length = xs.length := PyProof.Rows.readsAll_len _ hr
  refine PyProof.Rows.len_list (isList_full hl) (by rw [List.size_toArray]; omega) (q _ _ (Kp.tk ..) (D_int.mpr ⟨s.toks + 1, by rw [List.size_toArray, e]⟩))
theorem call_len_str {x : Str} (hn : x.length < 2 ^ 62) : CallOK g k c (.builtin "len") [D (.str x)] (D (.int x.length)) := fun A Y s vs Q E rm ok bs ex a q => by
  obtain ⟨v, rfl, p⟩ := a.one
  obtain ⟨t, rfl⟩ := D_str.mp p
  exact P.len_str (by omega) (q _ _ (Kp.tk ..) (D_int.mpr ⟨_, rfl⟩))
theorem intsAre_items : ∀ {vs : List Value} {ns : List Int}, IntsAre vs ns → ∃ xs : List (Int × Tok), vs.toArray = intItems xs.toArray ∧ xs.map (·.1) = ns := by
  intro vs ns h
  induction h with
  | nil => exact ⟨[], by simp [intItems], rfl⟩
  | cons i t _ ih =>
    obtain ⟨xs, e, rfl⟩ := ih
    refine ⟨(i, t) :: xs, ?_, rfl⟩
    simp only [intItems, List.map_toArray, List.map_cons] at e ⊢
    rw [List.toArray_eq_iff] at e ⊢
    simpa using e
theorem call_sum {ns : List Int} : CallOK g k c (.builtin "sum") [D (.list (ns.map .int))] (D (.int ns.sum)) := fun A Y s vs Q E rm ok bs ex a q => by
  obtain ⟨v, rfl, p⟩ := a.one
  obtain ⟨a, ws, rfl, hl, hi⟩ := D_ints p
  obtain ⟨xs, e, rfl⟩ := intsAre_items hi
  rw [e] at hl
  refine sum_intListG rm.1 (isList_full hl) fun h' tk t' hk => q _ _ (Kp.hp tk hk) (D_int.mpr ⟨t', ?_⟩)
  have : preSum (numAt xs.toArray) xs.toArray.size = (xs.map (·.1)).sum := by
    rw [preSum_eq, List.take_of_length_le (by simp)]
  rw [this]
theorem call_sorted {ns out : List Int} (h64 : ns.length < 64) (hp : out.Perm ns) (hs : out.Pairwise (· ≤ ·)) : CallOK g k c (.builtin "sorted") [D (.list (ns.map .int))] (D (.list (out.map .int))) := fun A Y s vs Q E rm ok bs ex a q => by
  obtain ⟨v, rfl, p⟩ := a.one
  obtain ⟨a, ws, rfl, hl, hi⟩ := D_ints p
  refine PyProof.Rows.sorted_ints (isList_full hl) hi (by rw [hi.length]; exact h64) fun o ns' a1 a2 a3 => ?_
  have e : ns' = out := by
    have hq : ns'.Perm out := a2.trans hp.symm
    exact hq.eq_of_pairwise (fun x y _ _ h1 h2 => Int.le_antisymm h1 h2) a3 hs
  subst e
  obtain ⟨e', he⟩ := sortedAll_at s.heap ws o
  refine q _ _ (Kp.hp' fun b o' e => sortedAll_old e) (mk_ints (vs := o.toList) (isList_hide ⟨_, he, rfl, e', ?_⟩ fun hm => ?_) a1)
  · simp
  · obtain ⟨o', e⟩ := Option.isSome_iff_exists.mp (ex _ hm)
    exact Nat.lt_irrefl _ (Nat.lt_of_succ_lt (Heap.lt_size e))
end
section
variable {g : Bool} {k : Nat} {c : Cx} {env : Env} {V : List (Str × Pr)} {pos np : Pos} {l r : Expr}
theorem fresh_notin {Y : List Addr} {h : Heap} (ex : ∀ b ∈ Y, (h.get? b).isSome = true) {a : Addr} (ha : h.objs.size ≤ a) : a ∉ Y := fun hm => by
  obtain ⟨o', e⟩ := Option.isSome_iff_exists.mp (ex _ hm)
  exact Nat.lt_irrefl _ (Nat.lt_of_lt_of_le (Heap.lt_size e) ha)
theorem fresh_kept {Y : List Addr} {h h' : Heap} (ex : ∀ b ∈ Y, (h.get? b).isSome = true) (hk : h.StaysIn h') : h'.objs.size ∉ Y := fun hm => by
  obtain ⟨o', e⟩ := Option.isSome_iff_exists.mp (ex _ hm)
  exact Nat.lt_irrefl _ (Heap.lt_size (hk _ _ e))
theorem call_min {ns : List Int} {m : Int} (hm : m ∈ ns) (hlo : ∀ a ∈ ns, m ≤ a) : CallOK g k c (.builtin "min") [D (.list (ns.map .int))] (D (.int m)) := fun A Y s vs Q E rm ok bs ex a q => by
  obtain ⟨v, rfl, p⟩ := a.one
  obtain ⟨a, ws, rfl, hl, hi⟩ := D_ints p
  obtain ⟨xs, e, rfl⟩ := intsAre_items hi
  rw [e] at hl
  have hpos : 0 < xs.toArray.size := by
    cases xs with
    | nil => cases hm
    | cons => simp
  refine min_intList rm.1 (isList_full hl) hpos fun v h' tk hv hk => q _ _ (Kp.hp tk hk) ?_
  obtain ⟨b1, b2⟩ := argBest_lt (numAt xs.toArray) (xs.toArray.size - 1)
  obtain ⟨t, rfl⟩ := intItems_at hv
  refine D_int.mpr ⟨t, ?_⟩
  generalize argBest (fun i j => decide (numAt xs.toArray i < numAt xs.toArray j)) (xs.toArray.size - 1) = z at b1 b2 hv
  have hz : numAt xs.toArray z ∈ xs.map (·.1) := by
    have hzl : z < xs.length := by simp at b1 hpos; omega
    have : numAt xs.toArray z = xs[z].1 := by simp [numAt, hzl]
    rw [this]; exact List.mem_map_of_mem (List.getElem_mem hzl)
  obtain ⟨y, hy, rfl⟩ := List.mem_map.mp hm
  obtain ⟨j, hj, rfl⟩ := List.mem_iff_getElem.mp hy
  have h1 := b2 j (by simp; omega)
  have h2 : numAt xs.toArray j = xs[j].1 := by simp [numAt, hj]
  have h3 := hlo _ hz
  rw [h2] at h1
  rw [Int.le_antisymm h1 h3]
theorem call_tuple {xs : List PyData} (hn : xs.length ≤ sizeLine) : CallOK g k c (.type "tuple") [D (.list xs)] (D (.tuple xs)) := fun A Y s vs Q E rm ok bs ex a q => by
  obtain ⟨v, rfl, p⟩ := a.one
  obtain ⟨a, ws, as, rfl, hl, hr⟩ := D_list p
  have e : ws.length = xs.length := PyProof.Rows.readsAll_len _ hr
  refine call_tuple_list (isList_full hl) (fun h' hk => ?_) (by rw [List.size_toArray]; omega)
  have hk' : s.heap.StaysIn (h'.push { cls := .type "tuple", data := .seq ws.toArray }) := fun b o e => Heap.get?_push_of_some _ (hk b o e)
  exact q _ _ (Kp.hp' hk') (mk_tuple (isTup_hide ⟨_, Heap.get?_push_size _ rfl, rfl, _, rfl⟩ (fresh_kept ex hk)) (ReadsAll.keeps (hide_stays hk') hr))
theorem call_join {x : Str} {ss : List Str} (hok : (ss.map (·.length)).sum + ss.length * x.length ≤ 16777216) : CallOK g k c (.builtin "str.join") [D (.str x), D (.list (ss.map .str))] (D (.str (Txt.join x ss))) := fun A Y s vs Q E rm ok bs ex a q => by
  obtain ⟨v, v', rfl, p, p'⟩ := a.two
  obtain ⟨t, rfl⟩ := D_str.mp p
  obtain ⟨a, ws, rfl, hl, hi⟩ := D_strs p'
  exact join_list (isList_full hl) (by simpa using hi) hok fun t' k => q _ _ (Kp.tk ..) (D_str.mpr ⟨_, rfl⟩)
theorem call_split {x y : Str} (hy : (y.length == 0) = false) (hsz : x.length + 2 ≤ sizeLine) : CallOK g k c (.builtin "str.split") [D (.str x), D (.str y)] (D (.list ((Txt.split x y).map .str))) := fun A Y s vs Q E rm ok bs ex a q => by
  obtain ⟨v, v', rfl, p, p'⟩ := a.two
  obtain ⟨t, rfl⟩ := D_str.mp p
  obtain ⟨u, rfl⟩ := D_str.mp p'
  have fin : ∀ (l : List (Str × Tok)) (n : Nat), l.map (·.1) = Txt.split x y → Q (.ref s.heap.objs.size) { s with heap := s.heap.push { cls := .type "list", data := .seq (strValues l).toArray }, toks := n } := fun l n e => by
    refine q _ _ (Kp.hp n fun b o e => Heap.get?_push_of_some _ e) (mk_list (vs := strValues l) (as := []) (isList_hide ⟨_, Heap.get?_push_size _ rfl, rfl, _, rfl⟩ (fresh_notin ex (Nat.le_refl _))) ?_)
    rw [← e]
    exact readsAll_strValues _ l
  have hn : (Builtin.Str.partsBetween x (Builtin.Str.occurrences x y 0 x.length (x.length + 1)) y.length).length ≤ sizeLine := by
    have e1 := StrLaws.occ_length_le x y 0 x.length (x.length + 1)
    rw [length_partsBetween]; omega
  cases h1 : (decide (x.length < y.length) || decide (Builtin.Str.strKind x < Builtin.Str.strKind y))
  · cases hf : (Builtin.Str.occurrences x y 0 x.length (x.length + 1)).isEmpty
    · refine call_meets F.slot_str_split (typeIs_str _ _ _) F.entry_str_split (F.args_str_split_2 _ _) (meets_str_split_sep x y t u h1 hy hf (by omega) hn) ?_
      show wants Q E _ { s with toks := _, heap := s.heap.push { cls := .type "list", data := .seq (strsFrom s.toks (Builtin.Str.partsBetween x (Builtin.Str.occurrences x y 0 x.length (x.length + 1)) y.length)).toArray } }
      rw [strsFrom_eq]
      exact fin (numbered s.toks _) _ ((numbered_texts _ _).trans ((if_neg (ne_true_of_eq_false h1)).trans (if_neg (ne_true_of_eq_false hf))).symm)
    · exact call_meets F.slot_str_split (typeIs_str _ _ _) F.entry_str_split (F.args_str_split_2 _ _) (meets_str_split_not_found x y t u h1 hy hf)
        (fin [(x, t)] s.toks ((if_neg (ne_true_of_eq_false h1)).trans (if_pos hf)).symm)
  · exact call_meets F.slot_str_split (typeIs_str _ _ _) F.entry_str_split (F.args_str_split_2 _ _) (meets_str_split_cannot_occur x y t u h1)
      (fin [(x, t)] s.toks (if_pos h1).symm)
def Rg (a b st : Int) : Pr := fun h v => ∃ x t u w, v = .ref x ∧ IsRange h x a b st t u w
theorem Rg_mono (a b st : Int) : Mono (Rg a b st) := fun _ _ _ hk ⟨x, t, u, w, e, r⟩ => ⟨x, t, u, w, e, hk _ _ r⟩
theorem isRange_hide {h : Heap} {x : Addr} {a b st : Int} {t u w : Tok} {Y : List Addr} (r : IsRange h x a b st t u w) (hn : x ∉ Y) : IsRange (hideAll h Y) x a b st t u w := hideAll_get Y r hn
theorem call_range1 {n : Int} : CallOK g k c (.type "range") [D (.int n)] (Rg 0 n 1) := fun A Y s vs Q E rm ok bs ex a q => by
  obtain ⟨v, rfl, p⟩ := a.one
  obtain ⟨t, rfl⟩ := D_int.mp p
  exact call_range_1 (q _ _ (Kp.hp _ fun b o e => Heap.get?_push_of_some _ e) ⟨_, _, _, _, rfl, isRange_hide (IsRange.new ..) (fresh_notin ex (Nat.le_refl _))⟩)
theorem call_range2 {m n : Int} : CallOK g k c (.type "range") [D (.int m), D (.int n)] (Rg m n 1) := fun A Y s vs Q E rm ok bs ex a q => by
  obtain ⟨v, v', rfl, p, p'⟩ := a.two
  obtain ⟨t, rfl⟩ := D_int.mp p
  obtain ⟨u, rfl⟩ := D_int.mp p'
  exact call_range_2 (q _ _ (Kp.hp _ fun b o e => Heap.get?_push_of_some _ e) ⟨_, _, _, _, rfl, isRange_hide (IsRange.new ..) (fresh_notin ex (Nat.le_refl _))⟩)
theorem call_range3 {m n st : Int} (h0 : st ≠ 0) (hp : Builtin.divisionGoesByPylong (n - m) st = false) : CallOK g k c (.type "range") [D (.int m), D (.int n), D (.int st)] (Rg m n st) := fun A Y s vs Q E rm ok bs ex a q => by
  obtain ⟨v, v', v'', rfl, p, p', p''⟩ := a.three
  obtain ⟨t, rfl⟩ := D_int.mp p
  obtain ⟨u, rfl⟩ := D_int.mp p'
  obtain ⟨w, rfl⟩ := D_int.mp p''
  exact call_range_3 h0 (q _ _ (Kp.hp _ fun b o e => Heap.get?_push_of_some _ e) ⟨_, _, _, _, rfl, isRange_hide (IsRange.new ..) (fresh_notin ex (Nat.le_refl _))⟩) (Or.inl hp)
def inL : CmpOp → Int → List Int → Option Bool
  | .In, a, ns => some (ns.any (· == a))
  | .NotIn, a, ns => some (!(ns.any (· == a)))
  | _, _, _ => none
theorem tr_in {op : CmpOp} {a : Int} {ns : List Int} {v : Bool} (h1 : EvOK g k c env V l (D (.int a))) (h2 : EvOK g k c env V r (D (.list (ns.map .int)))) (h : inL op a ns = some v) (hm : behindInMarks op r = false := by with_unfolding_all rfl) :
    TrOK g k c env V (.Compare l [op] [r] pos) v := tr_cmp h1 h2 (D_mono _) (fun A Y s x y Q E rm st p1 p2 q => by
    obtain ⟨t, rfl⟩ := D_int.mp p1
    obtain ⟨b, ws, rfl, hl, hi⟩ := D_ints p2
    cases op <;> simp only [inL, Option.some.injEq, reduceCtorEq] at h <;> subst h
    · exact in_list_ints (isList_full hl) hi (q _ (Kp.refl ..))
    · exact notin_list_ints (isList_full hl) hi (q _ (Kp.refl ..))) hm
def eqD : CmpOp → PyData → PyData → Option Bool
  | .Eq, a, b => some (PyData.eqv a b)
  | .NotEq, a, b => some (!PyData.eqv a b)
  | _, _, _ => none
theorem eqD_ok {op : CmpOp} {d e : PyData} {x y : Value} {Y : List Addr} {v : Bool} {A : Around} {s : Shared} {Q E : Value → Shared → Prop} (rm : Room (k + 1) A) (hx : D d (hideAll s.heap Y) x) (hy : D e (hideAll s.heap Y) y)
    (hd : d.canLay0 = true) (he : e.canLay0 = true) (hdp : d.depth ≤ 9) (hv : eqD op d e = some v) (q : Q (.bool v) s) : wpAny c.M A (compareOp op x y) Q E s := by
  obtain ⟨_, rx⟩ := D_mono d _ _ _ hide_le hx
  obtain ⟨_, ry⟩ := D_mono e _ _ _ hide_le hy
  have hu : A.units + min d.depth e.depth < cLine := by have := rm.2.2; have := Nat.min_le_left d.depth e.depth; omega
  cases op <;> simp only [eqD, Option.some.injEq, reduceCtorEq] at hv <;> subst hv
  · exact SeqAt.compareEq_reads rx ry hd he hu q
  · exact SeqAt.compareNe_reads rx ry hd he hu q
theorem tr_eq {op : CmpOp} {d e : PyData} {v : Bool} (h1 : EvOK g (k + 1) c env V l (D d)) (h2 : EvOK g (k + 1) c env V r (D e)) (hd : d.canLay0 = true) (he : e.canLay0 = true) (hdp : d.depth ≤ 9) (h : eqD op d e = some v)
    (hm : behindInMarks op r = false := by with_unfolding_all rfl) : TrOK g (k + 1) c env V (.Compare l [op] [r] pos) v :=
  tr_cmp h1 h2 (D_mono _) (fun A Y s x y Q E rm st p1 p2 q => eqD_ok rm p1 p2 hd he hdp h (q _ (Kp.refl ..))) hm
theorem ev_eq {op : CmpOp} {d e : PyData} {v : Bool} (h1 : EvOK g (k + 1) c env V l (D d)) (h2 : EvOK g (k + 1) c env V r (D e)) (hd : d.canLay0 = true) (he : e.canLay0 = true) (hdp : d.depth ≤ 9) (h : eqD op d e = some v)
    (hm : behindInMarks op r = false := by with_unfolding_all rfl) : EvOK g (k + 1) c env V (.Compare l [op] [r] pos) (D (.bool v)) :=
  ev_cmp h1 h2 (D_mono _) (fun A Y s x y Q E rm st p1 p2 q => eqD_ok rm p1 p2 hd he hdp h (q _ (Kp.refl ..))) hm
theorem all2_reads {ds : List PyData} {h : Heap} : ∀ {vs : List Value}, All2 (ds.map D) h vs → ∃ as, ReadsAll h vs ds as := by
  induction ds with
  | nil => intro vs a; cases a; exact ⟨_, .nil⟩
  | cons d ds ih => intro vs a; cases a with | cons p t => obtain ⟨as, r⟩ := p; obtain ⟨bs, rs⟩ := ih t; exact ⟨_, .cons r rs⟩
theorem ev_list {es : List Expr} {ds : List PyData} (h : ArOK g k c env V (backTo pos (starEach es env)) (ds.map D)) (hn : ds.length ≤ sizeLine := by decide) : EvOK g k c env V (.List es pos) (D (.list ds)) := fun A Y s Q E rm st q =>
  List_ (h A Y s _ E rm st fun vs s₁ k₁ ps => by
    obtain ⟨as, rs⟩ := all2_reads ps
    have e : vs.length = ds.length := PyProof.Rows.readsAll_len _ rs
    have hk : s₁.heap.StaysIn (s₁.heap.push { cls := .type "list", data := .seq vs.toArray }) := fun b o e => Heap.get?_push_of_some _ e
    exact wpAny_newObj_type (q _ _ (k₁.trans (Kp.push ..)) (mk_list (isList_hide ⟨_, Heap.get?_push_size _ rfl, rfl, _, rfl⟩ (st.kp k₁).fresh) (ReadsAll.keeps (hide_stays hk) rs))) (by show vs.toArray.size ≤ sizeLine; rw [List.size_toArray, e]; exact hn))
theorem ev_tuple {es : List Expr} {n : Nat} {ds : List PyData} (h : ArOK g k c env V (backTo pos (starEach es env)) (ds.map D)) (hn : ds.length ≤ sizeLine := by decide) : EvOK g k c env V (.Tuple es n pos) (D (.tuple ds)) := fun A Y s Q E rm st q =>
  Tuple_ (h A Y s _ E rm st fun vs s₁ k₁ ps => by
    obtain ⟨as, rs⟩ := all2_reads ps
    have e : vs.length = ds.length := PyProof.Rows.readsAll_len _ rs
    have hk : s₁.heap.StaysIn (s₁.heap.push { cls := .type "tuple", data := .seq vs.toArray }) := fun b o e => Heap.get?_push_of_some _ e
    exact wpAny_newObj_type (q _ _ (k₁.trans (Kp.push ..)) (mk_tuple (isTup_hide ⟨_, Heap.get?_push_size _ rfl, rfl, _, rfl⟩ (st.kp k₁).fresh) (ReadsAll.keeps (hide_stays hk) rs))) (by show vs.toArray.size ≤ sizeLine; rw [List.size_toArray, e]; exact hn))
end
abbrev Rp := Heap → Obj → Prop
def Mono2 (R : Rp) : Prop := ∀ h h' o, h.StaysIn h' → R h o → R h' o
def LsR (p : Bool) (ds : List PyData) : Rp := fun h o => o.cls = .type "list" ∧ (p = true → o.dict = none) ∧ ∃ vs n as, o.data = .seq (List.toArray vs) n ∧ ReadsAll h vs ds as
theorem LsR_mono (p : Bool) (ds : List PyData) : Mono2 (LsR p ds) := fun _ _ _ hk ⟨a, b, vs, n, as, e, r⟩ => ⟨a, b, vs, n, as, e, ReadsAll.keeps hk r⟩
def NsR : Rp := fun _ o => ∃ es ep, o.data = .dict es ep ∧ StrKeys es
theorem NsR_mono : Mono2 NsR := fun _ _ _ _ r => r
structure FS (g : Bool) (c : Cx) (env : Env) (V : List (Str × Pr)) (W Y : List Addr) (MU : List (Addr × Rp)) (GN : List (Nat × GenState)) (s₀ s : Shared) : Prop where
  rd : RdSt c env V Y s
  kp : Kp g s₀ s
  b0 : c.H.StaysIn s₀.heap
  sub : ∀ b ∈ W, b ∈ Y ∧ s₀.heap.get? b = none
  loc : env.locals ∈ W
  ns : ∃ m, s.heap.Ns env.locals m
  cel : ∀ x a, env.cells.lookup x = some a → a ≠ env.locals ∧ (env.locals < a → a ∈ W) ∧ ∃ q, s.heap.IsCell a q
  inj : ∀ x y a, env.locals < a → env.cells.lookup x = some a → env.cells.lookup y = some a → x = y
  mu : ∀ p ∈ MU, p.1 ∈ W ∧ p.1 ≠ env.locals ∧ (∀ x, env.cells.lookup x ≠ some p.1) ∧ Mono2 p.2 ∧ ∃ o, s.heap.get? p.1 = some o ∧ p.2 (hideAll s.heap Y) o
  dis : MU.Pairwise (fun p q => p.1 ≠ q.1)
  gn : ∀ p ∈ GN, s.gens[p.1]? = some p.2
section
variable {g : Bool} {k : Nat} {c : Cx} {env : Env} {V V' : List (Str × Pr)} {W Y : List Addr} {MU MU' : List (Addr × Rp)} {GN : List (Nat × GenState)} {s₀ s s' : Shared} {a : Addr} {R R' : Rp} {x : Str} {ds : List PyData}
theorem get_none {h : Heap} {a : Addr} (ha : h.objs.size ≤ a) : h.get? a = none := by
  cases e : h.get? a with
  | none => rfl
  | some o => exact absurd (Heap.lt_size e) (Nat.not_lt.mpr ha)
theorem FS.kpstep (F : FS g c env V W Y MU GN s₀ s) (k : Kp g s s') : FS g c env V W Y MU GN s₀ s' where
  rd := F.rd.kp k
  kp := F.kp.trans k
  b0 := F.b0
  sub := F.sub
  loc := F.loc
  ns := let ⟨m, n⟩ := F.ns; ⟨m, n.keeps k.heap⟩
  cel := fun x a e => let ⟨p, q, r, z⟩ := F.cel x a e; ⟨p, q, r, z.keeps k.heap⟩
  inj := F.inj
  mu := fun p hp => let ⟨a, b, d, e, o, ho, r⟩ := F.mu p hp; ⟨a, b, d, e, o, k.heap _ _ ho, e _ _ _ (hide_stays k.heap) r⟩
  dis := F.dis
  gn := fun p hp => k.gens _ _ (F.gn p hp)
theorem FS.fresh0 (F : FS g c env V W Y MU GN s₀ s) {a : Addr} (ha : s.heap.get? a = none) : s₀.heap.get? a = none := by
  cases e : s₀.heap.get? a with
  | none => rfl
  | some o => rw [F.kp.heap _ _ e] at ha; cases ha
theorem FS.weaken (F : FS g c env V W Y MU GN s₀ s) (h : ∀ p ∈ V', p ∈ V) : FS g c env V' W Y MU GN s₀ s :=
  { F with rd := { F.rd with look := fun x P hx => F.rd.look x P (h _ hx) } }
theorem FS.unmu (F : FS g c env V W Y ((a, R) :: MU) GN s₀ s) : FS g c env V W Y MU GN s₀ s :=
  { F with mu := fun p hp => F.mu p (.tail _ hp), dis := (List.pairwise_cons.mp F.dis).2 }
theorem FS.swap {p q : Addr × Rp} (F : FS g c env V W Y (p :: q :: MU) GN s₀ s) : FS g c env V W Y (q :: p :: MU) GN s₀ s :=
  { F with
    mu := fun r hr => F.mu r (by simp only [List.mem_cons] at hr ⊢; rcases hr with h | h | h <;> simp [h])
    dis := by
      have d := F.dis
      simp only [List.pairwise_cons, List.mem_cons] at d ⊢
      exact ⟨fun r hr => by rcases hr with rfl | hr; exact (d.1 _ (.inl rfl)).symm; exact d.2.1 _ hr, fun r hr => d.1 _ (.inr hr), d.2.2⟩ }
theorem FS.put (F : FS g c env V W Y ((a, R) :: MU) GN s₀ s) {h' : Heap} {o' : Obj} {tk : Nat} (kk : Heap.ExtBut a s.heap h') (ho : h'.get? a = some o') (hR : R' (hideAll s.heap Y) o') (m : Mono2 R') :
    FS g c env V W Y ((a, R') :: MU) GN s₀ { s with heap := h', toks := tk } := by
  obtain ⟨aw, al, ac, _, _⟩ := F.mu _ (.head _)
  obtain ⟨ay, a0⟩ := F.sub a aw
  have st : (hideAll s.heap Y).StaysIn (hideAll h' Y) := hide_mono fun b o hb e => kk b o (fun q => hb (q ▸ ay)) e
  refine ⟨⟨F.rd.kind, F.rd.eg, F.rd.eb, F.rd.ok, fun b o e => ?_, fun b hb => ?_, fun x P hx => ?_⟩, ⟨fun b o e => ?_, F.kp.os, F.kp.drawn, F.kp.gens, F.kp.bare, F.kp.same⟩, F.b0, F.sub, F.loc, ?_, fun x b e => ?_, F.inj, fun p hp => ?_, ?_, F.gn⟩
  · refine kk b o (fun q => ?_) (F.rd.base b o e)
    rw [q] at e; rw [F.b0 _ _ e] at a0; cases a0
  · by_cases q : b = a
    · subst q; show (h'.get? b).isSome = true; rw [ho]; rfl
    · obtain ⟨o, e⟩ := Option.isSome_iff_exists.mp (F.rd.ex b hb)
      show (h'.get? b).isSome = true; rw [kk b o q e]; rfl
  · obtain ⟨v, l, p, mo⟩ := F.rd.look x P hx
    refine ⟨v, ?_, mo _ _ _ st p, mo⟩
    rcases l with ⟨y, m', n, e⟩ | ⟨y, b, e, q⟩
    · exact .inl ⟨y, m', n.extBut kk (Ne.symm al), e⟩
    · exact .inr ⟨y, b, e, let ⟨o, ho, hd⟩ := q; ⟨o, kk _ _ (fun z => ac x (z ▸ e)) ho, hd⟩⟩
  · refine kk b o (fun q => ?_) (F.kp.heap b o e)
    rw [q, a0] at e; cases e
  · obtain ⟨m', n⟩ := F.ns; exact ⟨m', n.extBut kk (Ne.symm al)⟩
  · obtain ⟨p, q, r, o, ho, hd⟩ := F.cel x b e; exact ⟨p, q, r, o, kk _ _ (fun y => ac x (y ▸ e)) ho, hd⟩
  · rcases List.mem_cons.mp hp with rfl | hp
    · exact ⟨aw, al, ac, m, o', ho, m _ _ _ st hR⟩
    · obtain ⟨p1, p2, p3, p4, o, p5, p6⟩ := F.mu p (.tail _ hp)
      exact ⟨p1, p2, p3, p4, o, kk _ _ (Ne.symm ((List.pairwise_cons.mp F.dis).1 p hp)) p5, p4 _ _ _ st p6⟩
  · have d := List.pairwise_cons.mp F.dis
    exact List.pairwise_cons.mpr ⟨fun p hp => d.1 p hp, d.2⟩
theorem FS.perm (F : FS g c env V W Y MU GN s₀ s) (h : MU.Perm MU') : FS g c env V W Y MU' GN s₀ s :=
  { F with mu := fun p hp => F.mu p (h.mem_iff.mpr hp), dis := (h.pairwise_iff fun h => Ne.symm h).mp F.dis }
theorem FS.adopts {nw : List (Addr × Rp)} (F : FS g c env V W Y MU GN s₀ s) (k : Kp g s s') (hn : ∀ p ∈ nw, s.heap.get? p.1 = none ∧ Mono2 p.2 ∧ ∃ o, s'.heap.get? p.1 = some o ∧ p.2 (hideAll s.heap Y) o) (hd : nw.Pairwise fun p q => p.1 ≠ q.1) :
    FS g c env V (nw.map (·.1) ++ W) (nw.map (·.1) ++ Y) (nw ++ MU) GN s₀ s' := by
  have G := F.kpstep k
  have na : ∀ p ∈ nw, ∀ b o, s.heap.get? b = some o → b ≠ p.1 := fun p hp b o e q => by rw [q, (hn p hp).1] at e; cases e
  have st : (hideAll s.heap Y).StaysIn (hideAll s'.heap (nw.map (·.1) ++ Y)) := fun b o e => by
    have e' := of_hideAll Y e
    refine hideAll_get _ (k.heap _ _ e') fun q => ?_
    rcases List.mem_append.mp q with q | q
    · obtain ⟨p, hp, q⟩ := List.mem_map.mp q
      exact na p hp _ _ e' q.symm
    · rw [hideAll_none Y q] at e; cases e
  refine ⟨⟨F.rd.kind, F.rd.eg, F.rd.eb, F.rd.ok, G.rd.base, fun b hb => ?_, fun x P hx => ?_⟩, G.kp, F.b0, fun b hb => ?_, List.mem_append_right _ F.loc, G.ns, fun x b e => ?_, F.inj, fun p hp => ?_, ?_, G.gn⟩
  · rcases List.mem_append.mp hb with hb | hb
    · obtain ⟨p, hp, rfl⟩ := List.mem_map.mp hb
      obtain ⟨_, _, o, ho, _⟩ := hn p hp
      rw [ho]; rfl
    · exact G.rd.ex b hb
  · obtain ⟨v, l, p, mo⟩ := F.rd.look x P hx
    exact ⟨v, l.keeps k.heap, mo _ _ _ st p, mo⟩
  · rcases List.mem_append.mp hb with hb | hb
    · refine ⟨List.mem_append_left _ hb, ?_⟩
      obtain ⟨p, hp, rfl⟩ := List.mem_map.mp hb
      exact F.fresh0 (hn p hp).1
    · exact ⟨List.mem_append_right _ (F.sub b hb).1, (F.sub b hb).2⟩
  · obtain ⟨p, q, r, z⟩ := G.cel x b e; exact ⟨p, fun y => List.mem_append_right _ (q y), r, z⟩
  · rcases List.mem_append.mp hp with hp | hp
    · obtain ⟨h1, m, o, ho, hR⟩ := hn p hp
      refine ⟨List.mem_append_left _ (List.mem_map_of_mem hp), fun q => ?_, fun x e => ?_, m, o, ho, m _ _ _ st hR⟩
      · obtain ⟨m', _, _, _, e, _⟩ := F.ns
        rw [← q, h1] at e; cases e
      · obtain ⟨_, _, _, _, e', _⟩ := F.cel x _ e
        rw [h1] at e'; cases e'
    · obtain ⟨p1, p2, p3, p4, o', p5, p6⟩ := F.mu p hp
      exact ⟨List.mem_append_right _ p1, p2, p3, p4, o', k.heap _ _ p5, p4 _ _ _ st p6⟩
  · refine List.pairwise_append.mpr ⟨hd, F.dis, fun p hp q hq => ?_⟩
    obtain ⟨_, _, _, _, o', p5, _⟩ := F.mu q hq
    exact Ne.symm (na p hp _ _ p5)
theorem FS.adopt (F : FS g c env V W Y MU GN s₀ s) (k : Kp g s s') {o : Obj} (hn : s.heap.get? a = none) (ho : s'.heap.get? a = some o) (hR : R (hideAll s.heap Y) o) (m : Mono2 R) :
    FS g c env V (a :: W) (a :: Y) ((a, R) :: MU) GN s₀ s' :=
  F.adopts (nw := [(a, R)]) k (fun p hp => by rw [List.mem_singleton.mp hp]; exact ⟨hn, m, o, ho, hR⟩) (List.pairwise_singleton ..)
theorem FS.drop (F : FS g c env V (a :: W) (a :: Y) ((a, R) :: MU) GN s₀ s) (hW : ∀ b ∈ W, b ∈ Y) (hl : env.locals ∈ W) (hc : ∀ x b, env.cells.lookup x = some b → env.locals < b → b ∈ W) (hm : ∀ p ∈ MU, p.1 ∈ W) : FS g c env V W Y MU GN s₀ s := by
  have st : (hideAll s.heap (a :: Y)).StaysIn (hideAll s.heap Y) := hide_anti fun b hb => .tail _ hb
  refine ⟨⟨F.rd.kind, F.rd.eg, F.rd.eb, F.rd.ok, F.rd.base, fun b hb => F.rd.ex b (.tail _ hb), fun x P hx => ?_⟩, F.kp, F.b0, fun b hb => ⟨hW b hb, (F.sub b (.tail _ hb)).2⟩, hl, F.ns, fun x b e => ?_, F.inj, fun p hp => ?_, (List.pairwise_cons.mp F.dis).2, F.gn⟩
  · obtain ⟨v, l, p, mo⟩ := F.rd.look x P hx
    exact ⟨v, l, mo _ _ _ st p, mo⟩
  · obtain ⟨p, q, r⟩ := F.cel x b e; exact ⟨p, hc x b e, r⟩
  · obtain ⟨p1, p2, p3, p4, o, p5, p6⟩ := F.mu p (.tail _ hp)
    exact ⟨hm p hp, p2, p3, p4, o, p5, p4 _ _ _ st p6⟩
structure Own (env : Env) (W Y : List Addr) (MU : List (Addr × Rp)) : Prop where
  sub : ∀ b ∈ W, b ∈ Y
  loc : env.locals ∈ W
  cel : ∀ x b, env.cells.lookup x = some b → env.locals < b → b ∈ W
  mu : ∀ p ∈ MU, p.1 ∈ W
theorem FS.own (F : FS g c env V W Y MU GN s₀ s) : Own env W Y MU := ⟨fun b hb => (F.sub b hb).1, F.loc, fun x b e => (F.cel x b e).2.1, fun p hp => (F.mu p hp).1⟩
theorem FS.drop' (F : FS g c env V (a :: W) (a :: Y) ((a, R) :: MU') GN s₀ s) (O : Own env W Y MU) (hm : MU'.map (·.1) = MU.map (·.1)) : FS g c env V W Y MU' GN s₀ s :=
  F.drop O.sub O.loc O.cel fun p hp => by
    have : p.1 ∈ MU'.map (·.1) := List.mem_map_of_mem hp
    rw [hm] at this
    obtain ⟨q, hq, e⟩ := List.mem_map.mp this
    exact e ▸ O.mu q hq
theorem FS.addV {P : Pr} (F : FS g c env V W Y MU GN s₀ s) {v : Value} (hx : (x, Is v) ∈ V) (p : P (hideAll s.heap Y) v) (m : Mono P) : FS g c env ((x, P) :: V) W Y MU GN s₀ s := by
  have hl : ∀ y Q, (y, Q) ∈ (x, P) :: V → ∃ v, Lk s.heap env y v ∧ Q (hideAll s.heap Y) v ∧ Mono Q := fun y Q hy => by
    rcases List.mem_cons.mp hy with e | hy
    · cases e
      obtain ⟨v', l, e, _⟩ := F.rd.look x _ hx
      cases e
      exact ⟨_, l, p, m⟩
    · exact F.rd.look y Q hy
  exact { F with rd := { F.rd with look := hl } }
theorem FS.notin (F : FS g c env V W Y MU GN s₀ s) (hn : s.heap.get? a = none) : a ∉ Y := F.rd.freshAt hn
theorem FS.ev {e : Expr} {P : Pr} {A : Around} {Q E : Value → Shared → Prop} (F : FS g c env V W Y MU GN s₀ s) (r : Room k A) (h : EvOK g k c env V e P) (q : ∀ v s', FS g c env V W Y MU GN s₀ s' → P (hideAll s'.heap Y) v → Q v s') : wpAny c.M A (eval e env) Q E s :=
  h A Y s Q E r F.rd fun v s' kp p => q v s' (F.kpstep kp) p
theorem FS.tr {e : Expr} {b : Bool} {A : Around} {Q : Bool → Shared → Prop} {E : Value → Shared → Prop} (F : FS g c env V W Y MU GN s₀ s) (r : Room k A) (h : TrOK g k c env V e b) (q : ∀ s', FS g c env V W Y MU GN s₀ s' → Q b s') : wpAny c.M A (isTrue e env (eval e env)) Q E s :=
  h A Y s Q E r F.rd fun s' kp => q s' (F.kpstep kp)
def St1 (env : Env) (x : Str) : Prop := env.kindOf x = some .local ∨ (env.kindOf x = some .cell ∧ ∃ a, env.cells.lookup x = some a ∧ env.locals < a)
def noName (x : Str) (V : List (Str × Pr)) : Bool := V.all fun p => !(p.1 == x)
theorem FS.store {P : Pr} {v : Value} {A : Around} {Q : Unit → Shared → Prop} {E : Value → Shared → Prop} (F : FS g c env V W Y MU GN s₀ s) (hk : St1 env x) (hn : noName x V = true) (p : P (hideAll s.heap Y) v) (mP : Mono P)
    (q : ∀ s', FS g c env ((x, P) :: V) W Y MU GN s₀ s' → Q () s') : wpAny c.M A (storeName env x v) Q E s := by
  have hn' : ∀ y P', (y, P') ∈ V → y ≠ x := fun y P' hy => by
    have := List.all_eq_true.mp hn _ hy
    simpa using this
  have hp : (env.scope.kind == .class || (env.scope.kind == .module && env.locals != env.globals)) = false := by rw [F.rd.kind]; rfl
  obtain ⟨m₀, n₀⟩ := F.ns
  -- one address is written
  have key : ∀ (a : Addr) (h' : Heap) (tk : Nat), a ∈ W → Heap.SameBut a s.heap h' → (h'.get? a).isSome = true → (∃ m, h'.Ns env.locals m) → (∀ y b, env.cells.lookup y = some b → ∃ q, h'.IsCell b q) → (∀ p ∈ MU, p.1 ≠ a) →
      (∀ y w, y ≠ x → Lk s.heap env y w → Lk h' env y w) → Lk h' env x v → FS g c env ((x, P) :: V) W Y MU GN s₀ { s with heap := h', toks := tk } := by
    intro a h' tk aw hs ex n' cl hm lo lx
    obtain ⟨ay, a0⟩ := F.sub a aw
    have st : (hideAll s.heap Y).StaysIn (hideAll h' Y) := hide_mono fun b o hb e => (hs.2 b fun q => hb (q ▸ ay)).trans e
    have kk : ∀ b o, b ≠ a → s.heap.get? b = some o → h'.get? b = some o := fun b o hb e => (hs.2 b hb).trans e
    refine ⟨⟨F.rd.kind, F.rd.eg, F.rd.eb, F.rd.ok, fun b o e => ?_, fun b hb => ?_, fun y P' hy => ?_⟩, ⟨fun b o e => ?_, F.kp.os, F.kp.drawn, F.kp.gens, F.kp.bare, F.kp.same⟩, F.b0, F.sub, F.loc, n', fun y b e => ?_, F.inj, fun p hp => ?_, F.dis, F.gn⟩
    · refine kk b o (fun q => ?_) (F.rd.base b o e)
      rw [q] at e; rw [F.b0 _ _ e] at a0; cases a0
    · by_cases q : b = a
      · subst q; exact ex
      · show (h'.get? b).isSome = true; rw [hs.2 b q]; exact F.rd.ex b hb
    · rcases List.mem_cons.mp hy with e | hy
      · cases e; exact ⟨v, lx, mP _ _ _ st p, mP⟩
      · obtain ⟨w, l, pw, mo⟩ := F.rd.look y P' hy
        exact ⟨w, lo y w (hn' y P' hy) l, mo _ _ _ st pw, mo⟩
    · refine kk b o (fun q => ?_) (F.kp.heap b o e)
      rw [q, a0] at e; cases e
    · obtain ⟨p1, p2, _⟩ := F.cel y b e; exact ⟨p1, p2, cl y b e⟩
    · obtain ⟨p1, p2, p3, p4, o, p5, p6⟩ := F.mu p hp
      exact ⟨p1, p2, p3, p4, o, kk _ _ (hm p hp) p5, p4 _ _ _ st p6⟩
  rcases hk with hk | ⟨hk, a, ha, hla⟩
  · refine wpAny_storeName_local hk n₀ (fun h' hn2 hs => q _ (key env.locals h' _ F.loc hs ?_ ⟨_, hn2⟩ (fun y b e => ?_) (fun p hp => (F.mu p hp).2.1) (fun y w hy l => ?_) ?_)) hp
    · obtain ⟨o, _, _, e, _⟩ := hn2; rw [e]; rfl
    · obtain ⟨p1, _, r, z⟩ := F.cel y b e; exact ⟨r, z.sameBut hs p1⟩
    · rcases l with ⟨z, m, n, e⟩ | ⟨z, b, e, r⟩
      · refine .inl ⟨z, _, hn2, ?_⟩
        rw [if_neg hy, ← e]
        obtain ⟨o1, es1, _, g1, d1, _, f1⟩ := n₀
        obtain ⟨o2, es2, _, g2, d2, _, f2⟩ := n
        rw [g1] at g2; cases g2; rw [d1] at d2; cases d2
        rw [← f1, ← f2]
      · exact .inr ⟨z, b, e, r.sameBut hs (F.cel y b e).1⟩
    · exact .inl ⟨hk, _, hn2, if_pos rfl⟩
  · obtain ⟨p1, p2, r, z⟩ := F.cel x a ha
    refine wpAny_storeName_cell F.rd.kind hk ha z fun h' hv hs => q _ (key a h' _ (p2 hla) hs ?_ ⟨_, n₀.sameBut hs (Ne.symm p1)⟩ (fun y b e => ?_) (fun p hp e => (F.mu p hp).2.2.1 x (e ▸ ha)) (fun y w hy l => ?_) (.inr ⟨hk, a, ha, hv⟩))
    · obtain ⟨o, e, _⟩ := hv; rw [e]; rfl
    · by_cases q' : b = a
      · subst q'; exact ⟨_, hv⟩
      · obtain ⟨_, _, r', z'⟩ := F.cel y b e; exact ⟨r', z'.sameBut hs q'⟩
    · rcases l with ⟨z, m, n, e⟩ | ⟨z, b, e, r⟩
      · exact .inl ⟨z, m, n.sameBut hs (Ne.symm p1), e⟩
      · exact .inr ⟨z, b, e, r.sameBut hs fun q' => hy (F.inj y x a hla (q' ▸ e) ha)⟩
end
theorem readsAll_at {h : Heap} : ∀ {vs : List Value} {ds : List PyData} {as : List Addr} {i : Nat} {v : Value} {d : PyData}, ReadsAll h vs ds as → vs[i]? = some v → ds[i]? = some d → ∃ bs, Reads h v d bs
  | _, _, _, _, _, _, .nil, e, _ => by cases e
  | _, _, _, 0, _, _, .cons r _, e, e' => by cases e; cases e'; exact ⟨_, r⟩
  | _, _, _, i + 1, _, _, .cons _ r, e, e' => readsAll_at (i := i) r e e'
def SrcOf {α : Type} (c : Cx) (S : Pr) (xs : List α) (Pa : α → Pr) : Prop :=
  ∀ (A : Around) (Y : List Addr) (s : Shared) (v : Value) (Q E : Value → Shared → Prop), A.handled = none → (∀ b ∈ Y, (s.heap.get? b).isSome = true) → S (hideAll s.heap Y) v →
    (∀ (o : Obj) (ro : List Addr) (P : Nat → Value → Prop) (St : Nat → Heap → Prop), o.isFreed = false →
      (∀ A' : Around, A'.handled = none → Walks c.prog c.w A' s.heap.objs.size (s.heap.objs.size :: ro) [s.heap.objs.size] xs.length P St) → St 0 (s.heap.push o) →
      (∀ b ∈ ro, ∃ ob, (hideAll s.heap Y).get? b = some ob) → (∀ i h, St i h → ∃ o, h.get? s.heap.objs.size = some o) →
      (∀ i v a, P i v → xs[i]? = some a → Pa a (hideAll s.heap Y) v) → Q (.ref s.heap.objs.size) { s with heap := s.heap.push o }) → wpAny c.M A (pyIter v) Q E s
def rangeL (a : Int) (st : Int) (n : Nat) : List Int := (List.range n).map fun (i : Nat) => a + (i : Int) * st
theorem rangeL_len (a st : Int) (n : Nat) : (rangeL a st n).length = n := by simp [rangeL]
theorem src_range {c : Cx} {a b st : Int} {n : Nat} (hs : Builtin.Range.small a b st = true) (hn : Builtin.Range.rangeSize a b st = n) : SrcOf c (Rg a b st) (rangeL a st n) (fun i => D (.int i)) := fun A Y s v Q E hh ex p q => by
  obtain ⟨x, t, u, w, rfl, r⟩ := p
  refine wpAny_pyIter_range (of_hideAll _ r) hs (q _ [] (fun i v => ∃ t, v = .int (a + (i : Nat) * st) t) (fun i h => IsRangeIter h s.heap.objs.size (a + (i : Nat) * st) ((n : Int) - (i : Nat)) st) rfl (fun A' hA => ?_) ?_ (fun b hb => by cases hb) (fun i h st => ⟨_, st⟩) fun i v y hv hy => ?_)
  · rw [rangeL_len]; exact Walks.range hA s.heap.objs.size a st n
  · rw [hn]
    have := Heap.get?_push_size s.heap (o := { cls := .type "range_iterator", data := .fields #[rawInt a, rawInt (n : Int), rawInt st] }) rfl
    simpa using this
  · obtain ⟨t, rfl⟩ := hv
    unfold rangeL at hy
    rw [List.getElem?_map] at hy
    obtain ⟨j, hj, rfl⟩ := Option.map_eq_some_iff.mp hy
    obtain ⟨h1, h2⟩ := List.getElem?_eq_some_iff.mp hj
    rw [List.getElem_range] at h2
    subst h2
    exact D_int.mpr ⟨_, rfl⟩
theorem src_list {c : Cx} {α : Type} {xs : List α} {f : α → PyData} : SrcOf c (D (.list (xs.map f))) xs (fun a => D (f a)) := fun A Y s v Q E hh ex p q => by
  obtain ⟨l, vs, as, rfl, hl, hr⟩ := D_list p
  have hlen : vs.length = xs.length := by rw [PyProof.Rows.readsAll_len _ hr, List.length_map]
  have hlt : l < s.heap.objs.size := let ⟨_, e, _⟩ := isList_full hl; Heap.lt_size e
  refine wpAny_pyIter_list (isList_full hl) (q _ [l] (fun i v => vs.toArray[i]? = some v) (fun i h => h.IsListIter s.heap.objs.size l i ∧ h.IsList l vs.toArray) rfl (fun A' hA => ?_) ?_ (fun b hb => ?_) (fun i h st => ?_) fun i v y hv hy => ?_)
  · have := Walks.list (prog := c.prog) (w := c.w) hA s.heap.objs.size l (Nat.ne_of_lt hlt) vs.toArray
    have e : vs.toArray.size = xs.length := by rw [List.size_toArray, hlen]
    exact e ▸ this
  · refine ⟨⟨_, Heap.get?_push_size _ rfl, rfl, rfl⟩, ?_⟩
    exact isList_keeps (isList_full hl) fun b o e => Heap.get?_push_of_some _ e
  · rw [List.mem_singleton.mp hb]; obtain ⟨o, e, _⟩ := hl; exact ⟨o, e⟩
  · obtain ⟨⟨o, e, _⟩, _⟩ := st; exact ⟨o, e⟩
  · exact readsAll_at hr (by simpa using hv) (by rw [List.getElem?_map, hy]; rfl)
theorem src_str {c : Cx} {x : Str} : SrcOf c (D (.str x)) x.cps.toList (fun ch => D (.str ⟨#[ch]⟩)) := fun A Y s v Q E hh ex p q => by
  obtain ⟨t, rfl⟩ := D_str.mp p
  have fin : ∀ i v y, SignAt x i v → x.cps.toList[i]? = some y → D (.str ⟨#[y]⟩) (hideAll s.heap Y) v := fun i v y hv hy => by
    obtain ⟨ch, u, e, rfl⟩ := hv
    rw [Array.getElem?_toList] at hy
    rw [e] at hy; cases hy
    exact D_str.mpr ⟨_, rfl⟩
  cases ha : x.cps.all (· < 128)
  · refine wpAny_pyIter_wide ha (q _ [] (SignAt x) (fun i h => h.IsStrIter s.heap.objs.size "str_iterator" x t i) rfl (fun A' hA => ?_) ⟨_, Heap.get?_push_size _ rfl, rfl, rfl⟩ (fun b hb => by cases hb) (fun i h st => let ⟨o, e, _⟩ := st; ⟨o, e⟩) fin)
    rw [Array.length_toList]; exact Walks.strWide hA _ x t
  · refine wpAny_pyIter_ascii ha (q _ [] (SignAt x) (fun i h => h.IsStrIter s.heap.objs.size "str_ascii_iterator" x t i) rfl (fun A' hA => ?_) ⟨_, Heap.get?_push_size _ rfl, rfl, rfl⟩ (fun b hb => by cases hb) (fun i h st => let ⟨o, e, _⟩ := st; ⟨o, e⟩) fin)
    rw [Array.length_toList]; exact Walks.strAscii hA _ x t
def ItR (I : Addr) (ro : List Addr) (Fa : Heap → Prop) (St : Heap → Prop) : Rp := fun hh o => Fa hh ∧ (∀ b ∈ ro, ∃ ob, hh.get? b = some ob) ∧ ∀ h', h'.get? I = some o → (∀ b ∈ ro, ∀ ob, hh.get? b = some ob → h'.get? b = some ob) → St h'
def MonoF (Fa : Heap → Prop) : Prop := ∀ h h', h.StaysIn h' → Fa h → Fa h'
theorem ItR_mono (I : Addr) (ro : List Addr) {Fa : Heap → Prop} (mF : MonoF Fa) (St : Heap → Prop) : Mono2 (ItR I ro Fa St) := fun h h' o hk ⟨f, a, b⟩ =>
  ⟨mF _ _ hk f, fun x hx => let ⟨ob, e⟩ := a x hx; ⟨ob, hk _ _ e⟩, fun h'' e hr => b h'' e fun x hx ob e' => hr x hx ob (hk _ _ e')⟩
section
variable {g : Bool} {k : Nat} {c : Cx} {env : Env} {V V' : List (Str × Pr)} {W Y : List Addr} {MU MU' : List (Addr × Rp)} {GN : List (Nat × GenState)} {s₀ s s' : Shared} {a : Addr} {R R' : Rp} {x : Str} {ds : List PyData}
theorem ItR_of {I : Addr} {ro : List Addr} {n : Nat} {P : Nat → Value → Prop} {St : Nat → Heap → Prop} {A : Around} {h hh : Heap} {o : Obj} {i : Nat} (W : Walks c.prog c.w A I (I :: ro) [I] n P St) (st : St i h) (ho : h.get? I = some o) (hk : hh.StaysIn h)
    {Fa : Heap → Prop} (fa : Fa hh) (hr : ∀ b ∈ ro, ∃ ob, hh.get? b = some ob) : ItR I ro Fa (St i) hh o := ⟨fa, hr, fun h' e r => W.frame _ _ _ st fun b hb ob e' => by
  rcases List.mem_cons.mp hb with rfl | hb
  · rw [ho] at e'; cases e'; exact e
  · obtain ⟨ob', q⟩ := hr b hb
    have := hk _ _ q
    rw [e'] at this; cases this
    exact r b hb _ q⟩
theorem FS.next {I : Addr} {ro : List Addr} {Fa : Heap → Prop} {n i : Nat} {P : Nat → Value → Prop} {St : Nat → Heap → Prop} {A : Around} {Q : Option Value → Shared → Prop} {E : Value → Shared → Prop} (F : FS g c env V W Y ((I, ItR I ro Fa (St i)) :: MU) GN s₀ s) (mF : MonoF Fa)
    (Wk : Walks c.prog c.w A I (I :: ro) [I] n P St) (lv : ∀ i h, St i h → ∃ o, h.get? I = some o) (hi : i < n)
    (q : ∀ v s', P i v → FS g c env V W Y ((I, ItR I ro Fa (St (i + 1))) :: MU) GN s₀ s' → Fa (hideAll s'.heap Y) → Q (some v) s') : wpAny c.M A (pyNext (.ref I)) Q E s := by
  obtain ⟨_, _, _, _, o, ho, fa, hr, hst⟩ := F.mu _ (.head _)
  have st : St i s.heap := hst _ ho fun b _ ob e => hide_le _ _ e
  refine Wk.item i s Q E hi st fun v h' tk pv st' kk => ?_
  have kk' : Heap.ExtBut I s.heap h' := fun b o hb e => kk b o (by simpa using hb) e
  obtain ⟨o', ho'⟩ := lv _ _ st'
  have ay := (F.sub I (F.mu _ (.head _)).1).1
  have sk : (hideAll s.heap Y).StaysIn h' := fun b ob e => kk' b ob (fun q => by rw [q, hideAll_none Y ay] at e; cases e) (hide_le _ _ e)
  have F' := F.put (tk := tk) kk' ho' (ItR_of Wk st' ho' sk fa hr) (ItR_mono _ _ mF _)
  obtain ⟨_, _, _, _, _, _, fa', _⟩ := F'.mu _ (.head _)
  exact q v _ pv F' fa'
theorem FS.lose (F : FS g c env V (a :: W) (a :: Y) ((a, R) :: MU) GN s₀ s) (O : Own env W Y MU') (hm : MU.map (·.1) = MU'.map (·.1)) (haY : a ∉ Y) {h' : Heap} {tk : Nat} (kk : Heap.ExtBut a s.heap h') : FS g c env V W Y MU GN s₀ { s with heap := h', toks := tk } := by
  obtain ⟨aw, al, ac, _, _⟩ := F.mu _ (.head _)
  obtain ⟨ay, a0⟩ := F.sub a aw
  have st : (hideAll s.heap (a :: Y)).StaysIn (hideAll h' Y) := fun b o e => by
    have n : b ∉ a :: Y := fun q => by rw [hideAll_none _ q] at e; cases e
    exact hideAll_get _ (kk b o (fun q => n (q ▸ .head _)) (hide_le _ _ e)) fun q => n (.tail _ q)
  have hd := List.pairwise_cons.mp F.dis
  refine ⟨⟨F.rd.kind, F.rd.eg, F.rd.eb, F.rd.ok, fun b o e => ?_, fun b hb => ?_, fun x P hx => ?_⟩, ⟨fun b o e => ?_, F.kp.os, F.kp.drawn, F.kp.gens, F.kp.bare, F.kp.same⟩, F.b0, fun b hb => ⟨O.sub b hb, (F.sub b (.tail _ hb)).2⟩, O.loc, ?_, fun x b e => ?_, F.inj, fun p hp => ?_, hd.2, F.gn⟩
  · refine kk b o (fun q => ?_) (F.rd.base b o e)
    rw [q] at e; rw [F.b0 _ _ e] at a0; cases a0
  · obtain ⟨o, e⟩ := Option.isSome_iff_exists.mp (F.rd.ex b (.tail _ hb))
    show (h'.get? b).isSome = true; rw [kk b o (fun q => haY (q ▸ hb)) e]; rfl
  · obtain ⟨v, l, p, mo⟩ := F.rd.look x P hx
    refine ⟨v, ?_, mo _ _ _ st p, mo⟩
    rcases l with ⟨y, m', n, e⟩ | ⟨y, b, e, q⟩
    · exact .inl ⟨y, m', n.extBut kk (Ne.symm al), e⟩
    · exact .inr ⟨y, b, e, let ⟨o, ho, hd⟩ := q; ⟨o, kk _ _ (fun z => ac x (z ▸ e)) ho, hd⟩⟩
  · refine kk b o (fun q => ?_) (F.kp.heap b o e)
    rw [q, a0] at e; cases e
  · obtain ⟨m', n⟩ := F.ns; exact ⟨m', n.extBut kk (Ne.symm al)⟩
  · obtain ⟨p, q, r, o, ho, hd⟩ := F.cel x b e; exact ⟨p, O.cel x b e, r, o, kk _ _ (fun y => ac x (y ▸ e)) ho, hd⟩
  · obtain ⟨p1, p2, p3, p4, o, p5, p6⟩ := F.mu p (.tail _ hp)
    refine ⟨?_, p2, p3, p4, o, kk _ _ (Ne.symm (hd.1 p hp)) p5, p4 _ _ _ st p6⟩
    have : p.1 ∈ MU.map (·.1) := List.mem_map_of_mem hp
    rw [hm] at this
    obtain ⟨q, hq, e⟩ := List.mem_map.mp this
    exact e ▸ O.mu q hq
theorem FS.done {I : Addr} {ro : List Addr} {Fa : Heap → Prop} {n : Nat} {P : Nat → Value → Prop} {St : Nat → Heap → Prop} {A : Around} {Q : Option Value → Shared → Prop} {E : Value → Shared → Prop} (F : FS g c env V (I :: W) (I :: Y) ((I, ItR I ro Fa (St n)) :: MU) GN s₀ s)
    (O : Own env W Y MU') (hm : MU.map (·.1) = MU'.map (·.1)) (haY : I ∉ Y) (Wk : Walks c.prog c.w A I (I :: ro) [I] n P St)
    (q : ∀ s', FS g c env V W Y MU GN s₀ s' → Q none s') : wpAny c.M A (pyNext (.ref I)) Q E s := by
  obtain ⟨_, _, _, _, o, ho, _, hr, hst⟩ := F.mu _ (.head _)
  have st : St n s.heap := hst _ ho fun b _ ob e => hide_le _ _ e
  exact Wk.done s Q E st fun h' tk kk => q _ (F.lose O hm haY fun b o hb e => kk b o (by simpa using hb) e)
end
def cnt (names : List (Str × NameKind)) : Nat := (names.filter fun p => p.2 == .cell).length
theorem cnt_cons (p : Str × NameKind) (r : List (Str × NameKind)) : cnt (p :: r) = (if p.2 == .cell then 1 else 0) + cnt r := by
  unfold cnt
  rw [List.filter_cons]
  split <;> simp [Nat.add_comm]
theorem cells_spec : ∀ (names : List (Str × NameKind)) (n : Nat) (acc : List (Str × Addr)) (x : Str) (a : Nat), (cellsFrom n names acc).lookup x = some a → acc.lookup x = some a ∨ (n ≤ a ∧ a < n + cnt names ∧ (x, NameKind.cell) ∈ names)
  | [], _, _, _, _, h => .inl h
  | (y, kd) :: r, n, acc, x, a, h => by
    unfold cellsFrom at h
    rw [cnt_cons]
    by_cases hk : (kd == .cell) = true
    · rw [if_pos hk] at h
      rcases cells_spec r (n + 1) ((y, n) :: acc) x a h with e | ⟨e1, e2, e3⟩
      · rw [List.lookup_cons] at e
        cases hb : x == y with
        | true =>
          rw [hb] at e; cases e
          refine .inr ⟨Nat.le_refl _, by rw [if_pos hk]; omega, ?_⟩
          have : kd = .cell := by simpa using hk
          rw [this, beq_iff_eq.mp hb]; exact .head _
        | false => rw [hb] at e; exact .inl e
      · exact .inr ⟨by omega, by rw [if_pos hk]; omega, .tail _ e3⟩
    · rw [if_neg hk] at h
      rcases cells_spec r n acc x a h with e | ⟨e1, e2, e3⟩
      · exact .inl e
      · exact .inr ⟨e1, by rw [if_neg hk]; omega, .tail _ e3⟩
theorem cells_old : ∀ (names : List (Str × NameKind)) (n : Nat) (acc : List (Str × Addr)) (x : Str), (x, NameKind.cell) ∉ names → (cellsFrom n names acc).lookup x = acc.lookup x
  | [], _, _, _, _ => rfl
  | (y, kd) :: r, n, acc, x, h => by
    unfold cellsFrom
    by_cases hk : (kd == .cell) = true
    · rw [if_pos hk, cells_old r _ _ x fun q => h (.tail _ q), List.lookup_cons]
      cases hb : x == y with
      | true =>
        have : kd = .cell := by simpa using hk
        exact absurd (by rw [this, beq_iff_eq.mp hb]; exact .head _) h
      | false => rfl
    · rw [if_neg hk, cells_old r _ _ x fun q => h (.tail _ q)]
theorem cells_has : ∀ (names : List (Str × NameKind)) (n : Nat) (acc : List (Str × Addr)) (x : Str), (x, NameKind.cell) ∈ names → ∃ a, (cellsFrom n names acc).lookup x = some a ∧ n ≤ a
  | (y, kd) :: r, n, acc, x, h => by
    unfold cellsFrom
    by_cases hr : (x, NameKind.cell) ∈ r
    · split
      · obtain ⟨a, e, l⟩ := cells_has r (n + 1) ((y, n) :: acc) x hr; exact ⟨a, e, by omega⟩
      · exact cells_has r n acc x hr
    · rcases List.mem_cons.mp h with e | e
      · cases e
        rw [if_pos (by rfl), cells_old r _ _ _ hr, List.lookup_cons]
        exact ⟨n, by simp, Nat.le_refl _⟩
      · exact absurd e hr
theorem cells_inj : ∀ (names : List (Str × NameKind)) (n : Nat) (acc : List (Str × Addr)) (lo : Nat), (∀ x y a, lo ≤ a → acc.lookup x = some a → acc.lookup y = some a → x = y) → (∀ x a, acc.lookup x = some a → a < n) → lo ≤ n →
    ∀ x y a, lo ≤ a → (cellsFrom n names acc).lookup x = some a → (cellsFrom n names acc).lookup y = some a → x = y
  | [], _, _, _, h, _, _, x, y, a, hl, e, e' => h x y a hl e e'
  | (z, kd) :: r, n, acc, lo, h, hlt, hle, x, y, a, hl, e, e' => by
    unfold cellsFrom at e e'
    split at e
    · rename_i hk
      rw [if_pos hk] at e'
      refine cells_inj r (n + 1) ((z, n) :: acc) lo (fun x y a hl e e' => ?_) (fun x a e => ?_) (by omega) x y a hl e e'
      · rw [List.lookup_cons] at e e'
        cases hb : x == z with
        | true =>
          rw [hb] at e; cases e
          cases hb' : y == z with
          | true => rw [beq_iff_eq.mp hb, beq_iff_eq.mp hb']
          | false => rw [hb'] at e'; exact absurd (hlt _ _ e') (Nat.lt_irrefl _)
        | false =>
          rw [hb] at e
          cases hb' : y == z with
          | true => rw [hb'] at e'; cases e'; exact absurd (hlt _ _ e) (Nat.lt_irrefl _)
          | false => rw [hb'] at e'; exact h x y a hl e e'
      · rw [List.lookup_cons] at e
        cases hb : x == z with
        | true => rw [hb] at e; cases e; exact Nat.lt_succ_self _
        | false => rw [hb] at e; exact Nat.lt_succ_of_lt (hlt _ _ e)
    · rename_i hk
      rw [if_neg hk] at e'
      exact cells_inj r n acc lo h hlt hle x y a hl e e'
theorem pushCells_size : ∀ (names : List (Str × NameKind)) (h : Heap), (pushCells h names).objs.size = h.objs.size + cnt names
  | [], h => rfl
  | (y, kd) :: r, h => by
    unfold pushCells
    rw [cnt_cons]
    by_cases hk : (kd == .cell) = true
    · rw [if_pos hk, if_pos hk, pushCells_size r, Heap.size_push]; omega
    · rw [if_neg hk, pushCells_size r]; simp [hk]
theorem pushCells_cell : ∀ (names : List (Str × NameKind)) (h : Heap) (a : Nat), h.objs.size ≤ a → a < h.objs.size + cnt names → (pushCells h names).IsCell a none
  | [], h, a, h1, h2 => absurd h2 (by simp only [cnt, List.filter_nil, List.length_nil]; omega)
  | (y, kd) :: r, h, a, h1, h2 => by
    unfold pushCells
    rw [cnt_cons] at h2
    by_cases hk : (kd == .cell) = true
    · rw [if_pos hk]
      rw [if_pos hk] at h2
      by_cases ha : a = h.objs.size
      · subst ha
        exact ⟨_, pushCells_keeps r _ _ _ (Heap.get?_push_size _ rfl), rfl⟩
      · exact pushCells_cell r _ a (by rw [Heap.size_push]; omega) (by rw [Heap.size_push]; omega)
    · rw [if_neg hk]
      rw [if_neg hk] at h2
      exact pushCells_cell r _ a h1 (by omega)
noncomputable def clOf (env : Env) : List (Str × NameKind) → List (Str × Addr) → List (Str × Addr)
  | [], acc => acc
  | (n, kd) :: r, acc => clOf env r (if kd == .free then (match env.cells.lookup n with | some a => (n, a) :: acc | none => acc) else acc)
theorem closure_go {env : Env} (f : Str × NameKind → List (Str × Addr) → Sem (ForInStep (List (Str × Addr)))) (hf : ∀ n kd r, f (n, kd) r = if (kd == .free) = true then (do let a ← cellOf env n; pure (ForInStep.yield ((n, a) :: r))) else pure (ForInStep.yield r)) :
    ∀ (names : List (Str × NameKind)) (acc : List (Str × Addr)), (∀ p ∈ names, p.2 = .free → (env.cells.lookup p.1).isSome = true) → forIn (m := Sem) names acc f = pure (clOf env names acc)
  | [], acc, _ => rfl
  | (n, kd) :: r, acc, h => by
    rw [List.forIn_cons, hf]
    unfold clOf
    by_cases hk : (kd == .free) = true
    · obtain ⟨a, ha⟩ := Option.isSome_iff_exists.mp (h (n, kd) (.head _) (by simpa using hk))
      have hc : cellOf env n = pure a := by unfold cellOf; rw [ha]
      simp only [hk, if_true, hc, ha]
      exact closure_go f hf r _ fun p hp => h p (.tail _ hp)
    · rw [if_neg hk, if_neg hk]
      exact closure_go f hf r _ fun p hp => h p (.tail _ hp)
theorem closureFor_eq {env : Env} {scope : Scope} (h : ∀ p ∈ scope.names, p.2 = .free → (env.cells.lookup p.1).isSome = true) : closureFor scope env = pure (clOf env scope.names []) := by
  unfold closureFor
  exact (congrArg (fun t => t >>= fun r => pure r) (closure_go _ (fun n kd r => rfl) scope.names [] h)).trans rfl
theorem clOf_spec {env : Env} : ∀ (names : List (Str × NameKind)) (acc : List (Str × Addr)) (x : Str) (a : Addr), (clOf env names acc).lookup x = some a → acc.lookup x = some a ∨ (env.cells.lookup x = some a ∧ (x, NameKind.free) ∈ names)
  | [], _, _, _, h => .inl h
  | (n, kd) :: r, acc, x, a, h => by
    unfold clOf at h
    rcases clOf_spec r _ x a h with e | ⟨e, m⟩
    · split at e
      · rename_i hk
        split at e
        · rename_i b hb
          rw [List.lookup_cons] at e
          cases hx : x == n with
          | true =>
            rw [hx] at e; cases e
            have : kd = .free := by simpa using hk
            rw [beq_iff_eq.mp hx, this]
            exact .inr ⟨hb, .head _⟩
          | false => rw [hx] at e; exact .inl e
        · exact .inl e
      · exact .inl e
    · exact .inr ⟨e, .tail _ m⟩
theorem clOf_has {env : Env} : ∀ (names : List (Str × NameKind)) (acc : List (Str × Addr)) (x : Str), (x, NameKind.free) ∈ names ∨ acc.lookup x = env.cells.lookup x → (∀ y a, acc.lookup y = some a → env.cells.lookup y = some a) → (clOf env names acc).lookup x = env.cells.lookup x
  | [], _, _, h, _ => h.elim (fun q => by cases q) id
  | (n, kd) :: r, acc, x, h, ha => by
    unfold clOf
    refine clOf_has r _ x ?_ ?_
    · by_cases hr : (x, NameKind.free) ∈ r
      · exact .inl hr
      · refine .inr ?_
        rcases h with h | h
        · rcases List.mem_cons.mp h with e | e
          · cases e
            rw [if_pos (by rfl)]
            split
            · rename_i b hb; rw [List.lookup_cons]; simp [hb]
            · rename_i hb
              cases e : acc.lookup n with
              | none => exact hb.symm
              | some a => rw [ha _ _ e] at hb; cases hb
          · exact absurd e hr
        · split
          · split
            · rename_i b hb
              rw [List.lookup_cons]
              cases hx : x == n with
              | true => simp only; rw [beq_iff_eq.mp hx, hb]
              | false => exact h
            · exact h
          · exact h
    · intro y a e
      split at e
      · split at e
        · rename_i b hb
          rw [List.lookup_cons] at e
          cases hx : y == n with
          | true => rw [hx] at e; cases e; rw [beq_iff_eq.mp hx]; exact hb
          | false => rw [hx] at e; exact ha _ _ e
        · exact ha _ _ e
      · exact ha _ _ e
theorem lookup_relabel {env : Env} : ∀ {names : List (Str × NameKind)} {x : Str} {kd : NameKind}, names.lookup x = some kd →
    (names.map fun (n, k) => if (k == NameKind.free && env.scope.kind == .function && env.kindOf n == some .cell) then (n, NameKind.cell) else (n, k)).lookup x =
      some (if (kd == NameKind.free && env.scope.kind == .function && env.kindOf x == some .cell) then .cell else kd)
  | [], _, _, h => by simp at h
  | (n, k) :: r, x, kd, h => by
    have ih := @lookup_relabel env r x kd
    show List.lookup x ((if (k == NameKind.free && env.scope.kind == .function && env.kindOf n == some .cell) = true then (n, NameKind.cell) else (n, k)) :: _) = _
    cases hx : x == n with
    | true =>
      simp only [List.lookup_cons, hx] at h
      cases h
      rw [beq_iff_eq.mp hx]
      split <;> simp [List.lookup_cons]
    | false =>
      simp only [List.lookup_cons, hx] at h
      split <;> (simp only [List.lookup_cons, hx]; exact ih h)
def cenv (scope : Scope) (C : Addr) (env : Env) : Env := compEnvC scope (cellsFrom (C + 1) scope.names (clOf env scope.names [])) C env
def Vc (scope : Scope) (V : List (Str × Pr)) : List (Str × Pr) := V.filter fun p => scope.names.lookup p.1 == some .free
theorem mem_vc {scope : Scope} {V : List (Str × Pr)} {p : Str × Pr} (h : p ∈ V) (e : (scope.names.lookup p.1 == some .free) = true := by rfl) : p ∈ Vc scope V := List.mem_filter.mpr ⟨h, e⟩
structure CompOk (scope : Scope) (env : Env) (V : List (Str × Pr)) (x : Str) : Prop where
  kind : scope.kind = .function
  names : (scope.names.all fun y => scope.names.lookup y.1 == some y.2) = true
  free : (scope.names.all fun p => p.2 != .free || ((V.any fun q => q.1 == p.1) && env.kindOf p.1 == some .cell)) = true
  tgt : scope.names.lookup x = some .local ∨ scope.names.lookup x = some .cell
theorem newComp {M : Model} {A : Around} {E : Value → Shared → Prop} {s : Shared} {scope : Scope} {env : Env} {cl : List (Str × Addr)} {Q : Env → Shared → Prop}
    (h : Q { scope, locals := s.heap.objs.size, globals := env.globals, cells := cellsFrom (s.heap.objs.size + 1) scope.names cl, qual := env.qual, func := none, code := env.code, frame := env.frame, builtins := env.builtins }
      { s with heap := pushCells (s.heap.push { cls := .type "dict", data := .dict #[] }) scope.names }) :
    wpAny M A (newFunctionEnv scope env.globals cl [] env.qual none .none (some env)) Q E s := by
  simp only [newFunctionEnv, Option.isSome_some, if_true]
  refine wpAny_bind (wpAny_alloc ?_)
  refine wpAny_bind (wpAny_layCells _ (fun name kind cells => by cases hkc : kind == NameKind.cell <;> simp [hkc]) _ _ _ _ ?_)
  rw [show ({ s with heap := s.heap.push { cls := .type "dict", data := .dict #[] } } : Shared).heap.objs.size = s.heap.objs.size + 1 from Heap.size_push ..]
  exact wpAny_bind (wpAny_pure (wpAny_pure h))
section
variable {g : Bool} {k : Nat} {c : Cx} {env : Env} {V V' : List (Str × Pr)} {W Y : List Addr} {MU MU' : List (Addr × Rp)} {GN : List (Nat × GenState)} {s₀ s s' : Shared} {a : Addr} {R R' : Rp} {x : Str} {ds : List PyData}
theorem readsAll_snoc {h : Heap} : ∀ {vs : List Value} {ds : List PyData} {as : List Addr} {v : Value} {d : PyData} {bs : List Addr}, ReadsAll h vs ds as → Reads h v d bs → ∃ cs, ReadsAll h (vs ++ [v]) (ds ++ [d]) cs
  | _, _, _, _, _, _, .nil, r => ⟨_, .cons r .nil⟩
  | _, _, _, _, _, _, .cons r rs, r' => let ⟨cs, q⟩ := readsAll_snoc rs r'; ⟨_, .cons r q⟩
theorem FS.shown {Y₀ : List Addr} (F : FS g c env V W Y MU GN s₀ s) (h : ∀ b ∈ Y, b ∈ Y₀ ∨ s₀.heap.get? b = none) : (hideAll s₀.heap Y₀).StaysIn (hideAll s.heap Y) := fun b o e => by
  have e' := of_hideAll Y₀ e
  refine hideAll_get _ (F.kp.heap _ _ e') fun q => ?_
  rcases h b q with z | z
  · rw [hideAll_none Y₀ z] at e; cases e
  · rw [z] at e'; cases e'
theorem FS.append {d : PyData} {v : Value} {A : Around} {Q E : Value → Shared → Prop} (F : FS g c env V W Y ((a, LsR true ds) :: MU) GN s₀ s) (p : D d (hideAll s.heap Y) v) (hl : ds.length ≤ sizeLine)
    (q : ∀ s', FS g c env V W Y ((a, LsR true (ds ++ [d])) :: MU) GN s₀ s' → Q .none s') : wpAny c.M A (call (.builtin "list.append") [.ref a, v]) Q E s := by
  obtain ⟨_, _, _, _, o, ho, hc, hd, vs, n, as, hda, r⟩ := F.mu _ (.head _)
  obtain ⟨bs, rb⟩ := p
  have e : vs.length = ds.length := PyProof.Rows.readsAll_len _ r
  refine list_append_plainL (its := vs.toArray) ⟨o, n, ho, hc, hd rfl, hda⟩ (fun h' hp hs => ?_) (by rw [List.size_toArray, e]; exact hl)
  obtain ⟨o', n', ho', hc', hd', hda'⟩ := hp
  obtain ⟨cs, rc⟩ := readsAll_snoc r rb
  exact q _ (F.put hs.extBut ho' ⟨hc', fun _ => hd', vs ++ [v], n', cs, by rw [hda', List.push_toArray], rc⟩ (LsR_mono _ _))
def TsOK (g : Bool) (k : Nat) (c : Cx) (env : Env) (V : List (Str × Pr)) (ifs : List Expr) (b : Bool) : Prop := match ifs with
  | [] => b = true
  | [t] => TrOK g k c env V t b
  | _ => False
theorem TsOK.run {ifs : List Expr} {b : Bool} {A : Around} {Q : Bool → Shared → Prop} {E : Value → Shared → Prop} (h : TsOK g k c env V ifs b) (F : FS g c env V W Y MU GN s₀ s) (r : Room k A) (q : ∀ s', FS g c env V W Y MU GN s₀ s' → Q b s') :
    wpAny c.M A (forIn ifs true fun c r => if r = true then do let ok ← isTrue c env (eval c env); pure (ForInStep.yield ok) else pure (ForInStep.yield r)) Q E s := by
  match ifs, h with
  | [], h => cases h; exact wpAny_tests_nil (q _ F)
  | [t], h => exact wpAny_tests_one (F.tr r h q)
theorem comp_core {α : Type} {elt iter : Expr} {px : Pos} {ifs : List Expr} {scope : Scope} {pos pos' : Pos} {S : Pr} {xs : List α} {Pa : α → Pr} {keep : α → Bool} {Rs : α → PyData} {use : Option (Value → Sem Unit)} {A : Around} {Q E : Value → Shared → Prop}
    (r : Room k A) (st : RdSt c env V Y s) (ok : CompOk scope env V x) (hsrc : EvOK false k c env V iter S) (src : SrcOf c S xs Pa) (hn : xs.length ≤ sizeLine) (mP : ∀ a, Mono (Pa a))
    (tests : ∀ C a, a ∈ xs → TsOK false k c (cenv scope C env) ((x, Pa a) :: Vc scope V) ifs (keep a))
    (helt : ∀ C a, a ∈ xs → keep a = true → EvOK false k c (cenv scope C env) ((x, Pa a) :: Vc scope V) elt (D (Rs a)))
    (q : ∀ l C m s', Kp false s s' → s.heap.get? l = none → s.heap.get? C = none → C ≠ l → s'.heap.Ns C m → D (.list ((xs.filter keep).map Rs)) (hideAll s'.heap (C :: Y)) (.ref l) → compPost c.M A E use Q (.ref l) C (.ok .next) s')
    (hs : ∀ x, foldedSetIterable iter env x = pure x := by intro _; rfl) :
    wpAny c.M A (comprehension (.ListComp elt [⟨.Name x px, iter, ifs, 0⟩] scope pos) scope env pos' (newList []) false (eval iter env) use) Q E s := by
  have hfree : ∀ p ∈ scope.names, p.2 = .free → (∃ P, (p.1, P) ∈ V) ∧ env.kindOf p.1 = some .cell := fun p hp e => by
    have := List.all_eq_true.mp ok.free p hp
    rw [e] at this
    obtain ⟨h1, h2⟩ := Bool.and_eq_true_iff.mp this
    obtain ⟨⟨y, P⟩, hq, e'⟩ := List.any_eq_true.mp h1
    exact ⟨⟨P, by rw [← beq_iff_eq.mp e']; exact hq⟩, beq_iff_eq.mp h2⟩
  have hcell : ∀ p ∈ scope.names, p.2 = .free → ∃ a v, env.cells.lookup p.1 = some a ∧ s.heap.IsCell a (some v) := fun p hp e => by
    obtain ⟨⟨P, hP⟩, hk⟩ := hfree p hp e
    obtain ⟨v, l, _, _⟩ := st.look _ _ hP
    rcases l with ⟨z, _⟩ | ⟨_, a, e1, e2⟩
    · rw [hk] at z; cases z
    · exact ⟨a, v, e1, e2⟩
  have hnm : ∀ y ∈ scope.names, scope.names.lookup y.1 = some y.2 := fun y hy => beq_iff_eq.mp (List.all_eq_true.mp ok.names y hy)
  have hclos : closureFor scope env = pure (clOf env scope.names []) := closureFor_eq fun p hp e => let ⟨a, _, e1, _⟩ := hcell p hp e; by rw [e1]; rfl
  refine wpAny_comprehension_free rfl hs hclos ok.kind (fun y hy e => by rw [hnm y hy, e]) ?_
  refine hsrc A Y s _ _ r st fun v s₁ k₁ p₁ => src A Y s₁ v _ _ r.1 (st.kp k₁).ex p₁ fun o ro P Sx hof Wk st0 hro lv hPa => ?_
  refine wpAny_newObj_type (newComp ?_)
  -- the parts
  generalize hI : s₁.heap.objs.size = I at *
  have hA1 : (s₁.heap.push o).objs.size = I + 1 := by rw [Heap.size_push, hI]
  dsimp only
  rw [hA1]
  have hA2 : ((s₁.heap.push o).push { cls := .type "list", dict := none, data := .seq ([] : List Value).toArray }).objs.size = I + 2 := by rw [Heap.size_push, hA1]
  rw [hA2]
  generalize hH2 : (s₁.heap.push o).push { cls := .type "list", dict := none, data := .seq ([] : List Value).toArray } = H2 at *
  have hA3 : (H2.push { cls := .type "dict", data := .dict #[] }).objs.size = I + 3 := by rw [Heap.size_push, hA2]
  generalize hH3 : H2.push { cls := .type "dict", data := .dict #[] } = H3 at *
  generalize hH4 : pushCells H3 scope.names = H4
  have k13 : ∀ b o, s₁.heap.get? b = some o → H3.get? b = some o := fun b o e => by
    rw [← hH3, ← hH2]; exact Heap.get?_push_of_some _ (Heap.get?_push_of_some _ (Heap.get?_push_of_some _ e))
  have k14 : ∀ b o, s₁.heap.get? b = some o → H4.get? b = some o := fun b o e => hH4 ▸ pushCells_keeps _ _ _ _ (k13 b o e)
  have gI : H4.get? I = some o := by
    rw [← hH4]; refine pushCells_keeps _ _ _ _ ?_
    rw [← hH3, ← hH2]
    refine Heap.get?_push_of_some _ (Heap.get?_push_of_some _ ?_)
    rw [← hI]; exact Heap.get?_push_size _ hof
  have gl : H4.get? (I + 1) = some { cls := .type "list", dict := none, data := .seq ([] : List Value).toArray } := by
    rw [← hH4]; refine pushCells_keeps _ _ _ _ ?_
    rw [← hH3, ← hH2]
    refine Heap.get?_push_of_some _ ?_
    rw [← hA1]; exact Heap.get?_push_size _ rfl
  have gC : H4.get? (I + 2) = some { cls := .type "dict", data := .dict #[] } := by
    rw [← hH4]; refine pushCells_keeps _ _ _ _ ?_
    rw [← hH3, ← hA2]; exact Heap.get?_push_size _ rfl
  have kk : Kp false s₁ { s₁ with heap := H4 } := Kp.hp' fun b o e => k14 b o e
  have st₁ := st.kp k₁
  have none_of : ∀ (b : Nat), I ≤ b → s₁.heap.get? b = none := fun b hb => get_none (hI ▸ hb)
  have below : ∀ (b : Nat), (∃ o, s₁.heap.get? b = some o) → b < I := fun b ⟨o, e⟩ => hI ▸ Heap.lt_size e
  let ce : Env := cenv scope (I + 2) env
  let Wn : List Addr := I :: (I + 1) :: (I + 2) :: List.range' (I + 3) (cnt scope.names)
  have hWn : ∀ b ∈ Wn, I ≤ b ∧ (H4.get? b).isSome = true := fun b hb => by
    simp only [Wn, List.mem_cons, List.mem_range'_1] at hb
    rcases hb with rfl | rfl | rfl | ⟨h1, h2⟩
    · exact ⟨Nat.le_refl _, by rw [gI]; rfl⟩
    · exact ⟨by omega, by rw [gl]; rfl⟩
    · exact ⟨by omega, by rw [gC]; rfl⟩
    · obtain ⟨oc, e, _⟩ := pushCells_cell scope.names H3 b (by rw [hA3]; exact h1) (by rw [hA3]; exact h2)
      rw [hH4] at e
      exact ⟨by omega, by rw [e]; rfl⟩
  have hcl : ∀ (y : Str) (b : Nat), ce.cells.lookup y = some b → (env.cells.lookup y = some b ∧ (y, NameKind.free) ∈ scope.names ∧ b < I) ∨ (I + 3 ≤ b ∧ b < I + 3 + cnt scope.names ∧ (y, NameKind.cell) ∈ scope.names) := fun y b e => by
    rcases cells_spec _ _ _ _ _ e with e | e
    · rcases clOf_spec _ _ _ _ e with e | ⟨e, m⟩
      · cases e
      · obtain ⟨b', v, e1, o', e2, _⟩ := hcell _ m rfl
        rw [e] at e1; cases e1
        exact .inl ⟨e, m, below _ ⟨o', k₁.heap _ _ e2⟩⟩
    · exact .inr e
  have F : FS false c ce (Vc scope V) Wn (Wn ++ Y) [(I, ItR I ro (fun _ => True) (Sx 0)), (I + 1, LsR true [])] [] s₁ { s₁ with heap := H4 } := by
    have hsh : (hideAll s₁.heap Y).StaysIn (hideAll H4 (Wn ++ Y)) := fun b ob e => by
      have e' := of_hideAll Y e
      refine hideAll_get _ (k14 _ _ e') fun q => ?_
      rcases List.mem_append.mp q with q | q
      · rw [none_of _ (hWn b q).1] at e'; cases e'
      · rw [hideAll_none Y q] at e; cases e
    refine ⟨⟨?_, ?_, ?_, st.ok, fun b ob e => k14 _ _ (st₁.base b ob e), fun b hb => ?_, fun y P' hy => ?_⟩, kk, st₁.base, fun b hb => ⟨List.mem_append_left _ hb, none_of b (hWn b hb).1⟩, ?_, ?_, fun y b e => ?_, ?_, fun p hp => ?_, ?_, fun p hp => by cases hp⟩
    · exact ok.kind
    · exact st.eg
    · exact st.eb
    · rcases List.mem_append.mp hb with q | q
      · exact (hWn b q).2
      · obtain ⟨ob, e⟩ := Option.isSome_iff_exists.mp (st₁.ex b q)
        show (H4.get? b).isSome = true; rw [k14 _ _ e]; rfl
    · obtain ⟨hy1, hy2⟩ := List.mem_filter.mp hy
      obtain ⟨v', l, pv, mo⟩ := st₁.look y P' hy1
      have hl : scope.names.lookup y = some .free := beq_iff_eq.mp hy2
      have hk := (hfree _ (mem_of_lookup hl) rfl).2
      refine ⟨v', .inr ?_, mo _ _ _ hsh pv, mo⟩
      rcases l with ⟨z, _⟩ | ⟨_, b, e1, e2⟩
      · rw [hk] at z; cases z
      · refine ⟨?_, b, ?_, e2.keeps fun b o e => k14 b o e⟩
        · show (relabel scope env).names.lookup y = some .cell
          unfold relabel
          rw [lookup_relabel hl]
          simp [hk, st.kind]
        · show (cellsFrom (I + 2 + 1) scope.names (clOf env scope.names [])).lookup y = some b
          rw [cells_old _ _ _ _ fun q => by have := hnm _ q; rw [hl] at this; cases this]
          rw [clOf_has _ _ _ (.inl (mem_of_lookup hl)) (fun _ _ e => by cases e), e1]
    · simp only [Wn, List.mem_cons]; right; right; left; rfl
    · exact ⟨_, _, _, _, gC, rfl, by intro e he; simp at he, fun _ => rfl⟩
    · rcases hcl y b e with ⟨e1, e2, e3⟩ | ⟨e1, e2, e3⟩
      · refine ⟨fun q => ?_, fun q => ?_, ?_⟩
        · have : @Eq Nat b (I + 2) := q
          omega
        · have : @LT.lt Nat _ (I + 2) b := q
          omega
        · obtain ⟨b', v', q1, q2⟩ := hcell _ e2 rfl
          rw [e1] at q1; cases q1
          exact ⟨_, (q2.keeps k₁.heap).keeps fun b o e => k14 b o e⟩
      · refine ⟨fun q => ?_, fun q => ?_, ?_⟩
        · have : @Eq Nat b (I + 2) := q
          omega
        · simp only [Wn, List.mem_cons, List.mem_range'_1]; right; right; right; exact ⟨e1, e2⟩
        · have := pushCells_cell scope.names H3 b (by rw [hA3]; exact e1) (by rw [hA3]; exact e2)
          rw [hH4] at this
          exact ⟨_, this⟩
    · refine cells_inj scope.names (I + 2 + 1) _ (I + 3) (fun y z (b : Nat) hb e e' => ?_) (fun y (b : Nat) e => ?_) (Nat.le_refl _)
      · rcases clOf_spec _ _ _ _ e with e | ⟨e, m⟩
        · cases e
        · obtain ⟨b', v, e1, o', e2, _⟩ := hcell _ m rfl
          rw [e] at e1; cases e1
          have := below _ ⟨o', k₁.heap _ _ e2⟩
          omega
      · rcases clOf_spec _ _ _ _ e with e | ⟨e, m⟩
        · cases e
        · obtain ⟨b', v, e1, o', e2, _⟩ := hcell _ m rfl
          rw [e] at e1; cases e1
          have := below _ ⟨o', k₁.heap _ _ e2⟩
          show @LT.lt Nat _ b (I + 2 + 1)
          omega
    · have ncl : ∀ (b : Nat), I ≤ b → b < I + 3 → ∀ y, ce.cells.lookup y ≠ some b := fun b h1 h2 y e => by
        rcases hcl y b e with ⟨_, _, e3⟩ | ⟨e1, _, _⟩
        · omega
        · omega
      simp only [List.mem_cons, List.not_mem_nil, or_false] at hp
      rcases hp with rfl | rfl
      · have nothing : MonoF (fun _ => True) := fun _ _ _ _ => trivial
        refine ⟨by simp [Wn], fun q => ?_, ncl I (Nat.le_refl _) (by omega), ItR_mono _ _ nothing _, o, gI, ?_⟩
        · have : @Eq Nat I (I + 2) := q
          omega
        · refine ItR_of (Fa := fun _ => True) (Wk A r.1) ?_ gI hide_le trivial fun b hb => let ⟨ob, e⟩ := hro b hb; ⟨ob, hsh _ _ e⟩
          refine (Wk A r.1).frame _ _ _ st0 fun b hb ob e => ?_
          rw [← hH4]; refine pushCells_keeps _ _ _ _ ?_
          rw [← hH3, ← hH2]; exact Heap.get?_push_of_some _ (Heap.get?_push_of_some _ e)
      · refine ⟨by simp [Wn], fun q => ?_, ncl (I + 1) (by omega) (by omega), LsR_mono _ _, _, gl, rfl, fun _ => rfl, [], _, [], rfl, .nil⟩
        have : @Eq Nat (I + 1) (I + 2) := q
        omega
    · refine List.pairwise_cons.mpr ⟨fun p hp => ?_, List.pairwise_singleton ..⟩
      rw [List.mem_singleton.mp hp]
      intro q
      have : @Eq Nat I (I + 1) := q
      omega
  have hk0 : ce.kindOf x = some .local ∨ ce.kindOf x = some .cell := by
    rcases ok.tgt with h | h
    · exact .inl (by show (relabel scope env).names.lookup x = _; unfold relabel; rw [lookup_relabel h]; rfl)
    · exact .inr (by show (relabel scope env).names.lookup x = _; unfold relabel; rw [lookup_relabel h]; rfl)
  have hst1 : St1 ce x := by
    rcases ok.tgt with h | h
    · exact .inl (by show (relabel scope env).names.lookup x = _; unfold relabel; rw [lookup_relabel h]; rfl)
    · refine .inr ⟨by show (relabel scope env).names.lookup x = _; unfold relabel; rw [lookup_relabel h]; rfl, ?_⟩
      obtain ⟨b, e, hb⟩ := cells_has scope.names (I + 2 + 1) (clOf env scope.names []) x (mem_of_lookup h)
      exact ⟨b, e, hb⟩
  have hno : noName x (Vc scope V) = true := List.all_eq_true.mpr fun p hp => by
    obtain ⟨_, h2⟩ := List.mem_filter.mp hp
    have h3 : scope.names.lookup p.1 = some .free := beq_iff_eq.mp h2
    cases e : p.1 == x with
    | false => rfl
    | true =>
      rw [beq_iff_eq.mp e] at h3
      rcases ok.tgt with h | h <;> (rw [h3] at h; cases h)
  have O : ∀ b ∈ Wn ++ Y, b ∈ Y ∨ s₁.heap.get? b = none := fun b hb => by
    rcases List.mem_append.mp hb with q | q
    · exact .inr (none_of b (hWn b q).1)
    · exact .inl q
  let EE : Value → Shared → Prop := notedBy c.M A ce fun e s' => compPost c.M A E use Q (.ref (I + 1)) (I + 2) (.error e) s'
  let Inv : Nat → Shared → Prop := fun n s' => ∃ i, i ≤ xs.length ∧ n = xs.length + 1 - i ∧ FS false c ce (Vc scope V) Wn (Wn ++ Y) [(I, ItR I ro (fun _ => True) (Sx i)), (I + 1, LsR true (((xs.take i).filter keep).map Rs))] [] s₁ s'
  have loop : codeAny c.M A (.compLoop (.ListComp elt [⟨.Name x px, iter, ifs, 0⟩] scope pos) 0 (.ref I) (.ref (I + 1)) ce) (compPost c.M A E use Q (.ref (I + 1)) (I + 2)) { s₁ with heap := H4 } := by
    refine codeAny_compLoop_tests Inv ?_ (xs.length + 1) ⟨0, Nat.zero_le _, rfl, F⟩
    rintro n s' ⟨i, hi, rfl, F⟩
    by_cases hlt : i < xs.length
    · obtain ⟨a, ha⟩ : ∃ a, xs[i]? = some a := ⟨xs[i], List.getElem?_eq_getElem hlt⟩
      have ham : a ∈ xs := List.mem_of_getElem? ha
      refine F.next (fun _ _ _ _ => trivial) (Wk A r.1) lv hlt fun v s₂ pv F₂ _ => ?_
      have pa : Pa a (hideAll s₂.heap (Wn ++ Y)) v := mP a _ _ _ (F₂.shown O) (hPa i v a pv ha)
      refine wpAny_assign_Name (F₂.store hst1 hno pa (mP a) fun s₃ F₃ => ?_)
      refine (tests (I + 2) a ham).run F₃ r fun s₄ F₄ => ?_
      have tk : xs.take (i + 1) = xs.take i ++ [a] := by rw [List.take_add_one, ha]; rfl
      cases hkp : keep a with
      | false =>
        simp only [Bool.false_eq_true, if_false]
        refine ⟨xs.length + 1 - (i + 1), by omega, i + 1, hlt, rfl, ?_⟩
        rw [tk, List.filter_append]
        simp only [List.filter_cons, hkp, List.filter_nil, List.append_nil, Bool.false_eq_true, if_false]
        exact F₄.weaken fun p hp => .tail _ hp
      | true =>
        simp only [if_true]
        refine F₄.ev r (helt (I + 2) a ham hkp) fun y s₅ F₅ py => ?_
        refine F₅.swap.append py ?_ fun s₆ F₆ => ?_
        · rw [List.length_map]
          have h1 := List.length_filter_le keep (xs.take i)
          have h2 := List.length_take_le i xs
          omega
        · refine ⟨xs.length + 1 - (i + 1), by omega, i + 1, hlt, rfl, ?_⟩
          rw [tk, List.filter_append]
          simp only [List.filter_cons, hkp, List.filter_nil, if_true, List.map_append, List.map_cons, List.map_nil]
          exact F₆.swap.weaken fun p hp => .tail _ hp
    · have hin : i = xs.length := by omega
      subst hin
      rw [List.take_length] at F
      obtain ⟨_, _, _, _, oI, hoI, _, hr', hst⟩ := F.mu _ (.head _)
      have stI : Sx xs.length s'.heap := hst _ hoI fun b _ ob e => hide_le _ _ e
      refine (Wk A r.1).done s' _ _ stI fun h' tk kk' => ?_
      have kkI : Heap.ExtBut I s'.heap h' := fun b o hb e => kk' b o (by simpa using hb) e
      -- all but the iterator stands
      obtain ⟨_, _, _, _, ol, hol, hc, hd, vs, m, as, hda, rd⟩ := F.mu _ (.tail _ (.head _))
      have hIl : (I + 1 : Nat) ≠ I := Nat.succ_ne_self _
      have hIC : (I + 2 : Nat) ≠ I := by omega
      obtain ⟨mC, nC⟩ := F.ns
      have nC' : h'.Ns (I + 2) mC := nC.extBut kkI hIC
      have kp' : Kp false s { s' with heap := h', toks := tk } := by
        refine k₁.trans ⟨fun b o e => kkI b o (fun q => ?_) (F.kp.heap _ _ e), F.kp.os, F.kp.drawn, F.kp.gens, F.kp.bare, F.kp.same⟩
        rw [q, none_of I (Nat.le_refl _)] at e; cases e
      have nn : ∀ b : Nat, I ≤ b → s.heap.get? b = none := fun b hb => by
        cases e : s.heap.get? b with
        | none => rfl
        | some ob => have := k₁.heap _ _ e; rw [none_of b hb] at this; cases this
      refine q (I + 1) (I + 2) mC _ kp' (nn _ (by omega)) (nn _ (by omega)) (fun e => ?_) nC' (mk_list (isList_hide ⟨ol, kkI _ _ hIl hol, hc, m, hda⟩ ?_) (ReadsAll.keeps ?_ rd))
      · have : @Eq Nat (I + 2) (I + 1) := e
        omega
      · intro hm
        rcases List.mem_cons.mp hm with e | hm
        · have : @Eq Nat (I + 1) (I + 2) := e
          omega
        · obtain ⟨ob, e⟩ := Option.isSome_iff_exists.mp (st₁.ex _ hm)
          rw [none_of (I + 1) (by omega)] at e; cases e
      · intro b ob e
        have n : b ∉ Wn ++ Y := fun q => by rw [hideAll_none _ q] at e; cases e
        refine hideAll_get _ (kkI b ob (fun q => n (List.mem_append_left _ (q ▸ .head _))) (of_hideAll _ e)) fun q => ?_
        rcases List.mem_cons.mp q with q | q
        · exact n (List.mem_append_left _ (by rw [q]; simp [Wn]))
        · exact n (List.mem_append_right _ q)
  refine codeAny_compStart_list loop ?_
  refine (Wk A r.1).self 0 _ _ _ ?_ loop
  refine (Wk A r.1).frame _ _ _ st0 fun b hb ob e => ?_
  rw [← hH4]; refine pushCells_keeps _ _ _ _ ?_
  rw [← hH3, ← hH2]; exact Heap.get?_push_of_some _ (Heap.get?_push_of_some _ e)
end
section
variable {g b : Bool} {k : Nat} {c : Cx} {env : Env} {V V' : List (Str × Pr)} {W Y Y₀ : List Addr} {MU MU' : List (Addr × Rp)} {GN : List (Nat × GenState)} {s₀ s s' : Shared} {a : Addr} {R R' : Rp} {x : Str} {ds : List PyData}
  {A : Around} {E : Value → Shared → Prop} {Q : Flow → Shared → Prop} {rest : List Stmt} {P : Pr} {e : Expr} {px pos : Pos}
theorem ev_comp {α : Type} {elt iter : Expr} {px : Pos} {ifs : List Expr} {scope : Scope} {pos : Pos} {S : Pr} {xs : List α} {Pa : α → Pr} {keep : α → Bool} {Rs : α → PyData}
    (ok : CompOk scope env V x) (hsrc : EvOK false k c env V iter S) (src : SrcOf c S xs Pa) (hn : xs.length ≤ sizeLine) (mP : ∀ a, Mono (Pa a))
    (tests : ∀ C a, a ∈ xs → TsOK false k c (cenv scope C env) ((x, Pa a) :: Vc scope V) ifs (keep a))
    (helt : ∀ C a, a ∈ xs → keep a = true → EvOK false k c (cenv scope C env) ((x, Pa a) :: Vc scope V) elt (D (Rs a)))
    (hs : ∀ x, foldedSetIterable iter env x = pure x := by intro _; rfl) :
    EvOK g k c env V (.ListComp elt [⟨.Name x px, iter, ifs, 0⟩] scope pos) (D (.list ((xs.filter keep).map Rs))) := fun A Y s Q E r st q => by
  rw [eval_ListComp]
  refine comp_core (use := none) r st ok hsrc src hn mP tests helt (fun l C m s' kp hl hC hCl hn hd => ⟨m, hn, fun h' hs' => q _ _ ?_ ?_⟩) hs
  · refine Kp.up ⟨fun b o e => hs'.extBut b o (fun q => ?_) (kp.heap _ _ e), kp.os, kp.drawn, kp.gens, kp.bare, kp.same⟩
    rw [q, hC] at e; cases e
  · refine D_mono _ _ _ _ (fun b o e => ?_) hd
    have n : b ∉ C :: Y := fun q => by rw [hideAll_none _ q] at e; cases e
    exact hideAll_get _ (hs'.extBut b o (fun q => n (q ▸ .head _)) (of_hideAll _ e)) fun q => n (.tail _ q)
def thenK (c : Cx) (A : Around) (env : Env) (rest : List Stmt) (Q : Flow → Shared → Prop) (E : Value → Shared → Prop) : Flow → Shared → Prop := fun f s => match f with
  | .next => wpAny c.M A (execs rest env) Q E s
  | f => Q f s
theorem xs_nil (h : Q .next s) : wpAny c.M A (execs [] env) Q E s := wpAny_execs_nil h
theorem xs_assign (F : FS g c env V W Y MU GN s₀ s) (r : Room k A) (h : EvOK g k c env V e P) (m : Mono P) (hk : St1 env x) (hn : noName x V = true)
    (q : ∀ s', FS g c env ((x, P) :: V) W Y MU GN s₀ s' → wpAny c.M A (execs rest env) Q E s') (hs : swapsWith e (some (.Name x px)) pos.line env = pure false := by rfl) :
    wpAny c.M A (execs (.Assign [.Name x px] e pos :: rest) env) Q E s :=
  wpAny_execs_cons (wpAny_Assign_Name (F.ev r h fun v s₁ F₁ p => F₁.store hk hn p m q) hs)
theorem xs_assign_comp {α : Type} {elt iter : Expr} {y : Str} {py spos : Pos} {ifs : List Expr} {scope : Scope} {S : Pr} {xs : List α} {Pa : α → Pr} {keep : α → Bool} {Rs : α → PyData}
    (F : FS g c env V W Y MU GN s₀ s) (r : Room k A) (ok : CompOk scope env V x) (hsrc : EvOK false k c env V iter S) (src : SrcOf c S xs Pa) (hl : xs.length ≤ sizeLine) (mP : ∀ a, Mono (Pa a))
    (tests : ∀ C a, a ∈ xs → TsOK false k c (cenv scope C env) ((x, Pa a) :: Vc scope V) ifs (keep a))
    (helt : ∀ C a, a ∈ xs → keep a = true → EvOK false k c (cenv scope C env) ((x, Pa a) :: Vc scope V) elt (D (Rs a))) (hk : St1 env y) (hn : noName y V = true)
    (q : ∀ s', FS g c env ((y, D (.list ((xs.filter keep).map Rs))) :: V) W Y MU GN s₀ s' → wpAny c.M A (execs rest env) Q E s')
    (hsw : swapsWith (.ListComp elt [⟨.Name x px, iter, ifs, 0⟩] scope pos) (some (.Name y py)) spos.line env = pure true := by rfl) (hs : ∀ x, foldedSetIterable iter env x = pure x := by intro _; rfl) :
    wpAny c.M A (execs (.Assign [.Name y py] (.ListComp elt [⟨.Name x px, iter, ifs, 0⟩] scope pos) spos :: rest) env) Q E s := by
  refine wpAny_execs_cons ?_
  rw [exec_Assign_Name_used _ _ _ _ hsw]
  refine wpAny_bind (wpAny_standAt (wpAny_bind ?_))
  show wpAny _ A (do let _ ← comprehension (.ListComp elt [⟨.Name x px, iter, ifs, 0⟩] scope pos) scope env _ (newList []) false (eval iter env) (some (assign (.Name y py) env))) _ _ s
  refine wpAny_bind (wpAny_mono (comp_core (use := some (assign (.Name y py) env)) (Q := fun _ s' => wpAny c.M A (execs rest env) Q E s') (E := E) r F.rd ok hsrc src hl mP tests helt (fun l C m s' kp hl hC hCl hn' hd => ?_) hs)
    (fun _ s' hq => wpAny_pure (wpAny_pure hq)) fun _ _ e => e)
  obtain ⟨oC, es, ep, gC, dC, kC, fC⟩ := hn'
  have F₁ := F.adopt (R := NsR) kp.up hC gC ⟨es, ep, dC, kC⟩ NsR_mono
  show wpAny c.M A (assign (.Name y py) env (.ref l)) _ E s'
  refine wpAny_assign_Name (F₁.store hk hn hd (D_mono _) fun s₂ F₂ => ?_)
  obtain ⟨_, _, _, _, o2, ho2, es2, ep2, hd2, hk2⟩ := F₂.mu _ (.head _)
  exact ⟨_, ⟨o2, es2, ep2, ho2, hd2, hk2, fun _ => rfl⟩, fun h' hs' => q _ (F₂.lose F.own rfl (F.notin hC) hs'.extBut)⟩
theorem xs_if {t : Expr} {body orelse : List Stmt} {b : Bool} (F : FS g c env V W Y MU GN s₀ s) (r : Room k A) (h : TrOK g k c env V t b)
    (ht : b = true → ∀ s', FS g c env V W Y MU GN s₀ s' → wpAny c.M A (execs body env) (thenK c A env rest Q E) E s')
    (hf : b = false → ∀ s', FS g c env V W Y MU GN s₀ s' → wpAny c.M A (execs orelse env) (thenK c A env rest Q E) E s') :
    wpAny c.M A (execs (.If t body orelse pos :: rest) env) Q E s :=
  wpAny_execs_cons (wpAny_If (F.tr r h fun s₁ F₁ => by
    cases b with
    | true => exact wpAny_mono (ht rfl s₁ F₁) (fun f s h => by cases f <;> exact h) fun _ _ e => e
    | false => exact wpAny_mono (hf rfl s₁ F₁) (fun f s h => by cases f <;> exact h) fun _ _ e => e))
theorem xs_return (F : FS g c env V W Y MU GN s₀ s) (r : Room k A) (h : EvOK g k c env V e P) (q : ∀ v s', FS g c env V W Y MU GN s₀ s' → P (hideAll s'.heap Y) v → Q (.ret v) s') :
    wpAny c.M A (execs (.Return (some e) pos :: rest) env) Q E s :=
  wpAny_execs_cons (wpAny_Return_some (F.ev r h fun v s₁ F₁ p => q v s₁ F₁ p))
def noA (a : Addr) (Y : List Addr) : List Addr := Y.filter fun b => !decide (b = a)
theorem mem_noA {a b : Addr} {Y : List Addr} : b ∈ noA a Y ↔ b ∈ Y ∧ b ≠ a := by simp [noA, List.mem_filter]
theorem FS.restN (F : FS g c env V W Y ((a, LsR b ds) :: MU) GN s₀ s) (hx : (x, Is (.ref a)) ∈ V) : RdSt c env ((x, D (.list ds)) :: V) (noA a Y) s := by
  have st : (hideAll s.heap Y).StaysIn (hideAll s.heap (noA a Y)) := hide_anti fun b hb => (mem_noA.mp hb).1
  refine ⟨F.rd.kind, F.rd.eg, F.rd.eb, F.rd.ok, F.rd.base, fun b hb => F.rd.ex b (mem_noA.mp hb).1, fun y P hy => ?_⟩
  rcases List.mem_cons.mp hy with e | hy
  · cases e
    obtain ⟨v', l, e, _⟩ := F.rd.look x _ hx
    cases e
    obtain ⟨_, _, _, _, o, ho, hc, _, vs, n, as, hd, r⟩ := F.mu _ (.head _)
    exact ⟨_, l, mk_list (isList_hide ⟨o, ho, hc, n, hd⟩ fun q => (mem_noA.mp q).2 rfl) (ReadsAll.keeps st r), D_mono _⟩
  · obtain ⟨v, l, p, mo⟩ := F.rd.look y P hy
    exact ⟨v, l, mo _ _ _ st p, mo⟩
theorem xs_return_rest (F : FS g c env V W Y ((a, LsR b ds) :: MU) GN s₀ s) (hx : (x, Is (.ref a)) ∈ V) (r : Room k A) (h : EvOK g k c env ((x, D (.list ds)) :: V) e P)
    (q : ∀ v s', FS g c env V W Y ((a, LsR b ds) :: MU) GN s₀ s' → P (hideAll s'.heap (noA a Y)) v → Q (.ret v) s') :
    wpAny c.M A (execs (.Return (some e) pos :: rest) env) Q E s :=
  wpAny_execs_cons (wpAny_Return_some (h A _ s _ E r (F.restN hx) fun v s' kp p => q v s' (F.kpstep kp) p))
def Scal (d : PyData) : Prop := ∀ h h' v, D d h v → D d h' v
theorem scal_int (i : Int) : Scal (.int i) := fun _ _ _ p => D_int.mpr (D_int.mp p)
theorem scal_str (i : Str) : Scal (.str i) := fun _ _ _ p => D_str.mpr (D_str.mp p)
theorem xs_append_v {l : Str} {lp ap spos : Pos} {d : PyData} (F : FS g c env V W Y ((a, LsR true ds) :: MU) GN s₀ s) (hx : (l, Is (.ref a)) ∈ V) (r : Room k A) (hsz : ds.length ≤ sizeLine)
    (he : ∀ s₁ (Q₁ : Value → Shared → Prop), FS g c env V W Y ((a, LsR true ds) :: MU) GN s₀ s₁ → (∀ v s₂, FS g c env V W Y ((a, LsR true ds) :: MU) GN s₀ s₂ → D d (hideAll s₂.heap Y) v → Q₁ v s₂) → wpAny c.M A (eval e env) Q₁ E s₁)
    (q : ∀ s', FS g c env V W Y ((a, LsR true (ds ++ [d])) :: MU) GN s₀ s' → wpAny c.M A (execs rest env) Q E s') (hd : (l == ("__debug__" : Str)) = false)
    (hbase : attributeBase (.Name l lp) "append" env (eval (.Name l lp) env) = eval (.Name l lp) env)
    (hfew : ((backTo pos (starEach [e] env)).all (fun x => !x.1) && (backToKw pos (keywordEach [] env)).all (fun x => x.1.isSome)
      && decide (([e] : List Expr).length + ([] : List Keyword).length + (if ([] : List Keyword).isEmpty then 0 else 1) < 30)) = true)
    (hline : (ap.endLine == pos.line) = true) (htrees : backTo pos (starEach [e] env) = [(false, eval e env)])
    (hs : swapsWith (.Call (.Attribute (.Name l lp) "append" ap) [e] [] pos) none spos.line env = pure false) :
    wpAny c.M A (execs (.Expr (.Call (.Attribute (.Name l lp) "append" ap) [e] [] pos) spos :: rest) env) Q E s := by
  refine wpAny_execs_cons (wpAny_Expr (wpAny_Call_append hbase hfew hline htrees ?_) (by unfold interactive; rw [F.rd.kind]; rfl) hs)
  refine (ev_name (g := g) (k := k) (c := c) hx hd) A Y s _ E r F.rd fun v s₁ k₁ p => ?_
  cases p
  have F₁ := F.kpstep k₁
  obtain ⟨_, _, _, _, o, ho, hc, hdn, vs, n, as, hda, rd⟩ := F₁.mu _ (.head _)
  exact ⟨a, vs.toArray, rfl, ⟨o, n, ho, hc, hdn rfl, hda⟩, he s₁ _ F₁ fun v s₂ F₂ pv => F₂.append pv hsz fun s₃ F₃ => q s₃ F₃⟩
theorem xs_append {l : Str} {lp ap spos : Pos} {d : PyData} (F : FS g c env V W Y ((a, LsR true ds) :: MU) GN s₀ s) (hx : (l, Is (.ref a)) ∈ V) (r : Room k A) (hsz : ds.length ≤ sizeLine) (he : EvOK g k c env V e (D d))
    (q : ∀ s', FS g c env V W Y ((a, LsR true (ds ++ [d])) :: MU) GN s₀ s' → wpAny c.M A (execs rest env) Q E s') (hd : (l == ("__debug__" : Str)) = false := by decide)
    (hbase : attributeBase (.Name l lp) "append" env (eval (.Name l lp) env) = eval (.Name l lp) env := by rfl)
    (hfew : ((backTo pos (starEach [e] env)).all (fun x => !x.1) && (backToKw pos (keywordEach [] env)).all (fun x => x.1.isSome)
      && decide (([e] : List Expr).length + ([] : List Keyword).length + (if ([] : List Keyword).isEmpty then 0 else 1) < 30)) = true := by rfl)
    (hline : (ap.endLine == pos.line) = true := by rfl) (htrees : backTo pos (starEach [e] env) = [(false, eval e env)] := by rfl)
    (hs : swapsWith (.Call (.Attribute (.Name l lp) "append" ap) [e] [] pos) none spos.line env = pure false := by rfl) :
    wpAny c.M A (execs (.Expr (.Call (.Attribute (.Name l lp) "append" ap) [e] [] pos) spos :: rest) env) Q E s :=
  xs_append_v F hx r hsz (fun s₁ Q₁ F₁ q₁ => F₁.ev r he fun v s₂ F₂ p => q₁ v s₂ F₂ p) q hd hbase hfew hline htrees hs
theorem xs_append_rest {l : Str} {lp ap spos : Pos} {d : PyData} (F : FS g c env V W Y ((a, LsR true ds) :: MU) GN s₀ s) (hx : (l, Is (.ref a)) ∈ V) (r : Room k A) (hsz : ds.length ≤ sizeLine) (hsc : Scal d) (he : EvOK g k c env ((l, D (.list ds)) :: V) e (D d))
    (q : ∀ s', FS g c env V W Y ((a, LsR true (ds ++ [d])) :: MU) GN s₀ s' → wpAny c.M A (execs rest env) Q E s') (hd : (l == ("__debug__" : Str)) = false := by decide)
    (hbase : attributeBase (.Name l lp) "append" env (eval (.Name l lp) env) = eval (.Name l lp) env := by rfl)
    (hfew : ((backTo pos (starEach [e] env)).all (fun x => !x.1) && (backToKw pos (keywordEach [] env)).all (fun x => x.1.isSome)
      && decide (([e] : List Expr).length + ([] : List Keyword).length + (if ([] : List Keyword).isEmpty then 0 else 1) < 30)) = true := by rfl)
    (hline : (ap.endLine == pos.line) = true := by rfl) (htrees : backTo pos (starEach [e] env) = [(false, eval e env)] := by rfl)
    (hs : swapsWith (.Call (.Attribute (.Name l lp) "append" ap) [e] [] pos) none spos.line env = pure false := by rfl) :
    wpAny c.M A (execs (.Expr (.Call (.Attribute (.Name l lp) "append" ap) [e] [] pos) spos :: rest) env) Q E s :=
  xs_append_v F hx r hsz (fun s₁ Q₁ F₁ q₁ => he A _ s₁ _ E r (F₁.restN hx) fun v s₂ k₂ p => q₁ v s₂ (F₁.kpstep k₂) (hsc _ _ _ p)) q hd hbase hfew hline htrees hs
theorem readsAll_set {h : Heap} : ∀ {vs : List Value} {ds : List PyData} {as : List Addr} {v : Value} {d : PyData} {bs : List Addr} (i : Nat), ReadsAll h vs ds as → Reads h v d bs → ∃ cs, ReadsAll h (vs.set i v) (ds.set i d) cs
  | _, _, _, _, _, _, _, .nil, r => ⟨_, .nil⟩
  | _, _, _, _, _, _, 0, .cons r rs, r' => ⟨_, .cons r' rs⟩
  | _, _, _, _, _, _, i + 1, .cons r rs, r' => let ⟨cs, q⟩ := readsAll_set i rs r'; ⟨_, .cons r q⟩
theorem FS.setItem {d : PyData} {v : Value} {i : Int} {t : Tok} {A : Around} {Q : Unit → Shared → Prop} (F : FS g c env V W Y ((a, LsR b ds) :: MU) GN s₀ s) (p : D d (hideAll s.heap Y) v) (h0 : 0 ≤ i) (hi : i < ds.length) (hf : i < 2 ^ 63)
    (q : ∀ s', FS g c env V W Y ((a, LsR false (ds.set i.toNat d)) :: MU) GN s₀ s' → Q () s') : wpAny c.M A (setItem (.ref a) (.int i t) v) Q E s := by
  obtain ⟨_, _, _, _, o, ho, hc, hd, vs, n, as, hda, r⟩ := F.mu _ (.head _)
  obtain ⟨bs, rb⟩ := p
  have e : vs.length = ds.length := PyProof.Rows.readsAll_len _ r
  refine wpAny_setItem_list (items := vs.toArray) ⟨o, ho, hc, n, hda⟩ h0 hf (by rw [List.size_toArray, e]; exact hi) fun h' hl hs => ?_
  obtain ⟨o', ho', hc', n', hda'⟩ := hl
  obtain ⟨cs, rc⟩ := readsAll_set i.toNat r rb
  exact q _ (F.put (tk := s.toks) hs.extBut ho' ⟨hc', (fun h => by cases h), vs.set i.toNat v, n', cs, by rw [hda']; simp, rc⟩ (LsR_mono _ _))
theorem xs_setitem {l : Str} {lp tp : Pos} {i : Int} {ie : Expr} {d : PyData} (F : FS g c env V W Y ((a, LsR b ds) :: MU) GN s₀ s) (hx : (l, Is (.ref a)) ∈ V) (r : Room k A) (he : EvOK g k c env V e (D d)) (hsc : Scal d) (hie : EvOK g k c env V ie (D (.int i)))
    (h0 : 0 ≤ i) (hi : i < ds.length) (hf : i < 2 ^ 63)
    (q : ∀ s', FS g c env V W Y ((a, LsR false (ds.set i.toNat d)) :: MU) GN s₀ s' → wpAny c.M A (execs rest env) Q E s') (hd : (l == ("__debug__" : Str)) = false := by decide)
    (hs : swapsWith e (some (.Subscript (.Name l lp) ie tp)) pos.line env = pure false := by rfl) :
    wpAny c.M A (execs (.Assign [.Subscript (.Name l lp) ie tp] e pos :: rest) env) Q E s := by
  refine wpAny_execs_cons (wpAny_Assign_Subscript (F.ev r he fun v s₁ F₁ p => ?_) hs)
  refine (ev_name (g := g) (k := k) (c := c) hx hd) A Y s₁ _ E r F₁.rd fun w s₂ k₂ pw => ?_
  cases pw
  refine (F₁.kpstep k₂).ev r hie fun iv s₃ F₃ pi => ?_
  obtain ⟨t, rfl⟩ := D_int.mp pi
  exact F₃.setItem (hsc _ _ _ p) h0 hi hf fun s' F' => q s' F'
def LoopQ (Q : Flow → Shared → Prop) (J JX : Shared → Prop) : Flow → Shared → Prop := fun f s => match f with
  | .next => J s
  | .cont => J s
  | .brk => JX s
  | .ret v => Q (.ret v) s
theorem FS.ownTail (F : FS g c env V (a :: W) (a :: Y) ((a, R) :: MU) GN s₀ s) (h : a ∉ Y) (hW : ∀ b ∈ W, b ∈ Y) : Own env W Y MU := by
  obtain ⟨_, al, ac, _, _⟩ := F.mu _ (.head _)
  refine ⟨hW, ?_, fun x b e hb => ?_, fun p hp => ?_⟩
  · rcases List.mem_cons.mp F.loc with z | z
    · exact absurd z.symm al
    · exact z
  · rcases List.mem_cons.mp ((F.cel x b e).2.1 hb) with z | z
    · exact absurd (z ▸ e) (ac x)
    · exact z
  · rcases List.mem_cons.mp (F.mu p (.tail _ hp)).1 with z | z
    · exact absurd z.symm ((List.pairwise_cons.mp F.dis).1 p hp)
    · exact z
theorem xs_forG {α Θ : Type} {it : Expr} {body : List Stmt} {S : Pr} {xs : List α} {Pa : α → Pr} {Wx : Θ → List Addr} {Vi : Θ → List α → List (Str × Pr)} {MUi : Θ → List α → List (Addr × Rp)} {Iv : List α → Prop} {θ₀ : Θ}
    (r : Room k A) (hev : ∀ (Q₁ E₁ : Value → Shared → Prop), (∀ v s', FS g c env V (Wx θ₀ ++ W) (Wx θ₀ ++ Y) MU GN s₀ s' → S (hideAll s'.heap (Wx θ₀ ++ Y)) v → Q₁ v s') → wpAny c.M A (eval it env) Q₁ E₁ s) (src : SrcOf c S xs Pa) (hk : St1 env x) (hn : ∀ θ pre, noName x (Vi θ pre) = true) (mP : ∀ a, Mono (Pa a))
    (h0 : ∀ p ∈ Vi θ₀ [], p ∈ V) (hm0 : MUi θ₀ [] = MU) (iv0 : Iv []) (hWY : ∀ b ∈ W, b ∈ Y)
    (turn : ∀ θ pre a post I R s', xs = pre ++ a :: post → Iv pre → I ∉ Wx θ ++ Y → FS g c env ((x, Pa a) :: Vi θ pre) (I :: (Wx θ ++ W)) (I :: (Wx θ ++ Y)) (MUi θ pre ++ [(I, R)]) GN s₀ s' →
      ∀ E', wpAny c.M A (execs body env) (LoopQ Q (fun s'' => Iv (pre ++ [a]) ∧ ∃ θ', I ∉ Wx θ' ++ Y ∧ FS g c env (Vi θ' (pre ++ [a])) (I :: (Wx θ' ++ W)) (I :: (Wx θ' ++ Y)) (MUi θ' (pre ++ [a]) ++ [(I, R)]) GN s₀ s'')
        fun s'' => ∃ θ', I ∉ Wx θ' ++ Y ∧ FS g c env (Vi θ' xs) (I :: (Wx θ' ++ W)) (I :: (Wx θ' ++ Y)) (MUi θ' xs ++ [(I, R)]) GN s₀ s'') E' s')
    (q : ∀ θ s', FS g c env (Vi θ xs) (Wx θ ++ W) (Wx θ ++ Y) (MUi θ xs) GN s₀ s' → wpAny c.M A (execs rest env) Q E s') (hs : ∀ x, foldedSetIterable it env x = pure x := by intro _; rfl) :
    wpAny c.M A (execs (.For (.Name x px) it body [] pos :: rest) env) Q E s := by
  refine wpAny_execs_cons (wpAny_For (hev _ _ fun v s₁ F₁ p => ?_) hs)
  refine src A _ s₁ v _ _ r.1 F₁.rd.ex p fun o ro P St hof Wk st0 hro lv hPa => ?_
  have hI : s₁.heap.get? s₁.heap.objs.size = none := get_none (Nat.le_refl _)
  have kp : Kp g s₁ { s₁ with heap := s₁.heap.push o } := Kp.push s₁ o
  have hIY := F₁.notin hI
  have gI : (s₁.heap.push o).get? s₁.heap.objs.size = some o := Heap.get?_push_size _ hof
  let Fa : Heap → Prop := fun hh => ∀ i v a, P i v → xs[i]? = some a → Pa a hh v
  have mF : MonoF Fa := fun h h' hk fa i v a p e => mP a _ _ _ hk (fa i v a p e)
  have F₂ := F₁.adopt (R := ItR s₁.heap.objs.size ro Fa (St 0)) kp hI gI ⟨hPa, hro, fun h' e rr => (Wk A r.1).frame _ _ _ st0 fun b hb ob e' => by
    rcases List.mem_cons.mp hb with rfl | hb
    · rw [gI] at e'; cases e'; exact e
    · obtain ⟨ob', z⟩ := hro b hb
      have := Heap.get?_push_of_some o (hide_le _ _ z)
      rw [e'] at this; cases this
      exact rr b hb _ z⟩ (ItR_mono _ _ mF _)
  generalize s₁.heap.objs.size = I at *
  have sub : ∀ θ, ∀ b ∈ Wx θ ++ W, b ∈ Wx θ ++ Y := fun θ b hb => (List.mem_append.mp hb).elim (List.mem_append_left _) fun z => List.mem_append_right _ (hWY b z)
  let Inv : Nat → Shared → Prop := fun n s' => ∃ i θ, i ≤ xs.length ∧ n = xs.length + 1 - i ∧ Iv (xs.take i) ∧ I ∉ Wx θ ++ Y ∧ FS g c env (Vi θ (xs.take i)) (I :: (Wx θ ++ W)) (I :: (Wx θ ++ Y)) ((I, ItR I ro Fa (St i)) :: MUi θ (xs.take i)) GN s₀ s'
  refine codeAny_forLoop_any Inv ?_ (xs.length + 1) ⟨0, θ₀, Nat.zero_le _, rfl, iv0, hIY, by rw [List.take_zero, hm0]; exact F₂.weaken h0⟩
  rintro n s' ⟨i, θ, hi, rfl, iv, hIY, G⟩
  by_cases hlt : i < xs.length
  · obtain ⟨a, ha⟩ : ∃ a, xs[i]? = some a := ⟨xs[i], List.getElem?_eq_getElem hlt⟩
    have tk : xs.take (i + 1) = xs.take i ++ [a] := by rw [List.take_add_one, ha]; rfl
    refine G.next mF (Wk A r.1) lv hlt fun v s₂ pv G₂ fa => ?_
    refine wpAny_of_eq (rfl : letOwnedTupleGo (.Name x px) (.ref I) v = pure ()) ?_
    refine wpAny_assign_Name (G₂.store hk (hn _ _) (fa i v a pv ha) (mP a) fun s₃ G₃ => ?_)
    have hx : xs = xs.take i ++ a :: xs.drop (i + 1) := by
      have h1 := List.take_append_drop i xs
      rw [List.drop_eq_getElem_cons hlt] at h1
      have h2 : a = xs[i] := by rw [List.getElem?_eq_getElem hlt] at ha; exact (Option.some.inj ha).symm
      rw [h2]; exact h1.symm
    refine wpAny_mono (turn θ (xs.take i) a (xs.drop (i + 1)) I (ItR I ro Fa (St (i + 1))) s₃ hx iv hIY (G₃.perm (List.perm_append_comm (l₁ := [_]))) _) (fun f s₄ hf => ?_) fun _ _ e => e
    have go : (Iv (xs.take i ++ [a]) ∧ ∃ θ', I ∉ Wx θ' ++ Y ∧ FS g c env (Vi θ' (xs.take i ++ [a])) (I :: (Wx θ' ++ W)) (I :: (Wx θ' ++ Y)) (MUi θ' (xs.take i ++ [a]) ++ [(I, ItR I ro Fa (St (i + 1)))]) GN s₀ s₄) → ∃ m, m < xs.length + 1 - i ∧ Inv m s₄ := fun ⟨iv', θ', hI', hf⟩ =>
      ⟨xs.length + 1 - (i + 1), by omega, i + 1, θ', hlt, rfl, by rw [tk]; exact iv', hI', by rw [tk]; exact hf.perm (List.perm_append_comm (l₂ := [_]))⟩
    cases f with
    | next => exact go hf
    | cont => exact go hf
    | brk =>
      obtain ⟨θ', hI', hf⟩ := hf
      have G₄ := hf.perm (List.perm_append_comm (l₂ := [_]))
      exact q θ' _ (G₄.lose (G₄.ownTail hI' (sub θ')) rfl hI' (Heap.ExtBut.refl _ _))
    | ret v => exact hf
  · have hin : i = xs.length := by omega
    subst hin
    rw [List.take_length] at G
    exact G.done (G.ownTail hIY (sub θ)) rfl hIY (Wk A r.1) fun s₂ G₂ => wpAny_execs_nil (q θ _ G₂)
theorem xs_for {α : Type} {it : Expr} {body : List Stmt} {S : Pr} {xs : List α} {Pa : α → Pr} {Vi : List α → List (Str × Pr)} {MUi : List α → List (Addr × Rp)}
    (F : FS g c env V W Y MU GN s₀ s) (r : Room k A) (h : EvOK g k c env V it S) (src : SrcOf c S xs Pa) (hk : St1 env x) (hn : ∀ pre, noName x (Vi pre) = true) (mP : ∀ a, Mono (Pa a))
    (h0 : ∀ p ∈ Vi [], p ∈ V) (hm0 : MUi [] = MU)
    (turn : ∀ pre a post I R s', xs = pre ++ a :: post → I ∉ Y → FS g c env ((x, Pa a) :: Vi pre) (I :: W) (I :: Y) (MUi pre ++ [(I, R)]) GN s₀ s' →
      ∀ E', wpAny c.M A (execs body env) (LoopQ Q (fun s'' => FS g c env (Vi (pre ++ [a])) (I :: W) (I :: Y) (MUi (pre ++ [a]) ++ [(I, R)]) GN s₀ s'') fun _ => False) E' s')
    (q : ∀ s', FS g c env (Vi xs) W Y (MUi xs) GN s₀ s' → wpAny c.M A (execs rest env) Q E s') (hs : ∀ x, foldedSetIterable it env x = pure x := by intro _; rfl) :
    wpAny c.M A (execs (.For (.Name x px) it body [] pos :: rest) env) Q E s :=
  xs_forG (Θ := Unit) (θ₀ := ()) (Wx := fun _ => []) (Vi := fun _ => Vi) (MUi := fun _ => MUi) (Iv := fun _ => True) r (fun Q₁ E₁ q => F.ev r h q) src hk (fun _ => hn) mP h0 hm0 trivial (fun b hb => (F.sub b hb).1)
    (fun _ pre a post I R s' hx _ hI F' E' => wpAny_mono (turn pre a post I R s' hx hI F' E') (fun f s hf => by
      cases f with
      | next => exact ⟨trivial, (), hI, hf⟩
      | cont => exact ⟨trivial, (), hI, hf⟩
      | brk => exact hf.elim
      | ret v => exact hf) fun _ _ e => e) (fun _ => q) hs
end
section
variable {g b : Bool} {k : Nat} {c : Cx} {env : Env} {V V' : List (Str × Pr)} {W Y Y₀ : List Addr} {MU MU' : List (Addr × Rp)} {GN : List (Nat × GenState)} {s₀ s s' : Shared} {a : Addr} {P : Pr}
structure IsFn (c : Cx) (a : Addr) (qual : Str) (par : Arguments) (body : List Stmt) (sc : Scope) (cd : Value) : Prop where
  code : c.H.CodeRec cd qual
  o : ∃ o fd, c.H.get? a = some o ∧ o.data = .func fd ∧ fd.params = par ∧ fd.body = .stmts body ∧ fd.scope = sc ∧ fd.globals = mainGlobals ∧ fd.builtins = builtinsNs ∧ fd.closure = [] ∧ fd.qualname = qual ∧ fd.code = cd ∧ fd.defaults = .none ∧ fd.kwdefaults = .none
def fnEnv (a : Addr) (qual : Str) (sc : Scope) (cd : Value) (L : Addr) : Env := newEnv sc L mainGlobals (cellsFrom (L + 1) sc.names []) (qual ++ ".<locals>.") (some a) cd none builtinsNs
def parOk (par : Arguments) (xs : List Str) : Bool := par.posonlyargs.isEmpty && par.vararg.isNone && par.kwonlyargs.isEmpty && par.kwarg.isNone && par.defaults.isEmpty && (par.args.map (·.arg) == xs)
def RetP (g : Bool) (Y : List Addr) (P : Pr) (s₀ : Shared) : Flow → Shared → Prop := fun f s' => ∃ v, (match f with | .ret v => v | _ => .none) = v ∧ Kp g s₀ s' ∧ P (hideAll s'.heap Y) v
theorem RetP.of {v : Value} {Y Y₁ : List Addr} (k : Kp g s₀ s) (p : P (hideAll s.heap Y₁) v) (m : Mono P) (h : ∀ b ∈ Y, b ∈ Y₁) : RetP g Y P s₀ (.ret v) s := ⟨v, rfl, k, m _ _ _ (hide_anti h) p⟩
theorem All2.len {Ps : List Pr} {h : Heap} {vs : List Value} (a : All2 Ps h vs) : vs.length = Ps.length := by
  induction a with
  | nil => rfl
  | cons _ _ ih => rw [List.length_cons, List.length_cons, ih]
theorem bindL_other {kd : Str → Option NameKind} : ∀ {binds : List (Str × Value)} {m : Str → Option Value} {x : Str}, x ∉ binds.map (·.1) → bindL kd binds m x = m x
  | [], _, _, _ => rfl
  | (n, v) :: r, m, x, h => by
    have h1 : x ≠ n := fun q => h (q ▸ .head _)
    unfold bindL
    rw [bindL_other fun q => h (.tail _ q)]
    split
    · exact if_neg h1
    · rfl
theorem bindC_other {kd : Str → Option NameKind} : ∀ {binds : List (Str × Value)} {m : Str → Option Value} {x : Str}, x ∉ binds.map (·.1) → bindC kd binds m x = m x
  | [], _, _, _ => rfl
  | (n, v) :: r, m, x, h => by
    have h1 : x ≠ n := fun q => h (q ▸ .head _)
    unfold bindC
    rw [bindC_other fun q => h (.tail _ q)]
    split
    · rfl
    · exact if_neg h1
theorem bound_at {kd : Str → Option NameKind} {h : Heap} : ∀ {xs : List Str} {Ps : List Pr} {vs : List Value} {m cm : Str → Option Value} {x : Str} {P : Pr}, All2 Ps h vs → xs.Nodup → (x, P) ∈ xs.zip Ps →
    ∃ v, P h v ∧ (kd x = some .local → bindL kd (xs.zip vs) m x = some v) ∧ (kd x ≠ some .local → bindC kd (xs.zip vs) cm x = some v)
  | [], _, _, _, _, _, _, _, _, hm => by simp at hm
  | y :: xs, _, _, _, _, _, _, .nil, _, hm => by simp at hm
  | y :: xs, _, _, m, cm, x, P, .cons (P := P1) (v := v) (vs := vs) p t, hn, hm => by
    obtain ⟨n1, n2⟩ := List.nodup_cons.mp hn
    rw [List.zip_cons_cons] at hm
    rcases List.mem_cons.mp hm with e | hm
    · cases e
      have nb : y ∉ (xs.zip vs).map (·.1) := fun q => by
        obtain ⟨⟨z, w⟩, hz, e⟩ := List.mem_map.mp q
        exact n1 ((show z = y from e) ▸ (List.of_mem_zip hz).1)
      refine ⟨v, p, fun hk => ?_, fun hk => ?_⟩
      · rw [List.zip_cons_cons]; unfold bindL
        rw [bindL_other nb, if_pos hk]; exact if_pos rfl
      · rw [List.zip_cons_cons]; unfold bindC
        rw [bindC_other nb, if_neg hk]; exact if_pos rfl
    · obtain ⟨w, pw, h1, h2⟩ := bound_at (kd := kd) (m := if kd y = some .local then fun z => if z = y then some v else m z else m) (cm := if kd y = some .local then cm else fun z => if z = y then some v else cm z) t n2 hm
      exact ⟨w, pw, h1, h2⟩
theorem call_fn {qual : Str} {par : Arguments} {body : List Stmt} {sc : Scope} {cd : Value} {Ps : List Pr} {xs : List Str} (hf : IsFn c a qual par body sc cd)
    (hbind : ∀ fd vs, fd.params = par → fd.defaults = .none → fd.kwdefaults = .none → vs.length = xs.length → bindArgs fd ⟨vs, []⟩ = pure (xs.zip vs))
    (hlen : Ps.length = xs.length) (hnd : xs.Nodup) (hst : ∀ x ∈ xs, sc.names.lookup x = some .local ∨ sc.names.lookup x = some .cell) (mPs : ∀ P ∈ Ps, Mono P)
    (hbody : ∀ (A : Around) (Y₀ W Y : List Addr) (s₀ s : Shared) (L : Addr) (E : Value → Shared → Prop), Room k A → (∀ b ∈ Y₀, b ∈ Y) → (∀ b ∈ W, b ∉ Y₀) → FS g c (fnEnv a qual sc cd L) (xs.zip Ps) W Y [] [] s₀ s →
      wpAny c.M A (execs body (fnEnv a qual sc cd L)) (RetP g Y₀ P s₀) E s)
    (hco : sc.isCoroutine = false := by rfl) (hgen : sc.isGenerator = false := by rfl) (hk : sc.kind = .function := by rfl) : CallOK g (k + 1) c (.ref a) Ps P := fun A Y s vs Q E rm ok bs ex a2 q => by
  obtain ⟨o, fd, ho, hd, e1, e2, e3, e4, e5, e6, e7, e8, e9, e10⟩ := hf.o
  have hvl : vs.length = xs.length := a2.len.trans hlen
  have henv : ∀ L, callEnvC fd L a = fnEnv a qual sc cd L := fun L => by unfold callEnvC fnEnv; rw [e3, e4, e5, e7, e8]
  refine wpAny_call (codeAny_call_cells (o := o) (fd := fd) (body := body) (binds := xs.zip vs) rm.depth (bs _ _ ho) hd (ok.lim.keeps bs) ?_ e2 (hbind fd vs e1 e9 e10 hvl) e6 (fun x hx => ?_) (fun s₁ x => ?_) (e3 ▸ hco) (e3 ▸ hgen) (e3 ▸ hk))
  · rw [e8, e7]; exact hf.code.keeps bs
  · have hx1 : x.1 ∈ xs := (List.of_mem_zip (show (x.1, x.2) ∈ xs.zip vs from hx)).1
    rw [e3]
    rcases hst _ hx1 with h | h
    · exact .inl h
    · obtain ⟨b, e, _⟩ := cells_has sc.names (s.heap.objs.size + 1) [] x.1 (mem_of_lookup h)
      exact .inr ⟨h, by rw [e]; rfl⟩
  · rw [henv] at x ⊢
    generalize hL : s.heap.objs.size = L at x ⊢
    have none_of : ∀ b : Nat, L ≤ b → s.heap.get? b = none := fun b hb => get_none (hL ▸ hb)
    let cl := cellsFrom (L + 1) sc.names []
    have hcl : ∀ y (b : Nat), cl.lookup y = some b → L < b ∧ (y, NameKind.cell) ∈ sc.names := fun y b e => by
      rcases cells_spec _ _ _ _ _ e with e | ⟨e1, _, e3⟩
      · cases e
      · exact ⟨e1, e3⟩
    let W : List Addr := L :: sc.names.filterMap fun p => cl.lookup p.1
    have hW : ∀ b : Nat, b ∈ W → L ≤ b ∧ (s₁.heap.get? b).isSome = true := fun b hb => by
      rcases List.mem_cons.mp hb with rfl | hb
      · obtain ⟨o, _, _, e, _⟩ := x.toInCall.ns
        exact ⟨Nat.le_refl _, by rw [show s₁.heap.get? b = some o from e]; rfl⟩
      · obtain ⟨p, _, e⟩ := List.mem_filterMap.mp hb
        obtain ⟨o, e', _⟩ := x.cell _ _ e
        exact ⟨Nat.le_of_lt (hcl _ _ e).1, by rw [e']; rfl⟩
    have kp : Kp g s s₁ := by
      obtain ⟨h, tk, e⟩ := x.toInCall.same
      have := x.toInCall.keep
      rw [e] at this ⊢
      exact Kp.hp tk this
    have sh : (hideAll s.heap Y).StaysIn (hideAll s₁.heap (W ++ Y)) := fun b ob e => by
      have e' := of_hideAll Y e
      refine hideAll_get _ (kp.heap _ _ e') fun z => ?_
      rcases List.mem_append.mp z with z | z
      · rw [none_of _ (hW b z).1] at e'; cases e'
      · rw [hideAll_none Y z] at e; cases e
    have hlm : ∀ y P', (y, P') ∈ xs.zip Ps → Mono P' := fun y P' hy => mPs _ (List.of_mem_zip hy).2
    have F : FS g c (fnEnv a qual sc cd L) (xs.zip Ps) W (W ++ Y) [] [] s s₁ := by
      refine ⟨⟨hk, rfl, rfl, ok, fun b ob e => kp.heap _ _ (bs _ _ e), fun b hb => ?_, fun y P' hy => ?_⟩, kp, bs, fun b hb => ⟨List.mem_append_left _ hb, none_of b (hW b hb).1⟩, .head _, ⟨_, x.toInCall.ns⟩, fun y b e => ?_, fun y z b _ e e' => ?_, fun p hp => (by cases hp), .nil, fun p hp => (by cases hp)⟩
      · rcases List.mem_append.mp hb with z | z
        · exact (hW b z).2
        · obtain ⟨ob, e⟩ := Option.isSome_iff_exists.mp (ex b z)
          rw [kp.heap _ _ e]; rfl
      · obtain ⟨v, pv, h1, h2⟩ := bound_at (kd := (fnEnv a qual sc cd L).kindOf) (m := fun _ => none) (cm := fun _ => none) a2 hnd hy
        refine ⟨v, ?_, hlm y P' hy _ _ _ sh pv, hlm y P' hy⟩
        rcases hst _ (List.of_mem_zip hy).1 with h | h
        · exact .inl ⟨h, _, x.toInCall.ns, h1 h⟩
        · obtain ⟨b, e, _⟩ := cells_has sc.names (L + 1) [] y (mem_of_lookup h)
          refine .inr ⟨h, b, e, ?_⟩
          have := x.cell y b e
          rw [h2 fun z => by rw [show (fnEnv a qual sc cd L).kindOf y = sc.names.lookup y from rfl, h] at z; cases z] at this
          exact this
      · refine ⟨fun z => ?_, fun _ => ?_, _, x.cell y b e⟩
        · have h1 := (hcl y b e).1
          rw [show b = L from z] at h1
          exact Nat.lt_irrefl _ h1
        · exact .tail _ (List.mem_filterMap.mpr ⟨_, (hcl y b e).2, e⟩)
      · exact name_of_addr x.apart (mem_of_lookup e) (mem_of_lookup e')
    refine wpAny_mono (hbody _ Y W (W ++ Y) s s₁ L _ (rm.deeper _) (fun b hb => List.mem_append_right _ hb) (fun b hb z => ?_) F) (fun f s' hr => ?_) fun _ _ e => e
    · obtain ⟨ob, e⟩ := Option.isSome_iff_exists.mp (ex b z)
      rw [none_of b (hW b hb).1] at e; cases e
    · obtain ⟨v, e, k', p⟩ := hr
      cases f <;> (cases e; exact q _ s' k' p)
end
section
variable {g b : Bool} {k : Nat} {c : Cx} {env : Env} {V V' : List (Str × Pr)} {W Y Y₀ : List Addr} {MU MU' : List (Addr × Rp)} {GN : List (Nat × GenState)} {s₀ s s' : Shared} {a : Addr} {R R' : Rp} {x : Str} {ds : List PyData}
  {A : Around} {E : Value → Shared → Prop} {Q : Flow → Shared → Prop} {rest : List Stmt} {P : Pr} {e : Expr} {px pos lp : Pos}
theorem xs_newlist {es : List Expr} (F : FS g c env V W Y MU GN s₀ s) (r : Room k A) (h : ArOK g k c env V (backTo lp (starEach es env)) (ds.map D)) (hn : ds.length ≤ sizeLine) (hk : St1 env x) (hno : noName x V = true)
    (q : ∀ a s', a ∉ Y → FS g c env ((x, Is (.ref a)) :: V) (a :: W) (a :: Y) ((a, LsR true ds) :: MU) GN s₀ s' → wpAny c.M A (execs rest env) Q E s') (hs : swapsWith (.List es lp) (some (.Name x px)) pos.line env = pure false := by rfl) :
    wpAny c.M A (execs (.Assign [.Name x px] (.List es lp) pos :: rest) env) Q E s :=
  wpAny_execs_cons (wpAny_Assign_Name (List_ (h A Y s _ E r F.rd fun vs s₁ k₁ ps => by
    obtain ⟨as, rs⟩ := all2_reads ps
    have e : vs.length = ds.length := PyProof.Rows.readsAll_len _ rs
    have F₁ := F.kpstep k₁
    have hI : s₁.heap.get? s₁.heap.objs.size = none := get_none (Nat.le_refl _)
    refine wpAny_newObj_type ?_ (by show vs.toArray.size ≤ sizeLine; rw [List.size_toArray, e]; exact hn)
    have F₂ := F₁.adopt (R := LsR true ds) (o := { cls := .type "list", data := .seq vs.toArray }) (Kp.push s₁ _) hI (Heap.get?_push_size _ rfl) ⟨rfl, fun _ => rfl, vs, 0, as, rfl, rs⟩ (LsR_mono _ _)
    exact F₂.store hk hno rfl (Is_mono _) fun s₃ F₃ => q _ s₃ (F₁.notin hI) F₃)) hs)
theorem xs_assign_comp_own {α : Type} {elt iter : Expr} {y : Str} {py spos : Pos} {ifs : List Expr} {scope : Scope} {S : Pr} {xs : List α} {Pa : α → Pr} {keep : α → Bool} {Rs : α → PyData}
    (F : FS g c env V W Y MU GN s₀ s) (r : Room k A) (ok : CompOk scope env V x) (hsrc : EvOK false k c env V iter S) (src : SrcOf c S xs Pa) (hl : xs.length ≤ sizeLine) (mP : ∀ a, Mono (Pa a))
    (tests : ∀ C a, a ∈ xs → TsOK false k c (cenv scope C env) ((x, Pa a) :: Vc scope V) ifs (keep a))
    (helt : ∀ C a, a ∈ xs → keep a = true → EvOK false k c (cenv scope C env) ((x, Pa a) :: Vc scope V) elt (D (Rs a))) (hsc : ∀ a, Scal (Rs a)) (hk : St1 env y) (hn : noName y V = true)
    (q : ∀ a s', a ∉ Y → FS g c env ((y, Is (.ref a)) :: V) (a :: W) (a :: Y) ((a, LsR false ((xs.filter keep).map Rs)) :: MU) GN s₀ s' → wpAny c.M A (execs rest env) Q E s')
    (hsw : swapsWith (.ListComp elt [⟨.Name x px, iter, ifs, 0⟩] scope pos) (some (.Name y py)) spos.line env = pure true := by rfl) (hs : ∀ x, foldedSetIterable iter env x = pure x := by intro _; rfl) :
    wpAny c.M A (execs (.Assign [.Name y py] (.ListComp elt [⟨.Name x px, iter, ifs, 0⟩] scope pos) spos :: rest) env) Q E s := by
  refine wpAny_execs_cons ?_
  rw [exec_Assign_Name_used _ _ _ _ hsw]
  refine wpAny_bind (wpAny_standAt (wpAny_bind ?_))
  show wpAny _ A (do let _ ← comprehension (.ListComp elt [⟨.Name x px, iter, ifs, 0⟩] scope pos) scope env _ (newList []) false (eval iter env) (some (assign (.Name y py) env))) _ _ s
  refine wpAny_bind (wpAny_mono (comp_core (use := some (assign (.Name y py) env)) (Q := fun _ s' => wpAny c.M A (execs rest env) Q E s') (E := E) r F.rd ok hsrc src hl mP tests helt (fun l C m s' kp hl hC hCl hn' hd => ?_) hs)
    (fun _ s' hq => wpAny_pure (wpAny_pure hq)) fun _ _ e => e)
  obtain ⟨oC, es, ep, gC, dC, kC, fC⟩ := hn'
  obtain ⟨l', vs, as, e, ⟨ol, hol, hc, n, hda⟩, rs⟩ := D_list hd
  cases e
  have scal : ∀ {vs : List Value} {ys : List α} {as : List Addr}, ReadsAll (hideAll s'.heap (C :: Y)) vs (ys.map Rs) as → ∃ bs, ReadsAll (hideAll s.heap Y) vs (ys.map Rs) bs := by
    intro vs ys
    induction ys generalizing vs with
    | nil => intro as r; cases r; exact ⟨_, .nil⟩
    | cons y ys ih =>
      intro as r
      cases r with
      | cons r1 r2 =>
        obtain ⟨b1, q1⟩ := hsc y _ _ _ ⟨_, r1⟩
        obtain ⟨b2, q2⟩ := ih r2
        exact ⟨_, .cons q1 q2⟩
  obtain ⟨bs, rs'⟩ := scal rs
  have F₁ := F.adopts (nw := [(C, NsR), (l, LsR false ((xs.filter keep).map Rs))]) kp.up (fun p hp => by
    simp only [List.mem_cons, List.not_mem_nil, or_false] at hp
    rcases hp with rfl | rfl
    · exact ⟨hC, NsR_mono, _, gC, es, ep, dC, kC⟩
    · exact ⟨hl, LsR_mono _ _, _, of_hideAll _ hol, hc, (fun h => by cases h), vs, n, bs, hda, rs'⟩) (List.pairwise_cons.mpr ⟨fun p hp => by rw [List.mem_singleton.mp hp]; exact hCl, List.pairwise_singleton ..⟩)
  have hCY : C ∉ l :: Y := fun z => by
    rcases List.mem_cons.mp z with z | z
    · exact hCl z
    · exact F.notin hC z
  show wpAny c.M A (assign (.Name y py) env (.ref l)) _ E s'
  refine wpAny_assign_Name (F₁.store (P := Is (.ref l)) hk hn rfl (Is_mono _) fun s₂ F₂ => ?_)
  obtain ⟨_, _, _, _, o2, ho2, es2, ep2, hd2, hk2⟩ := F₂.mu _ (.head _)
  refine ⟨_, ⟨o2, es2, ep2, ho2, hd2, hk2, fun _ => rfl⟩, fun h' hs' => q l _ (F.notin hl) (F₂.lose (MU' := (l, LsR false ((xs.filter keep).map Rs)) :: MU) ⟨?_, ?_, ?_, ?_⟩ rfl hCY hs'.extBut)⟩
  · intro b hb
    rcases List.mem_cons.mp hb with rfl | hb
    · exact .head _
    · exact .tail _ (F.sub b hb).1
  · exact .tail _ F.loc
  · intro x b e hb; exact .tail _ ((F.cel x b e).2.1 hb)
  · intro p hp
    rcases List.mem_cons.mp hp with rfl | hp
    · exact .head _
    · exact .tail _ (F.mu p hp).1
end
theorem st1_fn {a : Addr} {qual : Str} {sc : Scope} {cd : Value} {L : Addr} {x : Str} (h : sc.names.lookup x = some .local ∨ sc.names.lookup x = some .cell) : St1 (fnEnv a qual sc cd L) x := by
  rcases h with h | h
  · exact .inl h
  · obtain ⟨b, e, hb⟩ := cells_has sc.names (L + 1) [] x (mem_of_lookup h)
    exact .inr ⟨h, b, e, hb⟩
section
variable {g b : Bool} {k : Nat} {c : Cx} {env : Env} {V V' : List (Str × Pr)} {W Y Y₀ : List Addr} {MU MU' : List (Addr × Rp)} {GN : List (Nat × GenState)} {s₀ s s' : Shared} {x : Str}
  {A : Around} {E : Value → Shared → Prop} {Q : Flow → Shared → Prop} {rest : List Stmt} {P : Pr} {e : Expr} {px pos : Pos}
def del (x : Str) (V : List (Str × Pr)) : List (Str × Pr) := V.filter fun p => !(p.1 == x)
theorem noName_del (x : Str) (V : List (Str × Pr)) : noName x (del x V) = true := List.all_eq_true.mpr fun _ hp => (List.mem_filter.mp hp).2
theorem del_sub {x : Str} {V : List (Str × Pr)} : ∀ p ∈ del x V, p ∈ V := fun _ hp => (List.mem_filter.mp hp).1
theorem xs_reassign (F : FS g c env V W Y MU GN s₀ s) (r : Room k A) (h : EvOK g k c env V e P) (m : Mono P) (hk : St1 env x)
    (q : ∀ s', FS g c env ((x, P) :: del x V) W Y MU GN s₀ s' → wpAny c.M A (execs rest env) Q E s') (hs : swapsWith e (some (.Name x px)) pos.line env = pure false := by rfl) :
    wpAny c.M A (execs (.Assign [.Name x px] e pos :: rest) env) Q E s :=
  wpAny_execs_cons (wpAny_Assign_Name (F.ev r h fun v s₁ F₁ p => (F₁.weaken del_sub).store hk (noName_del x V) p m q) hs)
end
def stm (i : Nat) : Stmt := PySem.Challenge.pw_rw0114_01.main.body.getD i (.Pass default)
def parOf : Stmt → Arguments
  | .FunctionDef _ a _ _ _ _ _ _ _ _ => a
  | _ => default
def bodyOf : Stmt → List Stmt
  | .FunctionDef _ _ b _ _ _ _ _ _ _ => b
  | _ => []
def scOf : Stmt → Scope
  | .FunctionDef _ _ _ _ _ _ s _ _ _ => s
  | _ => default
def nmOf : Stmt → Str
  | .FunctionDef n _ _ _ _ _ _ _ _ _ => n
  | _ => default
abbrev FnAt (c : Cx) (i : Nat) (a : Addr) (cd : Value) : Prop := c.mg (nmOf (stm i)) = some (.ref a) ∧ IsFn c a (nmOf (stm i)) (parOf (stm i)) (bodyOf (stm i)) (scOf (stm i)) cd
def DefOK (g : Bool) (k : Nat) (c : Cx) (f : Str) (Ps : List Pr) (P : Pr) : Prop := ∃ a o fd, c.mg f = some (.ref a) ∧ c.H.get? a = some o ∧ o.data = .func fd ∧ CallOK g k c (.ref a) Ps P
section
variable {g b : Bool} {k : Nat} {c : Cx} {env : Env} {V V' : List (Str × Pr)} {W Y Y₀ : List Addr} {MU MU' : List (Addr × Rp)} {GN : List (Nat × GenState)} {s₀ s s' : Shared} {a : Addr} {P : Pr} {np pos : Pos}
theorem ev_call {f : Str} {e : Expr} {es : List Expr} {Ps : List Pr} {k' : Nat} (h : DefOK g k' c f Ps P) (hk : env.kindOf f = some .globalImplicit) (ha : ArOK g k c env V (backTo pos (starEach (e :: es) env)) Ps) (hd : (f == ("__debug__" : Str)) = false := by decide)
    (he : starEach (e :: es) env = (false, eval e env) :: starEach es env := by rfl) (hkk : k' ≤ k := by decide) : EvOK g k c env V (.Call (.Name f np) (e :: es) [] pos) P := by
  obtain ⟨a, o, fd, h1, h2, h3, h4⟩ := h
  exact ev_callF (ev_glob hk h1 hd) h2 h3 ha (h4.le hkk) he
theorem bind1 {par : Arguments} {x : Str} (h : parOk par [x] = true) (fd : FuncData) (vs : List Value) (h1 : fd.params = par) (h2 : fd.defaults = .none) (h3 : fd.kwdefaults = .none) (h4 : vs.length = 1) : bindArgs fd ⟨vs, []⟩ = pure ([x].zip vs) := by
  obtain ⟨n, q, ⟨po, as, va, ko, kd, kw, ds⟩, bd, sc, gl, cl, df, kwd⟩ := fd
  dsimp only at h1 h2 h3
  subst h1 h2 h3
  simp only [parOk, Bool.and_eq_true, List.isEmpty_iff, Option.isNone_iff_eq_none, beq_iff_eq] at h
  obtain ⟨⟨⟨⟨⟨rfl, rfl⟩, rfl⟩, rfl⟩, rfl⟩, h⟩ := h
  obtain ⟨v, rfl⟩ := List.length_eq_one_iff.mp h4
  unfold bindArgs
  have e : seqItems? Value.none = pure none := rfl
  simp [h, e]
theorem bind2 {par : Arguments} {x y : Str} (h : parOk par [x, y] = true) (hxy : (y == x) = false) (fd : FuncData) (vs : List Value) (h1 : fd.params = par) (h2 : fd.defaults = .none) (h3 : fd.kwdefaults = .none) (h4 : vs.length = 2) : bindArgs fd ⟨vs, []⟩ = pure ([x, y].zip vs) := by
  obtain ⟨n, q, ⟨po, as, va, ko, kd, kw, ds⟩, bd, sc, gl, cl, df, kwd⟩ := fd
  dsimp only at h1 h2 h3
  subst h1 h2 h3
  simp only [parOk, Bool.and_eq_true, List.isEmpty_iff, Option.isNone_iff_eq_none, beq_iff_eq] at h
  obtain ⟨⟨⟨⟨⟨rfl, rfl⟩, rfl⟩, rfl⟩, rfl⟩, h⟩ := h
  match vs, h4 with
  | [v, w], _ =>
    unfold bindArgs
    have e : seqItems? Value.none = pure none := rfl
    simp [h, e, List.lookup_cons, hxy]
end
structure Kt (c : Cx) : Prop where
  len : c.mg "len" = none ∧ c.mb "len" = some (.builtin "len")
  sum : c.mg "sum" = none ∧ c.mb "sum" = some (.builtin "sum")
  min : c.mg "min" = none ∧ c.mb "min" = some (.builtin "min")
  sorted : c.mg "sorted" = none ∧ c.mb "sorted" = some (.builtin "sorted")
  range : c.mg "range" = none ∧ c.mb "range" = some (.type "range")
  enumerate : c.mg "enumerate" = none ∧ c.mb "enumerate" = some (.type "enumerate")
  tuple : c.mg "tuple" = none ∧ c.mb "tuple" = some (.type "tuple")
  nt : ∃ t, c.mg "NT_OFFSET" = some (.int 256 t)
  em : ∃ t, c.mg "ENDMARKER" = some (.int 0 t)
  ett : ∃ a f t7 t8, c.mg "EXACT_TOKEN_TYPES" = some (.ref a) ∧ c.H.MapOf (strKind c.prog c.w) a f ∧ f "(" = some (.int 7 t7) ∧ f ")" = some (.int 8 t8)
  iter : ∃ a cd, FnAt c 2 a cd
  strip : ∃ a cd, FnAt c 3 a cd
  check : ∃ a cd, FnAt c 4 a cd
  isterm : ∃ a cd, FnAt c 59 a cd
  isnont : ∃ a cd, FnAt c 60 a cd
  iseof : ∃ a cd, FnAt c 61 a cd
  stepped : ∃ a cd, FnAt c 63 a cd
  carted : ∃ a cd, FnAt c 64 a cd
  rounds : ∃ a cd, FnAt c 65 a cd
  moved : ∃ a cd, FnAt c 66 a cd
  runs : ∃ a cd, FnAt c 67 a cd
  apart : ∃ a cd, FnAt c 68 a cd
section
variable {g b : Bool} {k : Nat} {c : Cx} {env : Env} {V V' : List (Str × Pr)} {np pos : Pos} {e e2 e3 : Expr}
theorem DefOK.of {i : Nat} {Ps : List Pr} {P : Pr} (h : ∃ a cd, FnAt c i a cd) (q : ∀ a cd, FnAt c i a cd → CallOK g k c (.ref a) Ps P) : DefOK g k c (nmOf (stm i)) Ps P := by
  obtain ⟨a, cd, f⟩ := h
  obtain ⟨o, fd, h1, h2, _⟩ := f.2.o
  exact ⟨a, o, fd, f.1, h1, h2, q a cd f⟩
theorem ar1 {P : Pr} (m : Mono P) (h : EvOK g k c env V e P) (he : starEach [e] env = (false, eval e env) :: starEach [] env := by rfl) : ArOK g k c env V (backTo pos (starEach [e] env)) [P] := ar_cons m h ar_nil he
theorem ar2 {P P2 : Pr} (m : Mono P) (m2 : Mono P2) (h : EvOK g k c env V e P) (h2 : EvOK g k c env V e2 P2) (he : starEach [e, e2] env = (false, eval e env) :: starEach [e2] env := by rfl) (he2 : starEach [e2] env = (false, eval e2 env) :: starEach [] env := by rfl) :
    ArOK g k c env V (backTo pos (starEach [e, e2] env)) [P, P2] := ar_cons m h (ar_cons m2 h2 ar_nil he2) he
theorem ar3 {P P2 P3 : Pr} (m : Mono P) (m2 : Mono P2) (m3 : Mono P3) (h : EvOK g k c env V e P) (h2 : EvOK g k c env V e2 P2) (h3 : EvOK g k c env V e3 P3) (he : starEach [e, e2, e3] env = (false, eval e env) :: starEach [e2, e3] env := by rfl)
    (he2 : starEach [e2, e3] env = (false, eval e2 env) :: starEach [e3] env := by rfl) (he3 : starEach [e3] env = (false, eval e3 env) :: starEach [] env := by rfl) :
    ArOK g k c env V (backTo pos (starEach [e, e2, e3] env)) [P, P2, P3] := ar_cons m h (ar_cons m2 h2 (ar_cons m3 h3 ar_nil he3) he2) he
theorem ev_len {xs : List PyData} (K : Kt c) (hk : env.kindOf "len" = some .globalImplicit) (h : EvOK g k c env V e (D (.list xs))) (hn : xs.length < 2 ^ 62) (he : starEach [e] env = (false, eval e env) :: starEach [] env := by rfl) : EvOK g k c env V (.Call (.Name "len" np) [e] [] pos) (D (.int xs.length)) :=
  ev_callB (ev_built hk K.len.1 K.len.2) (ar1 (D_mono _) h he) (call_len_list hn) he
theorem ev_lenS {x : Str} (K : Kt c) (hk : env.kindOf "len" = some .globalImplicit) (h : EvOK g k c env V e (D (.str x))) (hn : x.length < 2 ^ 62) (he : starEach [e] env = (false, eval e env) :: starEach [] env := by rfl) : EvOK g k c env V (.Call (.Name "len" np) [e] [] pos) (D (.int x.length)) :=
  ev_callB (ev_built hk K.len.1 K.len.2) (ar1 (D_mono _) h he) (call_len_str hn) he
theorem ev_sum {ns : List Int} (K : Kt c) (hk : env.kindOf "sum" = some .globalImplicit) (h : EvOK g k c env V e (D (.list (ns.map .int)))) (he : starEach [e] env = (false, eval e env) :: starEach [] env := by rfl) : EvOK g k c env V (.Call (.Name "sum" np) [e] [] pos) (D (.int ns.sum)) :=
  ev_callB (ev_built hk K.sum.1 K.sum.2) (ar1 (D_mono _) h he) call_sum he
theorem ev_min {ns : List Int} {m : Int} (K : Kt c) (hk : env.kindOf "min" = some .globalImplicit) (h : EvOK g k c env V e (D (.list (ns.map .int)))) (hm : m ∈ ns) (hlo : ∀ a ∈ ns, m ≤ a) (he : starEach [e] env = (false, eval e env) :: starEach [] env := by rfl) : EvOK g k c env V (.Call (.Name "min" np) [e] [] pos) (D (.int m)) :=
  ev_callB (ev_built hk K.min.1 K.min.2) (ar1 (D_mono _) h he) (call_min hm hlo) he
theorem ev_sorted {ns out : List Int} (K : Kt c) (hk : env.kindOf "sorted" = some .globalImplicit) (h : EvOK g k c env V e (D (.list (ns.map .int)))) (h64 : ns.length < 64) (hp : out.Perm ns) (hs : out.Pairwise (· ≤ ·)) (he : starEach [e] env = (false, eval e env) :: starEach [] env := by rfl) :
    EvOK g k c env V (.Call (.Name "sorted" np) [e] [] pos) (D (.list (out.map .int))) := ev_callB (ev_built hk K.sorted.1 K.sorted.2) (ar1 (D_mono _) h he) (call_sorted h64 hp hs) he
theorem ev_range1 {n : Int} (K : Kt c) (hk : env.kindOf "range" = some .globalImplicit) (h : EvOK g k c env V e (D (.int n))) (he : starEach [e] env = (false, eval e env) :: starEach [] env := by rfl) : EvOK g k c env V (.Call (.Name "range" np) [e] [] pos) (Rg 0 n 1) :=
  ev_callT (ev_built hk K.range.1 K.range.2) (ar1 (D_mono _) h he) call_range1 he
theorem ev_range2 {m n : Int} (K : Kt c) (hk : env.kindOf "range" = some .globalImplicit) (h : EvOK g k c env V e (D (.int m))) (h2 : EvOK g k c env V e2 (D (.int n))) (he : starEach [e, e2] env = (false, eval e env) :: starEach [e2] env := by rfl) (he2 : starEach [e2] env = (false, eval e2 env) :: starEach [] env := by rfl) (hpl : (backTo pos (starEach [e2] env)).any (·.1) = false := by rfl) :
    EvOK g k c env V (.Call (.Name "range" np) [e, e2] [] pos) (Rg m n 1) :=
  ev_callT (ev_built hk K.range.1 K.range.2) (ar2 (D_mono _) (D_mono _) h h2 he he2) call_range2 he hpl
theorem ev_range3 {m n st : Int} (K : Kt c) (hk : env.kindOf "range" = some .globalImplicit) (h : EvOK g k c env V e (D (.int m))) (h2 : EvOK g k c env V e2 (D (.int n))) (h3 : EvOK g k c env V e3 (D (.int st))) (h0 : st ≠ 0) (hp : Builtin.divisionGoesByPylong (n - m) st = false) (he : starEach [e, e2, e3] env = (false, eval e env) :: starEach [e2, e3] env := by rfl)
    (he2 : starEach [e2, e3] env = (false, eval e2 env) :: starEach [e3] env := by rfl) (he3 : starEach [e3] env = (false, eval e3 env) :: starEach [] env := by rfl) (hpl : (backTo pos (starEach [e2, e3] env)).any (·.1) = false := by rfl) : EvOK g k c env V (.Call (.Name "range" np) [e, e2, e3] [] pos) (Rg m n st) :=
  ev_callT (ev_built hk K.range.1 K.range.2) (ar3 (D_mono _) (D_mono _) (D_mono _) h h2 h3 he he2 he3) (call_range3 h0 hp) he hpl
end
section
variable {g b : Bool} {k : Nat} {c : Cx} {env : Env} {V V' : List (Str × Pr)} {np pos : Pos} {e e2 e3 : Expr} {v v2 v3 : Bool}
theorem tr_and2 (h : TrOK g k c env V e v) (h2 : v = true → TrOK g k c env V e2 v2) : TrOK g k c env V (.BoolOp .And [e, e2] pos) (v && v2) := by
  have := tr_op (pos := pos) (al_and h fun q => al_and (h2 q) fun _ => al_nil)
  rwa [show (v2 && (BoolOp.And == BoolOp.And)) = v2 from by cases v2 <;> rfl] at this
theorem tr_or2 (h : TrOK g k c env V e v) (h2 : v = false → TrOK g k c env V e2 v2) : TrOK g k c env V (.BoolOp .Or [e, e2] pos) (v || v2) := by
  have := tr_op (pos := pos) (al_or h fun q => al_or (h2 q) fun _ => al_nil)
  rwa [show (v2 || (BoolOp.Or == BoolOp.And)) = v2 from by cases v2 <;> rfl] at this
theorem tr_or3 (h : TrOK g k c env V e v) (h2 : v = false → TrOK g k c env V e2 v2) (h3 : v2 = false → TrOK g k c env V e3 v3) : TrOK g k c env V (.BoolOp .Or [e, e2, e3] pos) (v || (v2 || v3)) := by
  have := tr_op (pos := pos) (al_or h fun q => al_or (h2 q) fun q => al_or (h3 q) fun _ => al_nil)
  rwa [show (v3 || (BoolOp.Or == BoolOp.And)) = v3 from by cases v3 <;> rfl] at this
end
theorem range_small {a b : Int} (h1 : -1000000 ≤ a) (h2 : a ≤ 1000000) (h3 : -1000000 ≤ b) (h4 : b ≤ 1000000) : Builtin.Range.small a b 1 = true :=
  small_one (by omega) (by omega) (by omega) (by omega)
theorem range_size {a b : Int} {n : Nat} (h : (b - a).toNat = n) : Builtin.Range.rangeSize a b 1 = n := h ▸ rangeSize_nat a b
theorem evc {g : Bool} {k : Nat} {c : Cx} {env : Env} {V : List (Str × Pr)} {e : Expr} {d d' : PyData} (h : EvOK g k c env V e (D d)) (q : d = d') : EvOK g k c env V e (D d') := q ▸ h
theorem trc {g : Bool} {k : Nat} {c : Cx} {env : Env} {V : List (Str × Pr)} {e : Expr} {v v' : Bool} (h : TrOK g k c env V e v) (q : v = v') : TrOK g k c env V e v' := q ▸ h
section
variable {g b : Bool} {k : Nat} {c : Cx} {env : Env} {V V' : List (Str × Pr)} {np pos apos sp : Pos} {e l r : Expr}
def pick (xs : List PyData) (i : Int) : Option PyData := (seqIndex? i xs.length).bind (xs[·]?)
theorem pick_spec {xs : List PyData} {i : Int} {d : PyData} (h : pick xs i = some d) : ∃ j, seqIndex? i xs.length = some j ∧ xs[j]? = some d ∧ -(xs.length : Int) ≤ i ∧ i < xs.length ∧ (0 ≤ i → j = i.toNat) ∧ (i < 0 → j = (i + xs.length).toNat) := by
  obtain ⟨j, h1, h2⟩ := Option.bind_eq_some_iff.mp h
  refine ⟨j, h1, h2, ?_⟩
  unfold seqIndex? at h1
  dsimp only at h1
  split at h1 <;> split at h1
  · rename_i a b
    simp only [Bool.and_eq_true, decide_eq_true_eq] at b
    cases h1
    exact ⟨by omega, by omega, fun h => by omega, fun _ => rfl⟩
  · cases h1
  · rename_i a b
    simp only [Bool.and_eq_true, decide_eq_true_eq] at b
    cases h1
    exact ⟨by omega, by omega, fun _ => rfl, fun h => by omega⟩
  · cases h1
abbrev SubOk (r : Expr) : Prop := ∀ (a : Addr) (k : Int) (u : Tok), subscripted r false (.ref a) (.int k u) = operate [.ref a, .int k u] (getItem (.ref a) (.int k u))
theorem ev_item {xs : List PyData} {i : Int} {d : PyData} (h1 : EvOK g k c env V l (D (.list xs))) (h2 : EvOK g k c env V r (D (.int i))) (h : pick xs i = some d) (hn : xs.length < 2 ^ 62) (hs : SubOk r := by intro _ _ _; with_unfolding_all rfl) :
    EvOK g k c env V (.Subscript l r pos) (D d) := fun A Y s Q E rm st q =>
  Subscript_ (h1 A Y s _ E rm st fun o s₁ k₁ p₁ => h2 A Y s₁ _ E rm (st.kp k₁) fun iv s₂ k₂ p₂ => by
    obtain ⟨a, vs, as, rfl, hl, rs⟩ := D_list (D_mono _ _ _ _ (hide_stays k₂.heap) p₁)
    obtain ⟨t, rfl⟩ := D_int.mp p₂
    obtain ⟨j, _, e2, e3, e4, e5, e6⟩ := pick_spec h
    have e : vs.length = xs.length := PyProof.Rows.readsAll_len _ rs
    obtain ⟨hj, _⟩ := List.getElem?_eq_some_iff.mp e2
    obtain ⟨v0, hv⟩ : ∃ v0, vs[j]? = some v0 := ⟨_, List.getElem?_eq_getElem (e ▸ hj)⟩
    have fin : Q v0 s₂ := q _ _ (k₁.trans k₂) (readsAll_at rs hv e2)
    refine tail_any (isList_full hl).typeIs slot_list_getitem.lookup ?_ (hs a i t)
    by_cases hi : 0 ≤ i
    · exact wpAny_getItem_list (isList_full hl) hi (by omega) (by rw [← e5 hi]; simpa using hv) fin
    · refine wpAny_getItem_list_neg (isList_full hl) (by omega) (by rw [List.size_toArray, e]; omega) (by omega) ?_ fin
      rw [List.size_toArray, e, ← e6 (by omega)]; simpa using hv)
theorem ev_itemT {xs : List PyData} {i : Int} {d : PyData} (h1 : EvOK g k c env V l (D (.tuple xs))) (h2 : EvOK g k c env V r (D (.int i))) (h : pick xs i = some d) (hn : xs.length < 2 ^ 62) (hs : SubOk r := by intro _ _ _; with_unfolding_all rfl) :
    EvOK g k c env V (.Subscript l r pos) (D d) := fun A Y s Q E rm st q =>
  Subscript_ (h1 A Y s _ E rm st fun o s₁ k₁ p₁ => h2 A Y s₁ _ E rm (st.kp k₁) fun iv s₂ k₂ p₂ => by
    obtain ⟨a, vs, as, rfl, hl, rs⟩ := D_tuple (D_mono _ _ _ _ (hide_stays k₂.heap) p₁)
    obtain ⟨t, rfl⟩ := D_int.mp p₂
    obtain ⟨j, e1, e2, e3, e4, _⟩ := pick_spec h
    have e : vs.length = xs.length := PyProof.Rows.readsAll_len _ rs
    obtain ⟨hj, _⟩ := List.getElem?_eq_some_iff.mp e2
    obtain ⟨v0, hv⟩ : ∃ v0, vs[j]? = some v0 := ⟨_, List.getElem?_eq_getElem (e ▸ hj)⟩
    exact item_tupleT (isTup_full hl) (by omega) (by omega) (e ▸ e1) hv (q _ _ (k₁.trans k₂) (readsAll_at rs hv e2)) (hs a i t))
theorem readsAll_sub {h : Heap} : ∀ {vs : List Value} {ds : List PyData} {as : List Addr} (n : Nat), ReadsAll h vs ds as → (∃ bs, ReadsAll h (vs.take n) (ds.take n) bs) ∧ ∃ bs, ReadsAll h (vs.drop n) (ds.drop n) bs
  | _, _, _, 0, r => ⟨⟨_, .nil⟩, _, r⟩
  | _, _, _, n + 1, .nil => ⟨⟨_, .nil⟩, _, .nil⟩
  | _, _, _, n + 1, .cons r rs => let ⟨⟨_, a⟩, b⟩ := readsAll_sub n rs; ⟨⟨_, .cons r a⟩, b⟩
theorem ev_upto {xs : List PyData} {i : Int} (h1 : EvOK g k c env V l (D (.list xs))) (h2 : EvOK g k c env V r (D (.int i))) (h0 : 0 ≤ i) (hn : xs.length ≤ sizeLine) (ht : ∀ o r, letTemporaryGo l o r = pure () := by intro _ _; rfl) :
    EvOK g k c env V (.Subscript l (.Slice none (some r) none sp) pos) (D (.list (xs.take i.toNat))) := fun A Y s Q E rm st q =>
  wpAny_Subscript_list_slice (h1 A Y s _ E rm st fun o s₁ k₁ p₁ => wpAny_pure (h2 A Y s₁ _ E rm (st.kp k₁) fun iv s₂ k₂ p₂ => by
    obtain ⟨a, vs, as, rfl, hl, rs⟩ := D_list (D_mono _ _ _ _ (hide_stays k₂.heap) p₁)
    obtain ⟨t, rfl⟩ := D_int.mp p₂
    have e : vs.length = xs.length := PyProof.Rows.readsAll_len _ rs
    refine ⟨a, vs.toArray, none, some i, rfl, isList_full hl, by rw [List.size_toArray, e]; exact hn, .none, .int i t, ?_⟩
    have hk : Kp g s₂ { s₂ with heap := (s₂.heap.push { cls := .type "slice", data := .fields #[.none, .int i t, .none] }).push { cls := .type "list", data := .seq (slicePick vs.toArray none (some i) none) } } := Kp.hp' fun b o e => Heap.get?_push_of_some _ (Heap.get?_push_of_some _ e)
    have hp : slicePick vs.toArray none (some i) none = (vs.take i.toNat).toArray := by
      by_cases hle : i ≤ vs.length
      · obtain ⟨n, rfl⟩ : ∃ n : Nat, i = n := ⟨i.toNat, by omega⟩
        rw [slicePick_upto vs.toArray n (by rw [List.size_toArray]; omega)]; simp
      · rw [List.take_of_length_le (by omega)]
        have e0 := slicePick_all vs.toArray
        unfold slicePick at e0 ⊢
        have e2 : sliceBounds none (some i) none vs.toArray.size = sliceBounds none none none vs.toArray.size := by
          rw [List.size_toArray]
          simp only [sliceBounds, Option.getD_none]
          have h2 : ¬ i < 0 := by omega
          simp only [h2, if_false, show (1 : Int) > 0 by decide, if_true]
          congr 1
          congr 1; omega
        rw [e2]; exact e0
    obtain ⟨⟨bs, rb⟩, _⟩ := readsAll_sub i.toNat rs
    refine q _ _ ((k₁.trans k₂).trans hk) (mk_list (isList_hide ⟨{ cls := .type "list", data := .seq (slicePick vs.toArray none (some i) none) }, ?_, rfl, 0, by rw [hp]⟩ ?_) (ReadsAll.keeps (hide_stays hk.heap) rb))
    · have := Heap.get?_push_size (s₂.heap.push { cls := .type "slice", data := .fields #[.none, .int i t, .none] }) (o := { cls := .type "list", data := .seq (slicePick vs.toArray none (some i) none) }) rfl
      rw [Heap.size_push] at this; exact this
    · exact fresh_notin ((st.kp k₁).kp k₂).ex (Nat.le_succ _))) ht
theorem ev_cut {xs : List PyData} {r2 : Expr} {i j : Int} (h1 : EvOK g k c env V l (D (.list xs))) (h2 : EvOK g k c env V r (D (.int i))) (h3 : EvOK g k c env V r2 (D (.int j))) (h0 : 0 ≤ i) (hij : i ≤ j) (hj : j ≤ xs.length) (hn : xs.length ≤ sizeLine) (ht : ∀ o r, letTemporaryGo l o r = pure () := by intro _ _; rfl) :
    EvOK g k c env V (.Subscript l (.Slice (some r) (some r2) none sp) pos) (D (.list ((xs.drop i.toNat).take (j.toNat - i.toNat)))) := fun A Y s Q E rm st q =>
  wpAny_Subscript_list_slice (h1 A Y s _ E rm st fun o s₁ k₁ p₁ => h2 A Y s₁ _ E rm (st.kp k₁) fun iv s₂ k₂ p₂ => h3 A Y s₂ _ E rm ((st.kp k₁).kp k₂) fun jv s₃ k₃ p₃ => by
    obtain ⟨a, vs, as, rfl, hl, rs⟩ := D_list (D_mono _ _ _ _ (hide_stays (k₂.trans k₃).heap) p₁)
    obtain ⟨t, rfl⟩ := D_int.mp p₂
    obtain ⟨u, rfl⟩ := D_int.mp p₃
    have e : vs.length = xs.length := PyProof.Rows.readsAll_len _ rs
    refine ⟨a, vs.toArray, some i, some j, rfl, isList_full hl, by rw [List.size_toArray, e]; exact hn, .int i t, .int j u, ?_⟩
    have hk : Kp g s₃ { s₃ with heap := (s₃.heap.push { cls := .type "slice", data := .fields #[.int i t, .int j u, .none] }).push { cls := .type "list", data := .seq (slicePick vs.toArray (some i) (some j) none) } } := Kp.hp' fun b o e => Heap.get?_push_of_some _ (Heap.get?_push_of_some _ e)
    have hp : slicePick vs.toArray (some i) (some j) none = ((vs.drop i.toNat).take (j.toNat - i.toNat)).toArray := by
      obtain ⟨n, rfl⟩ : ∃ n : Nat, i = n := ⟨i.toNat, by omega⟩
      obtain ⟨m, rfl⟩ : ∃ m : Nat, j = m := ⟨j.toNat, by omega⟩
      rw [slicePick_run vs.toArray n m (by rw [List.size_toArray]; omega) (by omega)]; simp
    obtain ⟨_, bs, rb⟩ := readsAll_sub i.toNat rs
    obtain ⟨⟨cs, rc⟩, _⟩ := readsAll_sub (j.toNat - i.toNat) rb
    refine q _ _ (((k₁.trans k₂).trans k₃).trans hk) (mk_list (isList_hide ⟨{ cls := .type "list", data := .seq (slicePick vs.toArray (some i) (some j) none) }, ?_, rfl, 0, by rw [hp]⟩ ?_) (ReadsAll.keeps (hide_stays hk.heap) rc))
    · have := Heap.get?_push_size (s₃.heap.push { cls := .type "slice", data := .fields #[.int i t, .int j u, .none] }) (o := { cls := .type "list", data := .seq (slicePick vs.toArray (some i) (some j) none) }) rfl
      rw [Heap.size_push] at this; exact this
    · exact fresh_notin (((st.kp k₁).kp k₂).kp k₃).ex (Nat.le_succ _)) ht
theorem ev_cutS {x : Str} {r2 : Expr} {i j : Int} (h1 : EvOK g k c env V l (D (.str x))) (h2 : EvOK g k c env V r (D (.int i))) (h3 : EvOK g k c env V r2 (D (.int j))) (hn : x.length ≤ sizeLine) (ht : ∀ o r, letTemporaryGo l o r = pure () := by intro _ _; rfl) :
    EvOK g k c env V (.Subscript l (.Slice (some r) (some r2) none sp) pos) (D (.str (Txt.slice x (some i) (some j)))) := fun A Y s Q E rm st q =>
  wpAny_Subscript_str_slice (h1 A Y s _ E rm st fun o s₁ k₁ p₁ => h2 A Y s₁ _ E rm (st.kp k₁) fun iv s₂ k₂ p₂ => h3 A Y s₂ _ E rm ((st.kp k₁).kp k₂) fun jv s₃ k₃ p₃ => by
    obtain ⟨w, rfl⟩ := D_str.mp p₁
    obtain ⟨t, rfl⟩ := D_int.mp p₂
    obtain ⟨u, rfl⟩ := D_int.mp p₃
    exact ⟨x, w, some (i, t), some (j, u), rfl, rfl, rfl, post_val_or_str ⟨Nat.le_trans (Txt.slice_le x _ _) hn, fun t' k' => q _ _ (((k₁.trans k₂).trans k₃).trans (Kp.hp _ fun b o e => Heap.get?_push_of_some _ e)) (D_str.mpr ⟨t', rfl⟩)⟩⟩) ht
theorem ev_fromS {x : Str} {i : Int} (h1 : EvOK g k c env V l (D (.str x))) (h2 : EvOK g k c env V r (D (.int i))) (hn : x.length ≤ sizeLine) (ht : ∀ o r, letTemporaryGo l o r = pure () := by intro _ _; rfl) :
    EvOK g k c env V (.Subscript l (.Slice (some r) none none sp) pos) (D (.str (Txt.slice x (some i) none))) := fun A Y s Q E rm st q =>
  wpAny_Subscript_str_slice (h1 A Y s _ E rm st fun o s₁ k₁ p₁ => h2 A Y s₁ _ E rm (st.kp k₁) fun iv s₂ k₂ p₂ => wpAny_pure (by
    obtain ⟨w, rfl⟩ := D_str.mp p₁
    obtain ⟨t, rfl⟩ := D_int.mp p₂
    exact ⟨x, w, some (i, t), none, rfl, rfl, rfl, post_val_or_str ⟨Nat.le_trans (Txt.slice_le x _ _) hn, fun t' k' => q _ _ ((k₁.trans k₂).trans (Kp.hp _ fun b o e => Heap.get?_push_of_some _ e)) (D_str.mpr ⟨t', rfl⟩)⟩⟩)) ht
theorem ev_meth {x : Str} {name : Str} {id : String} {Pa P : Pr} (hsl : Slot "str" name id) (hty : typeOf (.builtin id) = pure (.type "method_descriptor")) (h1 : EvOK g k c env V l (D (.str x))) (h2 : EvOK g k c env V e Pa) (hc : CallOK g k c (.builtin id) [D (.str x), Pa] P)
    (hbase : attributeBase l name env (eval l env) = eval l env := by rfl) (hs : starEach [e] env = [(false, eval e env)] := by rfl) (hline : (apos.endLine == pos.line) = true := by rfl) :
    EvOK g k c env V (.Call (.Attribute l name apos) [e] [] pos) P := fun A Y s Q E rm st q =>
  Call_method1 hbase hs hline (h1 A Y s _ E rm st fun o s₁ k₁ p₁ => by
    obtain ⟨t, rfl⟩ := D_str.mp p₁
    refine ⟨"str", id, F.plainAttrs_str, hsl, hty, typeIs_str _ _ _, (fun _ e => nomatch e), Calls.callWith_builtin rfl (Calls.evalArgs_plain (Calls.spliced_cons (h2 A Y s₁ _ E rm (st.kp k₁) fun v s₂ k₂ p₂ => Calls.spliced_nil ?_)))⟩
    exact hc A Y s₂ _ Q E rm st.ok ((st.kp k₁).kp k₂).base ((st.kp k₁).kp k₂).ex (.cons (D_str.mpr ⟨t, rfl⟩) (.cons p₂ .nil)) fun v s₃ k₃ p => q v s₃ ((k₁.trans k₂).trans k₃) p)
theorem ev_join {x : Str} {ss : List Str} (h1 : EvOK g k c env V l (D (.str x))) (h2 : EvOK g k c env V e (D (.list (ss.map .str)))) (hok : (ss.map (·.length)).sum + ss.length * x.length ≤ 16777216)
    (hbase : attributeBase l "join" env (eval l env) = eval l env := by rfl) (hs : starEach [e] env = [(false, eval e env)] := by rfl) (hline : (apos.endLine == pos.line) = true := by rfl) :
    EvOK g k c env V (.Call (.Attribute l "join" apos) [e] [] pos) (D (.str (Txt.join x ss))) := ev_meth F.slot_str_join F.type_str_join h1 h2 (call_join hok) hbase hs hline
theorem ev_split {x y : Str} (h1 : EvOK g k c env V l (D (.str x))) (h2 : EvOK g k c env V e (D (.str y))) (hy : (y.length == 0) = false) (hsz : x.length + 2 ≤ sizeLine)
    (hbase : attributeBase l "split" env (eval l env) = eval l env := by rfl) (hs : starEach [e] env = [(false, eval e env)] := by rfl) (hline : (apos.endLine == pos.line) = true := by rfl) :
    EvOK g k c env V (.Call (.Attribute l "split" apos) [e] [] pos) (D (.list ((Txt.split x y).map .str))) := ev_meth F.slot_str_split F.type_str_split h1 h2 (call_split hy hsz) hbase hs hline
end
noncomputable def goM {α β : Type} (f : β → α → Option β) : List α → β → Option β
  | [], b => some b
  | a :: r, b => (f b a).bind (goM f r)
theorem goM_append {α β : Type} (f : β → α → Option β) : ∀ (xs ys : List α) (b : β), goM f (xs ++ ys) b = (goM f xs b).bind (goM f ys)
  | [], ys, b => rfl
  | a :: r, ys, b => by
    show (f b a).bind (goM f (r ++ ys)) = ((f b a).bind (goM f r)).bind (goM f ys)
    cases f b a with
    | none => rfl
    | some b1 => exact goM_append f r ys b1
theorem goM_mid {α β : Type} {f : β → α → Option β} {xs pre post : List α} {a : α} {b out : β} (hx : xs = pre ++ a :: post) (h : goM f xs b = some out) : ∃ b1 b2, goM f pre b = some b1 ∧ f b1 a = some b2 ∧ goM f (pre ++ [a]) b = some b2 := by
  rw [hx, goM_append] at h
  obtain ⟨b1, h1, h2⟩ := Option.bind_eq_some_iff.mp h
  obtain ⟨b2, h3, _⟩ := Option.bind_eq_some_iff.mp (show (f b1 a).bind (goM f post) = some out from h2)
  refine ⟨b1, b2, h1, h3, ?_⟩
  rw [goM_append, h1]
  show (f b1 a).bind (goM f []) = some b2
  rw [h3]; rfl
def minL : List Int → Option Int
  | [] => none
  | a :: r => some (r.foldl min a)
theorem foldl_min : ∀ (r : List Int) (a : Int), (r.foldl min a ∈ a :: r) ∧ ∀ b ∈ a :: r, r.foldl min a ≤ b
  | [], a => ⟨.head _, fun b hb => by rw [List.mem_singleton.mp hb]; exact Int.le_refl _⟩
  | c :: r, a => by
    obtain ⟨h1, h2⟩ := foldl_min r (min a c)
    refine ⟨?_, fun b hb => ?_⟩
    · rcases List.mem_cons.mp h1 with h | h
      · show r.foldl min (min a c) ∈ _
        rw [h]
        rcases Int.le_total a c with q | q
        · rw [Int.min_eq_left q]; exact .head _
        · rw [Int.min_eq_right q]; exact .tail _ (.head _)
      · exact .tail _ (.tail _ h)
    · have h3 : r.foldl min (min a c) ≤ min a c := h2 _ (.head _)
      rcases List.mem_cons.mp hb with rfl | hb
      · exact Int.le_trans h3 (Int.min_le_left _ _)
      · rcases List.mem_cons.mp hb with rfl | hb
        · exact Int.le_trans h3 (Int.min_le_right _ _)
        · exact h2 _ (.tail _ hb)
theorem minL_spec {ns : List Int} {m : Int} (h : minL ns = some m) : m ∈ ns ∧ ∀ a ∈ ns, m ≤ a := by
  cases ns with
  | nil => cases h
  | cons a r => cases h; exact foldl_min r a
noncomputable def ins (a : Int) : List Int → List Int
  | [] => [a]
  | b :: r => if a ≤ b then a :: b :: r else b :: ins a r
noncomputable def isort : List Int → List Int
  | [] => []
  | a :: r => ins a (isort r)
theorem ins_perm (a : Int) : ∀ l : List Int, (ins a l).Perm (a :: l)
  | [] => .refl _
  | b :: r => by
    unfold ins
    split
    · exact .refl _
    · exact ((ins_perm a r).cons b).trans (.swap a b r)
theorem ins_sorted (a : Int) : ∀ l : List Int, l.Pairwise (· ≤ ·) → (ins a l).Pairwise (· ≤ ·)
  | [], _ => List.pairwise_singleton ..
  | b :: r, h => by
    obtain ⟨h1, h2⟩ := List.pairwise_cons.mp h
    unfold ins
    split
    · rename_i q
      refine List.pairwise_cons.mpr ⟨fun c hc => ?_, h⟩
      rcases List.mem_cons.mp hc with rfl | hc
      · exact q
      · exact Int.le_trans q (h1 c hc)
    · rename_i q
      refine List.pairwise_cons.mpr ⟨fun c hc => ?_, ins_sorted a r h2⟩
      rcases List.mem_cons.mp ((ins_perm a r).mem_iff.mp hc) with rfl | hc
      · omega
      · exact h1 c hc
theorem isort_perm : ∀ l : List Int, (isort l).Perm l
  | [] => .refl _
  | a :: r => (ins_perm a _).trans ((isort_perm r).cons a)
theorem isort_sorted : ∀ l : List Int, (isort l).Pairwise (· ≤ ·)
  | [] => .nil
  | a :: r => ins_sorted a _ (isort_sorted r)
def freeBox (balls new : List Int) (box : Int) : Bool := !(balls.any (· == box)) && !(new.any (· == box))
def movedOne (balls : List Int) (new : List Int) (ball : Int) : Option (List Int) := (minL ((rangeL (ball + 1) 1 8).filter (freeBox balls new))).map fun m => new ++ [m]
def moved (balls : List Int) : Option (List Int) := (goM (movedOne balls) balls []).map isort
theorem movedOne_len {balls new new' : List Int} {ball : Int} (h : movedOne balls new ball = some new') : new'.length = new.length + 1 := by
  obtain ⟨m, _, rfl⟩ := Option.map_eq_some_iff.mp h
  simp
theorem moved_len {balls : List Int} : ∀ {xs new out : List Int}, goM (movedOne balls) xs new = some out → out.length = new.length + xs.length
  | [], _, _, h => by cases h; rfl
  | a :: r, new, out, h => by
    obtain ⟨n1, h1, h2⟩ := Option.bind_eq_some_iff.mp (show (movedOne balls new a).bind (goM (movedOne balls) r) = some out from h)
    rw [moved_len h2, movedOne_len h1, List.length_cons]; omega
def sg (b : Bool) : Str := if b then "(" else ")"
abbrev bx (b : Bool) : PyData := .str (sg b)
abbrev rowD (row : List Bool) : PyData := .list (row.map bx)
abbrev CS := Int × Int × List Bool
def cartStep (most : Int) (s : CS) (b : Bool) : CS :=
  if b && decide (256 - most + s.1 < 256) then (s.1 + 1, s.2.1 + 1, s.2.2 ++ [false]) else if !b && !(s.1 == 0) then (s.1 - 1, s.2.1, s.2.2 ++ [true]) else (s.1, s.2.1, s.2.2 ++ [b])
def cart (most : Int) (row : List Bool) : CS := row.foldl (cartStep most) (0, 0, [])
theorem cart_len (most : Int) : ∀ (row : List Bool) (s : CS), (row.foldl (cartStep most) s).2.2.length = s.2.2.length + row.length
  | [], s => rfl
  | b :: r, s => by
    rw [List.foldl_cons, cart_len most r]
    have : (cartStep most s b).2.2.length = s.2.2.length + 1 := by
      unfold cartStep
      split
      · simp
      · split <;> simp
    rw [this, List.length_cons]; omega
theorem join_sg_len (row : List Bool) : ((row.map sg).map (·.length)).sum = row.length := by
  induction row with
  | nil => rfl
  | cons b r ih =>
    rw [List.map_cons, List.map_cons, List.sum_cons, ih, List.length_cons]
    have : (sg b).length = 1 := by cases b <;> rfl
    rw [this]; omega
theorem split_len {x y : Str} : ∀ p ∈ Txt.split x y, p.length ≤ x.length := fun p hp => by
  unfold Txt.split at hp
  split at hp
  · rw [List.mem_singleton.mp hp]; exact Nat.le_refl _
  · split at hp
    · rw [List.mem_singleton.mp hp]; exact Nat.le_refl _
    · obtain ⟨q, _, rfl⟩ := List.mem_map.mp hp
      exact le_strSub x q.1 q.2
theorem split_num {x y : Str} : (Txt.split x y).length ≤ x.length + 2 := by
  unfold Txt.split
  split
  · simp
  · split
    · simp
    · have e1 := StrLaws.occ_length_le x y 0 x.length (x.length + 1)
      rw [length_partsBetween]; omega
theorem join_len (x : Str) (ss : List Str) : (Txt.join x ss).length ≤ (ss.map (·.length)).sum + ss.length * x.length := by
  have h := StrLaws.join_length_le x ss
  rwa [show Str.join x ss = Txt.join x ss from (StrLaws.glued_eq_join x ss).symm] at h
def runsS (row : List Bool) : List Int := ((Txt.split (Txt.join "" (row.map sg)) ")").filter fun (run : Str) => run != ("" : Str)).map fun (run : Str) => (run.length : Int)
def dressL : List Str := ["", "", "", "\\(", "\")\"", "\"\\\")\"", "\\\\", "a\\\""]
def endL : List Str := [")", "\")", ")\\"]
def pieceOf (rides : List Int) (row : List Bool) (box : Int) : Str :=
  (if decide (box < 7) then dressL.getD (rides.getD (box.fmod 4).toNat 0).toNat "" else "") ++ sg (row.getD box.toNat false)
def piecesOf' (rides : List Int) (row : List Bool) : List Str := (rangeL 0 1 row.length).map (pieceOf rides row)
def cutText (pcs : List Str) (ball box : Int) : Str := Txt.join "" ((pcs.drop ball.toNat).take (box.toNat - ball.toNat)) ++ endL.getD (box.fmod 3).toNat ""
def mateStep (chk : Str → Bool) (pcs : List Str) (row : List Bool) (ball : Int) (acc : Option Int) (box : Int) : Option Int :=
  match acc with
  | some b => some b
  | none => if !(row.getD box.toNat true) && chk (cutText pcs ball box) then some box else none
def ahead (ball : Int) (n : Nat) : Nat := (n - ball.toNat) / 2
def mateOf (chk : Str → Bool) (pcs : List Str) (row : List Bool) (ball : Int) : Option Int := (rangeL (ball + 1) 2 (ahead ball row.length)).foldl (mateStep chk pcs row ball) none
def ballStep (chk : Str → Bool) (pcs : List Str) (row new : List Bool) (ball : Int) : Option (List Bool) :=
  if row.getD ball.toNat false then
    (mateOf chk pcs row ball).bind fun m =>
      if chk ("()" ++ pcs.getD m.toNat "") || chk ("()" ++ pcs.getD m.toNat "" ++ pcs.getD ball.toNat "" ++ "()") then none else some (new.set m.toNat true)
  else some new
def stepped (chk : Str → Bool) (rides : List Int) (row : List Bool) : Option (List Bool) :=
  goM (ballStep chk (piecesOf' rides row) row) (rangeL 0 1 row.length) (row.map fun _ => false)
theorem pick_nat {xs : List PyData} {i : Int} {d : PyData} (h0 : 0 ≤ i) (h : xs[i.toNat]? = some d) : pick xs i = some d := by
  obtain ⟨hl, _⟩ := List.getElem?_eq_some_iff.mp h
  unfold pick seqIndex?
  have h1 : ¬ i < 0 := by omega
  simp only [h1, if_false]
  have h2 : (decide (0 ≤ i) && decide (i < (xs.length : Int))) = true := by
    rw [decide_eq_true h0, decide_eq_true (by omega)]; rfl
  rw [if_pos h2]
  exact h
theorem getD_some {α : Type} {xs : List α} {i : Nat} {d : α} (h : i < xs.length) : xs[i]? = some (xs.getD i d) := by
  rw [List.getD_eq_getElem?_getD, List.getElem?_eq_getElem h]; rfl
theorem pick_map {α : Type} {f : α → PyData} {xs : List α} {i : Int} {d : α} (h0 : 0 ≤ i) (h : i < xs.length) : pick (xs.map f) i = some (f (xs.getD i.toNat d)) := by
  refine pick_nat h0 ?_
  rw [List.getElem?_map, getD_some (d := d) (by omega)]; rfl
theorem mem_rangeL {a st x : Int} {n : Nat} (h : x ∈ rangeL a st n) : ∃ i : Nat, i < n ∧ x = a + i * st := by
  obtain ⟨i, hi, rfl⟩ := List.mem_map.mp h
  exact ⟨i, List.mem_range.mp hi, rfl⟩
theorem rangeSize2 {a b : Int} (h0 : 0 ≤ a) (hb : 0 ≤ b) : Builtin.Range.rangeSize (a + 1) b 2 = (ahead a b.toNat : Nat) := by
  unfold Builtin.Range.rangeSize ahead
  rw [if_pos (by decide)]
  split
  · omega
  · omega
theorem small2 {a b : Int} (h1 : -1000000 ≤ a) (h2 : a ≤ 1000000) (h3 : -1000000 ≤ b) (h4 : b ≤ 1000000) : Builtin.Range.small a b 2 = true := by
  unfold Builtin.Range.small Builtin.Range.rangeSize
  simp only [Builtin.Range.rangeFitsLong, Bool.and_eq_true, Bool.or_eq_true, decide_eq_true_eq, beq_iff_eq, show (2 : Int) > 0 by decide, if_true]
  split <;> omega
theorem small4 {a b : Int} (h1 : -1000000 ≤ a) (h2 : a ≤ 1000000) (h3 : -1000000 ≤ b) (h4 : b ≤ 1000000) : Builtin.Range.small a b 4 = true := by
  unfold Builtin.Range.small Builtin.Range.rangeSize
  simp only [Builtin.Range.rangeFitsLong, Bool.and_eq_true, Bool.or_eq_true, decide_eq_true_eq, beq_iff_eq, show (4 : Int) > 0 by decide, if_true]
  split <;> omega
theorem mateOf_in {chk : Str → Bool} {pcs : List Str} {row : List Bool} {ball m : Int} (h0 : 0 ≤ ball) (h : mateOf chk pcs row ball = some m) : 0 ≤ m ∧ m < row.length := by
  unfold mateOf at h
  have key : ∀ (xs : List Int) (acc : Option Int), (∀ x ∈ xs, 0 ≤ x ∧ x < row.length) → (∀ x, acc = some x → 0 ≤ x ∧ x < row.length) → ∀ m, xs.foldl (mateStep chk pcs row ball) acc = some m → 0 ≤ m ∧ m < row.length := by
    intro xs
    induction xs with
    | nil => intro acc _ h2 m h; exact h2 m h
    | cons x xs ih =>
      intro acc h1 h2 m h
      refine ih _ (fun y hy => h1 y (.tail _ hy)) (fun y hy => ?_) m h
      unfold mateStep at hy
      cases acc with
      | some b => exact h2 y hy
      | none =>
        dsimp only at hy
        split at hy
        · cases hy; exact h1 _ (.head _)
        · cases hy
  refine key _ _ (fun x hx => ?_) (fun x hx => by cases hx) m h
  obtain ⟨i, hi, rfl⟩ := mem_rangeL hx
  unfold ahead at hi
  omega
theorem pieces_len (rides : List Int) (row : List Bool) : (piecesOf' rides row).length = row.length := by unfold piecesOf'; rw [List.length_map, rangeL_len]
theorem dress_len : ∀ x ∈ ("" : Str) :: dressL, x.length ≤ 10 := by decide
theorem getD_mem {α : Type} {xs : List α} {i : Nat} {d : α} : xs.getD i d ∈ d :: xs := by
  by_cases h : i < xs.length
  · exact .tail _ (List.mem_of_getElem? (getD_some h))
  · rw [List.getD_eq_getElem?_getD, List.getElem?_eq_none (by omega)]; exact .head _
theorem piece_len (rides : List Int) (row : List Bool) (i : Int) : (pieceOf rides row i).length ≤ 11 := by
  unfold pieceOf
  rw [Str.length_append]
  have h1 : (sg (row.getD i.toNat false)).length = 1 := by cases row.getD i.toNat false <;> rfl
  have h3 : (if decide (i < 7) then dressL.getD (rides.getD (i.fmod 4).toNat 0).toNat "" else ("" : Str)).length ≤ 10 := by
    split
    · exact dress_len _ getD_mem
    · exact dress_len _ (.head _)
  omega
theorem pieces_le (rides : List Int) (row : List Bool) : ∀ p ∈ piecesOf' rides row, p.length ≤ 11 := fun p hp => by
  obtain ⟨i, _, rfl⟩ := List.mem_map.mp hp
  exact piece_len rides row i
theorem pieceD_le (rides : List Int) (row : List Bool) (i : Nat) : ((piecesOf' rides row).getD i "").length ≤ 11 := by
  rcases List.mem_cons.mp (getD_mem (xs := piecesOf' rides row) (i := i) (d := "")) with h | h
  · rw [h]; decide
  · exact pieces_le rides row _ h
theorem sum_le {xs : List Str} {n : Nat} (h : ∀ p ∈ xs, p.length ≤ n) : (xs.map (·.length)).sum ≤ xs.length * n := by
  induction xs with
  | nil => simp
  | cons a r ih =>
    rw [List.map_cons, List.sum_cons, List.length_cons, Nat.succ_mul]
    have := h a (.head _)
    have := ih fun p hp => h p (.tail _ hp)
    omega
theorem cut_sum (rides : List Int) (row : List Bool) (i j : Nat) : ((((piecesOf' rides row).drop i).take j).map (·.length)).sum ≤ row.length * 11 := by
  refine Nat.le_trans (sum_le (n := 11) fun p hp => pieces_le rides row p (List.mem_of_mem_drop (List.mem_of_mem_take hp))) (Nat.mul_le_mul_right _ ?_)
  rw [List.length_take, List.length_drop, pieces_len]; omega
theorem cut_len (rides : List Int) (row : List Bool) (i j : Int) : (cutText (piecesOf' rides row) i j).length ≤ row.length * 11 + 10 := by
  unfold cutText
  rw [Str.length_append]
  have h1 := join_len "" (((piecesOf' rides row).drop i.toNat).take (j.toNat - i.toNat))
  have h2 := cut_sum rides row i.toNat (j.toNat - i.toNat)
  have h3 : ∀ x ∈ ("" : Str) :: endL, x.length ≤ 10 := by decide
  have h4 := h3 _ (getD_mem (xs := endL) (i := (j.fmod 3).toNat) (d := ""))
  have h5 : (("" : Str)).length = 0 := rfl
  rw [h5, Nat.mul_zero] at h1
  omega
local macro_rules | `(tactic| walk_at "mem") => `(tactic| first | exact List.Mem.head _ | (refine List.Mem.tail _ ?_; walk_at "mem") | (refine mem_vc ?_ (by rfl); walk_at "mem"))
local macro_rules | `(tactic| walk_at "ev") => `(tactic| first
  | with_reducible exact ev_int
  | with_reducible exact ev_str
  | with_reducible exact ev_bool
  | with_reducible exact ev_none
  | (refine ev_name ?_ (by decide); walk_at "mem")
  | (refine ev_add ?_ ?_ <;> walk_at "ev")
  | (refine ev_sub ?_ ?_ <;> walk_at "ev"))
local macro_rules | `(tactic| walk_at "sub") => `(tactic| (refine List.forall_mem_cons.mpr ⟨?_, ?_⟩; (· walk_at "mem"); walk_at "sub"))
local macro_rules | `(tactic| walk_at "sub") => `(tactic| exact List.forall_mem_nil _)
theorem moved_ok {g : Bool} {c : Cx} {balls out : List Int} (K : Kt c) (hl : balls.length < 60) (hb : ∀ b ∈ balls, 0 ≤ b ∧ b < 1000) (h : moved balls = some out) :
    DefOK g 3 c "_law_moved" [D (.list (balls.map .int))] (D (.list (out.map .int))) := DefOK.of K.moved fun a cd hf => by
  refine call_fn (xs := ["balls"]) hf.2 (bind1 (by rfl)) rfl (by decide) (by decide) (List.forall_mem_singleton.mpr (D_mono _)) fun A Y₀ W Y s₀ s L E r hY hW F => ?_
  obtain ⟨fin, hfin, rfl⟩ := Option.map_eq_some_iff.mp h
  refine xs_newlist (ds := []) F r ar_nil (by decide) (st1_fn (by decide)) (by rfl) fun l s₁ hlY F₁ => ?_
  refine xs_for (xs := balls) (Vi := fun _ => [("new", Is (.ref l)), ("balls", D (.list (balls.map .int)))]) (MUi := fun pre => [(l, LsR true (((goM (movedOne balls) pre []).getD []).map .int))]) F₁ r (S := D (.list (balls.map .int))) ?_ src_list ?_ ?_ ?_ ?_ ?_ ?_ ?_
  · walk_at "ev"
  · exact st1_fn (by decide)
  · intro _; rfl
  · exact fun a => D_mono _
  · intro p hp; exact hp
  · rfl
  · intro pre ball post I R s' hx hI F₂ E'
    obtain ⟨n1, n2, h1, h2, h3⟩ := goM_mid hx hfin
    rw [h1] at F₂
    obtain ⟨m, hm, rfl⟩ := Option.map_eq_some_iff.mp h2
    obtain ⟨hm1, hm2⟩ := minL_spec hm
    obtain ⟨hb1, hb2⟩ := hb ball (by rw [hx]; simp)
    have hln : n1.length < 60 := by
      have := moved_len h1
      have h4 : balls.length = pre.length + (post.length + 1) := by rw [hx]; simp
      simp at this; omega
    refine xs_append_rest (d := .int m) F₂ (by walk_at "mem") r ?_ (scal_int _) ?_ fun s₃ F₃ => xs_nil ?_
    · rw [sizeLine_eq]; simp; omega
    · refine ev_min K (by rfl) (ev_comp (xs := rangeL (ball + 1) 1 8) (keep := freeBox balls n1) (Rs := .int) ⟨rfl, rfl, rfl, .inl rfl⟩ (ev_range2 (m := ball + 1) (n := ball + 9) K (by rfl) (by walk_at "ev") (by walk_at "ev"))
        (src_range (range_small ?_ ?_ ?_ ?_) (range_size ?_)) ?_ (fun _ => D_mono _) (fun C box hbox => ?_) fun C box hbox _ => ?_) hm1 hm2
      · omega
      · omega
      · omega
      · omega
      · omega
      · rw [rangeL_len]; decide
      · refine tr_and2 (tr_in (by walk_at "ev") (by walk_at "ev") rfl) fun _ => tr_in (by walk_at "ev") (by walk_at "ev") rfl
      · walk_at "ev"
    · show FS _ _ _ _ _ _ _ _ _ _
      rw [h3]
      simp only [Option.getD_some, List.map_append, List.map_cons, List.map_nil]
      exact F₃.weaken fun p hp => .tail _ hp
  · intro s₂ F₂
    rw [hfin] at F₂
    refine xs_return_rest F₂ (by walk_at "mem") r (P := D (.list ((isort fin).map .int))) ?_ fun v s' F' p => RetP.of F'.kp p (D_mono _) ?_
    · refine ev_sorted K (by rfl) (by walk_at "ev") ?_ (isort_perm _) (isort_sorted _)
      have := moved_len hfin
      simp at this; omega
    · intro b hb
      exact mem_noA.mpr ⟨.tail _ (hY b hb), fun q => hlY (q ▸ hY b hb)⟩
theorem isnont_ok {g : Bool} {c : Cx} {x : Int} (K : Kt c) : DefOK g 3 c "ISNONTERMINAL" [D (.int x)] (D (.bool (decide (256 ≤ x)))) := DefOK.of K.isnont fun a cd hf => by
  refine call_fn (xs := ["x"]) hf.2 (bind1 (by rfl)) rfl (by decide) (by decide) (List.forall_mem_singleton.mpr (D_mono _)) fun A Y₀ W Y s₀ s L E r hY hW F => ?_
  refine xs_return (P := D (.bool (decide (256 ≤ x)))) F r ?_ fun v s' F' p => RetP.of F'.kp p (D_mono _) hY
  refine ev_cmpI (a := x) (b := 256) (by walk_at "ev") ?_ rfl
  obtain ⟨t, h⟩ := K.nt
  exact (ev_glob (by rfl) h).mono fun h v e => e ▸ D_int.mpr ⟨t, rfl⟩
theorem iseof_ok {g : Bool} {c : Cx} {x : Int} (K : Kt c) : DefOK g 3 c "ISEOF" [D (.int x)] (D (.bool (x == 0))) := DefOK.of K.iseof fun a cd hf => by
  refine call_fn (xs := ["x"]) hf.2 (bind1 (by rfl)) rfl (by decide) (by decide) (List.forall_mem_singleton.mpr (D_mono _)) fun A Y₀ W Y s₀ s L E r hY hW F => ?_
  refine xs_return (P := D (.bool (x == 0))) F r ?_ fun v s' F' p => RetP.of F'.kp p (D_mono _) hY
  refine ev_cmpI (a := x) (b := 0) (by walk_at "ev") ?_ rfl
  obtain ⟨t, h⟩ := K.em
  exact (ev_glob (by rfl) h).mono fun h v e => e ▸ D_int.mpr ⟨t, rfl⟩
theorem isterm_ok {g : Bool} {c : Cx} {x : Int} (K : Kt c) : DefOK g 3 c "ISTERMINAL" [D (.int x)] (D (.bool (decide (x < 256)))) := DefOK.of K.isterm fun a cd hf => by
  refine call_fn (xs := ["x"]) hf.2 (bind1 (by rfl)) rfl (by decide) (by decide) (List.forall_mem_singleton.mpr (D_mono _)) fun A Y₀ W Y s₀ s L E r hY hW F => ?_
  refine xs_return (P := D (.bool (decide (x < 256)))) F r ?_ fun v s' F' p => RetP.of F'.kp p (D_mono _) hY
  refine ev_cmpI (a := x) (b := 256) (by walk_at "ev") ?_ rfl
  obtain ⟨t, h⟩ := K.nt
  exact (ev_glob (by rfl) h).mono fun h v e => e ▸ D_int.mpr ⟨t, rfl⟩
theorem ev_tok {g : Bool} {k : Nat} {c : Cx} {env : Env} {V : List (Str × Pr)} {np pos : Pos} {r : Expr} {b : Bool} (K : Kt c) (hk : env.kindOf "EXACT_TOKEN_TYPES" = some .globalImplicit) (h : EvOK g k c env V r (D (bx b)))
    (hs : ∀ a x t, subscripted r false (.ref a) (.str x t) = operate [.ref a, .str x t] (getItem (.ref a) (.str x t)) := by intro _ _ _; with_unfolding_all rfl) :
    EvOK g k c env V (.Subscript (.Name "EXACT_TOKEN_TYPES" np) r pos) (D (.int (if b then 7 else 8))) := fun A Y s Q E rm st q => by
  obtain ⟨a, f, t7, t8, h1, h2, h3, h4⟩ := K.ett
  refine Subscript_ (ev_glob (g := g) (k := k) hk h1 (by decide) A Y s _ E rm st fun o s₁ k₁ p₁ => h A Y s₁ _ E rm (st.kp k₁) fun iv s₂ k₂ p₂ => ?_)
  cases p₁
  obtain ⟨t, rfl⟩ := D_str.mp p₂
  have hm : s₂.heap.MapOf (strKind c.prog c.w) a f := let ⟨o, es, n, ho, r⟩ := h2; ⟨o, es, n, ((st.kp k₁).kp k₂).base _ _ ho, r⟩
  obtain ⟨i, t', e, hv⟩ : ∃ i t', i = (if b then 7 else 8) ∧ f (sg b) = some (.int i t') := by
    cases b
    · exact ⟨_, _, rfl, h4⟩
    · exact ⟨_, _, rfl, h3⟩
  refine tail_any hm.typeIs slot_dict_getitem.lookup (wpAny_getItem_of (strKind_is c.prog c.w (sg b) t) hm hv (q _ _ ((k₁.trans k₂).trans (Kp.tk ..)) (D_int.mpr ⟨t', ?_⟩))) (hs _ _ _)
  rw [e]
theorem carted_ok {g : Bool} {c : Cx} {row : List Bool} {most : Int} (K : Kt c) (hl : row.length < 100) :
    DefOK g 5 c "_law_carted" [D (rowD row), D (.int most)] (D (.tuple [rowD (cart most row).2.2, .int (cart most row).2.1])) := DefOK.of K.carted fun a cd hf => by
  refine call_fn (xs := ["row", "most"]) hf.2 (bind2 (by rfl) (by decide)) rfl (by decide) (by decide) (by simp [D_mono]) fun A Y₀ W Y s₀ s L E r hY hW F => ?_
  refine xs_assign (P := D (.int 0)) F r (by walk_at "ev") (D_mono _) (st1_fn (by decide)) (by rfl) fun s F => ?_
  refine xs_assign (P := D (.int 0)) F r (by walk_at "ev") (D_mono _) (st1_fn (by decide)) (by rfl) fun s F => ?_
  refine xs_newlist (ds := []) F r ar_nil (by decide) (st1_fn (by decide)) (by rfl) fun l s hlY F => ?_
  refine xs_for (xs := row) (Vi := fun pre => [("new", Is (.ref l)), ("taken", D (.int (cart most pre).2.1)), ("load", D (.int (cart most pre).1)), ("row", D (rowD row)), ("most", D (.int most))])
    (MUi := fun pre => [(l, LsR true ((cart most pre).2.2.map bx))]) F r (S := D (rowD row)) (by walk_at "ev") src_list (st1_fn (by decide)) (fun _ => by rfl) (fun _ => D_mono _) (fun p hp => hp) rfl ?_ ?_
  · intro pre b post I R s' hx hI F E'
    have hst : cart most (pre ++ [b]) = cartStep most (cart most pre) b := by unfold cart; rw [List.foldl_append]; rfl
    have hln : (cart most pre).2.2.length < 100 := by
      have h1 := cart_len most pre (0, 0, [])
      have h2 : row.length = pre.length + (post.length + 1) := by rw [hx]; simp
      unfold cart
      rw [h1]; simp; omega
    rw [hst]
    generalize cart most pre = st at F hln ⊢
    obtain ⟨load, taken, new⟩ := st
    try dsimp only at F
    try dsimp only at hln
    have hsz : new.length ≤ sizeLine := by rw [sizeLine_eq]; omega
    have hrm : (decide (256 - most + load < 256) == decide (256 ≤ 256 - most + load)) = false := by
      by_cases h : 256 - most + load < 256
      · rw [decide_eq_true h, decide_eq_false (by omega)]; rfl
      · rw [decide_eq_false h, decide_eq_true (by omega)]; rfl
    refine xs_assign (P := D (.bool b)) F r (evc (d := .bool ((if b then (7 : Int) else 8) - 7 == 0)) (ev_call (iseof_ok K) (by rfl) (ar1 (D_mono _) (ev_sub (ev_tok (b := b) K (by rfl) (by walk_at "ev")) ev_int))) (by cases b <;> rfl)) (D_mono _) (st1_fn (by decide)) (by rfl) fun s F => ?_
    refine xs_assign (P := D (.bool (decide (256 - most + load < 256)))) F r (ev_call (isterm_ok K) (by rfl) (ar1 (D_mono _) (by walk_at "ev"))) (D_mono _) (st1_fn (by decide)) (by rfl) fun s F => ?_
    refine xs_if (b := false) F r (trc (tr_isB (op := .Is) (by walk_at "ev") (ev_call (isnont_ok K) (by rfl) (ar1 (D_mono _) (by walk_at "ev"))) rfl) hrm) (fun h => by cases h) fun _ s F => xs_nil ?_
    refine xs_if (b := b && decide (256 - most + load < 256)) F r (trc (tr_and2 (tr_isB (op := .Is) (by walk_at "ev") (by walk_at "ev") rfl) fun _ => tr_isB (op := .Is) (by walk_at "ev") (by walk_at "ev") rfl) (by cases b <;> cases decide (256 - most + load < 256) <;> rfl)) (fun hc s F => ?_) fun hc s F => ?_
    · refine xs_reassign (P := D (.int (load + 1))) F r (by walk_at "ev") (D_mono _) (st1_fn (by decide)) fun s F => ?_
      refine xs_reassign (P := D (.int (taken + 1))) F r (by walk_at "ev") (D_mono _) (st1_fn (by decide)) fun s F => ?_
      refine xs_append (d := bx false) F (by walk_at "mem") r (by rw [List.length_map]; exact hsz) ev_str fun s F => xs_nil (xs_nil ?_)
      show FS _ _ _ _ _ _ _ _ _ _
      unfold cartStep
      rw [if_pos hc]
      simp only [List.map_append, List.map_cons, List.map_nil]
      exact F.weaken (by walk_at "sub")
    · refine xs_if (b := !b && !(load == 0)) F r (trc (tr_and2 (tr_isB (op := .Is) (by walk_at "ev") (by walk_at "ev") rfl) fun _ => tr_isB (op := .Is) (ev_call (iseof_ok K) (by rfl) (ar1 (D_mono _) (by walk_at "ev"))) (by walk_at "ev") rfl) (by cases b <;> cases (load == 0) <;> rfl)) (fun hc2 s F => ?_) fun hc2 s F => ?_
      · refine xs_reassign (P := D (.int (load - 1))) F r (by walk_at "ev") (D_mono _) (st1_fn (by decide)) fun s F => ?_
        refine xs_append (d := bx true) F (by walk_at "mem") r (by rw [List.length_map]; exact hsz) ev_str fun s F => xs_nil (xs_nil (xs_nil ?_))
        show FS _ _ _ _ _ _ _ _ _ _
        unfold cartStep
        rw [if_neg (by rw [hc]; decide), if_pos hc2]
        simp only [List.map_append, List.map_cons, List.map_nil]
        exact F.weaken (by walk_at "sub")
      · refine xs_append (d := bx b) F (by walk_at "mem") r (by rw [List.length_map]; exact hsz) (by walk_at "ev") fun s F => xs_nil (xs_nil (xs_nil ?_))
        show FS _ _ _ _ _ _ _ _ _ _
        unfold cartStep
        rw [if_neg (by rw [hc]; decide), if_neg (by rw [hc2]; decide)]
        simp only [List.map_append, List.map_cons, List.map_nil]
        exact F.weaken (by walk_at "sub")
  · intro s F
    refine xs_return_rest (P := D (.tuple [rowD (cart most row).2.2, .int (cart most row).2.1])) F (by walk_at "mem") r ?_ fun v s' F' p => RetP.of F'.kp p (D_mono _) fun b hb => mem_noA.mpr ⟨.tail _ (hY b hb), fun q => hlY (q ▸ hY b hb)⟩
    exact ev_tuple (ds := [rowD (cart most row).2.2, .int (cart most row).2.1]) (ar2 (D_mono _) (D_mono _) (by walk_at "ev") (by walk_at "ev")) (Nat.le_of_ble_eq_true rfl)
theorem ev_joinRow {g : Bool} {k : Nat} {c : Cx} {env : Env} {V : List (Str × Pr)} {apos pos ap : Pos} {e : Expr} {n : Nat} {row : List Bool} (h : EvOK g k c env V e (D (rowD row))) (hl : row.length < 1000)
    (hs : starEach [e] env = [(false, eval e env)] := by rfl) (hline : (apos.endLine == pos.line) = true := by rfl) :
    EvOK g k c env V (.Call (.Attribute (.Constant (.str "") n ap) "join" apos) [e] [] pos) (D (.str (Txt.join "" (row.map sg)))) := by
  refine ev_join ev_str (evc h (by rw [List.map_map]; rfl)) ?_ (by rfl) hs hline
  rw [join_sg_len, List.length_map]
  show row.length + row.length * 0 ≤ _
  omega
theorem joinRow_len (row : List Bool) : (Txt.join "" (row.map sg)).length ≤ row.length := by
  have := join_len "" (row.map sg)
  rw [join_sg_len] at this
  exact this
theorem runs_ok {g : Bool} {c : Cx} {row : List Bool} (K : Kt c) (hl : row.length < 1000) : DefOK g 3 c "_law_runs" [D (rowD row)] (D (.list ((runsS row).map .int))) := DefOK.of K.runs fun a cd hf => by
  refine call_fn (xs := ["row"]) hf.2 (bind1 (by rfl)) rfl (by decide) (by decide) (List.forall_mem_singleton.mpr (D_mono _)) fun A Y₀ W Y s₀ s L E r hY hW F => ?_
  have h0 := joinRow_len row
  have h1 := sizeLine_eq
  refine xs_return F r (ev_comp (xs := Txt.split (Txt.join "" (row.map sg)) ")") (Pa := fun x => D (.str x)) (keep := fun run => run != ("" : Str)) (Rs := fun run => .int run.length) ⟨rfl, rfl, rfl, .inl rfl⟩
    (ev_split (ev_joinRow (by walk_at "ev") hl) ev_str (by rfl) (by omega)) src_list ?_ (fun _ => D_mono _) (fun C x _ => tr_str (by walk_at "ev") ev_str rfl) fun C x hx _ => ev_lenS K (by rfl) (by walk_at "ev") ?_)
    fun v s' F' p => RetP.of (Y₁ := Y) F'.kp (P := D (.list ((runsS row).map .int))) ?_ (D_mono _) hY
  · have := split_num (x := Txt.join "" (row.map sg)) (y := ")")
    omega
  · have := split_len x hx
    omega
  · unfold runsS; rw [List.map_map]; exact p
theorem isNone_mate (acc : Option Int) : isNone (match acc with | some b => PyData.int b | none => .none) = acc.isNone := by cases acc <;> rfl
abbrev mateD (acc : Option Int) : PyData := match acc with | some b => .int b | none => .none
theorem goM_inv {α β : Type} {f : β → α → Option β} {I : β → Prop} (h : ∀ b a b', I b → f b a = some b' → I b') : ∀ (xs : List α) {b b' : β}, I b → goM f xs b = some b' → I b'
  | [], b, b', hb, e => by cases e; exact hb
  | a :: r, b, b', hb, e => by
    obtain ⟨b1, h1, h2⟩ := Option.bind_eq_some_iff.mp (show (f b a).bind (goM f r) = some b' from e)
    exact goM_inv h r (h _ _ _ hb h1) h2
theorem ballStep_len {chk : Str → Bool} {pcs : List Str} {row b b' : List Bool} {a : Int} (h : ballStep chk pcs row b a = some b') : b'.length = b.length := by
  unfold ballStep at h
  split at h
  · obtain ⟨m, _, h⟩ := Option.bind_eq_some_iff.mp h
    split at h
    · cases h
    · cases h; rw [List.length_set]
  · cases h; rfl
theorem pylong2 (x : Int) : Builtin.divisionGoesByPylong x 2 = false := rfl
theorem stepped_ok {c : Cx} {chk : Str → Bool} {row out : List Bool} {rides : List Int} (K : Kt c) (hchk : ∀ x : Str, x.length < 2000 → DefOK true 8 c "_check_parenthesis" [D (.str x)] (D (.bool (chk x))))
    (hl : row.length < 100) (hr : rides.length = 4) (hr8 : ∀ x ∈ rides, 0 ≤ x ∧ x < 8) (h : stepped chk rides row = some out) :
    DefOK true 12 c "_law_stepped" [D (rowD row), D (.list (rides.map .int))] (D (rowD out)) := DefOK.of K.stepped fun a cd hf => by
  refine call_fn (xs := ["row", "rides"]) hf.2 (bind2 (by rfl) (by decide)) rfl (by decide) (by decide) (by simp [D_mono]) fun A Y₀ W Y s₀ s L E r hY hW F => ?_
  refine xs_assign (P := D (.list (dressL.map .str))) F r (ev_list (ds := dressL.map .str) ?_ (by rw [List.length_map, show dressL.length = 8 from rfl, sizeLine_eq]; omega)) (D_mono _) (st1_fn (by decide)) (by rfl) fun s F => ?_
  · exact ar_cons (D_mono _) ev_str (ar_cons (D_mono _) ev_str (ar_cons (D_mono _) ev_str (ar_cons (D_mono _) ev_str (ar_cons (D_mono _) ev_str (ar_cons (D_mono _) ev_str (ar_cons (D_mono _) ev_str (ar_cons (D_mono _) ev_str ar_nil)))))))
  refine xs_assign (P := D (.list (endL.map .str))) F r (ev_list (ds := endL.map .str) ?_ (by rw [List.length_map, show endL.length = 3 from rfl, sizeLine_eq]; omega)) (D_mono _) (st1_fn (by decide)) (by rfl) fun s F => ?_
  · exact ar_cons (D_mono _) ev_str (ar_cons (D_mono _) ev_str (ar_cons (D_mono _) ev_str ar_nil))
  have hsz := sizeLine_eq
  -- the pieces
  refine xs_assign_comp (xs := rangeL 0 1 row.length) (Pa := fun i => D (.int i)) (keep := fun _ => true) (Rs := fun i => .str (pieceOf rides row i)) F r ⟨rfl, rfl, rfl, .inl rfl⟩
    (ev_range1 (n := row.length) K (by rfl) (evc (ev_len (xs := row.map bx) K (by rfl) (by walk_at "ev") ?_) (by rw [List.length_map]))) (src_range (range_small ?_ ?_ ?_ ?_) (range_size ?_)) ?_ (fun _ => D_mono _) (fun _ _ _ => rfl) (fun C i hi _ => ?_) (st1_fn (by decide)) (by rfl) fun s F => ?_
  · rw [List.length_map]; omega
  · omega
  · omega
  · omega
  · omega
  · omega
  · rw [rangeL_len]; omega
  · obtain ⟨n, hn, e⟩ := mem_rangeL hi
    have hi0 : 0 ≤ i ∧ i < row.length := by omega
    have hm : 0 ≤ i.fmod 4 ∧ i.fmod 4 < 4 := ⟨Int.fmod_nonneg_of_pos i (by decide), Int.fmod_lt_of_pos i (by decide)⟩
    have hrd : 0 ≤ rides.getD (i.fmod 4).toNat 0 ∧ rides.getD (i.fmod 4).toNat 0 < 8 := by
      refine hr8 _ ?_
      have := getD_some (xs := rides) (i := (i.fmod 4).toNat) (d := 0) (by omega)
      exact List.mem_of_getElem? this
    refine ev_cat (x := if decide (i < 7) then dressL.getD (rides.getD (i.fmod 4).toNat 0).toNat "" else "") (y := sg (row.getD i.toNat false)) (ev_if (v := decide (i < 7)) (tr_int (op := .Lt) (by walk_at "ev") (by walk_at "ev") rfl) (fun hv => ?_) fun hv => ?_) ?_ ?_
    · rw [hv]
      refine ev_item (xs := dressL.map .str) (i := rides.getD (i.fmod 4).toNat 0) (by walk_at "ev") (ev_item (xs := rides.map .int) (i := i.fmod 4) (by walk_at "ev") (ev_mod (by walk_at "ev") ev_int (by decide)) (pick_map (f := .int) hm.1 (by omega)) (by rw [List.length_map]; omega)) (pick_map (f := .str) hrd.1 ?_) (by decide)
      exact hrd.2
    · rw [hv]; exact ev_str
    · exact ev_item (xs := row.map bx) (by walk_at "ev") (by walk_at "ev") (pick_map (f := bx) hi0.1 hi0.2) (by rw [List.length_map]; omega)
    · have := piece_len rides row i
      unfold pieceOf at this
      rw [Str.length_append] at this
      omega
  rw [show (List.filter (fun _ => true) (rangeL 0 1 row.length)).map (fun i => PyData.str (pieceOf rides row i)) = (piecesOf' rides row).map .str from by rw [List.filter_eq_self.mpr (fun _ _ => rfl)]; unfold piecesOf'; rw [List.map_map]; rfl] at F
  have hpl := pieces_len rides row
  have hpd := pieceD_le rides row
  have hcs := cut_sum rides row
  have hcl := cut_len rides row
  unfold stepped at h
  generalize piecesOf' rides row = pcs at F hpl hpd hcs hcl h
  refine xs_assign_comp_own (xs := row) (Pa := fun b => D (bx b)) (keep := fun _ => true) (Rs := fun _ => bx false) F r ⟨rfl, rfl, rfl, .inl rfl⟩ (by walk_at "ev") src_list (by omega) (fun _ => D_mono _) (fun _ _ _ => rfl) (fun C b _ _ => ev_str) (fun _ => scal_str _) (st1_fn (by decide)) (by rfl) fun l s hlY F => ?_
  rw [show (List.filter (fun _ => true) row).map (fun _ => bx false) = (row.map fun _ => false).map bx from by rw [List.filter_eq_self.mpr (fun _ _ => rfl), List.map_map]; rfl] at F
  have hlen0 : ∀ {pre : List Int} {st : List Bool}, goM (ballStep chk pcs row) pre (row.map fun _ => false) = some st → st.length = row.length := fun h => by
    refine goM_inv (I := fun st => st.length = row.length) (fun b a b' hb e => (ballStep_len e).trans hb) _ ?_ h
    rw [List.length_map]
  refine xs_for (xs := rangeL 0 1 row.length) (Vi := fun _ => [("new", Is (.ref l)), ("pieces", D (.list (pcs.map .str))), ("ends", D (.list (endL.map .str))), ("row", D (rowD row))])
    (MUi := fun pre => [(l, LsR false (((goM (ballStep chk pcs row) pre (row.map fun _ => false)).getD []).map bx))]) (F.weaken (by walk_at "sub")) r
    (ev_range1 (n := row.length) K (by rfl) (evc (ev_len (xs := row.map bx) K (by rfl) (by walk_at "ev") ?_) (by rw [List.length_map]))) (src_range (range_small ?_ ?_ ?_ ?_) (range_size ?_)) (st1_fn (by decide)) (fun _ => by rfl) (fun _ => D_mono _) (fun p hp => hp) rfl ?_ ?_
  · rw [List.length_map]; omega
  · omega
  · omega
  · omega
  · omega
  · omega
  · intro pre ball post I R s' hx hI F E'
    obtain ⟨n1, n2, h1, h2, h3⟩ := goM_mid hx h
    have hn1 := hlen0 h1
    rw [h1] at F
    rw [h3]
    try simp only [Option.getD_some] at F ⊢
    obtain ⟨n, hn, e⟩ := mem_rangeL (x := ball) (a := 0) (st := 1) (n := row.length) (by rw [hx]; simp)
    have hb0 : 0 ≤ ball ∧ ball < row.length := by omega
    have hrow : ∀ {V : List (Str × Pr)} {x : Str} {i : Int} {xp p : Pos} {b : Bool}, (x, D (.int i)) ∈ V → (("row" : Str), D (rowD row)) ∈ V → (x == ("__debug__" : Str)) = false → 0 ≤ i → i < row.length → ∀ rp : Pos, EvOK true 11 c (fnEnv a (nmOf (stm 63)) (scOf (stm 63)) cd L) V (.Subscript (.Name "row" rp) (.Name x xp) p) (D (bx (row.getD i.toNat b))) := fun h1 h2 h3 h4 h5 rp =>
      ev_item (xs := row.map bx) (ev_name h2 (by decide)) (ev_name h1 h3) (pick_map (f := bx) h4 h5) (by rw [List.length_map]; omega)
    refine xs_if (b := row.getD ball.toNat false) F r (trc (tr_str (op := .Eq) (hrow (b := false) (by walk_at "mem") (by walk_at "mem") (by decide) hb0.1 hb0.2 _) ev_str rfl) (by cases row.getD ball.toNat false <;> rfl)) (fun hc s F => ?_) (fun hc s F => xs_nil (xs_nil ?_))
    · unfold ballStep at h2
      rw [if_pos hc] at h2
      obtain ⟨m, hm, h2⟩ := Option.bind_eq_some_iff.mp h2
      have hmi := mateOf_in hb0.1 hm
      split at h2
      · cases h2
      rename_i hno
      cases h2
      obtain ⟨hno1, hno2⟩ := Bool.or_eq_false_iff.mp (Bool.eq_false_iff.mpr hno)
      refine xs_assign (P := D .none) F r ev_none (D_mono _) (st1_fn (by decide)) (by rfl) fun s F => ?_
      refine xs_for (xs := rangeL (ball + 1) 2 (ahead ball row.length)) (Vi := fun pre => [("mate", D (mateD (pre.foldl (mateStep chk pcs row ball) none))), ("ball", D (.int ball)), ("new", Is (.ref l)), ("pieces", D (.list (pcs.map .str))), ("ends", D (.list (endL.map .str))), ("row", D (rowD row))])
        (MUi := fun _ => [(l, LsR false (n1.map bx)), (I, R)]) (F.weaken (by walk_at "sub")) r
        (ev_range3 (m := ball + 1) (n := row.length) (st := 2) K (by rfl) (by walk_at "ev") (evc (ev_len (xs := row.map bx) K (by rfl) (by walk_at "ev") ?_) (by rw [List.length_map])) ev_int (by decide) ?_) (src_range (small2 ?_ ?_ ?_ ?_) ?_) (st1_fn (by decide)) (fun _ => by rfl) (fun _ => D_mono _) (fun p hp => hp) rfl ?_ ?_
      · rw [List.length_map]; omega
      · exact pylong2 _
      · omega
      · omega
      · omega
      · omega
      · rw [rangeSize2 hb0.1 (by omega)]; rfl
      · intro pre box post I2 R2 s' hx2 hI2 F E2
        obtain ⟨n', hn', e'⟩ := mem_rangeL (x := box) (a := ball + 1) (st := 2) (n := ahead ball row.length) (by rw [hx2]; simp)
        have hbx : ball < box ∧ box < row.length := by unfold ahead at hn'; omega
        rw [List.foldl_append]
        generalize pre.foldl (mateStep chk pcs row ball) none = acc at F ⊢
        show wpAny _ _ _ (LoopQ _ (fun s'' => FS _ _ _ [("mate", D (mateD (mateStep chk pcs row ball acc box))), _, _, _, _, _] _ _ _ _ _ s'') _) _ _
        refine xs_if (b := acc.isNone && !(row.getD box.toNat true)) F r (trc (tr_and2 (tr_isN (by walk_at "ev") ev_none) fun _ => tr_str (op := .Eq) (hrow (b := true) (by walk_at "mem") (by walk_at "mem") (by decide) (by omega) hbx.2 _) ev_str rfl) ?_) (fun hc2 s F => ?_) (fun hc2 s F => xs_nil (xs_nil ?_))
        · cases acc <;> cases row.getD box.toNat true <;> rfl
        · obtain ⟨hac, hrb⟩ := Bool.and_eq_true_iff.mp hc2
          obtain rfl : acc = none := Option.isNone_iff_eq_none.mp hac
          have hl2 := hcl ball box
          have hcs2 := hcs ball.toNat (box.toNat - ball.toNat)
          have h3m : 0 ≤ box.fmod 3 ∧ box.fmod 3 < 3 := ⟨Int.fmod_nonneg_of_pos box (by decide), Int.fmod_lt_of_pos box (by decide)⟩
          unfold cutText at hl2
          rw [Str.length_append] at hl2
          refine xs_assign (P := D (.bool (chk (cutText pcs ball box)))) F r (ev_call (hchk (cutText pcs ball box) ?_) (by rfl) (ar1 (D_mono _) (ev_cat (x := Txt.join "" ((pcs.drop ball.toNat).take (box.toNat - ball.toNat))) (y := endL.getD (box.fmod 3).toNat "") (ev_join ev_str (evc (ev_cut (xs := pcs.map .str) (i := ball) (j := box) (by walk_at "ev") (by walk_at "ev") (by walk_at "ev") hb0.1 (by omega) ?_ ?_) ?_) ?_)
            (ev_item (xs := endL.map .str) (i := box.fmod 3) (by walk_at "ev") (ev_mod (by walk_at "ev") ev_int (by decide)) (pick_map (f := .str) h3m.1 ?_) (by decide)) ?_)) (by decide)) (D_mono _) (st1_fn (by decide)) (by rfl) fun s F => ?_
          · have := hcl ball box; omega
          · rw [List.length_map]; omega
          · rw [List.length_map]; omega
          · rw [← List.map_drop, ← List.map_take]
          · show _ + _ * 0 ≤ _
            omega
          · exact h3m.2
          · omega
          refine xs_if (b := chk (cutText pcs ball box)) F r (trc (tr_isB (op := .Is) (by walk_at "ev") ev_bool rfl) (by cases chk (cutText pcs ball box) <;> rfl)) (fun ht s F => ?_) (fun ht s F => ?_)
          · refine xs_reassign (P := D (.int box)) F r (by walk_at "ev") (D_mono _) (st1_fn (by decide)) fun s F => xs_nil (xs_nil (xs_nil ?_))
            show FS _ _ _ _ _ _ _ _ _ _
            unfold mateStep
            dsimp only
            rw [hrb, ht]
            exact F.weaken (by walk_at "sub")
          · refine xs_if (b := false) F r (trc (tr_isB (op := .IsNot) (by walk_at "ev") ev_bool rfl) (by rw [ht]; rfl)) (fun h => by cases h) (fun _ s F => xs_nil (xs_nil (xs_nil (xs_nil ?_))))
            show FS _ _ _ _ _ _ _ _ _ _
            unfold mateStep
            dsimp only
            rw [hrb, ht]
            exact F.weaken (by walk_at "sub")
        · show FS _ _ _ _ _ _ _ _ _ _
          rw [show mateStep chk pcs row ball acc box = acc from by
            unfold mateStep
            cases acc with
            | some b => rfl
            | none =>
              dsimp only
              rw [show (!(row.getD box.toNat true)) = false from hc2]
              rfl]
          exact F.weaken (by walk_at "sub")
      · intro s F
        rw [show (rangeL (ball + 1) 2 (ahead ball row.length)).foldl (mateStep chk pcs row ball) none = some m from hm] at F
        replace F := F.weaken (V' := [("mate", D (.int m)), ("ball", D (.int ball)), ("new", Is (.ref l)), ("pieces", D (.list (pcs.map .str))), ("ends", D (.list (endL.map .str))), ("row", D (rowD row))]) (by walk_at "sub")
        have hpm := hpd m.toNat
        have hpb := hpd ball.toNat
        have h2l : (("()" : Str)).length = 2 := rfl
        have e1 : (("()" : Str) ++ pcs.getD m.toNat "").length ≤ 20 := by rw [Str.length_append]; omega
        have e2 : (("()" : Str) ++ pcs.getD m.toNat "" ++ pcs.getD ball.toNat "").length ≤ 40 := by rw [Str.length_append]; omega
        have e3 : (("()" : Str) ++ pcs.getD m.toNat "" ++ pcs.getD ball.toNat "" ++ "()").length ≤ 50 := by rw [Str.length_append]; omega
        refine xs_if (b := false) F r (trc (tr_or2 (tr_isN (by walk_at "ev") ev_none) fun _ => tr_isB (op := .IsNot) (ev_call (hchk ("()" ++ pcs.getD m.toNat "") (by omega)) (by rfl) (ar1 (D_mono _) (ev_cat ev_str (ev_item (xs := pcs.map .str) (by walk_at "ev") (by walk_at "ev") (pick_map (f := .str) (d := "") hmi.1 (by omega)) (by rw [List.length_map]; omega)) (by omega))) (by decide)) ev_bool rfl) (by rw [hno1]; rfl)) (fun q => by cases q) fun _ s F => ?_
        refine xs_nil ?_
        refine xs_if (b := false) F r (trc (tr_isB (op := .IsNot) (ev_call (hchk ("()" ++ pcs.getD m.toNat "" ++ pcs.getD ball.toNat "" ++ "()") (by omega)) (by rfl) (ar1 (D_mono _) (ev_cat (ev_cat (ev_cat ev_str (ev_item (xs := pcs.map .str) (by walk_at "ev") (by walk_at "ev") (pick_map (f := .str) (d := "") hmi.1 (by omega)) (by rw [List.length_map]; omega)) (by omega)) (ev_item (xs := pcs.map .str) (by walk_at "ev") (by walk_at "ev") (pick_map (f := .str) (d := "") hb0.1 (by omega)) (by rw [List.length_map]; omega)) (by omega)) ev_str (by omega))) (by decide)) ev_bool rfl) (by rw [hno2]; rfl)) (fun q => by cases q) fun _ s F => ?_
        refine xs_nil ?_
        refine xs_setitem (d := bx true) F (by walk_at "mem") r ev_str (scal_str _) (by walk_at "ev") hmi.1 (by rw [List.length_map]; omega) (by omega) fun s F => xs_nil (xs_nil ?_)
        show FS _ _ _ _ _ _ _ _ _ _
        rw [List.map_set]
        exact F.weaken (by walk_at "sub")
    · show FS _ _ _ _ _ _ _ _ _ _
      unfold ballStep at h2
      rw [if_neg (by rw [hc]; decide)] at h2
      cases h2
      exact F.weaken (by walk_at "sub")
  · intro s F
    rw [h] at F
    refine xs_return_rest (P := D (rowD out)) F (by walk_at "mem") r (by walk_at "ev") fun v s' F' p => RetP.of F'.kp p (D_mono _) fun b hb => mem_noA.mpr ⟨.tail _ (hY b hb), fun q => hlY (q ▸ hY b hb)⟩
section
variable {g : Bool} {k : Nat} {c : Cx} {env : Env} {V V' : List (Str × Pr)} {W W' Y Y' : List Addr} {MU MU' old nw : List (Addr × Rp)} {GN GN' : List (Nat × GenState)} {s₀ s s' : Shared} {a : Addr}
def ExR (o : Obj) : Rp := fun _ x => x = o
theorem ExR_mono (o : Obj) : Mono2 (ExR o) := fun _ _ _ _ e => e
theorem FS.shift (F : FS g c env V W Y (old ++ MU) GN s₀ s) (hW : ∀ b, b ∈ W' ↔ b ∈ W ∨ b ∈ nw.map (·.1)) (hY : ∀ b, b ∈ Y' ↔ b ∈ Y ∨ b ∈ nw.map (·.1))
    (kk : ∀ b o, b ∉ old.map (·.1) → s.heap.get? b = some o → s'.heap.get? b = some o) (hk : ∀ b ∈ old.map (·.1), b ∈ nw.map (·.1)) (hf : ∀ p ∈ nw, p.1 ∈ old.map (·.1) ∨ s.heap.get? p.1 = none) (hd : nw.Pairwise fun p q => p.1 ≠ q.1)
    (hn : ∀ p ∈ nw, Mono2 p.2 ∧ ∃ o, s'.heap.get? p.1 = some o ∧ p.2 (hideAll s.heap Y) o)
    (ho : s'.os = s.os) (hdr : s'.drawn = s.drawn) (hg : ∀ (i : Nat) (y : GenState), s₀.gens[i]? = some y → s'.gens[i]? = some y) (hb : AllBare s₀.gens → AllBare s'.gens) (hs : g = false → s'.gens = s₀.gens) (hgn : ∀ p ∈ GN', s'.gens[p.1]? = some p.2) :
    FS g c env V W' Y' (nw ++ MU) GN' s₀ s' := by
  have om : ∀ p ∈ old, p.1 ∈ W ∧ p.1 ≠ env.locals ∧ (∀ x, env.cells.lookup x ≠ some p.1) ∧ ∃ o, s.heap.get? p.1 = some o := fun p hp =>
    let ⟨a1, a2, a3, _, o, a5, _⟩ := F.mu p (List.mem_append_left _ hp); ⟨a1, a2, a3, o, a5⟩
  have oY : ∀ b ∈ old.map (·.1), b ∈ Y ∧ s₀.heap.get? b = none := fun b hb => by
    obtain ⟨p, hp, rfl⟩ := List.mem_map.mp hb
    exact F.sub _ (om p hp).1
  have hin : ∀ b o, s.heap.get? b = some o → b ∈ nw.map (·.1) → b ∈ old.map (·.1) := fun b o e hb => by
    obtain ⟨p, hp, rfl⟩ := List.mem_map.mp hb
    rcases hf p hp with q | q
    · exact q
    · rw [q] at e; cases e
  have st : (hideAll s.heap Y).StaysIn (hideAll s'.heap Y') := fun b o e => by
    have e' := of_hideAll Y e
    have nY : b ∉ Y := fun q => by rw [hideAll_none Y q] at e; cases e
    refine hideAll_get _ (kk b o (fun q => nY (oY b q).1) e') fun q => ?_
    rcases (hY b).mp q with q | q
    · exact nY q
    · exact nY (oY b (hin b o e' q)).1
  have kL : ∀ o, s.heap.get? env.locals = some o → s'.heap.get? env.locals = some o := fun o e => kk _ _ (fun q => by
    obtain ⟨p, hp, e⟩ := List.mem_map.mp q
    exact (om p hp).2.1 e) e
  have kC : ∀ x b o, env.cells.lookup x = some b → s.heap.get? b = some o → s'.heap.get? b = some o := fun x b o hx e => kk _ _ (fun q => by
    obtain ⟨p, hp, e⟩ := List.mem_map.mp q
    exact (om p hp).2.2.1 x (e ▸ hx)) e
  have dm := List.pairwise_append.mp F.dis
  refine ⟨⟨F.rd.kind, F.rd.eg, F.rd.eb, F.rd.ok, fun b o e => ?_, fun b hb => ?_, fun x P hx => ?_⟩, ⟨fun b o e => ?_, ho.trans F.kp.os, hdr.trans F.kp.drawn, hg, hb, hs⟩, F.b0, fun b hb => ?_, (hW _).mpr (.inl F.loc), ?_, fun x b e => ?_, F.inj, fun p hp => ?_, ?_, hgn⟩
  · refine kk b o (fun q => ?_) (F.rd.base b o e)
    have := F.b0 _ _ e
    rw [(oY b q).2] at this; cases this
  · rcases (hY b).mp hb with q | q
    · by_cases z : b ∈ old.map (·.1)
      · obtain ⟨p, hp, rfl⟩ := List.mem_map.mp (hk b z)
        obtain ⟨_, o, e, _⟩ := hn p hp
        rw [e]; rfl
      · obtain ⟨o, e⟩ := Option.isSome_iff_exists.mp (F.rd.ex b q)
        rw [kk b o z e]; rfl
    · obtain ⟨p, hp, rfl⟩ := List.mem_map.mp q
      obtain ⟨_, o, e, _⟩ := hn p hp
      rw [e]; rfl
  · obtain ⟨v, l, p, mo⟩ := F.rd.look x P hx
    refine ⟨v, ?_, mo _ _ _ st p, mo⟩
    rcases l with ⟨y, m', n, e⟩ | ⟨y, b, e, q⟩
    · exact .inl ⟨y, m', n.at' kL, e⟩
    · exact .inr ⟨y, b, e, let ⟨o, ho, hd⟩ := q; ⟨o, kC _ _ _ e ho, hd⟩⟩
  · refine kk b o (fun q => ?_) (F.kp.heap b o e)
    rw [(oY b q).2] at e; cases e
  · rcases (hW b).mp hb with q | q
    · exact ⟨(hY b).mpr (.inl (F.sub b q).1), (F.sub b q).2⟩
    · refine ⟨(hY b).mpr (.inr q), ?_⟩
      obtain ⟨p, hp, rfl⟩ := List.mem_map.mp q
      rcases hf p hp with q | q
      · exact (oY _ q).2
      · exact F.fresh0 q
  · obtain ⟨m', n⟩ := F.ns; exact ⟨m', n.at' kL⟩
  · obtain ⟨p, q, r, o, ho, hd⟩ := F.cel x b e; exact ⟨p, fun z => (hW b).mpr (.inl (q z)), r, o, kC _ _ _ e ho, hd⟩
  · rcases List.mem_append.mp hp with hp | hp
    · obtain ⟨m, o, e, r⟩ := hn p hp
      refine ⟨(hW _).mpr (.inr (List.mem_map_of_mem hp)), fun z => ?_, fun x z => ?_, m, o, e, m _ _ _ st r⟩
      · obtain ⟨m', o', _, _, e', _⟩ := F.ns
        rcases hf p hp with q | q
        · obtain ⟨p', hp', e1⟩ := List.mem_map.mp q
          exact (om p' hp').2.1 (e1.trans z)
        · rw [z, e'] at q; cases q
      · obtain ⟨_, _, _, o', e', _⟩ := F.cel x _ z
        rcases hf p hp with q | q
        · obtain ⟨p', hp', e1⟩ := List.mem_map.mp q
          exact (om p' hp').2.2.1 x (e1 ▸ z)
        · rw [e'] at q; cases q
    · obtain ⟨p1, p2, p3, p4, o, p5, p6⟩ := F.mu p (List.mem_append_right _ hp)
      refine ⟨(hW _).mpr (.inl p1), p2, p3, p4, o, kk _ _ (fun q => ?_) p5, p4 _ _ _ st p6⟩
      obtain ⟨p', hp', e1⟩ := List.mem_map.mp q
      exact dm.2.2 p' hp' p hp e1
  · refine List.pairwise_append.mpr ⟨hd, dm.2.1, fun p hp q hq => ?_⟩
    obtain ⟨_, _, _, _, o', p5, _⟩ := F.mu q (List.mem_append_right _ hq)
    rcases hf p hp with z | z
    · obtain ⟨p', hp', e1⟩ := List.mem_map.mp z
      exact e1 ▸ dm.2.2 p' hp' q hq
    · intro e; rw [e, p5] at z; cases z
end
section
variable {M : Model} {A : Around} {R : GenEnd} {Yp : Protocol} {n : Nat} {s₀ : Shared} {c : Code} {fs : List Frame} {s : Shared} {env : Env}
  {K : Flow → Sem Fin} {H : Value → Sem Fin} {gd : Bool → Bool} {lv : List Value → List Value}
theorem exec_wrap1 (st : Stmt) : (exec st env).wrap K H gd lv = (execs [st] env).wrap K H gd lv := by
  rw [execs_cons_wrap]
  exact Sem.wrap_congr _ _ _ (fun f => by cases f <;> rfl) fun _ => rfl
theorem seg_one {st : Stmt} {rest : List Stmt} (h : wpAny M (A.over c fs) (execs [st] env) (fun (f : Flow) s' => f = Flow.next ∧ Seg M A R Yp n s₀ c ((execs rest env).wrap K H gd lv) fs s') (fun x s' => Seg M A R Yp n s₀ c (H x) fs s') s) :
    Seg M A R Yp n s₀ c ((execs (st :: rest) env).wrap K H gd lv) fs s := by
  refine seg_execs_cons ?_
  rw [exec_wrap1]
  refine seg_wrap (wpAny_mono h (fun f s' h' => ?_) fun _ _ e => e)
  obtain ⟨rfl, h'⟩ := h'
  exact h'
theorem seg_If {test : Expr} {body orelse rest : List Stmt} {pos : Pos} (h : wpAny M (A.over c fs) (isTrue test env (eval test env)) (fun b s' =>
      if b = true then Seg M A R Yp n s₀ c ((execs body env).wrap (fun (f : Flow) => match f with | Flow.next => (execs rest env).wrap K H gd lv | f => K f) H gd lv) fs s'
      else Seg M A R Yp n s₀ c ((execs orelse env).wrap (fun (f : Flow) => match f with | Flow.next => (execs rest env).wrap K H gd lv | f => K f) H gd lv) fs s') (fun x s' => Seg M A R Yp n s₀ c (H x) fs s') s) :
    Seg M A R Yp n s₀ c ((execs (.If test body orelse pos :: rest) env).wrap K H gd lv) fs s := by
  refine seg_execs_cons ?_
  rw [exec_If]
  refine seg_bind_wrap (wpAny_standAt (seg_bind_wrap (wpAny_mono h (fun b s' h' => ?_) fun _ _ e => e)))
  cases b with
  | true => rw [if_pos rfl] at h'; exact h'
  | false => rw [if_neg Bool.false_ne_true] at h'; exact h'
theorem seg_For {target iter : Expr} {body orelse rest : List Stmt} {pos : Pos}
    (h : wpAny M (A.over c fs) (eval iter env) (fun x s₁ => wpAny M (A.over c fs) (pyIter x) (fun it s₂ => ∀ p, Seg M A R Yp n s₀ (.forLoop target it body orelse env) (M.den (.forLoop target it body orelse env))
      (.ret (fun r => ((match r with | .ok f => (.pure f : Sem Flow) | .error e => .raise e).onRaise fun (x : Value) => do
        if (← field x 1) == Value.none then unsupported "frame.own-activation:exception-without-traceback"
        setFlight x env.frame).wrap (fun (f : Flow) => match f with | Flow.next => (execs rest env).wrap K H gd lv | f => K f) H gd lv) none (gd false) (lv []) c p [] :: fs) s₂) (fun x s' => Seg M A R Yp n s₀ c (H x) fs s') s₁) (fun x s' => Seg M A R Yp n s₀ c (H x) fs s') s)
    (hs : ∀ x, foldedSetIterable iter env x = pure x := by intro _; rfl) :
    Seg M A R Yp n s₀ c ((execs (.For target iter body orelse pos :: rest) env).wrap K H gd lv) fs s := by
  refine seg_execs_cons ?_
  rw [exec_For]
  refine seg_bind_wrap (wpAny_standAt (seg_bind_wrap (wpAny_mono h (fun x s₁ h₁ => ?_) fun _ _ e => e)))
  refine seg_bind_wrap (wpAny_of_eq (hs x) (seg_bind_wrap (wpAny_standAt (seg_bind_wrap (wpAny_holding (wpAny_mono h₁ (fun it s₂ h₂ => ?_) fun _ _ e => e))))))
  exact seg_call h₂
end
noncomputable def escGo : Nat → Bool → List Nat → List (Int × Str)
  | p, e, [] => if e then [(((p - 1 : Nat) : Int), "\\")] else []
  | p, true, ch :: r => ((p : Int), "\\" ++ (⟨#[ch]⟩ : Str)) :: escGo (p + 1) false r
  | p, false, ch :: r => if (⟨#[ch]⟩ : Str) == "\\" then escGo (p + 1) true r else ((p : Int), ⟨#[ch]⟩) :: escGo (p + 1) false r
def itD (p : Int × Str) : PyData := .tuple [.int p.1, .str p.2]
section
variable {g : Bool} {k : Nat} {c : Cx} {env : Env} {V V' : List (Str × Pr)} {W W' Y Y' : List Addr} {MU MU' old nw : List (Addr × Rp)} {GN GN' : List (Nat × GenState)} {s₀ s s' s'' : Shared} {a : Addr}
def GK (W : List Addr) (s₀ s : Shared) : Prop := Kp false { s₀ with heap := hideAll s₀.heap W } s
theorem FS.scratch {m : Str → Option Value} (hc : env.cells = []) (hk : env.scope.kind = .function) (eg : env.globals = mainGlobals) (eb : env.builtins = builtinsNs) (ok : c.Ok) (kp : GK W s₀ s) (hH : c.H.StaysIn s₀.heap) (hW : ∀ b ∈ W, c.H.get? b = none)
    (hW' : ∀ b ∈ W', b ∈ W ∧ (s.heap.get? b).isSome = true) (hL : env.locals ∈ W') (ns : s.heap.Ns env.locals m) (hV : ∀ q ∈ V, Mono q.2 ∧ ∃ v, env.kindOf q.1 = some .local ∧ m q.1 = some v ∧ ∀ h, q.2 h v)
    (hm : ∀ p ∈ MU, p.1 ∈ W' ∧ p.1 ≠ env.locals ∧ Mono2 p.2 ∧ ∃ o, s.heap.get? p.1 = some o ∧ ∀ h, p.2 h o) (hd : MU.Pairwise fun p q => p.1 ≠ q.1) : FS false c env V W' W' MU [] { s₀ with heap := hideAll s₀.heap W } s := by
  have hb : c.H.StaysIn (hideAll s₀.heap W) := fun b o e => hideAll_get _ (hH b o e) fun q => by rw [hW b q] at e; cases e
  refine ⟨⟨hk, eg, eb, ok, fun b o e => kp.heap _ _ (hb _ _ e), fun b q => (hW' b q).2, fun x P hx => ?_⟩, kp, hb, fun b q => ⟨q, hideAll_none W (hW' b q).1⟩, hL, ⟨_, ns⟩, fun x b e => ?_, fun x y b _ e => ?_, fun p hp => ?_, hd, fun p hp => by cases hp⟩
  · obtain ⟨mo, v, h1, h2, h3⟩ := hV _ hx
    exact ⟨v, .inl ⟨h1, _, ns, h2⟩, h3 _, mo⟩
  · rw [hc] at e; cases e
  · rw [hc] at e; cases e
  · obtain ⟨h1, h2, h3, o, h4, h5⟩ := hm p hp
    exact ⟨h1, h2, (fun x (e : env.cells.lookup x = some p.1) => by rw [hc] at e; cases e), h3, o, h4, h5 _⟩
def FreeV (env : Env) (V : List (Str × Pr)) : Prop := ∀ q ∈ V, env.kindOf q.1 = some .local ∧ ∀ h h' v, q.2 h v → q.2 h' v
def FreeM (MU : List (Addr × Rp)) : Prop := ∀ p ∈ MU, ∀ h h' o, p.2 h o → p.2 h' o
theorem FS.move {t₀ : Shared} (F : FS false c env V W' W' MU [] { s₀ with heap := hideAll s₀.heap W } s) (hc : env.cells = []) (kp : GK W t₀ s'') (hH : c.H.StaysIn t₀.heap) (hs : ∀ b ∈ Y', b ∈ W' ∧ b ∈ W) (hL : env.locals ∈ Y') (hb : ∀ b ∈ Y', ∀ o, s.heap.get? b = some o → s''.heap.get? b = some o)
    (hV : FreeV env V) (hm : FreeM MU) (hmm : ∀ p ∈ MU', p ∈ MU ∧ p.1 ∈ Y') (hd : MU'.Pairwise fun p q => p.1 ≠ q.1) : FS false c env V Y' Y' MU' [] { t₀ with heap := hideAll t₀.heap W } s'' := by
  obtain ⟨m, ns⟩ := F.ns
  refine FS.scratch (m := m) hc F.rd.kind F.rd.eg F.rd.eb F.rd.ok kp hH (fun b q => ?_) (fun b q => ⟨(hs b q).2, ?_⟩) hL (ns.at' (hb _ hL)) (fun q hx => ?_) (fun p hp => ?_) hd
  · cases e : c.H.get? b with
    | none => rfl
    | some o => have := F.b0 _ _ e; rw [show (hideAll s₀.heap W).get? b = none from hideAll_none W q] at this; cases this
  · obtain ⟨o, e⟩ := Option.isSome_iff_exists.mp (F.rd.ex b (hs b q).1)
    rw [hb b q o e]; rfl
  · obtain ⟨v, l, p, mo⟩ := F.rd.look q.1 q.2 hx
    obtain ⟨h1, h2⟩ := hV q hx
    refine ⟨mo, v, h1, ?_, fun h => h2 _ _ _ p⟩
    rcases l with ⟨_, m', n, e⟩ | ⟨z, _⟩
    · obtain ⟨o1, es1, _, g1, d1, _, f1⟩ := ns
      obtain ⟨o2, es2, _, g2, d2, _, f2⟩ := n
      rw [g1] at g2; cases g2; rw [d1] at d2; cases d2
      rw [← f1, f2]; exact e
    · rw [h1] at z; cases z
  · obtain ⟨hp, hy⟩ := hmm p hp
    obtain ⟨h1, h2, _, h3, o, h4, h5⟩ := F.mu p hp
    exact ⟨hy, h2, h3, o, hb _ hy _ h4, fun h => hm p hp _ _ _ h5⟩
theorem FS.jump {Wg : List Addr} (F : FS g c env V W Y MU GN s₀ s) (kk : ∀ b o, b ∉ Wg → s.heap.get? b = some o → s'.heap.get? b = some o) (hg : ∀ b ∈ Wg, b ∉ W ∧ b ∉ Y ∧ s₀.heap.get? b = none ∧ (∀ x, env.cells.lookup x ≠ some b))
    (hV : ∀ q ∈ V, ∀ h h' v, q.2 h v → q.2 h' v) (hm : FreeM MU) (ho : s'.os = s.os) (hdr : s'.drawn = s.drawn) (hgn : ∀ (i : Nat) (y : GenState), s₀.gens[i]? = some y → s'.gens[i]? = some y) (hb : AllBare s₀.gens → AllBare s'.gens) (hs : g = false → s'.gens = s₀.gens) :
    FS g c env V W Y MU [] s₀ s' := by
  have kW : ∀ b ∈ W, ∀ o, s.heap.get? b = some o → s'.heap.get? b = some o := fun b hw o e => kk b o (fun q => (hg b q).1 hw) e
  have kC : ∀ x b o, env.cells.lookup x = some b → s.heap.get? b = some o → s'.heap.get? b = some o := fun x b o e e' => kk b o (fun q => (hg b q).2.2.2 x e) e'
  have kp : s₀.heap.StaysIn s'.heap := fun b o e => kk b o (fun q => by rw [(hg b q).2.2.1] at e; cases e) (F.kp.heap _ _ e)
  refine ⟨⟨F.rd.kind, F.rd.eg, F.rd.eb, F.rd.ok, fun b o e => kp _ _ (F.b0 _ _ e), fun b q => ?_, fun x P hx => ?_⟩, ⟨kp, ho.trans F.kp.os, hdr.trans F.kp.drawn, hgn, hb, hs⟩, F.b0, F.sub, F.loc, ?_, fun x b e => ?_, F.inj, fun p hp => ?_, F.dis, fun p hp => by cases hp⟩
  · obtain ⟨o, e⟩ := Option.isSome_iff_exists.mp (F.rd.ex b q)
    rw [kk b o (fun z => (hg b z).2.1 q) e]; rfl
  · obtain ⟨v, l, p, mo⟩ := F.rd.look x P hx
    refine ⟨v, ?_, hV _ hx _ _ _ p, mo⟩
    rcases l with ⟨y, m', n, e⟩ | ⟨y, b, e, q⟩
    · exact .inl ⟨y, m', n.at' (kW _ F.loc), e⟩
    · exact .inr ⟨y, b, e, let ⟨o, ho, hd⟩ := q; ⟨o, kC _ _ _ e ho, hd⟩⟩
  · obtain ⟨m', n⟩ := F.ns; exact ⟨m', n.at' (kW _ F.loc)⟩
  · obtain ⟨p, q, r, o, ho, hd⟩ := F.cel x b e; exact ⟨p, q, r, o, kC _ _ _ e ho, hd⟩
  · obtain ⟨p1, p2, p3, p4, o, p5, p6⟩ := F.mu p hp
    exact ⟨p1, p2, p3, p4, o, kW _ p1 _ p5, hm p hp _ _ _ p6⟩
theorem FS.pair {x0 x1 : Str} {p0 p1 pt : Pos} {n : Nat} {P0 P1 : Pr} {T : Addr} {v0 v1 : Value} {A : Around} {Q : Unit → Shared → Prop} {E : Value → Shared → Prop} (F : FS g c env V W Y MU GN s₀ s) (hh : A.handled = none) (hT : s.heap.IsTuple T #[v0, v1])
    (h0 : P0 (hideAll s.heap Y) v0) (m0 : Mono P0) (h1 : P1 (hideAll s.heap Y) v1) (m1 : Mono P1) (i1 : ∀ h h' v, P1 h v → P1 h' v) (k0 : St1 env x0) (k1 : St1 env x1) (n0 : noName x0 V = true) (n1 : noName x1 ((x0, P0) :: V) = true)
    (q : ∀ s', FS g c env ((x1, P1) :: (x0, P0) :: V) W Y MU GN s₀ s' → Q () s') : wpAny c.M A (assign (.Tuple [.Name x0 p0, .Name x1 p1] n pt) env (.ref T)) Q E s := by
  refine wpAny_assign_Tuple hh hT rfl rfl fun h' hx => ?_
  have st : s.heap.StaysIn h' := fun b o e => hx b o (Nat.ne_of_lt (Heap.lt_size e)) e
  have F' := F.kpstep (Kp.hp' (s := s) (g := g) st)
  show wpAny _ A (do holding [v1] (assign (.Name x0 p0) env v0); do holding [] (assign (.Name x1 p1) env v1); pure ()) _ _ _
  refine wpAny_bind (wpAny_holding (wpAny_assign_Name (F'.store k0 n0 (m0 _ _ _ (hide_stays st) h0) m0 fun s₁ F₁ => ?_)))
  refine wpAny_bind (wpAny_holding (wpAny_assign_Name (F₁.store k1 n1 (i1 _ _ _ h1) m1 fun s₂ F₂ => wpAny_pure (q s₂ F₂))))
end
section
variable {prog : Program} {w : World} {A : Around} {R : GenEnd} {Yp : Protocol} {n : Nat} {s₀ : Shared} {fs : List Frame} {s : Shared} {env : Env}
def loopK (target : Expr) (it : Value) (body : List Stmt) (env : Env) : Flow → Sem Fin := fun f => match f with
  | .next => .pure (.again (.forLoop target it body [] env))
  | .cont => .pure (.again (.forLoop target it body [] env))
  | .brk => .pure (.done .next)
  | .ret v => .pure (.done (.ret v))
def loopH (env : Env) : Value → Sem Fin := fun e => (do noteFrame e env; theTreesLotGoes e : Sem Unit).wrap (fun _ => .raise e) .raise id id
theorem seg_forLoop {target : Expr} {it : Value} {body : List Stmt}
    (h : ∀ E, wpAny (model prog w) (A.over (.forLoop target it body [] env) fs) (pyNext it) (fun r s' => match r with
      | none => Seg (model prog w) A R Yp n s₀ (.block [] env) (leafOf (.ok .next)) fs s'
      | some v => wpAny (model prog w) (A.over (.forLoop target it body [] env) fs) (letOwnedTupleGo target it v) (fun _ s1 => wpAny (model prog w) (A.over (.forLoop target it body [] env) fs) (assign target env v) (fun _ s2 =>
          Seg (model prog w) A R Yp n s₀ (.forLoop target it body [] env) ((execs body env).wrap (loopK target it body env) (loopH env) id id) fs s2) E s1) E s') E s) :
    Seg (model prog w) A R Yp n s₀ (.forLoop target it body [] env) ((model prog w).den (.forLoop target it body [] env)) fs s := by
  show Seg _ A R Yp n s₀ _ ((forTurn target it body [] env).onRaise (fun x => do noteFrame x env; theTreesLotGoes x)) fs s
  unfold forTurn
  rw [Sem.onRaise_eq_wrap]
  refine seg_bind_wrap (wpAny_standAt (seg_bind_wrap (wpAny_onRaise (wpAny_mono (h fun x s' => Seg (model prog w) A R Yp n s₀ (.forLoop target it body [] env) ((do noteFrame x env; theTreesLotGoes x).bind fun _ => .raise x) fs s') (fun r s₁ h₁ => ?_) fun _ _ e => wpAny_standAt e))))
  cases r with
  | none =>
    refine seg_again rfl ?_
    exact h₁
  | some v =>
    refine seg_bind_wrap (wpAny_mono h₁ (fun _ s₂ h₂ => seg_bind_wrap (wpAny_mono h₂ (fun _ s₃ h₃ => ?_) fun _ _ e => e)) fun _ _ e => e)
    rw [Sem.bind_eq_wrap', Sem.wrap_wrap]
    rw [Sem.wrap_congr (execs body env) _ _ (K' := loopK target it body env) (H' := loopH env) (fun f => by cases f <;> rfl) (fun e => by unfold loopH; rw [← Sem.bind_eq_wrap]; rfl)]
    exact h₃
end
theorem room_over1 {k : Nat} {A : Around} {body : List Stmt} {env : Env} (r : Room (k + 1) A) : Room k (A.over (.func body env) []) := by
  obtain ⟨h1, h2, h3⟩ := r
  refine ⟨h1, ?_, ?_⟩
  · show A.depth + 0 + 1 + k < _; omega
  · show A.units + 0 + 3 + 10 * k < _; omega
theorem room_over2 {k : Nat} {A : Around} {body b2 : List Stmt} {env : Env} {t : Expr} {it : Value} {kf : Result → Sem Fin} {l : List Value} {p : Pos} {kp : List Value} (r : Room (k + 1) A) :
    Room k (A.over (.forLoop t it b2 [] env) [.ret kf none false l (.func body env) p kp]) := by
  obtain ⟨h1, h2, h3⟩ := r
  refine ⟨h1, ?_, ?_⟩
  · show A.depth + 1 + 0 + k < _; omega
  · show A.units + 3 + 0 + 10 * k < _; omega
def gR (W : List Addr) : GenEnd := fun n s₀ r s₁ => r = .ok (.ret .none) ∧ (n = 0 ∧ GK W s₀ s₁)
def gY (c : Cx) (W : List Addr) (xs : List PyData) : Protocol := fun m s₀ v s kap => (∃ d, xs[xs.length - 1 - m]? = some d ∧ D d s.heap v) ∧ GK W s₀ s ∧
  ∀ s'' : Shared, (∀ b ∈ W, ∀ o, s.heap.get? b = some o → s''.heap.get? b = some o) → c.H.StaysIn s''.heap → kap (.send .none) s''
theorem tr_name {g : Bool} {k : Nat} {c : Cx} {env : Env} {V : List (Str × Pr)} {x : Str} {p : Pos} {b : Bool} (h : EvOK g k c env V (.Name x p) (D (.bool b))) : TrOK g k c env V (.Name x p) b := fun A Y s Q E rm st q => by
  show wpAny c.M A (do let v ← eval (.Name x p) env; standAt p; holding [v] (truthy v)) Q E s
  refine wpAny_bind (h A Y s _ E rm st fun v s' k p => ?_)
  cases D_bool.mp p
  exact wpAny_bind (wpAny_standAt (wpAny_holding (wpAny_truthy_bool (q s' k))))
theorem at_back {α β : Type} {xs pre post : List α} {d : α} {f : α → β} (h : xs = pre ++ d :: post) : (xs.map f)[(xs.map f).length - 1 - post.length]? = some (f d) := by
  subst h
  rw [List.length_map, List.length_append, List.length_cons, List.getElem?_map]
  rw [show pre.length + (post.length + 1) - 1 - post.length = pre.length by omega, List.getElem?_append_right (Nat.le_refl _), Nat.sub_self]; rfl
theorem scal_bool (b : Bool) : Scal (.bool b) := fun _ _ _ p => D_bool.mpr (D_bool.mp p)
theorem GK.refl (W : List Addr) (s : Shared) : GK W s s := Kp.hp' (g := false) (s := { s with heap := hideAll s.heap W }) hide_le
def eEnv (a : Addr) (cd : Value) (L : Addr) : Env := fnEnv a (nmOf (stm 2)) (scOf (stm 2)) cd L
section
variable {k n : Nat} {c : Cx} {a L e it : Addr} {cd : Value} {W : List Addr} {MU : List (Addr × Rp)} {s₀ s : Shared} {W' : List Addr} {A : Around} {xs : List (Int × Str)} {p : Nat} {esc : Bool}
theorem ev_pair {env : Env} {V : List (Str × Pr)} {x y : Expr} {nn : Nat} {pos : Pos} {i : Int} {t : Str} {g : Bool} (h1 : EvOK g k c env V x (D (.int i))) (h2 : EvOK g k c env V y (D (.str t))) (he : starEach [x, y] env = (false, eval x env) :: starEach [y] env := by rfl) (he2 : starEach [y] env = (false, eval y env) :: starEach [] env := by rfl) :
    EvOK g k c env V (.Tuple [x, y] nn pos) (D (itD (i, t))) := ev_tuple (ds := [.int i, .str t]) (ar2 (D_mono _) (D_mono _) h1 h2 he he2) (by show 2 ≤ sizeLine; decide)
theorem seg_pause {V : List (Str × Pr)} {d : Int × Str} {pre post : List (Int × Str)} {cc : Code} {fs : List Frame} {K : Flow → Sem Fin} {H : Value → Sem Fin} {gd : Bool → Bool} {lv : List Value → List Value} {y : Expr} {yp pos : Pos} {rest : List Stmt} (r : Room k (A.over cc fs))
    (F : FS false c (eEnv a cd L) V W' W' MU [] { s₀ with heap := hideAll s₀.heap W } s) (h : EvOK false k c (eEnv a cd L) V y (D (itD d))) (hx : xs = pre ++ d :: post) (hW : ∀ b ∈ W', b ∈ W) (hm : FreeM MU) (hV : FreeV (eEnv a cd L) V)
    (hfs : splitAtGen fs = none) (hgd : gd false = false) (hfg : fs.any Frame.guarded = false)
    (q : ∀ s'', FS false c (eEnv a cd L) V W' W' MU [] { s'' with heap := hideAll s''.heap W } s'' → Seg c.M A (gR W) (gY c W (xs.map itD)) post.length s'' cc ((execs rest (eEnv a cd L)).wrap K H gd lv) fs s'') :
    Seg c.M A (gR W) (gY c W (xs.map itD)) (post.length + 1) s₀ cc ((execs (.Expr (.Yield (some y) yp) pos :: rest) (eEnv a cd L)).wrap K H gd lv) fs s := by
  refine seg_execs_cons (seg_Expr_Yield hfs hgd hfg (F.ev r h fun v s' F' pv => fun kap hk => ?_))
  refine ⟨⟨itD d, at_back hx, D_mono _ _ _ _ hide_le pv⟩, F'.kp, fun s'' hb hH => hk .none s'' ?_⟩
  exact q s'' (F'.move rfl (GK.refl _ _) hH (fun b h => ⟨h, hW b h⟩) F'.loc (fun b h => hb b (hW b h)) hV hm (fun p h => ⟨h, (F'.mu p h).1⟩) F'.dis)
def KF : Flow → Sem Fin := fun f => .pure (.done (.ret (match f with | .ret v => v | _ => .none)))
theorem esc_tail {pre : List (Int × Str)} {H : Value → Sem Fin} {rest : List Stmt} (r : Room (k + 1) A) (hr : rest = (bodyOf (stm 2)).drop 3) (F : FS false c (eEnv a cd L) [("escape", D (.bool esc)), ("pos", D (.int ((p - 1 : Nat) : Int)))] W' W' MU [] { s₀ with heap := hideAll s₀.heap W } s)
    (hx : xs = pre ++ escGo p esc []) (hW : ∀ b ∈ W', b ∈ W) (hm : FreeM MU) :
    Seg c.M A (gR W) (gY c W (xs.map itD)) (escGo p esc []).length s₀ (.func (bodyOf (stm 2)) (eEnv a cd L)) ((execs rest (eEnv a cd L)).wrap KF H id id) [] s := by
  subst hr
  refine seg_If (F.tr (room_over1 r) (tr_name (by walk_at "ev")) fun s F => ?_)
  cases esc with
  | true =>
    rw [if_pos rfl]
    refine seg_pause (d := (((p - 1 : Nat) : Int), "\\")) (post := []) (room_over1 r) F (ev_pair (by walk_at "ev") (by walk_at "ev")) hx hW hm (List.forall_mem_cons.mpr ⟨⟨by rfl, scal_bool _⟩, List.forall_mem_cons.mpr ⟨⟨by rfl, scal_int _⟩, List.forall_mem_nil _⟩⟩) rfl rfl rfl fun s'' F' => ?_
    · exact seg_end (.ok (.ret .none)) ⟨rfl, rfl, GK.refl _ _⟩
  | false =>
    rw [if_neg Bool.false_ne_true]
    exact seg_end (.ok (.ret .none)) ⟨rfl, rfl, F.kp⟩
end
def forT : Stmt → Expr | .For t _ _ _ _ => t | _ => default
def forB : Stmt → List Stmt | .For _ _ b _ _ => b | _ => []
def escT : Expr := forT ((bodyOf (stm 2)).getD 2 (.Pass default))
def escB : List Stmt := forB ((bodyOf (stm 2)).getD 2 (.Pass default))
section
variable {k n : Nat} {c : Cx} {a L e it : Addr} {cd : Value} {W : List Addr} {MU : List (Addr × Rp)} {s₀ s : Shared} {W' : List Addr} {A : Around} {xs : List (Int × Str)} {p : Nat} {esc : Bool}
def escV (esc : Bool) (p : Nat) : List (Str × Pr) := [("escape", D (.bool esc)), ("pos", D (.int ((p - 1 : Nat) : Int)))]
theorem escV_free (esc : Bool) (p : Nat) : FreeV (eEnv a cd L) (escV esc p) := List.forall_mem_cons.mpr ⟨⟨by rfl, scal_bool _⟩, List.forall_mem_cons.mpr ⟨⟨by rfl, scal_int _⟩, List.forall_mem_nil _⟩⟩
theorem exs_free {o1 o2 : Obj} {e it : Addr} : FreeM [(e, ExR o1), (it, ExR o2)] := List.forall_mem_cons.mpr ⟨fun _ _ _ h => h, List.forall_mem_cons.mpr ⟨fun _ _ _ h => h, List.forall_mem_nil _⟩⟩
theorem GK.step {h' : Heap} {tk : Nat} (h : GK W s₀ s) (kk : ∀ b o, b ∉ W → s.heap.get? b = some o → h'.get? b = some o) : GK W s₀ { s with heap := h', toks := tk } :=
  ⟨fun b o e => kk b o (fun q => by rw [show (hideAll s₀.heap W).get? b = none from hideAll_none W q] at e; cases e) (h.heap b o e), h.os, h.drawn, h.gens, h.bare, h.same⟩
theorem esc_loop {x : Str} {kf : Result → Sem Fin} {pp : Pos} {St : Nat → Heap → Prop} (r : Room (k + 1) A) (Dr : ∀ A' : Around, A'.handled = none → Draws c.prog c.w A' it [it] x.cps.size (fun i v => ∃ ch u, x.cps[i]? = some ch ∧ v = .str ⟨#[ch]⟩ u) St) (hei : e ≠ it) (heL : e ≠ L) (hiL : it ≠ L)
    (hend : ∀ (esc : Bool) (ip : List (Int × Str)) (s₀ s : Shared), FS false c (eEnv a cd L) (escV esc x.cps.size) [L] [L] [] [] { s₀ with heap := hideAll s₀.heap [L, e, it] } s → xs = ip ++ escGo x.cps.size esc [] →
      Seg c.M A (gR [L, e, it]) (gY c [L, e, it] (xs.map itD)) (escGo x.cps.size esc []).length s₀ (.func (bodyOf (stm 2)) (eEnv a cd L)) (kf (.ok .next)) [] s) :
    ∀ (rs pre : List Nat) (ip : List (Int × Str)) (esc : Bool) (s₀ s : Shared) (oe oi : Obj), x.cps.toList = pre ++ rs → xs = ip ++ escGo pre.length esc rs →
      FS false c (eEnv a cd L) (escV esc pre.length) [L, e, it] [L, e, it] [(e, ExR oe), (it, ExR oi)] [] { s₀ with heap := hideAll s₀.heap [L, e, it] } s → ((∃ old, IsEnum s.heap e it (pre.length : Nat) old) ∧ St pre.length s.heap) →
      Seg c.M A (gR [L, e, it]) (gY c [L, e, it] (xs.map itD)) (escGo pre.length esc rs).length s₀ (.forLoop escT (.ref e) escB [] (eEnv a cd L)) (c.M.den (.forLoop escT (.ref e) escB [] (eEnv a cd L)))
        [.ret kf none false [] (.func (bodyOf (stm 2)) (eEnv a cd L)) pp []] s := by
  intro rs
  have R := room_over2 (b2 := escB) (env := eEnv a cd L) (body := bodyOf (stm 2)) (t := escT) (it := .ref e) (kf := kf) (l := []) (p := pp) (kp := []) r
  have T := WalksT.enumerateD (Dr (Around.in1 (A.over (.forLoop escT (.ref e) escB [] (eEnv a cd L)) [.ret kf none false [] (.func (bodyOf (stm 2)) (eEnv a cd L)) pp []])) R.1) e hei (by simpa using hei) (by simp)
  induction rs with
  | nil =>
    intro pre ip esc s₀ s oe oi hx hxs F st
    have hn : pre.length = x.cps.size := by rw [List.append_nil] at hx; rw [← hx, Array.length_toList]
    rw [hn] at st F hxs ⊢
    refine seg_forLoop fun E => T.done s _ E st fun h' tk hk => ?_
    refine seg_leaf (.ok .next) (hend esc ip s₀ _ ?_ hxs)
    exact F.move rfl (GK.step (W := [L, e, it]) F.kp fun b o hb => hk b o fun q => hb (.tail _ q)) (fun b o e => hide_le _ _ (F.b0 b o e)) (fun b hb => by rw [List.mem_singleton.mp hb]; exact ⟨.head _, .head _⟩) (.head _)
      (fun b hb o e' => hk b o (fun q => by
        rw [List.mem_singleton.mp hb] at q
        rcases List.mem_cons.mp q with q | q
        · exact heL q.symm
        · exact hiL (List.mem_singleton.mp q).symm) e') (escV_free _ _) exs_free (fun p hp => by cases hp) .nil
  | cons ch rs ih =>
    intro pre ip esc s₀ s oe oi hx hxs F st
    have hlt : pre.length < x.cps.size := by rw [← Array.length_toList, hx, List.length_append, List.length_cons]; omega
    have hch : x.cps[pre.length]? = some ch := by rw [← Array.getElem?_toList, hx, List.getElem?_append_right (Nat.le_refl _), Nat.sub_self]; rfl
    have hx' : x.cps.toList = (pre ++ [ch]) ++ rs := by rw [hx, List.append_assoc]; rfl
    have hpl : (pre ++ [ch]).length = pre.length + 1 := by rw [List.length_append]; rfl
    refine seg_forLoop fun E => T.item pre.length s _ E hlt st fun Tt vals h' tk pt hsz hT mid hk => ?_
    have hTa := T.apart _ _ _ mid
    refine T.go _ _ _ pre.length Tt _ _ E mid fun h'' st' hk' => ?_
    obtain ⟨t, v, ⟨ch', u, hc1, rfl⟩, rfl⟩ := pt
    rw [hch] at hc1; cases hc1
    have hT' : h''.IsTuple Tt #[.int (pre.length : Nat) t, .str ⟨#[ch]⟩ u] := let ⟨o, h1, h2⟩ := hT; ⟨o, hk' _ _ hTa h1, h2⟩
    obtain ⟨⟨old', he'⟩, hs'⟩ := st'
    obtain ⟨oi', hi'⟩ := (Dr A.in1 r.1).live _ _ hs'
    obtain ⟨oe', hoe⟩ : ∃ o, h''.get? e = some o := ⟨_, he'⟩
    have kk : ∀ b o, b ∉ [e, it] → s.heap.get? b = some o → h''.get? b = some o := fun b o hb q => hk' b o hb (hk b o hb q)
    have F1 := F.shift (old := [(e, ExR oe), (it, ExR oi)]) (MU := []) (nw := [(e, ExR oe'), (it, ExR oi')]) (W' := [L, e, it]) (Y' := [L, e, it]) (GN' := []) (s' := { s with heap := h'', toks := tk })
      (fun b => ⟨.inl, fun h => h.elim id fun q => .tail _ q⟩) (fun b => ⟨.inl, fun h => h.elim id fun q => .tail _ q⟩) kk (fun b q => q) (fun p hp => .inl (List.mem_map_of_mem (f := (·.1)) hp |> fun q => by
        rcases List.mem_cons.mp hp with rfl | hp
        · exact .head _
        · rw [List.mem_singleton.mp hp]; exact .tail _ (.head _)))
      (by simpa using hei) (List.forall_mem_cons.mpr ⟨⟨ExR_mono _, _, hoe, rfl⟩, List.forall_mem_cons.mpr ⟨⟨ExR_mono _, _, hi', rfl⟩, List.forall_mem_nil _⟩⟩) rfl rfl F.kp.gens F.kp.bare F.kp.same (fun p hp => by cases hp)
    have fin : ∀ {V : List (Str × Pr)} {s₀ s3 : Shared}, FS false c (eEnv a cd L) V [L, e, it] [L, e, it] [(e, ExR oe'), (it, ExR oi')] [] { s₀ with heap := hideAll s₀.heap [L, e, it] } s3 → ((∃ old, IsEnum s3.heap e it ((pre ++ [ch]).length : Nat) old) ∧ St (pre ++ [ch]).length s3.heap) := fun F => by
      rw [hpl]
      refine T.frame (pre.length + 1) h'' _ ⟨⟨old', he'⟩, hs'⟩ fun b hb o q => ?_
      rcases List.mem_cons.mp hb with rfl | hb
      · obtain ⟨_, _, _, _, o1, g1, g2⟩ := F.mu _ (.head _)
        have := hoe.symm.trans q
        cases this
        rw [g1, g2]
      · rw [List.mem_singleton.mp hb] at q ⊢
        obtain ⟨_, _, _, _, o1, g1, g2⟩ := F.mu _ (.tail _ (.head _))
        have := hi'.symm.trans q
        cases this
        rw [g1, g2]
    have next : ∀ {esc' : Bool} {ip' : List (Int × Str)} {s₀ s3 : Shared}, xs = ip' ++ escGo (pre.length + 1) esc' rs → FS false c (eEnv a cd L) (escV esc' (pre.length + 1)) [L, e, it] [L, e, it] [(e, ExR oe'), (it, ExR oi')] [] { s₀ with heap := hideAll s₀.heap [L, e, it] } s3 →
        Seg c.M A (gR [L, e, it]) (gY c [L, e, it] (xs.map itD)) (escGo (pre.length + 1) esc' rs).length s₀ (.forLoop escT (.ref e) escB [] (eEnv a cd L)) (.pure (.again (.forLoop escT (.ref e) escB [] (eEnv a cd L)))) [.ret kf none false [] (.func (bodyOf (stm 2)) (eEnv a cd L)) pp []] s3 := fun hq F3 => by
      have h3 := fin F3
      refine seg_again rfl ?_
      have := ih (pre ++ [ch]) _ _ _ _ _ _ hx' (by rw [hpl]; exact hq) (by rw [hpl]; exact F3) h3
      rwa [hpl] at this
    refine FS.pair (P0 := D (.int (pre.length : Nat))) (P1 := D (.str ⟨#[ch]⟩)) (F1.weaken (V' := [("escape", D (.bool esc))]) (by unfold escV; walk_at "sub")) R.1 hT' (D_int.mpr ⟨_, rfl⟩) (D_mono _) (D_str.mpr ⟨_, rfl⟩) (D_mono _) (scal_str _) (st1_fn (by decide)) (st1_fn (by decide)) (by rfl) (by rfl) fun s F => ?_
    have fV : ∀ {b : Bool}, FreeV (eEnv a cd L) [("ch", D (.str ⟨#[ch]⟩)), ("pos", D (.int (pre.length : Nat))), ("escape", D (.bool b))] := List.forall_mem_cons.mpr ⟨⟨by rfl, scal_str _⟩, List.forall_mem_cons.mpr ⟨⟨by rfl, scal_int _⟩, List.forall_mem_cons.mpr ⟨⟨by rfl, scal_bool _⟩, List.forall_mem_nil _⟩⟩⟩
    refine seg_If (F.tr R (tr_name (by walk_at "ev")) fun s F => ?_)
    cases esc with
    | true =>
      rw [if_pos rfl]
      refine seg_pause (d := ((pre.length : Int), "\\" ++ (⟨#[ch]⟩ : Str))) (pre := ip) (post := escGo (pre.length + 1) false rs) R F (ev_pair (by walk_at "ev") (ev_cat (by walk_at "ev") (by walk_at "ev") ?_)) hxs (fun _ h => h) exs_free fV rfl rfl rfl fun s'' F' => ?_
      · show 1 + 1 ≤ _; decide
      · refine seg_one (xs_assign (P := D (.bool false)) (F'.weaken (V' := [("pos", D (.int (pre.length : Nat)))]) (by walk_at "sub")) R (by walk_at "ev") (D_mono _) (st1_fn (by decide)) (by rfl) fun s F => xs_nil ⟨rfl, ?_⟩)
        exact next (ip' := ip ++ [_]) (by rw [List.append_assoc]; exact hxs) F
    | false =>
      rw [if_neg Bool.false_ne_true]
      refine seg_If (F.tr R (tr_str (op := .Eq) (v := (⟨#[ch]⟩ : Str) == "\\") (by walk_at "ev") (by walk_at "ev") rfl) fun s F => ?_)
      unfold escGo at hxs ⊢
      cases hb : ((⟨#[ch]⟩ : Str) == "\\") with
      | true =>
        rw [hb] at hxs
        rw [if_pos rfl] at hxs ⊢
        rw [if_pos rfl]
        refine seg_one (xs_assign (P := D (.bool true)) (F.weaken (V' := [("pos", D (.int (pre.length : Nat)))]) (by walk_at "sub")) R (by walk_at "ev") (D_mono _) (st1_fn (by decide)) (by rfl) fun s F => xs_nil ⟨rfl, ?_⟩)
        exact next (ip' := ip) hxs F
      | false =>
        rw [hb] at hxs
        rw [if_neg Bool.false_ne_true] at hxs ⊢
        rw [if_neg Bool.false_ne_true]
        refine seg_pause (d := ((pre.length : Int), (⟨#[ch]⟩ : Str))) (pre := ip) (post := escGo (pre.length + 1) false rs) R F (ev_pair (by walk_at "ev") (by walk_at "ev")) hxs (fun _ h => h) exs_free fV rfl rfl rfl fun s'' F' => ?_
        exact next (ip' := ip ++ [_]) (by rw [List.append_assoc]; exact hxs) (F'.weaken (by unfold escV; walk_at "sub"))
end
section
variable {k n : Nat} {c : Cx} {a L : Addr} {cd : Value} {s : Shared} {A : Around}
theorem esc_start {x : Str} {t : Tok} {m : Str → Option Value} (K : Kt c) (ok : c.Ok) (r : Room (k + 1) A) (hns : s.heap.Ns L m) (hm : m "addr" = some (.str x t)) (hL : c.H.get? L = none) (hb : c.H.StaysIn s.heap) :
    Seg c.M A (gR [L, s.heap.objs.size + 1, s.heap.objs.size]) (gY c [L, s.heap.objs.size + 1, s.heap.objs.size] ((escGo 0 false x.cps.toList).map itD)) (escGo 0 false x.cps.toList).length s (.func (bodyOf (stm 2)) (eEnv a cd L)) (c.M.den (.func (bodyOf (stm 2)) (eEnv a cd L))) [] s := by
  refine seg_func ?_
  generalize hE : (fun e => (leaving (eEnv a cd L) e).wrap (fun _ => (.raise e : Sem Fin)) .raise id id) = HH
  refine seg_one (K := KF) (wpAny_execs_cons (wpAny_Assign_Name (wpAny_Constant_int (wpAny_storeName_local (by rfl) hns (fun h1 hn1 hs1 => wpAny_execs_nil ⟨rfl, ?_⟩) (by rfl)))))
  refine seg_one (wpAny_execs_cons (wpAny_Assign_Name (Constant_bool (wpAny_storeName_local (by rfl) hn1 (fun h2 hn2 hs2 => wpAny_execs_nil ⟨rfl, ?_⟩) (by rfl)))))
  have st2 : ∀ b o, b ≠ L → s.heap.get? b = some o → h2.get? b = some o := fun b o q e => (hs2.2 b q).trans ((hs1.2 b q).trans e)
  have b2 : c.H.StaysIn h2 := fun b o e => st2 b o (fun q => by rw [q, hL] at e; cases e) (hb b o e)
  have z2 : h2.objs.size = s.heap.objs.size := hs2.1.trans hs1.1
  refine seg_For ?_
  refine wpAny_Call_ofName ?_
  refine Calls.Name_function_global rfl (by rfl) ?_
  refine Calls.loadGlobal_builtin (ok.g.keeps b2) K.enumerate.1 (ok.b.keeps b2) K.enumerate.2 ?_
  refine PyProof.Rows.callWith_type (by rfl) ?_
  refine Calls.evalArgs_plain ?_
  refine Calls.spliced_cons (wpAny_Name (wpAny_loadName_local rfl (by rfl) hn2 (by exact hm) ?_) (by decide))
  refine Calls.spliced_nil ?_
  refine call_enumerate_str fun h3 he hit hz3 hk3 => ?_
  dsimp only at he hit hz3 hk3 ⊢
  rw [z2] at he hit ⊢
  have hLN : L < s.heap.objs.size := hns.lt
  have new0 : ∀ b, s.heap.objs.size ≤ b → c.H.get? b = none := fun b hbn => by
    cases e : c.H.get? b with
    | none => rfl
    | some o => exact absurd (Heap.lt_size (hb _ _ e)) (Nat.not_lt.mpr hbn)
  generalize hN : s.heap.objs.size = N at *
  refine wpAny_pyIter_enum he fun pp => ?_
  have n1 : N + 1 ≠ N := Nat.succ_ne_self N
  have n2 : N + 1 ≠ L := Nat.ne_of_gt (Nat.lt_succ_of_lt hLN)
  have n3 : N ≠ L := Nat.ne_of_gt hLN
  obtain ⟨oi, hoi⟩ : ∃ o, h3.get? N = some o := let ⟨o, e, _⟩ := hit; ⟨o, e⟩
  have F : ∀ tk, FS false c (eEnv a cd L) (escV false 0) [L, N + 1, N] [L, N + 1, N] [(N + 1, ExR _), (N, ExR oi)] [] { s with heap := hideAll s.heap [L, N + 1, N] } { s with heap := h3, toks := tk } := fun tk =>
    FS.scratch (W := [L, N + 1, N]) rfl rfl rfl rfl ok ((GK.refl _ s).step fun b o q e => hk3 _ _ (st2 _ _ (fun z => q (z ▸ .head _)) e)) hb
      (List.forall_mem_cons.mpr ⟨hL, List.forall_mem_cons.mpr ⟨new0 _ (Nat.le_succ _), List.forall_mem_cons.mpr ⟨new0 _ (Nat.le_refl _), List.forall_mem_nil _⟩⟩⟩)
      (List.forall_mem_cons.mpr ⟨⟨.head _, ?_⟩, List.forall_mem_cons.mpr ⟨⟨.tail _ (.head _), by show (h3.get? (N + 1)).isSome = true; rw [show h3.get? (N + 1) = some _ from he]; rfl⟩, List.forall_mem_cons.mpr ⟨⟨.tail _ (.tail _ (.head _)), by show (h3.get? N).isSome = true; rw [hoi]; rfl⟩, List.forall_mem_nil _⟩⟩⟩)
      (.head _) (hn2.keeps hk3)
      (List.forall_mem_cons.mpr ⟨⟨D_mono _, _, by rfl, rfl, fun h => D_bool.mpr rfl⟩, List.forall_mem_cons.mpr ⟨⟨D_mono _, _, by rfl, rfl, fun h => D_int.mpr ⟨_, rfl⟩⟩, List.forall_mem_nil _⟩⟩)
      (List.forall_mem_cons.mpr ⟨⟨.tail _ (.head _), n2, ExR_mono _, _, he, fun _ => rfl⟩, List.forall_mem_cons.mpr ⟨⟨.tail _ (.tail _ (.head _)), n3, ExR_mono _, _, hoi, fun _ => rfl⟩, List.forall_mem_nil _⟩⟩)
      (by simp)
  · cases ha : x.cps.all (· < 128)
    · refine esc_loop r (fun A' hA => Draws.strWide hA N x t) n1 n2 n3 ?_ x.cps.toList [] [] false s _ _ oi rfl rfl (F _) ⟨⟨_, he⟩, by unfold strIterType at hit; rw [ha] at hit; exact hit⟩
      exact fun esc ip s₀ s F hx => esc_tail r rfl F hx (fun b hb => by rw [List.mem_singleton.mp hb]; exact .head _) (List.forall_mem_nil _)
    · refine esc_loop r (fun A' hA => Draws.strAscii hA N x t) n1 n2 n3 ?_ x.cps.toList [] [] false s _ _ oi rfl rfl (F _) ⟨⟨_, he⟩, by unfold strIterType at hit; rw [ha] at hit; exact hit⟩
      exact fun esc ip s₀ s F hx => esc_tail r rfl F hx (fun b hb => by rw [List.mem_singleton.mp hb]; exact .head _) (List.forall_mem_nil _)
  · obtain ⟨o, _, _, e, _⟩ := hn2.keeps hk3
    show (h3.get? L).isSome = true
    rw [show h3.get? L = some o from e]; rfl
end
section
variable {prog : Program} {w : World} {A : Around} {E : Value → Shared → Prop} {s : Shared}
theorem next_gen {a : Addr} {g n : Nat} {gs : GenState} {P : Nat → Shared → Shared → Prop} {Y : Protocol} {Q : Option Value → Shared → Prop} (hh : A.handled = none) (hl : s.heap.NoLimit) (hroom : A.depth < recursionLimit)
    (hg : s.heap.IsGen a g) (hgs : s.gens[g]? = some gs)
    (hgo : gs.Goes (model prog w) A.in1 (fun n s₀ r s₁ => r = .ok (.ret .none) ∧ P n s₀ s₁) Y n (.send .none) (s.setGen g .running))
    (hY : ∀ v s₁ gs', gs'.bare = true → Y (n - 1) (s.setGen g .running) v s₁ (fun r' s'' => match n with
        | 0 => False
        | m + 1 => gs'.Goes (model prog w) A.in1 (fun n s₀ r s₁ => r = .ok (.ret .none) ∧ P n s₀ s₁) Y m r' s'') → Q (some v) (s₁.setGen g gs'))
    (hP : ∀ s₁, P n (s.setGen g .running) s₁ → ∀ h', (∀ b o, s₁.heap.get? b = some o → h'.get? b = some o) → Q none { s₁.setGen g .finished with heap := h' }) :
    wpAny (model prog w) A (pyNext (.ref a)) Q E s := by
  unfold pyNext
  refine wpAny_bind (wpAny_attempt (wpAny_callSpecial?_slot (name := Str.ofString "__next__") hg.typeIs slot_gen_next (wpAny_call_entry slot_gen_next hg.typeIs entry_gen_next ?_ (args_gen_next _))))
  show wpAny _ A.in1 (Builtin.Generator.genWake (.ref a) (.send .none)) _ _ s
  unfold Builtin.Generator.genWake
  refine wpAny_bind (wpAny_holding (wpAny_genNumber hg (wpAny_bind (wpAny_genState hgs ?_))))
  cases gs with
  | running => exact hgo.elim
  | finished => exact hgo.elim
  | _ =>
    refine wpAny_bind (wpAny_roomToWake hl hroom ?_)
    show wpAny _ A.in1 (.resume g (.send .none) [] _) _ _ s
    refine wpAny_resumeQ hgs hgo (fun x s₁ hx => ?_) (fun v s₁ gs' hb hv => ?_)
    · obtain ⟨rfl, hp⟩ := hx
      show wpAny _ A.in1 (newExc (.type "StopIteration") [] >>= _) _ _ _
      refine wpAny_bind ?_
      simp only [newExc, newTuple]
      refine wpAny_bind (wpAny_newObj_type ?_ (by size_fits))
      refine wpAny_bind (m := firstArgMember _ _) (wpAny_of_eq (a := Value.none) (by first | rfl | (simp only [firstArgMember]; rfl)) ?_)
      refine wpAny_newObj_type ?_ (by size_fits)
      simp only [raiseNew]
      refine wpAny_bind (wpAny_bind (wpAny_handled ?_))
      first | rw [show A.in1.handled = none from hh] | rw [hh]
      refine wpAny_throw ?_
      refine wpAny_bind (wpAny_isInstance (T := "StopIteration") (b := true) ⟨_, Heap.get?_push_size _ rfl, rfl⟩ isSubtype_stop ?_)
      exact wpAny_pure (hP s₁ hp _ fun b o hb => Heap.get?_push_of_some _ (Heap.get?_push_of_some _ hb))
    · exact wpAny_pure ⟨v, rfl, wpAny_pure (hY v s₁ gs' hb hv)⟩
end
section
variable {g : Bool} {k : Nat} {c : Cx} {env : Env} {V V' : List (Str × Pr)} {W W' Y Y₀ : List Addr} {MU MU' : List (Addr × Rp)} {GN GN' : List (Nat × GenState)} {s₀ s s' s'' : Shared} {a : Addr} {A : Around} {P : Pr}
theorem Room.in1 (r : Room (k + 1) A) : Room k A.in1 := ⟨r.1, by show A.depth + k < _; have := r.2.1; omega, by show A.units + 1 + 10 * k < _; have := r.2.2; omega⟩
theorem FS.anchor (F : FS g c env V W Y MU GN s₀ s) : FS g c env V W Y MU GN { s with heap := hideAll s.heap W } s where
  rd := F.rd
  kp := Kp.hp' (s := { s with heap := hideAll s.heap W }) hide_le
  b0 := fun b o e => hideAll_get _ (F.rd.base b o e) fun q => by
    have := F.b0 _ _ e
    rw [(F.sub b q).2] at this; cases this
  sub := fun b q => ⟨(F.sub b q).1, hideAll_none W q⟩
  loc := F.loc
  ns := F.ns
  cel := F.cel
  inj := F.inj
  mu := F.mu
  dis := F.dis
  gn := F.gn
theorem Kp.unanchor {t : Shared} (F : FS g c env V W Y MU GN s₀ t) (k : Kp g { t with heap := hideAll t.heap W } s) : Kp g s₀ s :=
  ⟨fun b o e => k.heap b o (hideAll_get _ (F.kp.heap b o e) fun q => by rw [(F.sub b q).2] at e; cases e), k.os.trans F.kp.os, k.drawn.trans F.kp.drawn, fun i y e => k.gens i y (F.kp.gens i y e), fun h => k.bare (F.kp.bare h), fun h => (k.same h).trans (F.kp.same h)⟩
theorem FS.unanchor {t : Shared} (F : FS g c env V W Y MU GN s₀ t) (F' : FS g c env V' W Y MU' GN' { t with heap := hideAll t.heap W } s) : FS g c env V' W Y MU' GN' s₀ s where
  rd := F'.rd
  kp := Kp.unanchor F F'.kp
  b0 := F.b0
  sub := F.sub
  loc := F.loc
  ns := F'.ns
  cel := F'.cel
  inj := F'.inj
  mu := F'.mu
  dis := F'.dis
  gn := F'.gn
def Off (W Y : List Addr) (env : Env) (s₀ : Shared) (b : Addr) : Prop := b ∉ W ∧ b ∉ Y ∧ s₀.heap.get? b = none ∧ ∀ x, env.cells.lookup x ≠ some b
theorem FS.off (F : FS g c env V W Y MU GN s₀ s) {b : Addr} (h : s.heap.objs.size ≤ b) : Off W Y env s₀ b :=
  ⟨fun q => F.rd.freshAt (get_none h) (F.sub b q).1, F.rd.freshAt (get_none h), F.fresh0 (get_none h), fun x e => by
    obtain ⟨_, _, _, o, e', _⟩ := F.cel x b e
    rw [get_none h] at e'; cases e'⟩
theorem bare_set {gens : Array GenState} {i : Nat} {x : GenState} (h : AllBare gens) (hx : x.bare = true) : AllBare (gens.setIfInBounds i x) := fun y hy => by
  obtain ⟨j, hj, rfl⟩ := Array.mem_iff_getElem.mp hy
  rw [Array.getElem_setIfInBounds (by simpa using hj)]
  split
  · exact hx
  · exact h _ (Array.getElem_mem _)
end
section
variable {g : Bool} {k : Nat} {c : Cx} {env : Env} {V V' : List (Str × Pr)} {W W' Y Y₀ : List Addr} {MU MU' : List (Addr × Rp)} {GN GN' : List (Nat × GenState)} {s₀ s s' s'' : Shared} {a : Addr} {A : Around} {P : Pr} {E : Value → Shared → Prop}
structure GenAt' (c : Cx) (A : Around) (W Y : List Addr) (env : Env) (s₀ : Shared) (xs : List (Int × Str)) (I g j : Nat) (s : Shared) : Prop where
  isg : s.heap.IsGen I g
  off : Off W Y env s₀ I
  old : s₀.gens.size ≤ g
  go : ∃ gs Wg, s.gens[g]? = some gs ∧ gs.bare = true ∧ I ∉ Wg ∧ (∀ b ∈ Wg, Off W Y env s₀ b) ∧ ∀ s'' : Shared, s''.heap = s.heap → gs.Goes c.M A.in1 (gR Wg) (gY c Wg (xs.map itD)) (xs.length - j) (.send .none) s''
theorem item_pair {h : Heap} {v : Value} {d : Int × Str} (p : D (itD d) h v) : ∃ T v0 v1, v = .ref T ∧ h.IsTuple T #[v0, v1] ∧ (∃ t, v0 = .int d.1 t) ∧ ∃ t, v1 = .str d.2 t := by
  obtain ⟨T, vs, as, rfl, hT, hr⟩ := D_tuple p
  cases hr with
  | cons r1 hr =>
    cases hr with
    | cons r2 hr =>
      cases hr
      cases r1; cases r2
      exact ⟨T, _, _, rfl, hT, ⟨_, rfl⟩, ⟨_, rfl⟩⟩
theorem go_gen {elts : List Expr} {n : Nat} {pos : Pos} {I g : Nat} {v : Value} {Q : Unit → Shared → Prop} (h : s.heap.IsGen I g) (q : Q () s) : wpAny c.M A (letOwnedTupleGo (.Tuple elts n pos) (.ref I) v) Q E s := by
  cases v with
  | ref T =>
    obtain ⟨o, nm, qn, ho, hc, hd, _⟩ := h
    show wpAny c.M A (do let o ← load I; _) Q E s
    refine wpAny_bind (wpAny_load ho ?_)
    rw [hc, hd]
    exact wpAny_pure q
  | _ => exact wpAny_pure q
theorem FS.gnext {xs : List (Int × Str)} {I gi j : Nat} {Q : Option Value → Shared → Prop} (F : FS true c env V W Y MU [] s₀ s) (r : Room (k + 1) A) (G : GenAt' c A W Y env s₀ xs I gi j s) (hV : ∀ q ∈ V, ∀ h h' v, q.2 h v → q.2 h' v) (hm : FreeM MU)
    (q1 : ∀ d s' v, xs[j]? = some d → FS true c env V W Y MU [] s₀ s' → D (itD d) s'.heap v → s'.heap.IsGen I gi → (∀ s'' : Shared, FS true c env [] W Y [] [] { s' with heap := hideAll s'.heap W } s'' → GenAt' c A W Y env s₀ xs I gi (j + 1) s'') → Q (some v) s')
    (q2 : xs.length ≤ j → ∀ s', FS true c env V W Y MU [] s₀ s' → Q none s') : wpAny c.M A (pyNext (.ref I)) Q E s := by
  obtain ⟨isg, off, old, gs, Wg, hgs, hbare, hI, hWg, hgo⟩ := G
  have hgsz : gi < s.gens.size := (Array.getElem?_eq_some_iff.mp hgs).1
  have sg : ∀ {t : Shared} {x : GenState}, t.gens = (s.setGen gi .running).gens → (t.setGen gi x).gens[gi]? = some x := fun {t x} e => by
    have h1 : t.gens.size = s.gens.size := by rw [e]; simp [Shared.setGen]
    simp [Shared.setGen, h1, hgsz]
  have kg : ∀ {t : Shared} {x : GenState}, t.gens = (s.setGen gi .running).gens → ∀ (i : Nat) (y : GenState), s₀.gens[i]? = some y → (t.setGen gi x).gens[i]? = some y := fun {t x} e i y hi => by
    have hlt : i < s₀.gens.size := (Array.getElem?_eq_some_iff.mp hi).1
    have hne : gi ≠ i := by omega
    have := F.kp.gens i y hi
    rw [show (t.setGen gi x).gens = (t.gens).setIfInBounds gi x from rfl, e, show (s.setGen gi .running).gens = s.gens.setIfInBounds gi .running from rfl]
    rw [Array.getElem?_setIfInBounds_ne hne, Array.getElem?_setIfInBounds_ne hne]; exact this
  have kb : ∀ {t : Shared} {x : GenState}, x.bare = true → t.gens = (s.setGen gi .running).gens → AllBare s₀.gens → AllBare (t.setGen gi x).gens := fun {t x} hx e hb => by
    rw [show (t.setGen gi x).gens = (t.gens).setIfInBounds gi x from rfl, e]
    exact bare_set (bare_set (F.kp.bare hb) rfl) hx
  have eo : ∀ {n : Nat}, xs.length - j = n → ∀ s'' : Shared, s''.heap = s.heap → gs.Goes c.M A.in1 (gR Wg) (gY c Wg (xs.map itD)) n (.send .none) s'' := fun e => e ▸ hgo
  have hlen : (xs.map itD).length = xs.length := List.length_map ..
  generalize hn : xs.length - j = n at *
  refine next_gen (n := n) (Y := gY c Wg (xs.map itD)) (P := fun n s₀ s₁ => n = 0 ∧ GK Wg s₀ s₁) r.1 (F.rd.ok.lim.keeps F.rd.base) r.depth isg hgs (eo rfl _ rfl) (fun v s₁ gs' hb' hy => ?_) (fun s₁ hp h' hk => ?_)
  · obtain ⟨⟨d, hd, pd⟩, gk, kap⟩ := hy
    cases n with
    | zero => exact (kap s₁ (fun _ _ _ e => e) (fun b o e => gk.heap b o (hideAll_get _ (F.rd.base b o e) fun q => by
        have := F.b0 _ _ e
        rw [(hWg b q).2.2.1] at this; cases this))).elim
    | succ m =>
      have hge : s₁.gens = (s.setGen gi .running).gens := gk.same rfl
      have kk : ∀ b o, b ∉ Wg → s.heap.get? b = some o → s₁.heap.get? b = some o := fun b o hb e => gk.heap b o (hideAll_get _ e hb)
      rw [List.getElem?_map, hlen, show xs.length - 1 - (m + 1 - 1) = j by omega] at hd
      obtain ⟨d', hd', rfl⟩ := Option.map_eq_some_iff.mp hd
      have isg' : s₁.heap.IsGen I gi := let ⟨o, nm, qn, ho, rr⟩ := isg; ⟨o, nm, qn, kk _ _ hI ho, rr⟩
      have F1 := F.jump (s' := s₁.setGen gi gs') kk hWg hV hm gk.os gk.drawn (kg hge) (kb hb' hge) (fun h => by cases h)
      refine q1 d' _ v hd' F1 pd isg' fun s'' F2 => ?_
      have keep : ∀ b o, b ∉ W → s₁.heap.get? b = some o → s''.heap.get? b = some o := fun b o hb e => F2.kp.heap b o (hideAll_get _ e hb)
      refine ⟨let ⟨o, nm, qn, ho, rr⟩ := isg'; ⟨o, nm, qn, keep _ _ off.1 ho, rr⟩, off, old, gs', Wg, F2.kp.gens _ _ (sg hge), hb', hI, hWg, fun t ht => ?_⟩
      rw [show xs.length - (j + 1) = m by omega]
      exact kap t (fun b hb o e => by rw [ht]; exact keep b o (hWg b hb).1 e) (by rw [ht]; exact F2.rd.base)
  · obtain ⟨rfl, gk⟩ := hp
    have hge : s₁.gens = (s.setGen gi .running).gens := gk.same rfl
    have kk : ∀ b o, b ∉ Wg → s.heap.get? b = some o → h'.get? b = some o := fun b o hb e => hk b o (gk.heap b o (hideAll_get _ e hb))
    exact q2 (by omega) _ (F.jump (s' := { s₁.setGen gi .finished with heap := h' }) kk hWg hV hm gk.os gk.drawn (kg hge) (kb rfl hge) (fun h => by cases h))
end
section
variable {g : Bool} {k : Nat} {c : Cx} {env : Env} {V V' : List (Str × Pr)} {W W' Y Y₀ : List Addr} {MU MU' : List (Addr × Rp)} {GN GN' : List (Nat × GenState)} {s₀ s s' s'' : Shared} {a : Addr} {A : Around} {P : Pr} {E : Value → Shared → Prop}
theorem call_iter {x : Str} {v : Value} {Q : Value → Shared → Prop} {cd : Value} (K : Kt c) (hf : FnAt c 2 a cd) (F : FS true c env V W Y MU [] s₀ s) (r : Room (k + 4) A) (hv : D (.str x) (hideAll s.heap Y) v)
    (q : ∀ I gi s', FS true c env V W Y MU [] s₀ s' → GenAt' c A W Y env s₀ (escGo 0 false x.cps.toList) I gi 0 s' → Q (.ref I) s') : wpAny c.M A (call (.ref a) [v]) Q E s := by
  obtain ⟨t, rfl⟩ := D_str.mp hv
  obtain ⟨o, fd, ho, hd, e1, e2, e3, e4, e5, e6, e7, e8, e9, e10⟩ := hf.2.o
  have r1 : Room (k + 3) A.in1 := r.in1
  refine wpAny_call (codeAny_call_generator r.depth (F.rd.base _ _ ho) hd (by rw [e3]; rfl) (by rw [e3]; rfl) e2 (by rw [e8, e7]; exact hf.2.code.keeps F.rd.base) ?_)
  rw [bind1 (x := "addr") (by rfl) fd [.str x t] e1 e9 e10 rfl, e3, e4, e5, e6, e7, e8]
  refine wpAny_pure (wpAny_newFunctionEnv_cells rfl (fun y hy => .inl (by rw [List.mem_singleton.mp (show y ∈ [(("addr" : Str), Value.str x t)] from hy)]; rfl)) fun env' he s1 ic => ?_)
  have hL := F.off (Nat.le_refl _)
  have kp : Kp true s s1 := by
    obtain ⟨h, tk, e⟩ := ic.toInCall.same
    have := ic.toInCall.keep
    rw [e] at this ⊢
    exact Kp.hp tk this
  have hI : s.heap.objs.size < s1.heap.objs.size := by
    have := ic.toInCall.ns.lt
    rw [he] at this; exact this
  subst he
  have F1 := F.kpstep kp
  generalize hg : ({ cls := .type "generator", data := .fields #[.int s1.gens.size 0, .str fd.name s1.toks, .str (nmOf (stm 2)) (s1.toks + 1)] } : Obj) = go
  refine ⟨F1.rd.ok.lim.keeps F1.rd.base, ?_⟩
  have k2 : Kp true s1 { s1 with gens := s1.gens.push (.fresh (.func (bodyOf (stm 2)) (eEnv a cd s.heap.objs.size))), toks := s1.toks + 1 + 1, heap := s1.heap.push go } :=
    ⟨fun b o e => Heap.get?_push_of_some _ e, rfl, rfl, fun i y e => by
      have hlt := (Array.getElem?_eq_some_iff.mp e).1
      show (s1.gens.push _)[i]? = some y
      rw [Array.getElem?_push_lt hlt, ← e, Array.getElem?_eq_getElem hlt], fun hb y hy => by
      rcases Array.mem_push.mp hy with hy | rfl
      · exact hb y hy
      · rfl, fun h => by cases h⟩
  have F2 := F1.kpstep k2
  have hz : (s1.heap.push go).objs.size = s1.heap.objs.size + 1 := Heap.size_push ..
  refine q _ s1.gens.size _ F2 ⟨⟨go, _, _, Heap.get?_push_size _ (by rw [← hg]; rfl), by rw [← hg], by rw [← hg], by rw [← hg]⟩, F1.off (Nat.le_refl _), ?_, _, [s.heap.objs.size, s1.heap.objs.size + 1 + 1, s1.heap.objs.size + 1], Array.getElem?_push_size .., rfl, ?_, ?_, fun s'' hs'' => ⟨rfl, ?_⟩⟩
  · rcases Nat.lt_or_ge s1.gens.size s₀.gens.size with h | h
    · have := F1.kp.gens _ _ (Array.getElem?_eq_getElem h)
      rw [Array.getElem?_eq_none (Nat.le_refl _)] at this; cases this
    · exact h
  · intro h
    rcases List.mem_cons.mp h with h | h
    · omega
    · rcases List.mem_cons.mp h with h | h
      · omega
      · have := List.mem_singleton.mp h; omega
  · refine List.forall_mem_cons.mpr ⟨hL, List.forall_mem_cons.mpr ⟨F2.off ?_, List.forall_mem_cons.mpr ⟨F2.off ?_, List.forall_mem_nil _⟩⟩⟩
    · show (s1.heap.push go).objs.size ≤ _; omega
    · show (s1.heap.push go).objs.size ≤ _; omega
  · have := esc_start (k := k + 2) (A := A.in1) (s := s'') (L := s.heap.objs.size) (a := a) (cd := cd) (x := x) (t := t) K F.rd.ok r1 (by rw [hs'']; exact ic.toInCall.ns.keeps k2.heap) rfl ?_ (by rw [hs'']; exact F2.rd.base)
    · rw [hs''] at this
      rw [show ({ s1 with gens := s1.gens.push (.fresh (.func (bodyOf (stm 2)) (eEnv a cd s.heap.objs.size))), toks := s1.toks + 1 + 1, heap := s1.heap.push go } : Shared).heap.objs.size = s1.heap.objs.size + 1 from hz] at this
      exact this
    · cases e : c.H.get? s.heap.objs.size with
      | none => rfl
      | some o => exact absurd (Heap.lt_size (F.rd.base _ _ e)) (Nat.lt_irrefl _)
end
section
variable {g : Bool} {k : Nat} {c : Cx} {env : Env} {V V' : List (Str × Pr)} {W W' Y Y₀ : List Addr} {MU MU' : List (Addr × Rp)} {GN GN' : List (Nat × GenState)} {s₀ s s' s'' : Shared} {a : Addr} {A : Around} {P : Pr} {E : Value → Shared → Prop}
theorem xs_forGen {x xi xc : Str} {pi pc pt np cpos pos : Pos} {nn : Nat} {e : Expr} {body rest : List Stmt} {Vi : List (Int × Str) → List (Str × Pr)} {MUi : List (Int × Str) → List (Addr × Rp)} {Iv : List (Int × Str) → Prop} (K : Kt c)
    (F : FS true c env V W Y MU [] s₀ s) (r : Room (k + 4) A) (hk : env.kindOf "_iter_escaped_chars" = some .globalImplicit) (he : EvOK true (k + 4) c env V e (D (.str x))) (hV : ∀ pre, ∀ q ∈ Vi pre, ∀ h h' v, q.2 h v → q.2 h' v) (hM : ∀ pre, FreeM (MUi pre))
    (h0 : ∀ p ∈ Vi [], p ∈ V) (hm0 : MUi [] = MU) (iv0 : Iv []) (ki : St1 env xi) (kc : St1 env xc) (ni : ∀ pre, noName xi (Vi pre) = true) (nc : ∀ pre i, noName xc ((xi, D (.int i)) :: Vi pre) = true) (hY : ∀ b ∈ Y₀, b ∈ Y)
    (turn : ∀ pre d post t₀ s', escGo 0 false x.cps.toList = pre ++ d :: post → Iv pre → FS true c env ((xc, D (.str d.2)) :: (xi, D (.int d.1)) :: Vi pre) W Y (MUi pre) [] t₀ s' →
      ∀ E', wpAny c.M A (execs body env) (LoopQ (RetP true Y P t₀) (fun s'' => Iv (pre ++ [d]) ∧ FS true c env (Vi (pre ++ [d])) W Y (MUi (pre ++ [d])) [] t₀ s'') fun _ => False) E' s') (mP : Mono P)
    (q : ∀ s', Iv (escGo 0 false x.cps.toList) → FS true c env (Vi (escGo 0 false x.cps.toList)) W Y (MUi (escGo 0 false x.cps.toList)) [] s₀ s' → wpAny c.M A (execs rest env) (RetP true Y₀ P s₀) E s')
    (hse : starEach [e] env = (false, eval e env) :: starEach [] env := by rfl) :
    wpAny c.M A (execs (.For (.Tuple [.Name xi pi, .Name xc pc] nn pt) (.Call (.Name "_iter_escaped_chars" np) [e] [] cpos) body [] pos :: rest) env) (RetP true Y₀ P s₀) E s := by
  obtain ⟨af, cd, hf⟩ := K.iter
  obtain ⟨o, fd, ho, hd, _⟩ := id hf.2.o
  refine wpAny_execs_cons (wpAny_For (wpAny_Call_ofName ((ev_glob (g := true) (k := k) (V := V) hk hf.1 (by decide)) A Y s _ _ (r.le (Nat.le_add_right _ _)) F.rd fun v s₁ k₁ p => ?_)) (by intro _; rfl))
  cases p
  refine Calls.callWith_function (o := o) (fd := fd) ?_
  rw [hse]
  refine Calls.evalArgs_plain ?_
  refine Calls.spliced_cons ((F.kpstep k₁).ev r he fun v s₂ F₂ pv => Calls.spliced_nil ⟨⟨F₂.rd.base _ _ ho, hd⟩, ?_⟩)
  refine call_iter K hf F₂ r pv fun I gi s₃ F₃ G₃ => wpAny_pyIter_gen G₃.isg ?_
  generalize hxs : escGo 0 false x.cps.toList = xs at *
  let Inv : Nat → Shared → Prop := fun n s' => ∃ j, j ≤ xs.length ∧ n = xs.length + 1 - j ∧ Iv (xs.take j) ∧ FS true c env (Vi (xs.take j)) W Y (MUi (xs.take j)) [] s₀ s' ∧ GenAt' c A W Y env s₀ xs I gi j s'
  refine codeAny_forLoop_any Inv ?_ (xs.length + 1) ⟨0, Nat.zero_le _, rfl, iv0, by rw [List.take_zero, hm0]; exact F₃.weaken h0, G₃⟩
  rintro n s' ⟨j, hj, rfl, iv, F', G'⟩
  refine F'.gnext (k := k + 3) r G' (hV _) (hM _) (fun d s₄ v hd F₄ pd isg hG => ?_) fun hl s₄ F₄ => ?_
  · refine go_gen isg ?_
    obtain ⟨T, v0, v1, rfl, hT, h0', h1'⟩ := item_pair pd
    refine F₄.anchor.pair r.1 hT (D_int.mpr h0') (D_mono _) (D_str.mpr h1') (D_mono _) (scal_str _) ki kc (ni _) (nc _ _) fun s₅ F₅ => ?_
    have hlt : j < xs.length := (List.getElem?_eq_some_iff.mp hd).1
    have hx : xs = xs.take j ++ d :: xs.drop (j + 1) := by
      have h1 := List.take_append_drop j xs
      rw [List.drop_eq_getElem_cons hlt] at h1
      have h2 : d = xs[j] := by rw [List.getElem?_eq_getElem hlt] at hd; exact (Option.some.inj hd).symm
      rw [h2]; exact h1.symm
    have tk : xs.take (j + 1) = xs.take j ++ [d] := by rw [List.take_add_one, hd]; rfl
    refine wpAny_mono (turn (xs.take j) d (xs.drop (j + 1)) _ s₅ hx iv F₅ _) (fun f s₆ hf => ?_) fun _ _ e => e
    have go : Iv (xs.take j ++ [d]) ∧ FS true c env (Vi (xs.take j ++ [d])) W Y (MUi (xs.take j ++ [d])) [] { s₄ with heap := hideAll s₄.heap W } s₆ → ∃ m, m < xs.length + 1 - j ∧ Inv m s₆ := fun ⟨iv', F₆⟩ =>
      ⟨xs.length + 1 - (j + 1), by omega, j + 1, hlt, rfl, by rw [tk]; exact iv', by rw [tk]; exact F₄.unanchor F₆, hG s₆ { F₆.weaken (V' := []) (fun p hp => by cases hp) with mu := fun p hp => (by cases hp), dis := .nil }⟩
    cases f with
    | next => exact go hf
    | cont => exact go hf
    | brk => exact hf.elim
    | ret v =>
      obtain ⟨v', e, k', p⟩ := hf
      cases e
      exact ⟨_, rfl, Kp.unanchor F₄ k', mP _ _ _ (hide_anti hY) p⟩
  · have : j = xs.length := by omega
    subst this
    rw [List.take_length] at F₄ iv
    exact wpAny_execs_nil (q _ iv F₄)
end
section
variable {g : Bool} {k : Nat} {c : Cx} {env : Env} {V : List (Str × Pr)} {W Y : List Addr} {MU : List (Addr × Rp)} {GN : List (Nat × GenState)} {s₀ s : Shared} {A : Around} {Q : Flow → Shared → Prop} {E : Value → Shared → Prop} {l r : Expr} {pos px : Pos} {x : Str} {rest : List Stmt}
theorem tr_notInS {a b : Str} (h1 : EvOK g k c env V l (D (.str a))) (h2 : EvOK g k c env V r (D (.str b))) (hm : behindInMarks .NotIn r = false := by with_unfolding_all rfl) :
    TrOK g k c env V (.Compare l [.NotIn] [r] pos) (!Txt.contains b a) := tr_cmp h1 h2 (D_mono _) (fun A Y s x y Q E rm st p1 p2 q => by
    obtain ⟨t, rfl⟩ := D_str.mp p1; obtain ⟨u, rfl⟩ := D_str.mp p2
    exact SB.notContains (q _ (Kp.refl ..))) hm
theorem xs_aug {op : Operator} {a b v : Int} (F : FS g c env V W Y MU GN s₀ s) (rm : Room k A) (hx : (x, D (.int a)) ∈ V) (h : EvOK g k c env V r (D (.int b))) (ho : (op = .Add ∧ v = a + b) ∨ (op = .Sub ∧ v = a - b)) (hk : St1 env x)
    (q : ∀ s', FS g c env ((x, D (.int v)) :: del x V) W Y MU GN s₀ s' → wpAny c.M A (execs rest env) Q E s') : wpAny c.M A (execs (.AugAssign (.Name x px) op r pos :: rest) env) Q E s := by
  have key : ∀ (o : Value) (s₁ : Shared), FS g c env V W Y MU GN s₀ s₁ → D (.int a) (hideAll s₁.heap Y) o → wpAny c.M A (eval r env) (fun v' s₂ => wpAny c.M A (inplaceOp op o v') (fun r' s₃ => wpAny c.M A (storeName env x r') (fun _ s₄ => wpAny c.M A (execs rest env) Q E s₄) E s₃) E s₂) E s₁ := fun o s₁ F₁ p => by
    obtain ⟨t, rfl⟩ := D_int.mp p
    refine F₁.ev rm h fun v' s₂ F₂ p₂ => ?_
    obtain ⟨u, rfl⟩ := D_int.mp p₂
    have fin : ∀ t' n, wpAny c.M A (storeName env x (.int v t')) (fun _ s₄ => wpAny c.M A (execs rest env) Q E s₄) E { s₂ with toks := n } := fun t' n => ((F₂.kpstep (Kp.tk _ _)).weaken del_sub).store hk (noName_del x V) (D_int.mpr ⟨_, rfl⟩) (D_mono _) q
    rcases ho with ⟨rfl, rfl⟩ | ⟨rfl, rfl⟩
    · exact AutoIntOps.iadd_0 (fin _ _)
    · exact AutoIntOps.isub_0 (fin _ _)
  refine wpAny_execs_cons (wpAny_AugAssign_Name ?_)
  obtain ⟨o, l, p, _⟩ := F.rd.look x _ hx
  rcases l with ⟨a, m, b, e⟩ | ⟨a, q', b, e⟩
  · exact wpAny_loadName_local F.rd.kind a b e (key o s F p)
  · exact wpAny_loadName_cell F.rd.kind a b e (key o s F p)
end
def escL (x : Str) : List (Int × Str) := escGo 0 false x.cps.toList
def stripStep (x : Str) (st : Int × Option Int × List Str) (d : Int × Str) : Int × Option Int × List Str :=
  if d.2 == "\"" then match st.2.1 with
    | none => (st.1, some d.1, st.2.2)
    | some o => (d.1 + 1, none, if st.1 != o then st.2.2 ++ [Txt.slice x (some st.1) (some o)] else st.2.2)
  else st
def stripAll (x : Str) (pre : List (Int × Str)) : Int × Option Int × List Str := pre.foldl (stripStep x) (0, none, [])
def stripF (x : Str) : Str := if !Txt.contains x "\"" then x else
  Txt.join "" (if decide ((stripAll x (escL x)).1 < x.length) then (stripAll x (escL x)).2.2 ++ [Txt.slice x (some (stripAll x (escL x)).1) none] else (stripAll x (escL x)).2.2)
theorem strip_inv (x : Str) (pre : List (Int × Str)) : (stripAll x pre).2.2.length ≤ pre.length ∧ ∀ p ∈ (stripAll x pre).2.2, p.length ≤ x.length := by
  have key : ∀ (pre : List (Int × Str)) (st : Int × Option Int × List Str), (∀ p ∈ st.2.2, p.length ≤ x.length) → (pre.foldl (stripStep x) st).2.2.length ≤ st.2.2.length + pre.length ∧ ∀ p ∈ (pre.foldl (stripStep x) st).2.2, p.length ≤ x.length := by
    intro pre
    induction pre with
    | nil => intro st h; exact ⟨Nat.le_refl _, h⟩
    | cons d r ih =>
      intro st h
      have h1 : (stripStep x st d).2.2.length ≤ st.2.2.length + 1 ∧ ∀ p ∈ (stripStep x st d).2.2, p.length ≤ x.length := by
        unfold stripStep
        split
        · split
          · exact ⟨Nat.le_succ _, h⟩
          · dsimp only
            split
            · refine ⟨by rw [List.length_append]; exact Nat.le_refl _, fun p hp => ?_⟩
              rcases List.mem_append.mp hp with hp | hp
              · exact h p hp
              · rw [List.mem_singleton.mp hp]; exact Txt.slice_le x _ _
            · exact ⟨Nat.le_succ _, h⟩
        · exact ⟨Nat.le_succ _, h⟩
      obtain ⟨i1, i2⟩ := ih _ h1.2
      refine ⟨?_, i2⟩
      rw [List.length_cons]
      rw [List.foldl_cons]
      omega
  have := key pre (0, none, []) (fun p hp => by cases hp)
  exact ⟨by have h1 := this.1; simp only [List.length_nil] at h1; unfold stripAll; omega, this.2⟩
theorem esc_len : ∀ (rs : List Nat) (p : Nat) (e : Bool), (escGo p e rs).length ≤ rs.length + 1
  | [], p, e => by unfold escGo; split <;> simp
  | ch :: r, p, true => by unfold escGo; rw [List.length_cons, List.length_cons]; have := esc_len r (p + 1) false; omega
  | ch :: r, p, false => by
    unfold escGo
    split
    · have := esc_len r (p + 1) true; rw [List.length_cons]; omega
    · have := esc_len r (p + 1) false; rw [List.length_cons, List.length_cons]; omega
theorem strs_free {b : Bool} {a : Addr} {ss : List Str} : FreeM [(a, LsR b (ss.map .str))] := List.forall_mem_cons.mpr ⟨fun h h' o p => by
  obtain ⟨p1, p2, vs, n, as, p3, p4⟩ := p
  have key : ∀ {ss : List Str} {vs : List Value} {as : List Addr}, ReadsAll h vs (ss.map .str) as → ∃ as', ReadsAll h' vs (ss.map .str) as' := by
    intro ss
    induction ss with
    | nil => intro vs as p; cases p; exact ⟨_, .nil⟩
    | cons x r ih =>
      intro vs as p
      cases p with
      | cons p1 p2 =>
        cases p1
        obtain ⟨as', h⟩ := ih p2
        exact ⟨_, .cons (.str _ _) h⟩
  obtain ⟨as', h⟩ := key p4
  exact ⟨p1, p2, vs, n, as', p3, h⟩, List.forall_mem_nil _⟩
abbrev oD (acc : Option Int) : PyData := match acc with | some b => .int b | none => .none
theorem scal_oD (o : Option Int) : Scal (oD o) := by
  cases o with
  | some i => exact scal_int i
  | none => exact fun _ _ _ p => D_none.mpr (D_none.mp p)
theorem isNone_oD (o : Option Int) : isNone (oD o) = o.isNone := by cases o <;> rfl
abbrev stV (x : Str) (l : Addr) (st : Int × Option Int × List Str) : List (Str × Pr) := [("start", D (.int st.1)), ("open_pos", D (oD st.2.1)), ("result", Is (.ref l)), ("addr", D (.str x))]
theorem strip_ok {c : Cx} {x : Str} (K : Kt c) (hx : x.length < 2000) : DefOK true 7 c "_strip_quoted_realnames" [D (.str x)] (D (.str (stripF x))) := DefOK.of K.strip fun a cd hf => by
  refine call_fn (xs := ["addr"]) hf.2 (bind1 (by rfl)) rfl (by decide) (by decide) (by simp [D_mono]) fun A Y₀ W Y s₀ s L E r hY hW F => ?_
  have hsz := sizeLine_eq
  refine xs_if (b := !Txt.contains x "\"") F r (tr_notInS ev_str (by walk_at "ev")) (fun hc s F => ?_) (fun hc s F => xs_nil ?_)
  · refine xs_return (P := D (.str (stripF x))) F r (evc (d := .str x) (by walk_at "ev") (by unfold stripF; rw [if_pos hc])) fun v s' F' p => RetP.of F'.kp p (D_mono _) hY
  refine xs_assign (P := D (.int 0)) F r ev_int (D_mono _) (st1_fn (by decide)) (by rfl) fun s F => ?_
  refine xs_assign (P := D .none) F r ev_none (D_mono _) (st1_fn (by decide)) (by rfl) fun s F => ?_
  refine xs_newlist (ds := []) F r ar_nil (by decide) (st1_fn (by decide)) (by rfl) fun l s hlY F => ?_
  refine xs_forGen (k := 2) (x := x) (Y₀ := Y₀) (P := D (.str (stripF x))) (Iv := fun _ => True) (Vi := fun pre => stV x l (stripAll x pre)) (MUi := fun pre => [(l, LsR true ((stripAll x pre).2.2.map .str))]) K F r (by rfl) (by walk_at "ev") (fun pre => ?_) (fun pre => strs_free)
    (by walk_at "sub") rfl trivial (st1_fn (by decide)) (st1_fn (by decide)) (fun _ => by rfl) (fun _ _ => by rfl) (fun b hb => .tail _ (hY b hb)) (fun pre d post t₀ s' hxs _ F E' => ?_) (D_mono _) (fun s' _ F => ?_)
  · exact List.forall_mem_cons.mpr ⟨scal_int _, List.forall_mem_cons.mpr ⟨scal_oD _, List.forall_mem_cons.mpr ⟨fun _ _ _ p => p, List.forall_mem_cons.mpr ⟨scal_str _, List.forall_mem_nil _⟩⟩⟩⟩
  · rw [show stripAll x (pre ++ [d]) = stripStep x (stripAll x pre) d from by unfold stripAll; rw [List.foldl_append]; rfl]
    have hi := strip_inv x pre
    have hpl : pre.length ≤ 2001 := by
      have h1 := esc_len x.cps.toList 0 false
      rw [show x.cps.toList.length = x.length from Array.length_toList] at h1
      rw [hxs, List.length_append] at h1
      omega
    generalize stripAll x pre = st at F hi ⊢
    obtain ⟨st1, op, res⟩ := st
    dsimp only at hi F
    unfold stripStep
    dsimp only
    refine xs_if (b := d.2 == "\"") F r (tr_str (op := .Eq) (by walk_at "ev") ev_str rfl) (fun hc s F => ?_) (fun hc s F => xs_nil (xs_nil ⟨trivial, ?_⟩))
    · refine xs_if (b := op.isNone) F r (trc (tr_isN (by walk_at "ev") ev_none) (isNone_oD op)) (fun ho s F => ?_) (fun ho s F => ?_)
      · obtain rfl : op = none := Option.isNone_iff_eq_none.mp ho
        refine xs_reassign (P := D (.int d.1)) F r (by walk_at "ev") (D_mono _) (st1_fn (by decide)) fun s F => xs_nil (xs_nil (xs_nil ⟨trivial, ?_⟩))
        rw [if_pos hc]
        exact F.weaken (by walk_at "sub")
      · obtain ⟨o, rfl⟩ : ∃ o, op = some o := Option.ne_none_iff_exists'.mp fun q => by rw [q] at ho; cases ho
        refine xs_if (b := st1 != o) F r (tr_int (op := .NotEq) (by walk_at "ev") (by walk_at "ev") rfl) (fun hn s F => ?_) (fun hn s F => ?_)
        · refine xs_append (d := .str (Txt.slice x (some st1) (some o))) F (by walk_at "mem") r (by rw [List.length_map]; omega) (ev_cutS (by walk_at "ev") (by walk_at "ev") (by walk_at "ev") (by omega)) fun s F => xs_nil ?_
          refine xs_reassign (P := D (.int (d.1 + 1))) F r (by walk_at "ev") (D_mono _) (st1_fn (by decide)) fun s F => ?_
          refine xs_reassign (P := D .none) F r ev_none (D_mono _) (st1_fn (by decide)) fun s F => xs_nil (xs_nil (xs_nil ⟨trivial, ?_⟩))
          rw [if_pos hc]
          dsimp only
          rw [if_pos hn, List.map_append]
          exact F.weaken (by walk_at "sub")
        · refine xs_nil ?_
          refine xs_reassign (P := D (.int (d.1 + 1))) F r (by walk_at "ev") (D_mono _) (st1_fn (by decide)) fun s F => ?_
          refine xs_reassign (P := D .none) F r ev_none (D_mono _) (st1_fn (by decide)) fun s F => xs_nil (xs_nil (xs_nil ⟨trivial, ?_⟩))
          rw [if_pos hc]
          dsimp only
          rw [if_neg (by rw [hn]; decide)]
          exact F.weaken (by walk_at "sub")
    · rw [if_neg (by rw [hc]; decide)]
      exact F.weaken (by walk_at "sub")
  · have hi := strip_inv x (escL x)
    have hl : (escL x).length ≤ 2001 := by
      have h1 := esc_len x.cps.toList 0 false
      rw [show x.cps.toList.length = x.length from Array.length_toList] at h1
      show (escGo 0 false x.cps.toList).length ≤ _
      omega
    have hF : stripF x = Txt.join "" (if decide ((stripAll x (escL x)).1 < x.length) then (stripAll x (escL x)).2.2 ++ [Txt.slice x (some (stripAll x (escL x)).1) none] else (stripAll x (escL x)).2.2) := by
      unfold stripF; rw [if_neg (by rw [hc]; decide)]
    rw [hF]
    replace F : FS true c (fnEnv a (nmOf (stm 3)) (scOf (stm 3)) cd L) (stV x l (stripAll x (escL x))) (l :: W) (l :: Y) [(l, LsR true ((stripAll x (escL x)).2.2.map .str))] [] s₀ s' := F
    generalize stripAll x (escL x) = st at F hi ⊢
    obtain ⟨st1, op, res⟩ := st
    dsimp only at hi F ⊢
    have fin : ∀ {res' : List Str} {s : Shared}, res'.length ≤ 2002 → (∀ p ∈ res', p.length ≤ x.length) → FS true c (fnEnv a (nmOf (stm 3)) (scOf (stm 3)) cd L) (stV x l (st1, op, res)) (l :: W) (l :: Y) [(l, LsR true (res'.map .str))] [] s₀ s →
        wpAny c.M A (execs ((bodyOf (stm 3)).drop 6) (fnEnv a (nmOf (stm 3)) (scOf (stm 3)) cd L)) (RetP true Y₀ (D (.str (Txt.join "" res'))) s₀) E s := fun h1 h2 F => by
      refine xs_return_rest (P := D (.str (Txt.join "" _))) F (by walk_at "mem") r (ev_join ev_str (by walk_at "ev") ?_) fun v s' F' p => RetP.of F'.kp p (D_mono _) fun b hb => mem_noA.mpr ⟨.tail _ (hY b hb), fun q => hlY (q ▸ hY b hb)⟩
      have := sum_le h2
      have h3 := Nat.mul_le_mul h1 (Nat.le_of_lt hx)
      show _ + _ * 0 ≤ _
      omega
    refine xs_if (b := decide (st1 < x.length)) F r (tr_int (op := .Lt) (by walk_at "ev") (ev_lenS K (by rfl) (by walk_at "ev") (by omega)) rfl) (fun hn s F => ?_) (fun hn s F => xs_nil ?_)
    · refine xs_append (d := .str (Txt.slice x (some st1) none)) F (by walk_at "mem") r (by rw [List.length_map]; omega) (ev_fromS (by walk_at "ev") (by walk_at "ev") (by omega)) fun s F => xs_nil ?_
      rw [if_pos hn]
      refine fin ?_ ?_ (by rw [List.map_append]; exact F)
      · rw [List.length_append]; show _ + 1 ≤ _; omega
      · intro p hp
        rcases List.mem_append.mp hp with hp | hp
        · exact hi.2 p hp
        · rw [List.mem_singleton.mp hp]; exact Txt.slice_le x _ _
    · rw [if_neg (by rw [hn]; decide)]
      exact fin (by omega) hi.2 F
def depthStep (o : Int) (d : Int × Str) : Int := if d.2 == "(" then o + 1 else if d.2 == ")" then o - 1 else o
noncomputable def chkGo : Int → List (Int × Str) → Bool
  | o, [] => o == 0
  | o, d :: r => if d.2 == "(" then chkGo (o + 1) r else if d.2 == ")" then (if decide (o - 1 < 0) then false else chkGo (o - 1) r) else chkGo o r
def chkF (x : Str) : Bool := chkGo 0 (escL (stripF x))
theorem chk_at {xs pre post : List (Int × Str)} {d : Int × Str} {o : Int} (h : chkGo 0 xs = chkGo (pre.foldl depthStep 0) (d :: post)) (hd : ¬ (d.2 == ")" ∧ pre.foldl depthStep 0 - 1 < 0 ∧ (d.2 == "(") = false)) : chkGo 0 xs = chkGo ((pre ++ [d]).foldl depthStep 0) post := by
  rw [h, List.foldl_append]
  show chkGo _ (d :: post) = chkGo (depthStep (pre.foldl depthStep 0) d) post
  generalize pre.foldl depthStep 0 = o' at hd ⊢
  unfold depthStep
  conv => lhs; unfold chkGo
  cases h1 : d.2 == "(" with
  | true => rfl
  | false =>
    cases h2 : d.2 == ")" with
    | true =>
      have h3 : ¬ (o' - 1 < 0) := fun q => hd ⟨h2, q, h1⟩
      simp only [Bool.false_eq_true, if_false, if_true, decide_eq_false h3]
    | false => rfl
theorem check_ok {c : Cx} {x : Str} (K : Kt c) (hx : x.length < 2000) : DefOK true 8 c "_check_parenthesis" [D (.str x)] (D (.bool (chkF x))) := DefOK.of K.check fun a cd hf => by
  refine call_fn (xs := ["addr"]) hf.2 (bind1 (by rfl)) rfl (by decide) (by decide) (by simp [D_mono]) fun A Y₀ W Y s₀ s L E r hY hW F => ?_
  have hsz := sizeLine_eq
  refine xs_reassign (P := D (.str (stripF x))) F r (ev_call (strip_ok K hx) (by rfl) (ar1 (D_mono _) (by walk_at "ev")) (by decide)) (D_mono _) (st1_fn (by decide)) fun s F => ?_
  refine xs_assign (P := D (.int 0)) F r ev_int (D_mono _) (st1_fn (by decide)) (by rfl) fun s F => ?_
  refine xs_forGen (k := 3) (x := stripF x) (Y₀ := Y₀) (P := D (.bool (chkF x))) (Iv := fun pre => ∀ post, escL (stripF x) = pre ++ post → chkF x = chkGo (pre.foldl depthStep 0) post) (Vi := fun pre => [("opens", D (.int (pre.foldl depthStep 0)))]) (MUi := fun pre => []) K F r (by rfl) (by walk_at "ev") (fun pre => ?_) (fun pre => List.forall_mem_nil _)
    (by walk_at "sub") rfl (fun post h => by rw [List.nil_append] at h; rw [← h]; rfl) (st1_fn (by decide)) (st1_fn (by decide)) (fun _ => by rfl) (fun _ _ => by rfl) hY (fun pre d post t₀ s' hxs iv F E' => ?_) (D_mono _) (fun s' iv F => ?_)
  · exact List.forall_mem_cons.mpr ⟨scal_int _, List.forall_mem_nil _⟩
  · have h0 := iv _ hxs
    have next : ¬ (d.2 == ")" ∧ pre.foldl depthStep 0 - 1 < 0 ∧ (d.2 == "(") = false) → ∀ post', escL (stripF x) = (pre ++ [d]) ++ post' → chkF x = chkGo ((pre ++ [d]).foldl depthStep 0) post' := fun hd post' hp => by
      have e : post = post' := by
        have := hxs.symm.trans hp
        rw [List.append_assoc] at this
        exact (List.cons.inj (List.append_cancel_left this)).2
      rw [← e]
      exact chk_at (o := 0) h0 hd
    have hs1 : (pre ++ [d]).foldl depthStep 0 = depthStep (pre.foldl depthStep 0) d := by rw [List.foldl_append]; rfl
    rw [hs1] at next ⊢
    generalize pre.foldl depthStep 0 = o at F h0 next ⊢
    refine xs_if (b := d.2 == "(") F r (tr_str (op := .Eq) (by walk_at "ev") ev_str rfl) (fun hc s F => ?_) (fun hc s F => ?_)
    · refine xs_aug (op := .Add) (v := o + 1) F r (by walk_at "mem") ev_int (.inl ⟨rfl, rfl⟩) (st1_fn (by decide)) fun s F => xs_nil (xs_nil ⟨next fun q => (by rw [hc] at q; cases q.2.2), ?_⟩)
      unfold depthStep
      rw [if_pos hc]
      exact F.weaken (by walk_at "sub")
    · refine xs_if (b := d.2 == ")") F r (tr_str (op := .Eq) (by walk_at "ev") ev_str rfl) (fun hc2 s F => ?_) (fun hc2 s F => xs_nil (xs_nil (xs_nil ⟨next fun q => (by rw [hc2] at q; cases q.1), ?_⟩)))
      · refine xs_aug (op := .Sub) (v := o - 1) F r (by walk_at "mem") ev_int (.inr ⟨rfl, rfl⟩) (st1_fn (by decide)) fun s F => ?_
        refine xs_if (b := decide (o - 1 < 0)) F r (tr_int (op := .Lt) (by walk_at "ev") ev_int rfl) (fun hn s F => ?_) (fun hn s F => xs_nil (xs_nil (xs_nil (xs_nil ⟨next fun q => (by rw [decide_eq_true q.2.1] at hn; cases hn), ?_⟩))))
        · have e : chkF x = false := by
            rw [h0]
            unfold chkGo
            rw [if_neg (by rw [hc]; decide), if_pos hc2, if_pos hn]
          rw [e]
          refine xs_return (P := D (.bool false)) F r ev_bool fun v s' F' p => RetP.of F'.kp p (D_mono _) fun _ h => h
        · unfold depthStep
          rw [if_neg (by rw [hc]; decide), if_pos hc2]
          exact F.weaken (by walk_at "sub")
      · unfold depthStep
        rw [if_neg (by rw [hc]; decide), if_neg (by rw [hc2]; decide)]
        exact F.weaken (by walk_at "sub")
  · refine xs_return (P := D (.bool (chkF x))) F r (evc (ev_cmpI (op := .Eq) (by walk_at "ev") ev_int rfl) ?_) fun v s' F' p => RetP.of F'.kp p (D_mono _) hY
    rw [iv [] (by rw [List.append_nil]; rfl)]
    rfl
def clsBody : Stmt → List Stmt | .ClassDef _ _ _ b _ _ _ _ _ _ _ => b | _ => []
def cst (i : Nat) : Stmt := (clsBody (stm 6)).getD i (.Pass default)
structure WsK (c : Cx) (K : Frag) (C fI fE : Addr) : Prop where
  inH : K.In c.H
  mgC : c.mg "Whitespace" = some (.ref C)
  makes : makesIn K C = true
  keep : keepIn K (.ref C) = true
  keepE : keepIn K (.ref fE) = true
  init : findIn K (.ref C) "__init__" = some (some (.ref fI))
  fnI : isFn K (.ref fI) = true
  hs : findIn K (.ref C) "__setattr__" = some (some (.builtin "object.__setattr__"))
  hp : plainOver K C = true
  hh : hasDictIn K C = true
  hg : plainGet K C "" = true
  no : ∀ x ∈ (["raw", "n", "nt", "norm", "is_simple"] : List Str), findIn K (.ref C) x = some none
  eq : findIn K (.ref C) "equal" = some (some (.ref fE))
  fnE : isFn K (.ref fE) = true
  rd : readsIn K C (.type "type") = true
  cS : ∃ t, findCls K (.ref C) (.type "type") "S" = some (.val (.str " " t))
  cT : ∃ t, findCls K (.ref C) (.type "type") "T" = some (.val (.str "\t" t))
  I : ∃ cd, IsFn c fI "Whitespace.__init__" (parOf (cst 1)) (bodyOf (cst 1)) (scOf (cst 1)) cd
  E : ∃ cd, IsFn c fE "Whitespace.equal" (parOf (cst 4)) (bodyOf (cst 4)) (scOf (cst 4)) cd
inductive Ents (h : Heap) : List (Str × PyData) → List DictEntry → Prop
  | nil : Ents h [] []
  | cons {x : Str} {d : PyData} {fs : List (Str × PyData)} {es : List DictEntry} {hs : Int} {t : Tok} {v : Value} : D d h v → Ents h fs es → Ents h ((x, d) :: fs) (⟨hs, .str x t, v⟩ :: es)
theorem Ents.keeps {h h' : Heap} {fs : List (Str × PyData)} {es : List DictEntry} (e : Ents h fs es) (k : h.StaysIn h') : Ents h' fs es := by
  induction e with
  | nil => exact .nil
  | cons p _ ih => exact .cons (D_mono _ _ _ _ k p) ih
theorem Ents.len {h : Heap} {fs : List (Str × PyData)} {es : List DictEntry} (e : Ents h fs es) : es.length = fs.length := by
  induction e with
  | nil => rfl
  | cons _ _ ih => rw [List.length_cons, List.length_cons, ih]
theorem Ents.noref {h : Heap} {fs : List (Str × PyData)} {es : List DictEntry} (e : Ents h fs es) : es.any (·.refKey) = false := by
  induction e with
  | nil => rfl
  | cons _ _ ih => rw [List.any_cons, ih]; rfl
theorem isStr_str (x y : Str) (t : Tok) : (Value.str x t).isStr y = (x == y) := rfl
theorem Ents.get {h : Heap} {fs : List (Str × PyData)} {es : List DictEntry} (e : Ents h fs es) {x : Str} {d : PyData} (hl : fs.lookup x = some d) : ∃ v, getL x es = some (some v) ∧ D d h v := by
  induction e with
  | nil => cases hl
  | @cons y d' fs es hs t v p _ ih =>
    rw [List.lookup_cons] at hl
    unfold getL at ih ⊢
    rw [List.find?_cons, isStr_str, List.any_cons]
    cases q : (x == y) with
    | true =>
      rw [q] at hl
      cases hl
      rw [show (y == x) = true from by rw [beq_iff_eq] at q ⊢; exact q.symm]
      exact ⟨_, rfl, p⟩
    | false =>
      rw [q] at hl
      rw [show (y == x) = false from by rw [beq_eq_false_iff_ne] at q ⊢; exact fun z => q z.symm]
      exact ih hl
theorem Ents.miss {h : Heap} {fs : List (Str × PyData)} {es : List DictEntry} (e : Ents h fs es) {x : Str} (hl : fs.lookup x = none) : getL x es = some none := by
  have hf : es.find? (·.key.isStr x) = none := by
    induction e with
    | nil => rfl
    | @cons y d' fs es hs t v p _ ih =>
      rw [List.lookup_cons] at hl
      rw [List.find?_cons, isStr_str]
      cases q : (x == y) with
      | true => rw [q] at hl; cases hl
      | false =>
        rw [q] at hl
        rw [show (y == x) = false from by rw [beq_eq_false_iff_ne] at q ⊢; exact fun z => q z.symm]
        exact ih hl
  unfold getL
  rw [hf, e.noref]; rfl
theorem Ents.put {h : Heap} {fs : List (Str × PyData)} {es : List DictEntry} (e : Ents h fs es) {x : Str} {d : PyData} {hs : Int} {t : Tok} {v : Value} (hl : fs.lookup x = none) (p : D d h v) : Ents h (fs ++ [(x, d)]) (putL x hs (.str x t) v es) := by
  induction e with
  | nil => exact .cons p .nil
  | @cons y d' fs es hs' t' v' p' _ ih =>
    rw [List.lookup_cons] at hl
    cases q : (x == y) with
    | true => rw [q] at hl; cases hl
    | false =>
      rw [q] at hl
      unfold putL
      rw [isStr_str, show (y == x) = false from by rw [beq_eq_false_iff_ne] at q ⊢; exact fun z => q z.symm, if_neg Bool.false_ne_true]
      exact .cons p' (ih hl)
def DcR (fs : List (Str × PyData)) : Rp := fun h o => ∃ es n, o = dictOf es n ∧ Ents h fs es
theorem DcR_mono (fs : List (Str × PyData)) : Mono2 (DcR fs) := fun _ _ _ k ⟨es, n, e, p⟩ => ⟨es, n, e, p.keeps k⟩
def WsP (C : Addr) (fs : List (Str × PyData)) : Pr := fun h v => ∃ x dx o, v = .ref x ∧ h.get? x = some (instObj C dx) ∧ h.get? dx = some o ∧ DcR fs h o
theorem WsP_mono (C : Addr) (fs : List (Str × PyData)) : Mono (WsP C fs) := fun _ _ _ k ⟨x, dx, o, e, h1, h2, h3⟩ => ⟨x, dx, o, e, k _ _ h1, k _ _ h2, DcR_mono fs _ _ _ k h3⟩
theorem handed_D {d : PyData} {h : Heap} {v : Value} (p : D d h v) : handedIn v = true := by
  obtain ⟨as, r⟩ := p
  cases r <;> rfl
section
variable {prog : Program} {w : World} {A : Around} {E : Value → Shared → Prop} {s : Shared} {K : Frag} {C x dx : Addr} {R : Result → Shared → Prop} {name : Str} {v : Value} {es : List DictEntry} {n : Nat}
theorem set_attr {Q : Unit → Shared → Prop} (X : K.In s.heap) (hx : s.heap.get? x = some (instObj C dx)) (hdx : s.heap.get? dx = some (dictOf es n)) (hs : findIn K (.ref C) "__setattr__" = some (some (.builtin "object.__setattr__"))) (hp : plainOver K C = true)
    (ht : findIn K (.ref C) name = some none) (hh : hasDictIn K C = true) (hl : (getL name es).isSome = true) (hz : (putL name (PyData.keyHash w.params name) (.str name (s.toks + 1)) v es).length ≤ 1000) (hr : es.any (·.refKey) = false)
    (h : Q () { s with heap := s.heap.update dx (Obj.putName name (PyData.keyHash w.params name) (.str name (s.toks + 1)) v), toks := s.toks + 2 }) :
    wpAny (model prog w) A (setAttr (.ref x) name v) Q E s := by
  have I : InstAt s.heap x (instObj C dx) C (some (dictOf es n)) := ⟨hx, rfl, rfl, hdx⟩
  refine set_plain X I hs (osa_open X (s := { s with toks := s.toks + 1 }) I hp (by unfold takerIn; rw [ht]; rfl) fun b => ?_)
  obtain ⟨cd, hc, hd'⟩ := any_some hh
  refine wpAny_bind (wpAny_pure (wpAny_bind (wpAny_bind (wpAny_loadPart hx (wpAny_bind ((looks_clsIn (h := ({ s with toks := s.toks + 1 } : Shared).heap) X hc).here (s := { s with toks := s.toks + 1 }) ?_))))))
  rw [hd']
  refine wpAny_pure (a := some dx) (wpAny_bind (wpAny_pure (wpAny_bind ?_)))
  unfold nsSet
  refine wpAny_bind (wpAny_bind (wpAny_askSetting (wpAny_pure (wpAny_bind (wpAny_mkText (wpAny_bind (wpAny_loadPart hdx ?_)))))))
  dsimp only
  rw [aRefKeyMayBeTheName_at, show (es.toArray.any (·.refKey)) = false from by rw [← Array.any_toList]; exact hr, Bool.and_false]
  refine wpAny_updatePart hdx ?_
  have D' : (s.heap.update dx (Obj.putName name (PyData.keyHash w.params name) (.str name (s.toks + 1)) v)).get? dx = some (dictOf (putL name (PyData.keyHash w.params name) (.str name (s.toks + 1)) v es) (putN name es n)) := by
    rw [← putName_dict]
    exact Heap.get?_update_self _ hdx (by rw [putName_dict]; rfl)
  refine wpAny_bind (wpAny_lookBehind D' (pastItsLine_dict (by rw [List.size_toArray, sizeLine_eq]; omega)) ?_)
  exact wpAny_pure h
end
section
variable {g b : Bool} {k : Nat} {c : Cx} {env : Env} {V V' : List (Str × Pr)} {W W' Y Y' : List Addr} {MU MU' : List (Addr × Rp)} {GN : List (Nat × GenState)} {s₀ s s' : Shared} {a : Addr} {A : Around} {Q : Flow → Shared → Prop} {E : Value → Shared → Prop} {e l r ie : Expr} {pos px lp tp : Pos} {x : Str} {rest body orelse : List Stmt} {ds : List PyData} {R : Rp}
theorem FS.shrink (F : FS g c env V W Y MU GN s₀ s) (hW : ∀ b ∈ W', b ∈ W ∧ b ∈ Y') (hY : ∀ b ∈ Y', b ∈ Y) (hl : env.locals ∈ W') (hc : ∀ x b, env.cells.lookup x = some b → env.locals < b → b ∈ W')
    (hm : ∀ p ∈ MU', p.1 ∈ W' ∧ Mono2 p.2 ∧ ∃ q ∈ MU, q.1 = p.1 ∧ ∀ h o, q.2 h o → p.2 h o) (hd : MU'.Pairwise fun p q => p.1 ≠ q.1) : FS g c env V W' Y' MU' GN s₀ s := by
  have st : (hideAll s.heap Y).StaysIn (hideAll s.heap Y') := hide_anti hY
  refine ⟨⟨F.rd.kind, F.rd.eg, F.rd.eb, F.rd.ok, F.rd.base, fun b hb => F.rd.ex b (hY b hb), fun x P hx => ?_⟩, F.kp, F.b0, fun b hb => ⟨(hW b hb).2, (F.sub b (hW b hb).1).2⟩, hl, F.ns, fun x b e => ?_, F.inj, fun p hp => ?_, hd, F.gn⟩
  · obtain ⟨v, l, p, mo⟩ := F.rd.look x P hx
    exact ⟨v, l, mo _ _ _ st p, mo⟩
  · obtain ⟨p, q, r⟩ := F.cel x b e; exact ⟨p, hc x b e, r⟩
  · obtain ⟨h1, h2, q, hq, e, h3⟩ := hm p hp
    obtain ⟨p1, p2, p3, p4, o, p5, p6⟩ := F.mu q hq
    rw [e] at p2 p3 p5
    exact ⟨h1, p2, p3, h2, o, p5, h3 _ _ (p4 _ _ _ st p6)⟩
theorem FS.settle (F : FS g c env V (a :: W) (a :: Y) ((a, LsR b ds) :: MU) GN s₀ s) (hx : (x, Is (.ref a)) ∈ V) (haY : a ∉ Y) (hW : ∀ b ∈ W, b ∈ Y) : FS g c env ((x, D (.list ds)) :: V) W Y MU GN s₀ s := by
  have O := F.ownTail haY hW
  have F₁ := F.drop O.sub O.loc O.cel O.mu
  obtain ⟨_, _, _, _, o, ho, hc, _, vs, n, as, hd, r⟩ := F.mu _ (.head _)
  exact F₁.addV hx (mk_list (isList_hide ⟨o, ho, hc, n, hd⟩ haY) (ReadsAll.keeps (hide_anti fun b hb => .tail _ hb) r)) (D_mono _)
theorem ints_any {h h' : Heap} : ∀ {ns : List Int} {vs : List Value} {as : List Addr}, ReadsAll h vs (ns.map .int) as → ∃ as', ReadsAll h' vs (ns.map .int) as'
  | [], _, _, p => by cases p; exact ⟨_, .nil⟩
  | _ :: _, _, _, p => by
    cases p with
    | cons p1 p2 =>
      cases p1
      obtain ⟨as', h⟩ := ints_any p2
      exact ⟨_, .cons (.int _ _) h⟩
theorem readsAll_app {h : Heap} {ws : List Value} {es : List PyData} {bs : List Addr} : ∀ {vs : List Value} {ds : List PyData} {as : List Addr}, ReadsAll h vs ds as → ReadsAll h ws es bs → ∃ cs, ReadsAll h (vs ++ ws) (ds ++ es) cs
  | _, _, _, .nil, r => ⟨_, r⟩
  | _, _, _, .cons r rs, r' => let ⟨cs, q⟩ := readsAll_app rs r'; ⟨_, .cons r q⟩
theorem xs_if_rest {t : Expr} {v : Bool} (F : FS g c env V W Y ((a, LsR b ds) :: MU) GN s₀ s) (hx : (x, Is (.ref a)) ∈ V) (rm : Room k A) (h : TrOK g k c env ((x, D (.list ds)) :: V) t v)
    (ht : v = true → ∀ s', FS g c env V W Y ((a, LsR b ds) :: MU) GN s₀ s' → wpAny c.M A (execs body env) (thenK c A env rest Q E) E s')
    (hf : v = false → ∀ s', FS g c env V W Y ((a, LsR b ds) :: MU) GN s₀ s' → wpAny c.M A (execs orelse env) (thenK c A env rest Q E) E s') : wpAny c.M A (execs (.If t body orelse pos :: rest) env) Q E s :=
  wpAny_execs_cons (wpAny_If (h A _ s _ E rm (F.restN hx) fun s₁ kp => by
    have F₁ := F.kpstep kp
    cases v with
    | true => exact wpAny_mono (ht rfl s₁ F₁) (fun f s h => by cases f <;> exact h) fun _ _ e => e
    | false => exact wpAny_mono (hf rfl s₁ F₁) (fun f s h => by cases f <;> exact h) fun _ _ e => e))
theorem xs_setitem_rest {i : Int} {d : PyData} (F : FS g c env V W Y ((a, LsR b ds) :: MU) GN s₀ s) (hx : (x, Is (.ref a)) ∈ V) (rm : Room k A) (he : EvOK g k c env ((x, D (.list ds)) :: V) e (D d)) (hsc : Scal d) (hie : EvOK g k c env V ie (D (.int i)))
    (h0 : 0 ≤ i) (hi : i < ds.length) (hf : i < 2 ^ 63) (q : ∀ s', FS g c env V W Y ((a, LsR false (ds.set i.toNat d)) :: MU) GN s₀ s' → wpAny c.M A (execs rest env) Q E s') (hd : (x == ("__debug__" : Str)) = false := by decide)
    (hs : swapsWith e (some (.Subscript (.Name x lp) ie tp)) pos.line env = pure false := by rfl) : wpAny c.M A (execs (.Assign [.Subscript (.Name x lp) ie tp] e pos :: rest) env) Q E s := by
  refine wpAny_execs_cons (wpAny_Assign_Subscript (he A _ s _ E rm (F.restN hx) fun v s₁ k₁ p => ?_) hs)
  refine (ev_name (g := g) (k := k) (c := c) hx hd) A Y s₁ _ E rm (F.kpstep k₁).rd fun w s₂ k₂ pw => ?_
  cases pw
  refine ((F.kpstep k₁).kpstep k₂).ev rm hie fun iv s₃ F₃ pi => ?_
  obtain ⟨t, rfl⟩ := D_int.mp pi
  exact F₃.setItem (hsc _ _ _ p) h0 hi hf fun s' F' => q s' F'
theorem xs_concat {n0 : Pos} {ns ms : List Int} (F : FS g c env V W Y ((a, LsR b (ns.map .int)) :: MU) GN s₀ s) (hx : (x, Is (.ref a)) ∈ V) (rm : Room k A) (he : EvOK g k c env ((x, D (.list (ns.map .int))) :: V) r (D (.list (ms.map .int)))) (hk : St1 env x)
    (hsz : ns.length + ms.length ≤ sizeLine) (q : ∀ a' s', a' ∉ Y → a' ≠ a → FS g c env ((x, Is (.ref a')) :: del x V) (a' :: W) (a' :: Y) ((a', LsR true ((ns ++ ms).map .int)) :: (a, LsR b (ns.map .int)) :: MU) GN s₀ s' → wpAny c.M A (execs rest env) Q E s')
    (hd : (x == ("__debug__" : Str)) = false := by decide) (hs : swapsWith (.BinOp (.Name x n0) .Add r lp) (some (.Name x px)) pos.line env = pure false := by rfl) :
    wpAny c.M A (execs (.Assign [.Name x px] (.BinOp (.Name x n0) .Add r lp) pos :: rest) env) Q E s := by
  refine wpAny_execs_cons (wpAny_Assign_Name (wpAny_BinOp ((ev_name (g := g) (k := k) (c := c) hx hd) A Y s _ E rm F.rd fun w s₁ k₁ pw => ?_)) hs)
  cases pw
  have F₁ := F.kpstep k₁
  refine he A _ s₁ _ E rm (F₁.restN hx) fun w s₂ k₂ p => ?_
  have F₂ := F₁.kpstep k₂
  obtain ⟨_, _, _, _, ⟨cls, dd, data, sl⟩, ho, hc, _, vs, n, as, hda, r1⟩ := F₂.mu _ (.head _)
  obtain ⟨l2, ws, as2, rfl, ⟨⟨cls2, dd2, data2, sl2⟩, ho2, hc2, n2, hd2⟩, r2⟩ := D_list p
  simp only at hc hda hc2 hd2
  subst hc hda hc2 hd2
  have ho2' := of_hideAll _ ho2
  have l1 : vs.length = ns.length := by rw [PyProof.Rows.readsAll_len _ r1, List.length_map]
  have l2' : ws.length = ms.length := by rw [PyProof.Rows.readsAll_len _ r2, List.length_map]
  refine concat_meets ⟨_, ho, rfl⟩ ⟨_, ho2', rfl⟩ noFill_list_add seq_list_add PySem.F.slot_list_add PySem.F.entry_list_add (PySem.F.args_list_add_2 _ _) (list_addW a l2 vs.toArray ws.toArray n n2 dd dd2 sl sl2 (by simp only [List.size_toArray]; omega)) ⟨ho, ho2', ?_⟩
  rw [show vs.toArray ++ ws.toArray = (vs ++ ws).toArray by simp]
  have hI : s₂.heap.get? s₂.heap.objs.size = none := get_none (Nat.le_refl _)
  obtain ⟨as1', r1'⟩ := ints_any (h' := hideAll s₂.heap Y) r1
  obtain ⟨as2', r2'⟩ := ints_any (h' := hideAll s₂.heap Y) r2
  have rr : ∃ as', ReadsAll (hideAll s₂.heap Y) (vs ++ ws) ((ns ++ ms).map .int) as' := by rw [List.map_append]; exact readsAll_app r1' r2'
  obtain ⟨as', rr⟩ := rr
  have kp : Kp g s₂ { s₂ with heap := s₂.heap.push { cls := .type "list", data := .seq (vs ++ ws).toArray } } := Kp.push s₂ _
  have F₃ := F₂.adopt (R := LsR true ((ns ++ ms).map .int)) kp hI (Heap.get?_push_size _ rfl) ⟨rfl, fun _ => rfl, vs ++ ws, _, as', rfl, rr⟩ (LsR_mono _ _)
  refine (F₃.weaken del_sub).store hk (noName_del x V) rfl (Is_mono _) fun s' F' => q _ s' (F₂.notin hI) (fun z => ?_) F'
  rw [z] at hI; rw [hI] at ho; cases ho
end
section
variable {g b : Bool} {k : Nat} {c : Cx} {env : Env} {V V' : List (Str × Pr)} {W W' Y Y' : List Addr} {MU MU' : List (Addr × Rp)} {GN : List (Nat × GenState)} {s₀ s s' : Shared} {a : Addr} {A : Around} {Q : Flow → Shared → Prop} {E : Value → Shared → Prop} {e l r ie : Expr} {pos px lp tp : Pos} {x : Str} {rest body orelse : List Stmt} {ds : List PyData} {R : Rp}
theorem mul_raw {prog : Program} {w : World} {A : Around} {E : Value → Shared → Prop} {s : Shared} {a : Addr} {arr : Array Value} {m : Nat} {dd : Option Addr} {sl : Array (Option Value)} {n : Int} {u : Tok} {Q : Value → Shared → Prop}
    (ho : s.heap.get? a = some { cls := .type "list", dict := dd, data := .seq arr m, slots := sl }) (hlo : 0 ≤ n) (hhi : n ≤ 16777216) (hz : arr.size * n.toNat ≤ 16777216)
    (h : Q (.ref s.heap.objs.size) { s with heap := s.heap.push { cls := .type "list", data := .seq (List.foldl (fun x1 x2 => x1 ++ x2) #[] (List.replicate (if arr.isEmpty = true then 0 else n.toNat) arr)) } }) : wpAny (model prog w) A (binaryOp .Mult (.ref a) (.int n u)) Q E s := by
  refine wpAny_binaryOp_repeat_ref (T := "list") (U := "int") (by decide) ⟨_, ho, rfl⟩ (fun s' => typeIs_int s' n u) noFill_list_mul F.fills_int_mul F.slot_int_rmul repeat_list F.slot_int_index.lookup ?_
  refine call_meets F.slot_int_rmul (typeIs_int s n u) F.entry_int_rmul (F.args_int_rmul_2 _ _) (lm_int_rmul_list_any n u a arr m dd sl) ⟨ho, ?_⟩
  refine ⟨rfl, ⟨_, ho, rfl⟩, ?_⟩
  exact call_meets F.slot_list_mul ⟨_, ho, rfl⟩ F.entry_list_mul (F.args_list_mul_2 _ _) (lm_list_mul_any a arr m dd sl n u (by simp [Builtin.List.listFitsIndex]; omega) (by omega) (by simp [Builtin.List.listTooLong, sizeLine]; omega)) ⟨ho, h⟩
theorem ev_mulL {z n : Int} (h1 : EvOK g k c env V l (D (.list [.int z]))) (h2 : EvOK g k c env V r (D (.int n))) (hlo : 0 ≤ n) (hhi : n ≤ 16777216) : EvOK g k c env V (.BinOp l .Mult r pos) (D (.list ((List.replicate n.toNat z).map .int))) :=
  ev_bin h1 h2 (D_mono _) fun A Y s _ _ Q E rm st p1 p2 q => by
    obtain ⟨a, vs, as, rfl, ⟨⟨cls, dd, data, sl⟩, ho, hc, m, hd⟩, rr⟩ := D_list p1
    obtain ⟨u, rfl⟩ := D_int.mp p2
    simp only at hc hd
    subst hc hd
    have ho := of_hideAll _ ho
    obtain ⟨v, rfl, t, rfl⟩ : ∃ v, vs = [v] ∧ ∃ t, v = .int z t := by
      cases rr with
      | cons r1 r2 => cases r2; cases r1; exact ⟨_, rfl, _, rfl⟩
    have hz : ([Value.int z t].toArray).size = 1 := rfl
    have e : List.foldl (fun x1 x2 => x1 ++ x2) #[] (List.replicate (if ([Value.int z t].toArray).isEmpty = true then 0 else n.toNat) [Value.int z t].toArray) = (List.replicate n.toNat (Value.int z t)).toArray := by
      rw [listMul_foldl_if]
      generalize n.toNat = w
      congr 1
      induction w with
      | zero => rfl
      | succ w ih => rw [List.replicate_succ, List.replicate_succ, List.flatten_cons, ih]; rfl
    generalize [Value.int z t].toArray = arr at ho hz e
    have h1 : arr.size * n.toNat ≤ 16777216 := by rw [hz]; omega
    have h2 := mul_raw (prog := c.prog) (w := c.w) (A := A) (E := E) (Q := Q) (u := u) ho hlo hhi h1
    refine h2 ?_
    rw [e]
    have kp : Kp g s { s with heap := s.heap.push { cls := .type "list", data := .seq (List.replicate n.toNat (Value.int z t)).toArray } } := Kp.push s _
    have rr : ∀ (h : Heap) (w : Nat), ∃ as, ReadsAll h (List.replicate w (Value.int z t)) ((List.replicate w z).map .int) as := fun h w => by
      induction w with
      | zero => exact ⟨_, .nil⟩
      | succ w ih => obtain ⟨as, q⟩ := ih; exact ⟨_, .cons (.int _ _) q⟩
    obtain ⟨as', rr⟩ := rr _ n.toNat
    exact q _ _ kp (mk_list (isList_hide ⟨_, Heap.get?_push_size _ rfl, rfl, _, rfl⟩ st.fresh) rr)
end
section
variable {g b : Bool} {k : Nat} {c : Cx} {env : Env} {V V' : List (Str × Pr)} {W W' Y Y' : List Addr} {MU MU' : List (Addr × Rp)} {GN : List (Nat × GenState)} {s₀ s s' : Shared} {a : Addr} {A : Around} {Q : Flow → Shared → Prop} {E : Value → Shared → Prop} {e l r ie : Expr} {pos px lp tp : Pos} {x : Str} {rest body orelse : List Stmt} {ds : List PyData} {R : Rp}
theorem xs_two {y : Str} {py pt : Pos} {nn : Nat} {d1 d2 : PyData} (F : FS g c env V W Y MU GN s₀ s) (rm : Room k A) (h : EvOK g k c env V e (D (.tuple [d1, d2]))) (c1 : Scal d1) (c2 : Scal d2) (kx : St1 env x) (ky : St1 env y) (ny : noName y V = true) (nx : noName x ((y, D d2) :: V) = true)
    (q : ∀ s', FS g c env ((x, D d1) :: (y, D d2) :: V) W Y MU GN s₀ s' → wpAny c.M A (execs rest env) Q E s')
    (hs : swapsWithSole [.Tuple [.Name x px, .Name y py] nn pt] e pos.line env = pure false := by rfl) (hw : swappedStores [.Tuple [.Name x px, .Name y py] nn pt] e env = pure (some [x, y]) := by rfl) :
    wpAny c.M A (execs (.Assign [.Tuple [.Name x px, .Name y py] nn pt] e pos :: rest) env) Q E s := by
  refine wpAny_execs_cons (PyProof.Rows.Assign_Tuple_swapped (names := [x, y]) (F.ev rm h fun v s₁ F₁ p => ?_) hs hw)
  obtain ⟨T, vs, as, rfl, hT, hr⟩ := D_tuple p
  cases hr with
  | cons r1 hr =>
    cases hr with
    | cons r2 hr =>
      cases hr
      rename_i v1 b1 v2 b2
      have hT' : s₁.heap.IsTuple T #[v1, v2] := let ⟨o, h1, h2⟩ := hT; ⟨o, of_hideAll _ h1, h2⟩
      have un := fun Q' hQ => wpAny_unpackItems_tuple (prog := c.prog) (w := c.w) (A := A) (E := E) (s := s₁) (items := #[v1, v2]) (Q := Q') rm.1 hT' hQ
      refine un _ fun h' hx => ?_
      have st : s₁.heap.StaysIn h' := fun b o e => hx b o (Nat.ne_of_lt (Heap.lt_size e)) e
      have F₂ := F₁.kpstep (Kp.hp' (s := s₁) (g := g) st)
      show wpAny c.M A (do holding _ (bindName env y _); do holding [] (bindName env x _); pure ()) _ _ _
      refine wpAny_bind (wpAny_holding (PyProof.Rows.bindName_ (F₂.store ky ny (c2 _ _ _ ⟨_, r2⟩) (D_mono _) fun s₃ F₃ => ?_)))
      exact wpAny_bind (wpAny_holding (PyProof.Rows.bindName_ (F₃.store kx nx (c1 _ _ _ ⟨_, r1⟩) (D_mono _) fun s₄ F₄ => wpAny_pure (q s₄ F₄))))
theorem xs_three {y z : Str} {py pz : Pos} {d : PyData} (F : FS g c env V W Y MU GN s₀ s) (rm : Room k A) (h : EvOK g k c env V e (D d)) (cd : Scal d) (kx : St1 env x) (ky : St1 env y) (kz : St1 env z) (nx : noName x V = true) (ny : noName y ((x, D d) :: V) = true) (nz : noName z ((y, D d) :: (x, D d) :: V) = true)
    (q : ∀ s', FS g c env ((z, D d) :: (y, D d) :: (x, D d) :: V) W Y MU GN s₀ s' → wpAny c.M A (execs rest env) Q E s')
    (hw : swappedStores [.Name x px, .Name y py, .Name z pz] e env = pure none := by rfl) : wpAny c.M A (execs (.Assign [.Name x px, .Name y py, .Name z pz] e pos :: rest) env) Q E s :=
  wpAny_execs_cons (wpAny_Assign_three (F.ev rm h fun v s₁ F₁ p => wpAny_assign_Name (F₁.store kx nx p (D_mono _) fun s₂ F₂ => wpAny_assign_Name (F₂.store ky ny (cd _ _ _ p) (D_mono _) fun s₃ F₃ => wpAny_assign_Name (F₃.store kz nz (cd _ _ _ p) (D_mono _) fun s₄ F₄ => q s₄ F₄)))) (by rfl) hw)
theorem ev_cls {K : Frag} {C fI fE : Addr} {at' : Str} {v : Str} {t : Tok} {np : Pos} (Ws : WsK c K C fI fE) (hk : env.kindOf "Whitespace" = some .globalImplicit) (hf : findCls K (.ref C) (.type "type") at' = some (.val (.str v t))) :
    EvOK g k c env V (.Attribute (.Name "Whitespace" np) at' pos) (D (.str v)) := fun A Y s Q E rm st q => by
  refine PyProof.Rows.Attribute_name ((ev_glob (g := g) (k := k) (V := V) hk Ws.mgC (by decide)) A Y s _ E rm st fun w s₁ k₁ p => ?_)
  cases p
  exact cls_value (Ws.inH.keeps (st.kp k₁).base) Ws.rd hf rfl (q _ _ (k₁.trans (Kp.tk _ _)) (D_str.mpr ⟨_, rfl⟩))
theorem ev_attr {K : Frag} {C fI fE : Addr} {at' n : Str} {np : Pos} {fs : List (Str × PyData)} {d : PyData} (Ws : WsK c K C fI fE) (h : EvOK g k c env V (.Name n np) (WsP C fs)) (hl : fs.lookup at' = some d) (hn : at' ∈ (["raw", "n", "nt", "norm", "is_simple"] : List Str)) :
    EvOK g k c env V (.Attribute (.Name n np) at' pos) (D d) := fun A Y s Q E rm st q => by
  refine PyProof.Rows.Attribute_name (h A Y s _ E rm st fun w s₁ k₁ p => ?_)
  obtain ⟨x, dx, o, rfl, h1, h2, es, m, rfl, h3⟩ := p
  obtain ⟨v, g1, g2⟩ := h3.get hl
  have X := Ws.inH.keeps (st.kp k₁).base
  exact get_value X ⟨of_hideAll _ h1, rfl, rfl, of_hideAll _ h2⟩ (plainGet_of Ws.hg).1 (findObj_own (od := dictOf es m) Ws.hh (Ws.no _ hn) rfl ((lookIn_dict _ _ _).trans g1)) (handed_D g2) (q _ _ (k₁.trans (Kp.tk _ _)) g2)
theorem xs_setattr {K : Frag} {C fI fE dx xo : Addr} {at' n : Str} {np ap : Pos} {fs : List (Str × PyData)} {d : PyData} (Ws : WsK c K C fI fE) (F : FS g c env V W Y ((dx, DcR fs) :: MU) GN s₀ s) (hx : s₀.heap.get? xo = some (instObj C dx)) (hs : (n, Is (.ref xo)) ∈ V) (rm : Room k A)
    (h : EvOK g k c env V e (D d)) (hl : fs.lookup at' = none) (hn : at' ∈ (["raw", "n", "nt", "norm", "is_simple"] : List Str)) (hz : fs.length ≤ 100)
    (q : ∀ s', FS g c env V W Y ((dx, DcR (fs ++ [(at', d)])) :: MU) GN s₀ s' → wpAny c.M A (execs rest env) Q E s') (hd : (n == ("__debug__" : Str)) = false := by decide)
    (hsw : swapsWith e (some (.Attribute (.Name n np) at' ap)) pos.line env = pure false := by rfl) : wpAny c.M A (execs (.Assign [.Attribute (.Name n np) at' ap] e pos :: rest) env) Q E s := by
  refine wpAny_execs_cons (plainObj_wpAny_Assign_Attribute (F.ev rm h fun v s₁ F₁ p => ?_) hsw)
  refine (ev_name (g := g) (k := k) (c := c) hs hd) A Y s₁ _ E rm F₁.rd fun w s₂ k₂ pw => ?_
  cases pw
  have F₂ := F₁.kpstep k₂
  obtain ⟨_, _, _, _, o, ho, es, m, rfl, h3⟩ := F₂.mu _ (.head _)
  have hput := h3.put (hs := PyData.keyHash c.w.params at') (t := s₂.toks + 1) hl (D_mono _ _ _ _ (hide_stays k₂.heap) p)
  refine set_attr (Ws.inH.keeps F₂.rd.base) (F₂.kp.heap _ _ hx) ho Ws.hs Ws.hp (Ws.no _ hn) Ws.hh (by rw [h3.miss hl]; rfl) (by rw [hput.len, List.length_append]; show _ + 1 ≤ _; omega) h3.noref ?_
  refine q _ (F₂.put (tk := s₂.toks + 2) (fun b o hb e => ?_) (Heap.get?_update_self _ ho (by rw [putName_dict]; rfl)) ⟨_, _, putName_dict .., hput⟩ (DcR_mono _))
  rw [Heap.get?_update_ne _ _ _ _ hb]; exact e
end
section
variable {g b : Bool} {k : Nat} {c : Cx} {env : Env} {V V' : List (Str × Pr)} {W Y Y₀ Wm : List Addr} {Mm : List (Addr × Rp)} {GN : List (Nat × GenState)} {s₀ s s' : Shared} {a : Addr} {P : Pr}
theorem call_fnM {qual : Str} {par : Arguments} {body : List Stmt} {sc : Scope} {cd : Value} {Ps : List Pr} {xs : List Str} {A : Around} {vs : List Value} {R : Result → Shared → Prop} (hf : IsFn c a qual par body sc cd)
    (hbind : ∀ fd vs, fd.params = par → fd.defaults = .none → fd.kwdefaults = .none → vs.length = xs.length → bindArgs fd ⟨vs, []⟩ = pure (xs.zip vs))
    (hlen : Ps.length = xs.length) (hnd : xs.Nodup) (hst : ∀ x ∈ xs, sc.names.lookup x = some .local ∨ sc.names.lookup x = some .cell) (mPs : ∀ P ∈ Ps, Mono P)
    (rm : Room (k + 1) A) (ok : c.Ok) (bs : c.H.StaysIn s.heap) (ex : ∀ b ∈ Wm ++ Y, (s.heap.get? b).isSome = true) (hWm : ∀ b ∈ Wm, c.H.get? b = none)
    (hMm : ∀ p ∈ Mm, p.1 ∈ Wm ∧ Mono2 p.2 ∧ ∃ o, s.heap.get? p.1 = some o ∧ p.2 (hideAll s.heap (Wm ++ Y)) o) (hMd : Mm.Pairwise fun p q => p.1 ≠ q.1) (a2 : All2 Ps (hideAll s.heap (Wm ++ Y)) vs)
    (hbody : ∀ (A : Around) (W' : List Addr) (s₁ : Shared) (L : Addr) (E : Value → Shared → Prop), Room k A → (∀ b ∈ W', s.heap.get? b = none) → FS g c (fnEnv a qual sc cd L) (xs.zip Ps) (W' ++ Wm) (W' ++ (Wm ++ Y)) Mm [] { s with heap := hideAll s.heap Wm } s₁ →
      wpAny c.M A (execs body (fnEnv a qual sc cd L)) (fun f s' => R (.ok (.ret (match f with | .ret v => v | _ => .none))) s') E s₁)
    (hco : sc.isCoroutine = false := by rfl) (hgen : sc.isGenerator = false := by rfl) (hk : sc.kind = .function := by rfl) : codeAny c.M A (.call (.ref a) ⟨vs, []⟩) R s := by
  obtain ⟨o, fd, ho, hd, e1, e2, e3, e4, e5, e6, e7, e8, e9, e10⟩ := hf.o
  have hvl : vs.length = xs.length := a2.len.trans hlen
  have henv : ∀ L, callEnvC fd L a = fnEnv a qual sc cd L := fun L => by unfold callEnvC fnEnv; rw [e3, e4, e5, e7, e8]
  refine codeAny_call_cells (o := o) (fd := fd) (body := body) (binds := xs.zip vs) rm.depth (bs _ _ ho) hd (ok.lim.keeps bs) ?_ e2 (hbind fd vs e1 e9 e10 hvl) e6 (fun x hx => ?_) (fun s₁ x => ?_) (e3 ▸ hco) (e3 ▸ hgen) (e3 ▸ hk)
  · rw [e8, e7]; exact hf.code.keeps bs
  · have hx1 : x.1 ∈ xs := (List.of_mem_zip (show (x.1, x.2) ∈ xs.zip vs from hx)).1
    rw [e3]
    rcases hst _ hx1 with h | h
    · exact .inl h
    · obtain ⟨b, e, _⟩ := cells_has sc.names (s.heap.objs.size + 1) [] x.1 (mem_of_lookup h)
      exact .inr ⟨h, by rw [e]; rfl⟩
  · rw [henv] at x ⊢
    generalize hL : s.heap.objs.size = L at x ⊢
    have none_of : ∀ b : Nat, L ≤ b → s.heap.get? b = none := fun b hb => get_none (hL ▸ hb)
    let cl := cellsFrom (L + 1) sc.names []
    have hcl : ∀ y (b : Nat), cl.lookup y = some b → L < b ∧ (y, NameKind.cell) ∈ sc.names := fun y b e => by
      rcases cells_spec _ _ _ _ _ e with e | ⟨e1, _, e3⟩
      · cases e
      · exact ⟨e1, e3⟩
    let W : List Addr := L :: sc.names.filterMap fun p => cl.lookup p.1
    have hW : ∀ b : Nat, b ∈ W → L ≤ b ∧ (s₁.heap.get? b).isSome = true := fun b hb => by
      rcases List.mem_cons.mp hb with rfl | hb
      · obtain ⟨o, _, _, e, _⟩ := x.toInCall.ns
        exact ⟨Nat.le_refl _, by rw [show s₁.heap.get? b = some o from e]; rfl⟩
      · obtain ⟨p, _, e⟩ := List.mem_filterMap.mp hb
        obtain ⟨o, e', _⟩ := x.cell _ _ e
        exact ⟨Nat.le_of_lt (hcl _ _ e).1, by rw [e']; rfl⟩
    have kp : Kp g s s₁ := by
      obtain ⟨h, tk, e⟩ := x.toInCall.same
      have := x.toInCall.keep
      rw [e] at this ⊢
      exact Kp.hp tk this
    have sh : (hideAll s.heap (Wm ++ Y)).StaysIn (hideAll s₁.heap (W ++ (Wm ++ Y))) := fun b ob e => by
      have e' := of_hideAll _ e
      refine hideAll_get _ (kp.heap _ _ e') fun z => ?_
      rcases List.mem_append.mp z with z | z
      · rw [none_of _ (hW b z).1] at e'; cases e'
      · rw [hideAll_none _ z] at e; cases e
    have hlm : ∀ y P', (y, P') ∈ xs.zip Ps → Mono P' := fun y P' hy => mPs _ (List.of_mem_zip hy).2
    have F : FS g c (fnEnv a qual sc cd L) (xs.zip Ps) (W ++ Wm) (W ++ (Wm ++ Y)) Mm [] { s with heap := hideAll s.heap Wm } s₁ := by
      refine ⟨⟨hk, rfl, rfl, ok, fun b ob e => kp.heap _ _ (bs _ _ e), fun b hb => ?_, fun y P' hy => ?_⟩, ⟨fun b ob e => kp.heap _ _ (hide_le _ _ e), kp.os, kp.drawn, kp.gens, kp.bare, kp.same⟩, fun b ob e => hideAll_get _ (bs _ _ e) fun z => ?_, fun b hb => ?_, .head _, ⟨_, x.toInCall.ns⟩, fun y b e => ?_, fun y z b _ e e' => ?_, fun p hp => ?_, hMd, fun p hp => (by cases hp)⟩
      · rcases List.mem_append.mp hb with z | z
        · exact (hW b z).2
        · obtain ⟨ob, e⟩ := Option.isSome_iff_exists.mp (ex b z)
          rw [kp.heap _ _ e]; rfl
      · obtain ⟨v, pv, h1, h2⟩ := bound_at (kd := (fnEnv a qual sc cd L).kindOf) (m := fun _ => none) (cm := fun _ => none) a2 hnd hy
        refine ⟨v, ?_, hlm y P' hy _ _ _ sh pv, hlm y P' hy⟩
        rcases hst _ (List.of_mem_zip hy).1 with h | h
        · exact .inl ⟨h, _, x.toInCall.ns, h1 h⟩
        · obtain ⟨b, e, _⟩ := cells_has sc.names (L + 1) [] y (mem_of_lookup h)
          refine .inr ⟨h, b, e, ?_⟩
          have := x.cell y b e
          rw [h2 fun z => by rw [show (fnEnv a qual sc cd L).kindOf y = sc.names.lookup y from rfl, h] at z; cases z] at this
          exact this
      · rw [hWm b z] at e; cases e
      · rcases List.mem_append.mp hb with z | z
        · refine ⟨List.mem_append_left _ z, ?_⟩
          cases e : (hideAll s.heap Wm).get? b with
          | none => rfl
          | some o => have := of_hideAll _ e; rw [none_of b (hW b z).1] at this; cases this
        · exact ⟨List.mem_append_right _ (List.mem_append_left _ z), hideAll_none _ z⟩
      · refine ⟨fun z => ?_, fun _ => ?_, _, x.cell y b e⟩
        · have h1 := (hcl y b e).1
          rw [show b = L from z] at h1
          exact Nat.lt_irrefl _ h1
        · exact List.mem_append_left _ (.tail _ (List.mem_filterMap.mpr ⟨_, (hcl y b e).2, e⟩))
      · exact name_of_addr x.apart (mem_of_lookup e) (mem_of_lookup e')
      · obtain ⟨h1, h2, o, h3, h4⟩ := hMm p hp
        refine ⟨List.mem_append_right _ h1, fun z => ?_, fun y z => ?_, h2, o, kp.heap _ _ h3, h2 _ _ _ sh h4⟩
        · rw [show p.1 = L from z, none_of L (Nat.le_refl _)] at h3; cases h3
        · rw [none_of _ (Nat.le_of_lt (hcl y p.1 z).1)] at h3; cases h3
    exact hbody _ W s₁ L _ (rm.deeper _) (fun b hb => none_of b (hW b hb).1) F
end
abbrev WS := List Int × Int × Int × Int
def grow (cnt : List Int) (b : Int) : List Int := if decide (b ≥ cnt.length) then cnt ++ List.replicate (b - cnt.length + 1).toNat 0 else cnt
def bump (cnt : List Int) (b : Int) : List Int := (grow cnt b).set b.toNat ((grow cnt b).getD b.toNat 0 + 1)
def wsStep (st : WS) (ch : Str) : Option WS := if ch == " " then some (st.1, st.2.1 + 1, st.2.2.1 + 1, st.2.2.2) else if ch == "\t" then some (bump st.1 st.2.1, 0, st.2.2.1 + 1, st.2.2.2 + 1) else none
noncomputable def wsGo : WS → List Nat → WS
  | st, [] => st
  | st, ch :: r => match wsStep st ⟨#[ch]⟩ with
    | some st' => wsGo st' r
    | none => st
def ws0 : WS := ([], 0, 0, 0)
def wsAll (x : Str) : WS := wsGo ws0 x.cps.toList
def wsF (x : Str) : List (Str × PyData) := [("raw", .str x), ("n", .int (wsAll x).2.2.1), ("nt", .int (wsAll x).2.2.2), ("norm", .tuple [.tuple ((wsAll x).1.map .int), .int (wsAll x).2.1]), ("is_simple", .bool (decide (((wsAll x).1.length : Int) ≤ 1)))]
theorem grow_len (cnt : List Int) (b : Int) : ((grow cnt b).length : Int) = if b ≥ cnt.length then b + 1 else cnt.length := by
  unfold grow
  split
  · rename_i h
    have h := of_decide_eq_true h
    rw [if_pos h, List.length_append, List.length_replicate]; omega
  · rename_i h
    have h : ¬ (b ≥ cnt.length) := fun q => h (decide_eq_true q)
    rw [if_neg h]
def WsIv (pre : List Nat) : Prop := (∀ post, wsGo ws0 (pre ++ post) = wsGo (wsGo ws0 pre) post) ∧ 0 ≤ (wsGo ws0 pre).2.1 ∧ (wsGo ws0 pre).2.1 ≤ pre.length ∧ (wsGo ws0 pre).1.length ≤ pre.length
theorem ws_len : ∀ (l : List Nat) (st : WS) (M : Nat), st.1.length ≤ M → st.2.1 ≤ M → (wsGo st l).1.length ≤ M + l.length
  | [], st, M, h1, _ => h1
  | ch :: r, st, M, h1, h2 => by
    show (match wsStep st ⟨#[ch]⟩ with | some st' => wsGo st' r | none => st).1.length ≤ _
    rw [List.length_cons]
    have hg := grow_len st.1 st.2.1
    unfold wsStep
    split
    · rename_i st' e
      have : st'.1.length ≤ M + 1 ∧ st'.2.1 ≤ (M + 1 : Nat) := by
        split at e
        · cases e; exact ⟨Nat.le_succ_of_le h1, by show st.2.1 + 1 ≤ _; omega⟩
        · split at e
          · cases e
            refine ⟨?_, by show (0 : Int) ≤ _; omega⟩
            show (bump _ _).length ≤ _
            unfold bump
            rw [List.length_set]
            split at hg <;> omega
          · cases e
      have := ws_len r st' (M + 1) this.1 this.2
      omega
    · omega
theorem ws_next {pre : List Nat} {a : Nat} {st' : WS} (h : WsIv pre) (hs : wsStep (wsGo ws0 pre) ⟨#[a]⟩ = some st') : wsGo ws0 (pre ++ [a]) = st' ∧ ∀ post, wsGo ws0 (pre ++ [a] ++ post) = wsGo (wsGo ws0 (pre ++ [a])) post := by
  have e : ∀ post, wsGo ws0 (pre ++ a :: post) = wsGo st' post := fun post => by
    rw [h.1]
    show (match wsStep (wsGo ws0 pre) ⟨#[a]⟩ with | some st' => wsGo st' post | none => _) = _
    rw [hs]
  refine ⟨e [], fun post => ?_⟩
  rw [e [], List.append_assoc]
  exact e post
theorem ws_stop {pre post : List Nat} {a : Nat} (h : WsIv pre) (hs : wsStep (wsGo ws0 pre) ⟨#[a]⟩ = none) : wsGo ws0 (pre ++ a :: post) = wsGo ws0 pre := by
  rw [h.1]
  show (match wsStep (wsGo ws0 pre) ⟨#[a]⟩ with | some st' => wsGo st' post | none => _) = _
  rw [hs]
section
variable {g b : Bool} {k : Nat} {c : Cx} {env : Env} {V V' : List (Str × Pr)} {W Y : List Addr} {MU : List (Addr × Rp)} {GN : List (Nat × GenState)} {s₀ s s' : Shared} {a : Addr} {P : Pr} {A : Around}
theorem FS.selfattr {K : Frag} {C fI fE dx xo : Addr} {at' n : Str} {np pos : Pos} {fs : List (Str × PyData)} {d : PyData} {Q E : Value → Shared → Prop} (Ws : WsK c K C fI fE) (F : FS g c env V W Y ((dx, DcR fs) :: MU) GN s₀ s) (hx : s₀.heap.get? xo = some (instObj C dx)) (hs : (n, Is (.ref xo)) ∈ V) (rm : Room k A)
    (hl : fs.lookup at' = some d) (hn : at' ∈ (["raw", "n", "nt", "norm", "is_simple"] : List Str)) (q : ∀ v s', FS g c env V W Y ((dx, DcR fs) :: MU) GN s₀ s' → D d (hideAll s'.heap Y) v → Q v s') (hd : (n == ("__debug__" : Str)) = false := by decide) :
    wpAny c.M A (eval (.Attribute (.Name n np) at' pos) env) Q E s := by
  refine PyProof.Rows.Attribute_name ((ev_name (g := g) (k := k) (c := c) hs hd) A Y s _ E rm F.rd fun w s₂ k₂ pw => ?_)
  cases pw
  have F₂ := F.kpstep k₂
  obtain ⟨_, _, _, _, o, ho, es, m, rfl, h3⟩ := F₂.mu _ (.head _)
  obtain ⟨v, g1, g2⟩ := h3.get hl
  exact get_value (Ws.inH.keeps F₂.rd.base) ⟨F₂.kp.heap _ _ hx, rfl, rfl, ho⟩ (plainGet_of Ws.hg).1 (findObj_own (od := dictOf es m) Ws.hh (Ws.no _ hn) rfl ((lookIn_dict _ _ _).trans g1)) (handed_D g2) (q v _ (F₂.kpstep (Kp.tk _ _)) g2)
end
abbrev iEnv (a : Addr) (cd : Value) (L : Addr) : Env := fnEnv a "Whitespace.__init__" (scOf (cst 1)) cd L
abbrev NotIn (θ : Addr) (Y : List Addr) : Pr := fun _ _ => θ ∉ Y
abbrev wsV (Y : List Addr) (xo θ : Addr) (st : WS) : List (Str × Pr) := [("count", Is (.ref θ)), ("count", NotIn θ Y), ("b", D (.int st.2.1)), ("n", D (.int st.2.2.1)), ("nt", D (.int st.2.2.2)), ("S", D (.str " ")), ("T", D (.str "\t")), ("self", Is (.ref xo))]
theorem init_walk {g : Bool} {c : Cx} {K : Frag} {C fI fE a dx xo : Addr} {cd : Value} {x : Str} {A : Around} {W Y : List Addr} {L : Addr} {s₀ s : Shared} {Q : Flow → Shared → Prop} {E : Value → Shared → Prop} (Kc : Kt c) (Ws : WsK c K C fI fE) (hx : x.length < 2000) (r : Room 3 A) (hxo : s₀.heap.get? xo = some (instObj C dx))
    (F : FS g c (iEnv a cd L) [("self", Is (.ref xo)), ("ws", D (.str x))] W Y [(dx, DcR [])] [] s₀ s) (q : ∀ s', FS g c (iEnv a cd L) [] W Y [(dx, DcR (wsF x))] [] s₀ s' → Q .next s') : wpAny c.M A (execs (bodyOf (cst 1)) (iEnv a cd L)) Q E s := by
  have hsz := sizeLine_eq
  have hxl : x.cps.toList.length = x.length := Array.length_toList
  obtain ⟨tS, cS⟩ := Ws.cS
  obtain ⟨tT, cT⟩ := Ws.cT
  have hWY : ∀ b ∈ W, b ∈ Y := fun b hb => (F.sub b hb).1
  have hLW := F.loc
  have hdW := (F.mu _ (.head _)).1
  refine xs_setattr (d := .str x) Ws F hxo (by walk_at "mem") r (by walk_at "ev") rfl (by decide) (by decide) fun s F => ?_
  refine xs_two (d1 := .str " ") (d2 := .str "\t") F r (ev_tuple (ds := [.str " ", .str "\t"]) (ar2 (D_mono _) (D_mono _) (ev_cls Ws (by rfl) cS) (ev_cls Ws (by rfl) cT)) (by show 2 ≤ sizeLine; decide)) (scal_str _) (scal_str _) (st1_fn (by decide)) (st1_fn (by decide)) (by rfl) (by rfl) fun s F => ?_
  refine xs_newlist (ds := []) F r ar_nil (by decide) (st1_fn (by decide)) (by rfl) fun l s hlY F => ?_
  refine xs_three (d := .int 0) F r ev_int (scal_int _) (st1_fn (by decide)) (st1_fn (by decide)) (st1_fn (by decide)) (by rfl) (by rfl) (by rfl) fun s F => ?_
  replace F := F.addV (x := "count") (v := .ref l) (P := NotIn l Y) (by walk_at "mem") hlY (fun _ _ _ _ e => e)
  have F' := F.shrink (W' := [l] ++ W) (Y' := [l] ++ Y) (MU' := [(l, LsR false []), (dx, DcR [("raw", .str x)])]) (fun b hb => ⟨hb, (F.sub b hb).1⟩) (fun b hb => hb) F.loc (fun x b e _ => by cases e)
    (List.forall_mem_cons.mpr ⟨⟨.head _, LsR_mono _ _, _, .head _, rfl, fun h o ⟨a, b, c⟩ => ⟨a, (fun h => by cases h), c⟩⟩, List.forall_mem_cons.mpr ⟨⟨(F.mu _ (.tail _ (.head _))).1, DcR_mono _, _, .tail _ (.head _), rfl, fun _ _ h => h⟩, List.forall_mem_nil _⟩⟩) (List.pairwise_cons.mpr ⟨fun p hp => by rw [List.mem_singleton.mp hp]; exact (List.pairwise_cons.mp F.dis).1 _ (.head _), List.pairwise_singleton ..⟩)
  refine xs_forG (Θ := Addr) (θ₀ := l) (xs := x.cps.toList) (Pa := fun ch => D (.str ⟨#[ch]⟩)) (Wx := fun θ => [θ]) (Vi := fun θ pre => wsV Y xo θ (wsGo ws0 pre)) (MUi := fun θ pre => [(θ, LsR false ((wsGo ws0 pre).1.map .int)), (dx, DcR [("raw", .str x)])]) (Iv := WsIv) r
    (fun Q₁ E₁ q => F'.swap.selfattr Ws hxo (by walk_at "mem") r rfl (by decide) fun v s' F p => q v s' F.swap p) src_str (st1_fn (by decide)) (fun _ _ => by rfl) (fun _ => D_mono _) (by walk_at "sub") rfl ⟨fun _ => rfl, Int.le_refl _, Int.le_refl _, Nat.le_refl _⟩ hWY
    (fun θ pre a post I R s' hxs iv hI F E' => ?_) (fun θ s F => ?_)
  · have hpl : pre.length < 2000 := by
      have := congrArg List.length hxs
      rw [hxl, List.length_append, List.length_cons] at this
      omega
    have hno : ∀ {s : Shared} {b' : Bool} {n' nt' : Int}, True := trivial
    obtain ⟨iv1, iv2, iv3, iv4⟩ := iv
    have stop := fun h => ws_stop (pre := pre) (a := a) (post := post) ⟨iv1, iv2, iv3, iv4⟩ h
    have next := fun {st'} h => ws_next (pre := pre) (a := a) (st' := st') ⟨iv1, iv2, iv3, iv4⟩ h
    rw [hxs]
    generalize wsGo ws0 pre = st at F stop next iv2 iv3 iv4
    obtain ⟨cnt, b, n, nt⟩ := st
    dsimp only at iv2 iv3 iv4
    have hlen1 : ((pre ++ [a]).length : Int) = pre.length + 1 := by rw [List.length_append]; rfl
    refine xs_if (b := (⟨#[a]⟩ : Str) == " ") F r (tr_str (op := .Eq) (by walk_at "ev") (by walk_at "ev") rfl) (fun hc s F => ?_) (fun hc s F => ?_)
    · obtain ⟨e1, e2⟩ := next (st' := (cnt, b + 1, n + 1, nt)) (by unfold wsStep; rw [if_pos hc])
      refine xs_reassign (P := D (.int (n + 1))) F r (by walk_at "ev") (D_mono _) (st1_fn (by decide)) fun s F => ?_
      refine xs_reassign (P := D (.int (b + 1))) F r (by walk_at "ev") (D_mono _) (st1_fn (by decide)) fun s F => xs_nil (xs_nil ⟨⟨e2, ?_⟩, θ, hI, ?_⟩)
      · rw [e1]; dsimp only; refine ⟨by omega, by omega, ?_⟩; rw [List.length_append]; exact Nat.le_trans iv4 (Nat.le_add_right _ _)
      · rw [e1]; exact F.weaken (by walk_at "sub")
    · refine xs_if (b := (⟨#[a]⟩ : Str) == "\t") F r (tr_str (op := .Eq) (by walk_at "ev") (by walk_at "ev") rfl) (fun hc2 s F => ?_) (fun hc2 s F => ?_)
      · obtain ⟨e1, e2⟩ := next (st' := (bump cnt b, 0, n + 1, nt + 1)) (by unfold wsStep; rw [if_neg (by rw [hc]; decide), if_pos hc2])
        have hgl := grow_len cnt b
        have hbd : WsIv (pre ++ [a]) := by
          refine ⟨e2, ?_⟩
          rw [e1]
          refine ⟨Int.le_refl _, by show (0 : Int) ≤ _; omega, ?_⟩
          show (bump cnt b).length ≤ _
          unfold bump
          rw [List.length_set]
          split at hgl <;> omega
        refine xs_reassign (P := D (.int (n + 1))) F r (by walk_at "ev") (D_mono _) (st1_fn (by decide)) fun s F => ?_
        refine xs_reassign (P := D (.int (nt + 1))) F r (by walk_at "ev") (D_mono _) (st1_fn (by decide)) fun s F => ?_
        refine xs_if_rest (x := "count") (v := decide (b ≥ cnt.length)) F (by walk_at "mem") r (tr_int (op := .GtE) (by walk_at "ev") (evc (ev_len (xs := cnt.map .int) Kc (by rfl) (by walk_at "ev") ?_) (by rw [List.length_map])) rfl) (fun hg s F => ?_) (fun hg s F => ?_)
        · rw [List.length_map]; omega
        · have hgr : grow cnt b = cnt ++ List.replicate (b - cnt.length + 1).toNat 0 := by unfold grow; rw [if_pos hg]
          have hg' := of_decide_eq_true hg
          refine xs_concat (ns := cnt) (ms := List.replicate (b - cnt.length + 1).toNat 0) F (by walk_at "mem") r (ev_mulL (z := 0) (n := b - cnt.length + 1) (ev_list (ds := [.int 0]) (ar1 (D_mono _) ev_int)) (ev_add (ev_sub (by walk_at "ev") (evc (ev_len (xs := cnt.map .int) Kc (by rfl) (by walk_at "ev") ?_) (by rw [List.length_map]))) ev_int) (by omega) (by omega)) (st1_fn (by decide)) (by rw [List.length_replicate]; omega) fun a' s ha1 ha2 F => xs_nil ?_
          · rw [List.length_map]; omega
          rw [← hgr] at F
          rw [if_pos hg'] at hgl
          refine xs_setitem_rest (x := "count") (i := b) (d := .int ((grow cnt b).getD b.toNat 0 + 1)) F (by walk_at "mem") r (ev_add (ev_item (xs := (grow cnt b).map .int) (by walk_at "ev") (by walk_at "ev") (pick_map (f := .int) iv2 (by omega)) (by rw [List.length_map]; omega)) ev_int) (scal_int _) (by walk_at "ev") iv2 (by rw [List.length_map]; omega) (by omega) fun s F => ?_
          refine xs_reassign (P := D (.int 0)) F r ev_int (D_mono _) (st1_fn (by decide)) fun s F => xs_nil (xs_nil (xs_nil ⟨hbd, a', fun z => ?_, ?_⟩))
          · rcases List.mem_cons.mp z with z | z
            · exact ha1 (z ▸ .head _)
            · exact hI (.tail _ z)
          · rw [e1]
            have hm := F.mu
            have hp := F.dis
            rw [List.pairwise_cons, List.pairwise_cons] at hp
            replace F := F.addV (x := "count") (v := .ref a') (P := NotIn a' Y) (by walk_at "mem") (fun z => ha1 (.tail _ (.tail _ z))) (fun _ _ _ _ e => e)
            refine (F.weaken (V' := wsV Y xo a' (bump cnt b, 0, n + 1, nt + 1)) (by walk_at "sub")).shrink (fun z hz => ⟨?_, ?_⟩) (fun z hz => ?_) ?_ (fun x b e _ => by cases e) (List.forall_mem_cons.mpr ⟨⟨.tail _ (.head _), LsR_mono _ _, _, .head _, rfl, fun h o hh => ?_⟩, List.forall_mem_cons.mpr ⟨⟨?_, DcR_mono _, _, .tail _ (.tail _ (.head _)), rfl, fun _ _ h => h⟩, List.forall_mem_cons.mpr ⟨⟨.head _, (hm _ (.tail _ (.tail _ (.tail _ (.head _))))).2.2.2.1, _, .tail _ (.tail _ (.tail _ (.head _))), rfl, fun _ _ h => h⟩, List.forall_mem_nil _⟩⟩⟩)
              (List.pairwise_cons.mpr ⟨fun p hp' => hp.1 p (.tail _ hp'), hp.2.2⟩)
            · rcases List.mem_cons.mp hz with z' | z'
              · rw [z']; exact .tail _ (.head _)
              · rcases List.mem_cons.mp z' with z' | z'
                · rw [z']; exact .head _
                · exact .tail _ (.tail _ (.tail _ z'))
            · rcases List.mem_cons.mp hz with z' | z'
              · rw [z']; exact .head _
              · rcases List.mem_cons.mp z' with z' | z'
                · rw [z']; exact .tail _ (.head _)
                · exact .tail _ (.tail _ (hWY _ z'))
            · rcases List.mem_cons.mp hz with z' | z'
              · rw [z']; exact .tail _ (.head _)
              · rcases List.mem_cons.mp z' with z' | z'
                · rw [z']; exact .head _
                · exact .tail _ (.tail _ (.tail _ z'))
            · exact .tail _ (.tail _ hLW)
            · unfold bump; rw [List.map_set]; exact hh
            · exact .tail _ (.tail _ hdW)
        · have hgr : grow cnt b = cnt := by unfold grow; rw [if_neg (by rw [hg]; decide)]
          have hg' : ¬ (b ≥ cnt.length) := of_decide_eq_false hg
          refine xs_nil ?_
          refine xs_setitem_rest (x := "count") (i := b) (d := .int (cnt.getD b.toNat 0 + 1)) F (by walk_at "mem") r (ev_add (ev_item (xs := cnt.map .int) (by walk_at "ev") (by walk_at "ev") (pick_map (f := .int) (d := 0) iv2 (by omega)) (by rw [List.length_map]; omega)) ev_int) (scal_int _) (by walk_at "ev") iv2 (by rw [List.length_map]; dsimp only; omega) (by omega) fun s F => ?_
          refine xs_reassign (P := D (.int 0)) F r ev_int (D_mono _) (st1_fn (by decide)) fun s F => xs_nil (xs_nil (xs_nil ⟨hbd, θ, hI, ?_⟩))
          rw [e1]
          show FS _ _ _ (wsV Y xo θ (bump cnt b, 0, n + 1, nt + 1)) _ _ [(θ, LsR false ((bump cnt b).map .int)), _, _] _ _ _
          unfold bump
          rw [hgr, List.map_set]
          exact F.weaken (by walk_at "sub")
      · refine wpAny_execs_cons (wpAny_Break ?_)
        show ∃ θ', _
        rw [stop (by unfold wsStep; rw [if_neg (by rw [hc]; decide), if_neg (by rw [hc2]; decide)])]
        exact ⟨θ, hI, F.weaken (by walk_at "sub")⟩
  · obtain ⟨_, _, hθ, _⟩ := F.rd.look "count" (NotIn θ Y) (by walk_at "mem")
    replace F := F.settle (x := "count") (by walk_at "mem") hθ hWY
    have hw : wsF x = ([("raw", .str x), ("n", .int (wsGo ws0 x.cps.toList).2.2.1), ("nt", .int (wsGo ws0 x.cps.toList).2.2.2), ("norm", .tuple [.tuple ((wsGo ws0 x.cps.toList).1.map .int), .int (wsGo ws0 x.cps.toList).2.1]), ("is_simple", .bool (decide (((wsGo ws0 x.cps.toList).1.length : Int) ≤ 1)))] : List (Str × PyData)) := rfl
    have hl : (wsGo ws0 x.cps.toList).1.length ≤ 16777216 := by have := ws_len x.cps.toList ws0 0 (Nat.le_refl _) (Int.le_refl _); omega
    rw [hw] at q
    generalize wsGo ws0 x.cps.toList = st at F q hl
    obtain ⟨cnt, b, n, nt⟩ := st
    dsimp only at hl
    refine xs_setattr (d := .int n) Ws F hxo (by walk_at "mem") r (by walk_at "ev") rfl (by decide) (by show 1 ≤ 100; decide) fun s F => ?_
    refine xs_setattr (d := .int nt) Ws F hxo (by walk_at "mem") r (by walk_at "ev") rfl (by decide) (by show 2 ≤ 100; decide) fun s F => ?_
    refine xs_setattr (d := .tuple [.tuple (cnt.map .int), .int b]) Ws F hxo (by walk_at "mem") r (ev_tuple (ds := [.tuple (cnt.map .int), .int b]) (ar2 (D_mono _) (D_mono _) (ev_callT (ev_built (by rfl) Kc.tuple.1 Kc.tuple.2) (ar1 (D_mono _) (by walk_at "ev")) (call_tuple (by rw [List.length_map]; omega))) (by walk_at "ev")) (by show 2 ≤ sizeLine; decide)) rfl (by decide) (by show 3 ≤ 100; decide) fun s F => ?_
    refine xs_setattr (d := .bool (decide ((cnt.length : Int) ≤ 1))) Ws F hxo (by walk_at "mem") r (ev_cmpI (op := .LtE) (evc (ev_len (xs := cnt.map .int) Kc (by rfl) (by walk_at "ev") (by rw [List.length_map]; omega)) (by rw [List.length_map])) ev_int rfl) rfl (by decide) (by show 4 ≤ 100; decide) fun s F => xs_nil ?_
    exact q s (F.weaken (fun p hp => by cases hp))
section
variable {g : Bool} {k : Nat} {c : Cx} {K : Frag} {C fI fE : Addr} {x : Str}
theorem room_tc {A : Around} {rest : List Value} {kw : List (Str × Value)} {C : Addr} (r : Room (k + 1) A) : Room k (A.under (.builtin "type.__call__" ⟨.ref C :: rest, kw⟩)) := by
  obtain ⟨h1, h2, h3⟩ := r
  refine ⟨h1, ?_, ?_⟩
  · show A.depth + _ + k < _
    rw [show (Code.builtin "type.__call__" ⟨.ref C :: rest, kw⟩).weight = 1 from by rfl]; omega
  · show A.units + _ + 10 * k < _
    rw [show (Code.builtin "type.__call__" ⟨.ref C :: rest, kw⟩).cUnits = 1 from by rfl]; omega
theorem ws_new (Kc : Kt c) (Ws : WsK c K C fI fE) (hx : x.length < 2000) : CallOK g 5 c (.ref C) [D (.str x)] (WsP C (wsF x)) := fun A Y s vs Q E rm ok bs ex a q => by
  obtain ⟨v, rfl, p⟩ := a.one
  obtain ⟨cI, hI⟩ := Ws.I
  obtain ⟨hh, gg, d, t, os⟩ := s
  dsimp only at bs ex p
  have X := Ws.inH.keeps bs
  refine wpAny_call (make_core (makes_of X Ws.makes) (looks_findIn X Ws.init) (fun self => bind_fn X self (beq_iff_eq.mp Ws.fnI)) (.inl rfl) ?_)
  have z1 : (hh.push emptyDict).objs.size = hh.objs.size + 1 := Heap.size_push ..
  have e0 : ((hh.push emptyDict).push (instObj C hh.objs.size)).get? hh.objs.size = some emptyDict := Heap.get?_push_of_some _ (Heap.get?_push_size _ rfl)
  have e1 : ((hh.push emptyDict).push (instObj C hh.objs.size)).get? (hh.objs.size + 1) = some (instObj C hh.objs.size) := by rw [← z1]; exact Heap.get?_push_size _ rfl
  have kk : hh.StaysIn ((hh.push emptyDict).push (instObj C hh.objs.size)) := fun b o e => Heap.get?_push_of_some _ (Heap.get?_push_of_some _ e)
  have n0 : hh.get? hh.objs.size = none := get_none (Nat.le_refl _)
  have n1 : hh.get? (hh.objs.size + 1) = none := get_none (Nat.le_succ _)
  have nY : ∀ b, hh.get? b = none → b ∉ Y := fun b e q => by
    obtain ⟨o, e'⟩ := Option.isSome_iff_exists.mp (ex b q)
    rw [e] at e'; cases e'
  generalize hh.objs.size = N at *
  generalize (hh.push emptyDict).push (instObj C N) = h2 at *
  have st : (hideAll hh Y).StaysIn (hideAll h2 ([N] ++ Y)) := fun b o e => by
    have e' := of_hideAll Y e
    refine hideAll_get _ (kk _ _ e') fun z => ?_
    rcases List.mem_cons.mp z with z | z
    · rw [z, n0] at e'; cases e'
    · rw [hideAll_none Y z] at e; cases e
  refine call_fnM (g := g) (Wm := [N]) (Mm := [(N, DcR [])]) (Y := Y) (xs := ["self", "ws"]) (Ps := [Is (.ref (N + 1)), D (.str x)]) (R := InitBack (N + 1) _) hI (bind2 (by rfl) (by decide)) rfl (by decide) (by decide) (List.forall_mem_cons.mpr ⟨Is_mono _, List.forall_mem_cons.mpr ⟨D_mono _, List.forall_mem_nil _⟩⟩) (room_tc rm) ok (fun b o e => kk _ _ (bs _ _ e)) (fun b hb => ?_) (fun b hb => ?_)
    (List.forall_mem_cons.mpr ⟨⟨.head _, DcR_mono _, _, e0, [], 0, rfl, .nil⟩, List.forall_mem_nil _⟩) (List.pairwise_singleton ..) (.cons rfl (.cons (D_mono _ _ _ _ st p) .nil)) fun A W' s₁ L E r hW' F => ?_
  · rcases List.mem_cons.mp hb with z | z
    · rw [z]; show (h2.get? N).isSome = true; rw [e0]; rfl
    · obtain ⟨o, e⟩ := Option.isSome_iff_exists.mp (ex b z)
      show (h2.get? b).isSome = true
      rw [kk _ _ e]; rfl
  · rw [List.mem_singleton.mp hb]
    cases e : c.H.get? N with
    | none => rfl
    | some o => have := bs _ _ e; rw [n0] at this; cases this
  refine init_walk Kc Ws hx r (xo := N + 1) (dx := N) (hideAll_get _ e1 fun z => Nat.succ_ne_self N (List.mem_singleton.mp z)) F fun s' F' => ?_
  refine ⟨rfl, q _ s' ⟨fun b o e => F'.kp.heap b o (hideAll_get _ (kk _ _ e) fun z => by rw [List.mem_singleton.mp z, n0] at e; cases e), F'.kp.os, F'.kp.drawn, F'.kp.gens, F'.kp.bare, F'.kp.same⟩ ?_⟩
  obtain ⟨_, _, _, _, o, ho, hd⟩ := F'.mu _ (.head _)
  exact ⟨N + 1, N, o, rfl, hideAll_get _ (F'.kp.heap _ _ (hideAll_get _ e1 fun z => Nat.succ_ne_self N (List.mem_singleton.mp z))) (nY _ n1), hideAll_get _ ho (nY _ n0), DcR_mono _ _ _ _ (hide_anti fun b hb => List.mem_append_right _ (List.mem_append_right _ hb)) hd⟩
end
section
variable {g : Bool} {k : Nat} {c : Cx} {env : Env} {V : List (Str × Pr)} {K : Frag} {C fI fE : Addr} {x y : Str} {e : Expr} {es : List Expr} {np pos ap : Pos}
theorem ev_new (Kc : Kt c) (Ws : WsK c K C fI fE) (hx : x.length < 2000) (hk : env.kindOf "Whitespace" = some .globalImplicit) (h : EvOK g (k + 5) c env V e (D (.str x))) (he : starEach [e] env = (false, eval e env) :: starEach [] env := by rfl) :
    EvOK g (k + 5) c env V (.Call (.Name "Whitespace" np) [e] [] pos) (WsP C (wsF x)) := fun A Y s Q E rm st q => by
  refine wpAny_Call_ofName ((ev_glob (g := g) (k := k + 5) (V := V) hk Ws.mgC (by decide)) A Y s _ E rm st fun v s₁ k₁ p => ?_)
  cases p
  refine callWith_K Ws.inH Ws.keep ?_ he (by rfl)
  rw [he]
  refine Calls.spliced_cons (h A Y s₁ _ E rm (st.kp k₁) fun v s₂ k₂ p => Calls.spliced_nil ⟨Ws.inH.keeps ((st.kp k₁).kp k₂).base, ?_⟩)
  exact (ws_new (g := g) Kc Ws hx).le (Nat.le_add_left _ _) A Y s₂ [v] Q E rm st.ok ((st.kp k₁).kp k₂).base ((st.kp k₁).kp k₂).ex (.cons p .nil) fun w s₃ k₃ pw => q w s₃ ((k₁.trans k₂).trans k₃) pw
end
def normD (x : Str) : PyData := .tuple [.tuple ((wsAll x).1.map .int), .int (wsAll x).2.1]
theorem ints_lay : ∀ ns : List Int, PyData.canLayAll0 (ns.map .int) = true ∧ PyData.depthAll (ns.map .int) ≤ 1
  | [] => ⟨rfl, by decide⟩
  | n :: r => by
    have h := ints_lay r
    refine ⟨?_, ?_⟩
    · show (PyData.canLay0 (.int n) && PyData.canLayAll0 (r.map .int)) = true
      rw [h.1]; rfl
    · rw [List.map_cons]
      simp only [PyData.depthAll, PyData.depth]
      omega
theorem normD_lay (x : Str) : (normD x).canLay0 = true ∧ (normD x).depth ≤ 9 := by
  unfold normD
  generalize (wsAll x).1 = ns
  have h := ints_lay ns
  refine ⟨?_, ?_⟩
  · show (PyData.canLayAll0 (ns.map .int) && (true && true)) = true
    rw [h.1]; rfl
  · simp only [PyData.depth, PyData.depthAll]
    omega
theorem equal_ok {g : Bool} {c : Cx} {K : Frag} {C fI fE : Addr} {x y : Str} (Ws : WsK c K C fI fE) : CallOK g 4 c (.ref fE) [WsP C (wsF x), WsP C (wsF y)] (D (.bool (PyData.eqv (normD x) (normD y)))) := by
  obtain ⟨cE, hE⟩ := Ws.E
  refine call_fn (xs := ["self", "other"]) hE (bind2 (by rfl) (by decide)) rfl (by decide) (by decide) (List.forall_mem_cons.mpr ⟨WsP_mono _ _, List.forall_mem_cons.mpr ⟨WsP_mono _ _, List.forall_mem_nil _⟩⟩) fun A Y₀ W Y s₀ s L E r hY hW F => ?_
  refine xs_return (P := D (.bool (PyData.eqv (normD x) (normD y)))) F r (ev_eq (op := .Eq) (d := normD x) (e := normD y) (ev_attr Ws (fs := wsF x) (ev_name (.head _) (by decide)) rfl (by decide)) (ev_attr Ws (fs := wsF y) (ev_name (.tail _ (.head _)) (by decide)) rfl (by decide)) (normD_lay x).1 (normD_lay y).1 (normD_lay x).2 rfl) fun v s' F' p => RetP.of F'.kp p (D_mono _) hY
theorem ev_equal {g : Bool} {k : Nat} {c : Cx} {env : Env} {V : List (Str × Pr)} {K : Frag} {C fI fE : Addr} {x y : Str} {l e : Expr} {ap pos : Pos} {pl : Sem Bool} (Ws : WsK c K C fI fE) (h1 : EvOK g (k + 5) c env V l (WsP C (wsF x))) (h2 : EvOK g (k + 5) c env V e (WsP C (wsF y)))
    (hs : starEach [e] env = (false, eval e env) :: starEach [] env := by rfl)
    (he : eval (.Call (.Attribute l "equal" ap) [e] [] pos) env = (do
      let ov ← eval l env
      standAt ap.atName
      let (f, first) ← holding [ov] (getMethod ov "equal" pl)
      callWith pos f first (backTo pos (starEach [e] env)) []) := by rfl) :
    EvOK g (k + 5) c env V (.Call (.Attribute l "equal" ap) [e] [] pos) (D (.bool (PyData.eqv (normD x) (normD y)))) := fun A Y s Q E rm st q => by
  refine MethodCall_ (h1 A Y s _ E rm st fun v s₁ k₁ p => ?_) he
  obtain ⟨xo, dx, o, rfl, g1, g2, es, m, rfl, g3⟩ := id p
  have X := Ws.inH.keeps (st.kp k₁).base
  refine method_fn (od := some (dictOf es m)) X ⟨of_hideAll _ g1, rfl, rfl, of_hideAll _ g2⟩ (plainGet_of Ws.hg).1 (plainGet_of Ws.hg).2 Ws.eq (beq_iff_eq.mp Ws.fnE) (by show (lookIn "equal" (dictOf es m)).map _ = _; rw [lookIn_dict, g3.miss rfl]; rfl) ?_
  refine callWith_K Ws.inH Ws.keepE ?_ hs (by rfl)
  rw [hs]
  refine Calls.spliced_cons (h2 A Y s₁ _ E rm (st.kp k₁) fun v s₂ k₂ p₂ => Calls.spliced_nil ⟨Ws.inH.keeps ((st.kp k₁).kp k₂).base, ?_⟩)
  exact (equal_ok (g := g) Ws).le (Nat.le_trans (by decide) (Nat.le_add_left 5 k)) A Y s₂ [.ref xo, v] Q E rm st.ok ((st.kp k₁).kp k₂).base ((st.kp k₁).kp k₂).ex (.cons (WsP_mono _ _ _ _ _ (hide_stays k₂.heap) p) (.cons p₂ .nil)) fun w s₃ k₃ pw => q w s₃ ((k₁.trans k₂).trans k₃) pw
def blank (b : Bool) : Str := if b then " " else "\t"
def blanks (row : List Bool) : Str := Txt.join "" (row.map blank)
theorem blank_sum (row : List Bool) : ((row.map blank).map (·.length)).sum = row.length := by
  induction row with
  | nil => rfl
  | cons b r ih => rw [List.map_cons, List.map_cons, List.sum_cons, ih, List.length_cons]; cases b <;> show 1 + _ = _ <;> omega
theorem blanks_len (row : List Bool) : (blanks row).length ≤ row.length := by
  have := join_len "" (row.map blank)
  rw [blank_sum] at this
  exact this
theorem ev_blanks {g : Bool} {k : Nat} {c : Cx} {env : Env} {V : List (Str × Pr)} {apos pos ap : Pos} {e : Expr} {n : Nat} {row : List Bool} (h : EvOK g k c env V e (D (.list (row.map fun b => .str (blank b))))) (hl : row.length < 1000)
    (hs : starEach [e] env = [(false, eval e env)] := by rfl) (hline : (apos.endLine == pos.line) = true := by rfl) :
    EvOK g k c env V (.Call (.Attribute (.Constant (.str "") n ap) "join" apos) [e] [] pos) (D (.str (blanks row))) := by
  refine ev_join ev_str (evc h (by rw [List.map_map]; rfl)) ?_ (by rfl) hs hline
  rw [blank_sum, List.length_map]
  show row.length + row.length * 0 ≤ _
  omega
def rstep (st : Str × List Int) (_ : Int) : Option (Str × List Int) :=
  if st.1.length < 1500 then ((wsAll (st.1 ++ "( \t")).1[0]?).map fun c0 => (Txt.join "" (Txt.split st.1 " \t"), st.2 ++ [(wsAll (st.1 ++ "( \t")).2.2.2 - c0]) else none
def roundsO (row : List Bool) : Option (List Int) := (goM rstep (rangeL 0 1 4) (blanks row, [])).map (·.2)
theorem rstep_len : ∀ {xs : List Int} {st st' : Str × List Int}, goM rstep xs st = some st' → st'.2.length = st.2.length + xs.length
  | [], _, _, e => by cases e; rfl
  | i :: r, st, st', e => by
    obtain ⟨b1, h1, h2⟩ := Option.bind_eq_some_iff.mp (show (rstep st i).bind (goM rstep r) = some st' from e)
    have := rstep_len h2
    unfold rstep at h1
    split at h1
    · obtain ⟨c0, _, rfl⟩ := Option.map_eq_some_iff.mp h1
      rw [this, List.length_append, List.length_cons, List.length_cons]
      show st.2.length + 1 + _ = _
      omega
    · cases h1
theorem rounds_ok {g : Bool} {c : Cx} {K : Frag} {C fI fE : Addr} {row : List Bool} {out : List Int} (Kc : Kt c) (Ws : WsK c K C fI fE) (hl : row.length < 1000) (h : roundsO row = some out) : DefOK g 8 c "_law_rounds" [D (rowD row)] (D (.list (out.map .int))) := DefOK.of Kc.rounds fun a cd hf => by
  refine call_fn (xs := ["row"]) hf.2 (bind1 (by rfl)) rfl (by decide) (by decide) (List.forall_mem_singleton.mpr (D_mono _)) fun A Y₀ W Y s₀ s L E r hY hW F => ?_
  have h1 := sizeLine_eq
  have h2 := blanks_len row
  refine xs_assign (P := D (.str (blanks row))) F r (ev_blanks (evc (ev_comp (xs := row) (Pa := fun b => D (bx b)) (keep := fun _ => true) (Rs := fun b => .str (blank b)) ⟨rfl, rfl, rfl, .inl rfl⟩ (by walk_at "ev") src_list (by omega) (fun _ => D_mono _) (fun _ _ _ => rfl) (fun C b _ _ => ?_)) (by rw [List.filter_eq_self.mpr (fun _ _ => rfl)])) hl) (D_mono _) (st1_fn (by decide)) (by rfl) fun s F => ?_
  · refine ev_if (v := b) (trc (tr_str (op := .Eq) (a := sg b) (by walk_at "ev") ev_str rfl) (by cases b <;> rfl)) (fun hv => ?_) fun hv => ?_
    · rw [hv]; exact ev_str
    · rw [hv]; exact ev_str
  refine xs_newlist (ds := []) F r ar_nil (by decide) (st1_fn (by decide)) (by rfl) fun l s hlY F => ?_
  unfold roundsO at h
  obtain ⟨⟨tx, acc⟩, hg, rfl⟩ := Option.map_eq_some_iff.mp h
  refine xs_for (xs := rangeL 0 1 4) (Pa := fun i => D (.int i)) (Vi := fun pre => [("text", D (.str ((goM rstep pre (blanks row, [])).getD ("", [])).1)), ("rounds", Is (.ref l))]) (MUi := fun pre => [(l, LsR true (((goM rstep pre (blanks row, [])).getD ("", [])).2.map .int))]) (F.weaken (by walk_at "sub")) r
    (ev_range1 (n := 4) Kc (by rfl) ev_int) (src_range (range_small ?_ ?_ ?_ ?_) (range_size ?_)) (st1_fn (by decide)) (fun _ => by rfl) (fun _ => D_mono _) (fun p hp => hp) rfl ?_ ?_
  · omega
  · omega
  · omega
  · omega
  · omega
  · intro pre i post I R s' hx hI F E'
    obtain ⟨n1, n2, g1, g2, g3⟩ := goM_mid hx hg
    rw [g1] at F
    rw [g3]
    try simp only [Option.getD_some] at F ⊢
    obtain ⟨t1, a1⟩ := n1
    have ha1 : a1.length ≤ 4 := by
      have e := rstep_len g1
      have e2 := congrArg List.length hx
      rw [rangeL_len, List.length_append, List.length_cons] at e2
      simp only [List.length_nil] at e
      omega
    unfold rstep at g2
    split at g2
    · rename_i hlt
      obtain ⟨c0, hc0, rfl⟩ := Option.map_eq_some_iff.mp g2
      dsimp only at hlt hc0 F ⊢
      have hlen : (t1 ++ ("( \t" : Str)).length < 1503 := by
        rw [Str.length_append]; show t1.length + 3 < _; omega
      have hcl := ws_len (t1 ++ ("( \t" : Str)).cps.toList ws0 0 (Nat.le_refl _) (Int.le_refl _)
      refine xs_assign (P := WsP C (wsF (t1 ++ "( \t"))) F r (ev_new (k := 2) Kc Ws (by omega) (by rfl) (ev_cat (by walk_at "ev") ev_str (by show t1.length + 3 ≤ _; omega))) (WsP_mono _ _) (st1_fn (by decide)) (by rfl) fun s F => ?_
      refine xs_append (d := .int ((wsAll (t1 ++ "( \t")).2.2.2 - c0)) F (by walk_at "mem") r (by rw [List.length_map]; omega) (ev_sub (ev_attr Ws (fs := wsF (t1 ++ "( \t")) (by walk_at "ev") rfl (by decide))
        (ev_itemT (xs := (wsAll (t1 ++ "( \t")).1.map .int) (i := 0) (ev_itemT (xs := [.tuple ((wsAll (t1 ++ "( \t")).1.map .int), .int (wsAll (t1 ++ "( \t")).2.1]) (i := 0) (ev_attr Ws (fs := wsF (t1 ++ "( \t")) (by walk_at "ev") rfl (by decide)) ev_int rfl (by show 2 < 2 ^ 62; decide)) ev_int (pick_nat (Int.le_refl _) ?_) ?_)) fun s F => ?_
      · show (List.map PyData.int _)[0]? = _
        rw [List.getElem?_map, hc0]; rfl
      · rw [List.length_map]
        rw [show (t1 ++ ("( \t" : Str)).cps.toList.length = (t1 ++ ("( \t" : Str)).length from Array.length_toList] at hcl
        show (wsGo ws0 _).1.length < _
        omega
      refine xs_reassign (P := D (.str (Txt.join "" (Txt.split t1 " \t")))) F r (ev_join ev_str (ev_split (by walk_at "ev") ev_str (by rfl) (by omega)) ?_) (D_mono _) (st1_fn (by decide)) fun s F => xs_nil ?_
      · have h5 := sum_le (xs := Txt.split t1 " \t") (n := t1.length) (fun p hp => split_len p hp)
        have h6 := split_num (x := t1) (y := " \t")
        have h7 := Nat.mul_le_mul (show (Txt.split t1 " \t").length ≤ 1502 by omega) (show t1.length ≤ 1500 by omega)
        show _ + _ * 0 ≤ _
        omega
      · show FS _ _ _ _ _ _ _ _ _ _
        rw [List.map_append]
        exact F.weaken (by walk_at "sub")
    · cases g2
  · intro s F
    rw [hg] at F
    refine xs_return_rest (P := D (.list (acc.map .int))) F (by walk_at "mem") r (by walk_at "ev") fun v s' F' p => RetP.of F'.kp p (D_mono _) fun b hb => mem_noA.mpr ⟨.tail _ (hY b hb), fun q => hlY (q ▸ hY b hb)⟩
theorem bind3 {par : Arguments} {x y z : Str} (h : parOk par [x, y, z] = true) (hxy : (y == x) = false) (hxz : (z == x) = false) (hyz : (z == y) = false) (fd : FuncData) (vs : List Value) (h1 : fd.params = par) (h2 : fd.defaults = .none) (h3 : fd.kwdefaults = .none) (h4 : vs.length = 3) : bindArgs fd ⟨vs, []⟩ = pure ([x, y, z].zip vs) := by
  obtain ⟨n, q, ⟨po, as, va, ko, kd, kw, ds⟩, bd, sc, gl, cl, df, kwd⟩ := fd
  dsimp only at h1 h2 h3
  subst h1 h2 h3
  simp only [parOk, Bool.and_eq_true, List.isEmpty_iff, Option.isNone_iff_eq_none, beq_iff_eq] at h
  obtain ⟨⟨⟨⟨⟨rfl, rfl⟩, rfl⟩, rfl⟩, rfl⟩, h⟩ := h
  match vs, h4 with
  | [v, w, u], _ =>
    unfold bindArgs
    have e : seqItems? Value.none = pure none := rfl
    simp [h, e, List.lookup_cons, hxy, hxz, hyz]
theorem mulOk_small {x : Str} {n : Int} (hx : x.length ≤ 10) (h1 : -1000000 ≤ n) (h2 : n ≤ 1000000) : MulOk x n := by
  refine ⟨by simp; omega, fun h _ => ?_, fun h _ => ?_⟩
  · have : (10 : Int) ≤ (2 ^ 63 - 1) / n := by
      rw [Int.le_ediv_iff_mul_le (by omega)]; omega
    omega
  · unfold Builtin.Str.tooLong
    have := Nat.mul_le_mul hx (show n.toNat ≤ 1000000 by omega)
    have h1 := sizeLine_eq
    simp; omega
def groups (sizes : List Int) : List Str := sizes.map fun size => Txt.mul " " size ++ "\t"
def apartF (row : List Bool) (sizes : List Int) (behind : Str) : Bool :=
  PyData.eqv (normD (blanks row ++ behind ++ "( \t")) (normD (Txt.mul "\t" (row.length - sizes.sum - sizes.length) ++ Txt.join "" (groups sizes)))
theorem groups_le {sizes : List Int} (h : ∀ z ∈ sizes, z ≤ 40) : ∀ p ∈ groups sizes, p.length ≤ 41 := fun p hp => by
  obtain ⟨z, hz, rfl⟩ := List.mem_map.mp hp
  rw [Str.length_append]
  have := len_mul_leN (x := " ") (n := z) (L := 1) (N := 40) (by decide) (h z hz)
  show _ + 1 ≤ _
  omega
theorem apart_ok {g : Bool} {c : Cx} {K : Frag} {C fI fE : Addr} {row : List Bool} {sizes : List Int} {behind : Str} (Kc : Kt c) (Ws : WsK c K C fI fE) (hl : row.length < 500) (hs : sizes.length ≤ 20) (hz : ∀ z ∈ sizes, 0 ≤ z ∧ z ≤ 40) (hb : behind.length < 100) :
    DefOK g 8 c "_law_apart" [D (rowD row), D (.list (sizes.map .int)), D (.str behind)] (D (.bool (apartF row sizes behind))) := DefOK.of Kc.apart fun a cd hf => by
  refine call_fn (xs := ["row", "sizes", "behind"]) hf.2 (bind3 (by rfl) (by decide) (by decide) (by decide)) rfl (by decide) (by decide) (by simp [D_mono]) fun A Y₀ W Y s₀ s L E r hY hW F => ?_
  have h1 := sizeLine_eq
  have h2 := blanks_len row
  have hsum : 0 ≤ sizes.sum ∧ sizes.sum ≤ 800 := by
    have key : ∀ l : List Int, (∀ z ∈ l, 0 ≤ z ∧ z ≤ 40) → 0 ≤ l.sum ∧ l.sum ≤ 40 * l.length := by
      intro l
      induction l with
      | nil => intro _; exact ⟨Int.le_refl _, Int.le_refl _⟩
      | cons a r ih =>
        intro h
        have := ih fun z hz => h z (.tail _ hz)
        have := h a (.head _)
        rw [List.sum_cons, List.length_cons]
        omega
    have := key sizes hz
    omega
  have hg := groups_le fun z h => (hz z h).2
  have hgl : (groups sizes).length = sizes.length := by unfold groups; rw [List.length_map]
  have hgs := sum_le hg
  have hgs2 : (groups sizes).length * 41 ≤ 20 * 41 := Nat.mul_le_mul_right _ (by omega)
  have hoth := len_mul_leN (x := "\t") (n := row.length - sizes.sum - sizes.length) (L := 1) (N := 500) (by decide) (by omega)
  have hj := join_len "" (groups sizes)
  rw [show ("" : Str).length = 0 from rfl, Nat.mul_zero] at hj
  refine xs_assign (P := D (.str (blanks row ++ behind))) F r (ev_cat (ev_blanks (evc (ev_comp (xs := row) (Pa := fun b => D (bx b)) (keep := fun _ => true) (Rs := fun b => .str (blank b)) ⟨rfl, rfl, rfl, .inl rfl⟩ (by walk_at "ev") src_list (by omega) (fun _ => D_mono _) (fun _ _ _ => rfl) (fun C b _ _ => ?_)) (by rw [List.filter_eq_self.mpr (fun _ _ => rfl)])) (by omega)) (by walk_at "ev") (by omega)) (D_mono _) (st1_fn (by decide)) (by rfl) fun s F => ?_
  · refine ev_if (v := b) (trc (tr_str (op := .Eq) (a := sg b) (by walk_at "ev") ev_str rfl) (by cases b <;> rfl)) (fun hv => ?_) fun hv => ?_
    · rw [hv]; exact ev_str
    · rw [hv]; exact ev_str
  have hlen : (blanks row ++ behind).length < 600 := by rw [Str.length_append]; omega
  refine xs_assign (P := D (.str (Txt.mul "\t" (row.length - sizes.sum - sizes.length)))) F r (ev_times ev_str (ev_sub (ev_sub (evc (ev_len (xs := row.map bx) Kc (by rfl) (by walk_at "ev") (by rw [List.length_map]; omega)) (by rw [List.length_map])) (ev_sum Kc (by rfl) (by walk_at "ev"))) (evc (ev_len (xs := sizes.map .int) Kc (by rfl) (by walk_at "ev") (by rw [List.length_map]; omega)) (by rw [List.length_map]))) (mulOk_small (by decide) (by omega) (by omega))) (D_mono _) (st1_fn (by decide)) (by rfl) fun s F => ?_
  refine xs_return (P := D (.bool (apartF row sizes behind))) F r (ev_equal (k := 2) Ws (ev_new (k := 2) Kc Ws ?_ (by rfl) (ev_cat (by walk_at "ev") ev_str ?_)) (ev_new (k := 2) Kc Ws ?_ (by rfl) (ev_cat (y := Txt.join "" (groups sizes)) (by walk_at "ev") (ev_join ev_str (evc (ev_comp (xs := sizes) (Pa := fun z => D (.int z)) (keep := fun _ => true) (Rs := fun z => .str (Txt.mul " " z ++ "\t")) ⟨rfl, rfl, rfl, .inl rfl⟩ (by walk_at "ev") src_list ?_ (fun _ => D_mono _) (fun _ _ _ => rfl) (fun C z hz' _ => ?_)) ?_) ?_) ?_))) fun v s' F' p => RetP.of F'.kp p (D_mono _) hY
  · rw [Str.length_append]; show _ + 3 < _; omega
  · show _ + 3 ≤ _; omega
  · rw [Str.length_append]; omega
  · omega
  · have := hz z hz'
    have h3 := len_mul_leN (x := " ") (n := z) (L := 1) (N := 40) (by decide) (by omega)
    exact ev_cat (ev_times ev_str (by walk_at "ev") (mulOk_small (by decide) (by omega) (by omega))) ev_str (by show _ + 1 ≤ _; omega)
  · rw [List.filter_eq_self.mpr (fun _ _ => rfl)]; unfold groups; rw [List.map_map]; rfl
  · show _ + _ * 0 ≤ _
    omega
  · omega
def drawAt (ns : List Int) (k : Int) : Int := ([77, 36, 31, 46] : List Int).getD k.toNat 0 + ((rangeL k 4 ((ns.length - k.toNat + 3) / 4)).map fun j => (ns.getD j.toNat 0).fmod 5600).sum
def drawsOf (ns : List Int) : List Int := (rangeL 0 1 4).map (drawAt ns)
def ridesOf (ds : List Int) : List Int := ds.map fun d => (d.fdiv 7).fmod 8
def placesOf (ds : List Int) : List Int := ds.map fun d => d.fmod 7
def mostOf (ds : List Int) : Int := 1 + ds.sum.fmod 3
def ballsOf (ps : List Int) : List Int := (rangeL 0 1 7).filter fun b => ps.any (· == b)
def rowTo (balls : List Int) (n : Nat) : List Bool := (rangeL 0 1 n).map fun b => balls.any (· == b)
def rowOf (balls : List Int) : List Bool := rowTo balls (8 + 2 * balls.length)
def lateOf (balls : List Int) : Option (List Int) := goM (fun b (_ : Int) => moved b) (rangeL 0 1 5) balls
def sizesOf (rounds : List Int) (r0 : Int) : List Int := isort ((rangeL 0 1 r0.toNat).map fun k => ((rounds.filter fun one => decide (k < one)).length : Int))
def ballsIn (row : List Bool) (n : Nat) : List Int := (rangeL 0 1 n).filter fun b => row.getD b.toNat false
def backOf (row : List Bool) (n : Nat) : List Bool := (rangeL 0 1 n).map fun b => row.getD (row.length - 1 - b.toNat) false
def cartD (row : List Bool) (most : Int) : PyData := .tuple [rowD (cart most row).2.2, .int (cart most row).2.1]
structure LawOk (row : List Bool) (balls rides : List Int) (most : Int) : Prop where
  ex : ∃ rounds late st ot r0 ll, roundsO row = some rounds ∧ lateOf balls = some late ∧ stepped chkF rides row = some st ∧ stepped chkF rides (cart most row).2.2 = some ot ∧ rounds[0]? = some r0 ∧ late.getLast? = some ll ∧
    (0 ≤ r0 ∧ r0 ≤ 20 ∧ 0 ≤ ll ∧ ll ≤ 100 ∧ rounds.length = 4) ∧ (∀ z ∈ sizesOf rounds r0, 0 ≤ z ∧ z ≤ 40) ∧
    runsS (rowTo late (ll + 2).toNat) = sizesOf rounds r0 ∧ apartF (rowTo late (ll + 2).toNat) (sizesOf rounds r0) "" = true ∧ apartF (rowTo late (ll + 2).toNat) (sizesOf rounds r0) " " = false ∧
    apartF row (sizesOf rounds r0) "" = PyData.eqv (.list ((isort (runsS row)).map .int)) (.list ((sizesOf rounds r0).map .int)) ∧
    moved balls = some (ballsIn st row.length) ∧ (cart 4 row).2.2 = st ∧ (cart most st).2.2 = ot ∧ (cart most st).2.1 = (cart most row).2.1 ∧
    (cart 9 (backOf st row.length)).2.2 = backOf row row.length ∧ ((rangeL 1 1 4).map fun room => (cart room row).2.1) = ((rangeL 1 1 4).map fun room => (rounds.take room.toNat).sum)
theorem moved_low {balls out : List Int} {M : Int} (hb : ∀ b ∈ balls, 0 ≤ b ∧ b < M) (h : moved balls = some out) : out.length = balls.length ∧ ∀ b ∈ out, 0 ≤ b ∧ b < M + 8 := by
  obtain ⟨fin, hf, rfl⟩ := Option.map_eq_some_iff.mp h
  refine ⟨?_, fun b hm => ?_⟩
  · have h1 := moved_len hf
    rw [(isort_perm fin).length_eq, h1]; simp
  · have hm := (isort_perm fin).mem_iff.mp hm
    have key : ∀ (xs new out : List Int), (∀ b ∈ xs, 0 ≤ b ∧ b < M) → (∀ b ∈ new, 0 ≤ b ∧ b < M + 8) → goM (movedOne balls) xs new = some out → ∀ b ∈ out, 0 ≤ b ∧ b < M + 8 := by
      intro xs
      induction xs with
      | nil => intro new out _ h2 e; cases e; exact h2
      | cons x xs ih =>
        intro new out h1 h2 e
        obtain ⟨n1, e1, e2⟩ := Option.bind_eq_some_iff.mp (show (movedOne balls new x).bind (goM (movedOne balls) xs) = some out from e)
        refine ih n1 out (fun b hb => h1 b (.tail _ hb)) ?_ e2
        obtain ⟨m, hm, rfl⟩ := Option.map_eq_some_iff.mp e1
        obtain ⟨h3, _⟩ := minL_spec hm
        obtain ⟨i, hi, rfl⟩ := mem_rangeL (List.mem_filter.mp h3).1
        have := h1 x (.head _)
        intro b hb
        rcases List.mem_append.mp hb with hb | hb
        · exact h2 b hb
        · rw [List.mem_singleton.mp hb]; omega
    exact key balls [] fin hb (fun b hb => by cases hb) hf b hm
theorem late_low {balls : List Int} : ∀ {xs : List Int} {b0 out : List Int} {M : Int}, (∀ b ∈ b0, 0 ≤ b ∧ b < M) → goM (fun b (_ : Int) => moved b) xs b0 = some out → out.length = b0.length ∧ ∀ b ∈ out, 0 ≤ b ∧ b < M + 8 * xs.length
  | [], b0, out, M, h, e => by cases e; exact ⟨rfl, fun b hb => by have := h b hb; simp; omega⟩
  | x :: xs, b0, out, M, h, e => by
    obtain ⟨b1, e1, e2⟩ := Option.bind_eq_some_iff.mp (show (moved b0).bind (goM _ xs) = some out from e)
    obtain ⟨l1, h1⟩ := moved_low h e1
    obtain ⟨l2, h2⟩ := late_low (balls := balls) h1 e2
    refine ⟨l2.trans l1, fun b hb => ?_⟩
    have := h2 b hb
    rw [List.length_cons]; omega
theorem rowTo_len (b : List Int) (n : Nat) : (rowTo b n).length = n := by unfold rowTo; rw [List.length_map, rangeL_len]
theorem ballsOf_low (ps : List Int) : (ballsOf ps).length ≤ 7 ∧ ∀ b ∈ ballsOf ps, 0 ≤ b ∧ b < 7 := by
  refine ⟨Nat.le_trans (List.length_filter_le _ _) (by rw [rangeL_len]; decide), fun b hb => ?_⟩
  obtain ⟨i, hi, rfl⟩ := mem_rangeL (List.mem_filter.mp hb).1
  omega
theorem strs_lay : ∀ l : List PyData, (∀ d ∈ l, d.canLay0 = true ∧ d.depth ≤ 4) → PyData.canLayAll0 l = true ∧ PyData.depthAll l ≤ 4
  | [], _ => ⟨rfl, by decide⟩
  | d :: r, h => by
    have h1 := h d (.head _)
    have h2 := strs_lay r fun d hd => h d (.tail _ hd)
    refine ⟨?_, ?_⟩
    · show (PyData.canLay0 d && PyData.canLayAll0 r) = true
      rw [h1.1, h2.1]; rfl
    · simp only [PyData.depthAll]
      omega
theorem list_lay {l : List PyData} (h : ∀ d ∈ l, d.canLay0 = true ∧ d.depth ≤ 4) : (PyData.list l).canLay0 = true ∧ (PyData.list l).depth ≤ 9 := by
  have := strs_lay l h
  exact ⟨this.1, by simp only [PyData.depth]; omega⟩
theorem intsD_lay (ns : List Int) : (PyData.list (ns.map .int)).canLay0 = true ∧ (PyData.list (ns.map .int)).depth ≤ 9 := list_lay fun d hd => by
  obtain ⟨i, _, rfl⟩ := List.mem_map.mp hd
  exact ⟨rfl, by simp only [PyData.depth]; omega⟩
theorem rowD_lay0 (row : List Bool) : (rowD row).canLay0 = true ∧ (rowD row).depth ≤ 5 := by
  have := strs_lay (row.map bx) fun d hd => by
    obtain ⟨i, _, rfl⟩ := List.mem_map.mp hd
    exact ⟨by cases i <;> decide +kernel, by show PyData.depth (.str _) ≤ 4; simp only [PyData.depth]; omega⟩
  exact ⟨this.1, by simp only [PyData.depth]; omega⟩
theorem rowD_lay (row : List Bool) : (rowD row).canLay0 = true ∧ (rowD row).depth ≤ 9 := ⟨(rowD_lay0 row).1, Nat.le_trans (rowD_lay0 row).2 (by decide)⟩
theorem pair_lay (row : List Bool) (n : Int) : (PyData.tuple [rowD row, .int n]).canLay0 = true ∧ (PyData.tuple [rowD row, .int n]).depth ≤ 9 := by
  have h := rowD_lay0 row
  refine ⟨?_, ?_⟩
  · show (PyData.canLay0 (rowD row) && (true && true)) = true
    rw [h.1]; rfl
  · have h2 := h.2
    generalize rowD row = d at h2
    simp only [PyData.depth, PyData.depthAll]; omega
theorem eqv_self {d e : PyData} (h : d.canLay0 = true) (q : d = e) : PyData.eqv d e = true := q ▸ SeqAt.eqv_refl d h
theorem neg_self {d e : PyData} (h : d.canLay0 = true) (q : d = e) : (!PyData.eqv d e) = false := by rw [eqv_self h q]; rfl
theorem keep_all {α : Type} (xs : List α) : xs.filter (fun _ => true) = xs := List.filter_eq_self.mpr fun _ _ => rfl
theorem intMul_small {b : Int} (h : -1000000 ≤ b) (h2 : b ≤ 1000000) : IntMulOk 2 b := IntMulOk.of_left (by decide)
theorem rangeSize4 {a b : Int} (h0 : 0 ≤ a) (hb : 0 ≤ b) : Builtin.Range.rangeSize a b 4 = ((b.toNat - a.toNat + 3) / 4 : Nat) := by
  unfold Builtin.Range.rangeSize
  rw [if_pos (by decide)]
  split
  · omega
  · omega
theorem pylong_small (x y : Int) (h : Builtin.divisionGoesByPylong 1 y = false) (hy : y = 4 ∨ y = 7) : Builtin.divisionGoesByPylong x y = false := by
  rcases hy with rfl | rfl <;> rfl
section
variable {g : Bool} {k : Nat} {c : Cx} {env : Env} {V : List (Str × Pr)} {W Y : List Addr} {MU : List (Addr × Rp)} {GN : List (Nat × GenState)} {s₀ s : Shared} {A : Around} {Q : Flow → Shared → Prop} {E : Value → Shared → Prop}
abbrev lEnv (a : Addr) (cd : Value) (L : Addr) : Env := fnEnv a (nmOf (stm 69)) (scOf (stm 69)) cd L
theorem law_a {a : Addr} {cd : Value} {L : Addr} {ns : List Int} (K : Kt c) (r : Room 12 A) (F : FS true c (lEnv a cd L) [("script", D (.list (ns.map .int)))] W Y MU GN s₀ s) (hl : ns.length ≤ 63)
    (q : ∀ s', FS true c (lEnv a cd L) [("balls", D (.list ((ballsOf (placesOf (drawsOf (ns.take 60)))).map .int))), ("most", D (.int (mostOf (drawsOf (ns.take 60))))), ("rides", D (.list ((ridesOf (drawsOf (ns.take 60))).map .int)))] W Y MU GN s₀ s' → wpAny c.M A (execs ((bodyOf (stm 69)).drop 6) (lEnv a cd L)) Q E s') :
    wpAny c.M A (execs (bodyOf (stm 69)) (lEnv a cd L)) Q E s := by
  have h1 := sizeLine_eq
  refine xs_assign (P := D (.list ((ns.take 60).map .int))) F r (evc (ev_upto (xs := ns.map .int) (i := 60) (by walk_at "ev") ev_int (by decide) (by rw [List.length_map]; omega)) (by rw [← List.map_take]; rfl)) (D_mono _) (st1_fn (by decide)) (by rfl) fun s F => ?_
  have hl2 : (ns.take 60).length ≤ 60 := by rw [List.length_take]; omega
  generalize ns.take 60 = ms at F q hl2
  refine xs_assign_comp (xs := rangeL 0 1 4) (Pa := fun i => D (.int i)) (keep := fun _ => true) (Rs := fun i => .int (drawAt ms i)) F r ⟨rfl, rfl, rfl, .inl rfl⟩ (ev_range1 (n := 4) K (by rfl) ev_int) (src_range (range_small (by decide) (by decide) (by decide) (by decide)) (range_size (by decide))) (by rw [rangeL_len]; omega) (fun _ => D_mono _) (fun _ _ _ => rfl) (fun C i hi _ => ?_) (st1_fn (by decide)) (by rfl) fun s F => ?_
  · obtain ⟨n, hn, rfl⟩ := mem_rangeL hi
    refine ev_add (ev_item (xs := ([77, 36, 31, 46] : List Int).map .int) (ev_list (ds := ([77, 36, 31, 46] : List Int).map .int) (ar_cons (D_mono _) ev_int (ar_cons (D_mono _) ev_int (ar_cons (D_mono _) ev_int (ar_cons (D_mono _) ev_int ar_nil))))) (by walk_at "ev") (pick_map (f := .int) (d := 0) (by omega) (by show _ < (4 : Int); omega)) (by decide)) (ev_sum K (by rfl) ?_)
    refine evc (ev_comp (xs := rangeL (0 + (n : Int) * 1) 4 ((ms.length - (0 + (n : Int) * 1).toNat + 3) / 4)) (Pa := fun i => D (.int i)) (keep := fun _ => true) (Rs := fun j => .int ((ms.getD j.toNat 0).fmod 5600)) ⟨rfl, rfl, rfl, .inl rfl⟩
      (ev_range3 (m := 0 + (n : Int) * 1) (n := ms.length) (st := 4) K (by rfl) (by walk_at "ev") (evc (ev_len (xs := ms.map .int) K (by rfl) (by walk_at "ev") (by rw [List.length_map]; omega)) (by rw [List.length_map])) ev_int (by decide) (pylong_small _ _ (by rfl) (.inl rfl)))
      (src_range (small4 (by omega) (by omega) (by omega) (by omega)) (by rw [rangeSize4 (by omega) (by omega)]; rfl)) (by rw [rangeL_len]; omega) (fun _ => D_mono _) (fun _ _ _ => rfl) (fun C2 j hj _ => ?_)) (by rw [keep_all, List.map_map]; rfl)
    obtain ⟨m, hm, rfl⟩ := mem_rangeL hj
    exact ev_mod (ev_item (xs := ms.map .int) (by walk_at "ev") (by walk_at "ev") (pick_map (f := .int) (d := 0) (by omega) (by omega)) (by rw [List.length_map]; omega)) ev_int (by decide)
  rw [keep_all, show (rangeL 0 1 4).map (fun i => PyData.int (drawAt ms i)) = (drawsOf ms).map .int from by unfold drawsOf; rw [List.map_map]; rfl] at F
  have hd : (drawsOf ms).length = 4 := by unfold drawsOf; rw [List.length_map, rangeL_len]
  generalize drawsOf ms = ds at F q hd
  refine xs_assign_comp (xs := ds) (Pa := fun i => D (.int i)) (keep := fun _ => true) (Rs := fun d => .int ((d.fdiv 7).fmod 8)) F r ⟨rfl, rfl, rfl, .inl rfl⟩ (by walk_at "ev") src_list (by omega) (fun _ => D_mono _) (fun _ _ _ => rfl) (fun C i hi _ => ?_) (st1_fn (by decide)) (by rfl) fun s F => ?_
  · exact ev_mod (ev_fdiv (by walk_at "ev") ev_int (by decide) (pylong_small _ _ (by rfl) (.inr rfl))) ev_int (by decide)
  rw [keep_all, show ds.map (fun d => PyData.int ((d.fdiv 7).fmod 8)) = (ridesOf ds).map .int from by unfold ridesOf; rw [List.map_map]; rfl] at F
  refine xs_assign (P := D (.list ((placesOf ds).map .int))) F r (evc (ev_comp (xs := ds) (Pa := fun i => D (.int i)) (keep := fun _ => true) (Rs := fun d => .int (d.fmod 7)) ⟨rfl, rfl, rfl, .inl rfl⟩ (by walk_at "ev") src_list (by omega) (fun _ => D_mono _) (fun _ _ _ => rfl) (fun C i hi _ => ev_mod (by walk_at "ev") ev_int (by decide))) (by rw [keep_all]; unfold placesOf; rw [List.map_map]; rfl)) (D_mono _) (st1_fn (by decide)) (by rfl) fun s F => ?_
  refine xs_assign (P := D (.int (mostOf ds))) F r (ev_add ev_int (ev_mod (ev_sum K (by rfl) (by walk_at "ev")) ev_int (by decide))) (D_mono _) (st1_fn (by decide)) (by rfl) fun s F => ?_
  refine xs_assign (P := D (.list ((ballsOf (placesOf ds)).map .int))) F r (ev_comp (xs := rangeL 0 1 7) (Pa := fun i => D (.int i)) (keep := fun b => (placesOf ds).any (· == b)) (Rs := fun b => .int b) ⟨rfl, rfl, rfl, .inl rfl⟩ (ev_range1 (n := 7) K (by rfl) ev_int) (src_range (range_small (by decide) (by decide) (by decide) (by decide)) (range_size (by decide))) (by rw [rangeL_len]; omega) (fun _ => D_mono _) (fun C i _ => tr_in (op := .In) (by walk_at "ev") (by walk_at "ev") rfl) (fun C i hi _ => by walk_at "ev")) (D_mono _) (st1_fn (by decide)) (by rfl) fun s F => ?_
  exact q s (F.weaken (by walk_at "sub"))
end
section
variable {g : Bool} {k : Nat} {c : Cx} {env : Env} {V : List (Str × Pr)} {W Y : List Addr} {MU : List (Addr × Rp)} {GN : List (Nat × GenState)} {s₀ s : Shared} {A : Around} {Q : Flow → Shared → Prop} {E : Value → Shared → Prop}
theorem pick_last {xs : List Int} {d : Int} (h : xs.getLast? = some d) : pick (xs.map .int) (-1) = some (.int d) := by
  obtain ⟨ys, rfl⟩ := List.getLast?_eq_some_iff.mp h
  unfold pick seqIndex?
  rw [List.length_map, List.length_append]
  have h1 : (-1 : Int) < 0 := by decide
  simp only [h1, if_true, List.length_singleton]
  have e : (-1 : Int) + ((ys.length + 1 : Nat) : Int) = ys.length := by omega
  rw [e]
  have h2 : (decide (0 ≤ (ys.length : Int)) && decide ((ys.length : Int) < ((ys.length + 1 : Nat) : Int))) = true := by
    rw [decide_eq_true (by omega), decide_eq_true (by omega)]; rfl
  rw [if_pos h2]
  show (List.map PyData.int (ys ++ [d]))[(ys.length : Int).toNat]? = _
  simp
theorem law_b {K' : Frag} {C fI fE : Addr} {a : Addr} {cd : Value} {L : Addr} {rides balls rounds late : List Int} {r0 ll most : Int} (K : Kt c) (Ws : WsK c K' C fI fE) (r : Room 12 A) (hb : balls.length ≤ 7 ∧ ∀ b ∈ balls, 0 ≤ b ∧ b < 7)
    (F : FS true c (lEnv a cd L) [("balls", D (.list (balls.map .int))), ("most", D (.int most)), ("rides", D (.list (rides.map .int)))] W Y MU GN s₀ s)
    (e1 : roundsO (rowOf balls) = some rounds) (e2 : lateOf balls = some late) (e3 : rounds[0]? = some r0) (e4 : late.getLast? = some ll) (hr0 : 0 ≤ r0 ∧ r0 ≤ 20) (hll : 0 ≤ ll ∧ ll ≤ 100) (hrl : rounds.length = 4)
    (q : ∀ s', FS true c (lEnv a cd L) [("sizes", D (.list ((sizesOf rounds r0).map .int))), ("far", D (rowD (rowTo late (ll + 2).toNat))), ("rounds", D (.list (rounds.map .int))), ("row", D (rowD (rowOf balls))), ("balls", D (.list (balls.map .int))), ("most", D (.int most)), ("rides", D (.list (rides.map .int)))] W Y MU GN s₀ s' → wpAny c.M A (execs ((bodyOf (stm 69)).drop 12) (lEnv a cd L)) Q E s') :
    wpAny c.M A (execs ((bodyOf (stm 69)).drop 6) (lEnv a cd L)) Q E s := by
  have h1 := sizeLine_eq
  have hrowl : (rowOf balls).length ≤ 22 := by unfold rowOf; rw [rowTo_len]; omega
  have hsg : ∀ b : Bool, PyData.str (if b then "(" else ")") = bx b := fun b => by cases b <;> rfl
  refine xs_assign (P := D (rowD (rowOf balls))) F r (evc (ev_comp (xs := rangeL 0 1 (8 + 2 * balls.length)) (Pa := fun i => D (.int i)) (keep := fun _ => true) (Rs := fun b => bx (balls.any (· == b))) ⟨rfl, rfl, rfl, .inl rfl⟩
    (ev_range1 (n := 8 + 2 * (balls.length : Int)) K (by rfl) (ev_add ev_int (ev_mul ev_int (evc (ev_len (xs := balls.map .int) K (by rfl) (by walk_at "ev") (by rw [List.length_map]; omega)) (by rw [List.length_map])) (intMul_small (by omega) (by omega))))) (src_range (range_small (by decide) (by decide) (by omega) (by omega)) (range_size (by omega))) (by rw [rangeL_len]; omega) (fun _ => D_mono _) (fun _ _ _ => rfl) (fun C i hi _ => ?_)) (by rw [keep_all]; unfold rowOf rowTo; rw [rowD, List.map_map]; rfl)) (D_mono _) (st1_fn (by decide)) (by rfl) fun s F => ?_
  · refine ev_if (v := balls.any (· == i)) (tr_in (op := .In) (by walk_at "ev") (by walk_at "ev") rfl) (fun hv => ?_) fun hv => ?_
    · rw [hv]; exact ev_str
    · rw [hv]; exact ev_str
  refine xs_assign (P := D (.list (rounds.map .int))) F r (ev_call (rounds_ok K Ws (by omega) e1) (by rfl) (ar1 (D_mono _) (by walk_at "ev"))) (D_mono _) (st1_fn (by decide)) (by rfl) fun s F => ?_
  refine xs_assign (P := D (.list (balls.map .int))) F r (by walk_at "ev") (D_mono _) (st1_fn (by decide)) (by rfl) fun s F => ?_
  unfold lateOf at e2
  refine xs_for (xs := rangeL 0 1 5) (Pa := fun i => D (.int i)) (Vi := fun pre => [("late", D (.list (((goM (fun b (_ : Int) => moved b) pre balls).getD []).map .int))), ("rounds", D (.list (rounds.map .int))), ("row", D (rowD (rowOf balls))), ("balls", D (.list (balls.map .int))), ("most", D (.int most)), ("rides", D (.list (rides.map .int)))]) (MUi := fun _ => MU) F r
    (ev_range1 (n := 5) K (by rfl) ev_int) (src_range (range_small (by decide) (by decide) (by decide) (by decide)) (range_size (by decide))) (st1_fn (by decide)) (fun _ => by rfl) (fun _ => D_mono _) (by walk_at "sub") rfl ?_ ?_
  · intro pre i post I R s' hx hI F E'
    obtain ⟨n1, n2, g1, g2, g3⟩ := goM_mid hx e2
    rw [g1] at F
    rw [g3]
    try simp only [Option.getD_some] at F ⊢
    obtain ⟨h2, h3⟩ := late_low (balls := balls) hb.2 g1
    have hp : pre.length ≤ 5 := by
      have := congrArg List.length hx
      rw [rangeL_len, List.length_append, List.length_cons] at this; omega
    refine xs_reassign (P := D (.list (n2.map .int))) F r (ev_call (moved_ok K (by omega) (fun b hb' => by have := h3 b hb'; omega) g2) (by rfl) (ar1 (D_mono _) (by walk_at "ev"))) (D_mono _) (st1_fn (by decide)) fun s F => xs_nil ?_
    show FS _ _ _ _ _ _ _ _ _ _
    exact F.weaken (by walk_at "sub")
  · intro s F
    rw [e2] at F
    obtain ⟨h2, h3⟩ := late_low (balls := balls) hb.2 e2
    try simp only [Option.getD_some] at F
    refine xs_assign_comp (xs := rangeL 0 1 (ll + 2).toNat) (Pa := fun i => D (.int i)) (keep := fun _ => true) (Rs := fun b => bx (late.any (· == b))) F r ⟨rfl, rfl, rfl, .inl rfl⟩
      (ev_range1 (n := ll + 2) K (by rfl) (ev_add (ev_item (xs := late.map .int) (i := -1) (by walk_at "ev") (ev_neg ev_int) (pick_last e4) (by rw [List.length_map]; omega)) ev_int)) (src_range (range_small (by decide) (by decide) (by omega) (by omega)) (range_size (by omega))) (by rw [rangeL_len]; omega) (fun _ => D_mono _) (fun _ _ _ => rfl) (fun C i hi _ => ?_) (st1_fn (by decide)) (by rfl) fun s F => ?_
    · refine ev_if (v := late.any (· == i)) (tr_in (op := .In) (by walk_at "ev") (by walk_at "ev") rfl) (fun hv => ?_) fun hv => ?_
      · rw [hv]; exact ev_str
      · rw [hv]; exact ev_str
    rw [keep_all, show (rangeL 0 1 (ll + 2).toNat).map (fun b => bx (late.any (· == b))) = (rowTo late (ll + 2).toNat).map bx from by unfold rowTo; rw [List.map_map]; rfl] at F
    refine xs_assign (P := D (.list ((sizesOf rounds r0).map .int))) F r (ev_sorted K (by rfl) (evc (ev_comp (xs := rangeL 0 1 r0.toNat) (Pa := fun i => D (.int i)) (keep := fun _ => true) (Rs := fun k => .int ((rounds.filter fun one => decide (k < one)).length : Int)) ⟨rfl, rfl, rfl, .inr rfl⟩
      (ev_range1 (n := r0) K (by rfl) (ev_item (xs := rounds.map .int) (by walk_at "ev") ev_int (pick_nat (Int.le_refl _) (by rw [List.getElem?_map]; show Option.map _ rounds[0]? = _; rw [e3]; rfl)) (by rw [List.length_map]; omega))) (src_range (range_small (by decide) (by decide) (by omega) (by omega)) (range_size (by omega))) (by rw [rangeL_len]; omega) (fun _ => D_mono _) (fun _ _ _ => rfl)
      (fun C k _ _ => evc (ev_len (xs := (rounds.filter fun one => decide (k < one)).map .int) K (by rfl) (ev_comp (xs := rounds) (Pa := fun i => D (.int i)) (keep := fun one => decide (k < one)) (Rs := fun o => .int o) ⟨rfl, rfl, rfl, .inl rfl⟩ (by walk_at "ev") src_list (by omega) (fun _ => D_mono _) (fun C2 i _ => tr_int (op := .Gt) (by walk_at "ev") (by walk_at "ev") rfl) fun C2 i _ _ => by walk_at "ev") ?_) (by rw [List.length_map]))) (by rw [keep_all]; exact congrArg PyData.list (List.map_map (f := fun k => ((rounds.filter fun one => decide (k < one)).length : Int)) (g := PyData.int) (l := rangeL 0 1 r0.toNat)).symm)) ?_ (isort_perm _) (isort_sorted _)) (D_mono _) (st1_fn (by decide)) (by rfl) fun s F => ?_
    · rw [List.length_map]
      have := List.length_filter_le (fun one => decide (k < one)) rounds
      omega
    · rw [List.length_map, rangeL_len]; omega
    exact q s (F.weaken (by walk_at "sub"))
end
section
variable {g : Bool} {k : Nat} {c : Cx} {env : Env} {V : List (Str × Pr)} {W Y : List Addr} {MU : List (Addr × Rp)} {GN : List (Nat × GenState)} {s₀ s : Shared} {A : Around} {Q : Flow → Shared → Prop} {E : Value → Shared → Prop}
theorem pick_back {α : Type} {f : α → PyData} {xs : List α} {i : Int} {d : α} (h0 : 0 ≤ i) (h : i < xs.length) : pick (xs.map f) (-1 - i) = some (f (xs.getD (xs.length - 1 - i.toNat) d)) := by
  unfold pick seqIndex?
  rw [List.length_map]
  have h1 : -1 - i < 0 := by omega
  simp only [h1, if_true]
  have e : -1 - i + (xs.length : Int) = ((xs.length - 1 - i.toNat : Nat) : Int) := by omega
  rw [e]
  have h2 : (decide (0 ≤ ((xs.length - 1 - i.toNat : Nat) : Int)) && decide (((xs.length - 1 - i.toNat : Nat) : Int) < (xs.length : Int))) = true := by
    rw [decide_eq_true (by omega), decide_eq_true (by omega)]; rfl
  rw [if_pos h2]
  show (List.map f xs)[(((xs.length - 1 - i.toNat : Nat) : Int)).toNat]? = _
  rw [Int.toNat_natCast, List.getElem?_map, getD_some (d := d) (by omega)]; rfl
theorem carts_at {row : List Bool} {m : Int} (h : 1 ≤ m ∧ m ≤ 4) : pick ((rangeL 1 1 4).map (cartD row)) (m - 1) = some (cartD row m) := by
  have h2 := pick_map (f := cartD row) (xs := rangeL 1 1 4) (i := m - 1) (d := 0) (by omega) (by rw [rangeL_len]; omega)
  rw [h2]
  have : (rangeL 1 1 4).getD (m - 1).toNat 0 = m := by
    obtain ⟨n, hn, rfl⟩ : ∃ n : Nat, n < 4 ∧ m = n + 1 := ⟨(m - 1).toNat, by omega, by omega⟩
    rw [show ((n : Int) + 1 - 1).toNat = n by omega]
    rw [List.getD_eq_getElem?_getD]
    unfold rangeL
    rw [List.getElem?_map, List.getElem?_range hn]
    simp; omega
  rw [this]
theorem ev_cartOf {row : List Bool} {m : Int} {l r : Expr} {pos pos2 : Pos} {i : Int} {d : PyData} {z : Expr} (h1 : EvOK g k c env V l (D (.list ((rangeL 1 1 4).map (cartD row))))) (h2 : EvOK g k c env V r (D (.int (m - 1)))) (hm : 1 ≤ m ∧ m ≤ 4) (h3 : EvOK g k c env V z (D (.int i))) (hp : pick [rowD (cart m row).2.2, .int (cart m row).2.1] i = some d)
    (hs : SubOk r := by intro _ _ _; with_unfolding_all rfl) (hs2 : SubOk z := by intro _ _ _; with_unfolding_all rfl) : EvOK g k c env V (.Subscript (.Subscript l r pos) z pos2) (D d) :=
  ev_itemT (xs := [rowD (cart m row).2.2, .int (cart m row).2.1]) (ev_item (d := cartD row m) h1 h2 (carts_at hm) (by rw [List.length_map, rangeL_len]; decide) hs) h3 hp (by show 2 < 2 ^ 62; decide) hs2
theorem law_c {K' : Frag} {C fI fE : Addr} {a : Addr} {cd : Value} {L : Addr} {rides balls rounds sizes : List Int} {row far st ot : List Bool} {most : Int} {Y₀ : List Addr} (K : Kt c) (Ws : WsK c K' C fI fE) (r : Room 12 A) (hY : ∀ b ∈ Y₀, b ∈ Y)
    (F : FS true c (lEnv a cd L) [("sizes", D (.list (sizes.map .int))), ("far", D (rowD far)), ("rounds", D (.list (rounds.map .int))), ("row", D (rowD row)), ("balls", D (.list (balls.map .int))), ("most", D (.int most)), ("rides", D (.list (rides.map .int)))] W Y MU GN s₀ s)
    (hb : balls.length ≤ 7 ∧ ∀ b ∈ balls, 0 ≤ b ∧ b < 7) (hrow : row.length ≤ 22) (hfar : far.length ≤ 102) (hrl : rounds.length = 4) (hsz : sizes.length ≤ 20) (hm : 1 ≤ most ∧ most ≤ 3) (hrd : rides.length = 4) (hrd8 : ∀ x ∈ rides, 0 ≤ x ∧ x < 8)
    (e1 : stepped chkF rides row = some st) (e2 : stepped chkF rides (cart most row).2.2 = some ot) (e3 : ∀ z ∈ sizes, 0 ≤ z ∧ z ≤ 40) (e4 : runsS far = sizes) (e5 : apartF far sizes "" = true) (e6 : apartF far sizes " " = false)
    (e7 : apartF row sizes "" = PyData.eqv (.list ((isort (runsS row)).map .int)) (.list (sizes.map .int))) (e8 : moved balls = some (ballsIn st row.length)) (e9 : (cart 4 row).2.2 = st) (e10 : (cart most st).2.2 = ot) (e11 : (cart most st).2.1 = (cart most row).2.1)
    (e12 : (cart 9 (backOf st row.length)).2.2 = backOf row row.length) (e13 : ((rangeL 1 1 4).map fun room => (cart room row).2.1) = ((rangeL 1 1 4).map fun room => (rounds.take room.toNat).sum)) (e14 : st.length = row.length) (e15 : (runsS row).length < 64) :
    wpAny c.M A (execs ((bodyOf (stm 69)).drop 12) (lEnv a cd L)) (RetP true Y₀ (D (.bool true)) s₀) E s := by
  have h1 := sizeLine_eq
  have hcl := fun m => cart_len m row (0, 0, [])
  refine xs_if (b := false) F r (trc (tr_or3 (tr_eq (op := .NotEq) (d := .list ((runsS far).map .int)) (e := .list (sizes.map .int)) (ev_call (runs_ok (row := far) K (by omega)) (by rfl) (ar1 (D_mono _) (by walk_at "ev"))) (by walk_at "ev") (intsD_lay _).1 (intsD_lay _).1 (intsD_lay _).2 rfl) (fun _ => tr_isB (op := .IsNot) (ev_call (apart_ok (row := far) (sizes := sizes) (behind := "") K Ws (by omega) hsz e3 (by decide)) (by rfl) (ar3 (D_mono _) (D_mono _) (D_mono _) (by walk_at "ev") (by walk_at "ev") ev_str)) ev_bool rfl)
    (fun _ => tr_isB (op := .IsNot) (ev_call (apart_ok (row := far) (sizes := sizes) (behind := " ") K Ws (by omega) hsz e3 (by decide)) (by rfl) (ar3 (D_mono _) (D_mono _) (D_mono _) (by walk_at "ev") (by walk_at "ev") ev_str)) ev_bool rfl)) (by rw [neg_self (intsD_lay _).1 (by rw [e4]), e5, e6]; rfl)) (fun q => by cases q) fun _ s F => xs_nil ?_
  refine xs_if (b := false) F r (trc (tr_isB (op := .IsNot) (ev_call (apart_ok (row := row) (sizes := sizes) (behind := "") K Ws (by omega) hsz e3 (by decide)) (by rfl) (ar3 (D_mono _) (D_mono _) (D_mono _) (by walk_at "ev") (by walk_at "ev") ev_str)) (ev_eq (op := .Eq) (d := .list ((isort (runsS row)).map .int)) (e := .list (sizes.map .int)) (ev_sorted K (by rfl) (ev_call (runs_ok (row := row) K (by omega)) (by rfl) (ar1 (D_mono _) (by walk_at "ev"))) e15 (isort_perm _) (isort_sorted _)) (by walk_at "ev") (intsD_lay _).1 (intsD_lay _).1 (intsD_lay _).2 rfl) rfl)
    (by rw [e7]; generalize PyData.eqv _ _ = b; cases b <;> rfl)) (fun q => by cases q) fun _ s F => xs_nil ?_
  refine xs_assign_comp (xs := rangeL 1 1 4) (Pa := fun i => D (.int i)) (keep := fun _ => true) (Rs := cartD row) F r ⟨rfl, rfl, rfl, .inl rfl⟩ (ev_range2 (m := 1) (n := 5) K (by rfl) ev_int ev_int) (src_range (range_small (by decide) (by decide) (by decide) (by decide)) (range_size (by decide))) (by rw [rangeL_len]; omega) (fun _ => D_mono _) (fun _ _ _ => rfl)
    (fun C i hi _ => ev_call (carted_ok K (by omega)) (by rfl) (ar2 (D_mono _) (D_mono _) (by walk_at "ev") (by walk_at "ev"))) (st1_fn (by decide)) (by rfl) fun s F => ?_
  rw [keep_all] at F
  refine xs_assign (P := D (rowD st)) F r (ev_call (stepped_ok K (fun x hx => check_ok K hx) (by omega) hrd hrd8 e1) (by rfl) (ar2 (D_mono _) (D_mono _) (by walk_at "ev") (by walk_at "ev"))) (D_mono _) (st1_fn (by decide)) (by rfl) fun s F => ?_
  refine xs_assign (P := D (rowD ot)) F r (ev_call (stepped_ok K (fun x hx => check_ok K hx) (by have := hcl most; unfold cart; simp at this; omega) hrd hrd8 e2) (by rfl) (ar2 (D_mono _) (D_mono _) (ev_cartOf (m := most) (i := 0) (by walk_at "ev") (by walk_at "ev") (by omega) ev_int rfl) (by walk_at "ev"))) (D_mono _) (st1_fn (by decide)) (by rfl) fun s F => ?_
  refine xs_if (b := false) F r (trc (tr_or2 (tr_isN (by walk_at "ev") ev_none) fun _ => tr_isN (by walk_at "ev") ev_none) rfl) (fun q => by cases q) fun _ s F => xs_nil ?_
  refine xs_if (b := false) F r (trc (tr_eq (op := .NotEq) (d := .list ((ballsIn st row.length).map .int)) (e := .list ((ballsIn st row.length).map .int)) (ev_comp (xs := rangeL 0 1 row.length) (Pa := fun i => D (.int i)) (keep := fun b => st.getD b.toNat false) (Rs := fun b => .int b) ⟨rfl, rfl, rfl, .inl rfl⟩
    (ev_range1 (n := row.length) K (by rfl) (evc (ev_len (xs := row.map bx) K (by rfl) (by walk_at "ev") (by rw [List.length_map]; omega)) (by rw [List.length_map]))) (src_range (range_small (by decide) (by decide) (by omega) (by omega)) (range_size (by omega))) (by rw [rangeL_len]; omega) (fun _ => D_mono _)
    (fun C i hi => by
      obtain ⟨n, hn, rfl⟩ := mem_rangeL hi
      exact trc (tr_str (op := .Eq) (ev_item (xs := st.map bx) (by walk_at "ev") (by walk_at "ev") (pick_map (f := bx) (d := false) (by omega) (by omega)) (by rw [List.length_map]; omega)) ev_str rfl) (by cases st.getD _ false <;> rfl)) fun C i hi _ => by walk_at "ev")
    (ev_call (moved_ok K (by omega) (fun b hb' => by have := hb.2 b hb'; omega) e8) (by rfl) (ar1 (D_mono _) (by walk_at "ev"))) (intsD_lay _).1 (intsD_lay _).1 (intsD_lay _).2 rfl) (neg_self (intsD_lay _).1 rfl)) (fun q => by cases q) fun _ s F => xs_nil ?_
  refine xs_if (b := false) F r (trc (tr_or2 (tr_eq (op := .NotEq) (d := rowD (cart 4 row).2.2) (e := rowD st) (ev_cartOf (m := 4) (i := 0) (by walk_at "ev") ev_int (by omega) ev_int rfl) (by walk_at "ev") (rowD_lay _).1 (rowD_lay _).1 (rowD_lay _).2 rfl)
    fun _ => tr_eq (op := .NotEq) (d := .tuple [rowD (cart most st).2.2, .int (cart most st).2.1]) (e := .tuple [rowD ot, .int (cart most row).2.1]) (ev_call (carted_ok K (by omega)) (by rfl) (ar2 (D_mono _) (D_mono _) (by walk_at "ev") (by walk_at "ev")))
      (ev_tuple (ds := [rowD ot, .int (cart most row).2.1]) (ar2 (D_mono _) (D_mono _) (by walk_at "ev") (ev_cartOf (m := most) (i := 1) (by walk_at "ev") (by walk_at "ev") (by omega) ev_int rfl)) (Nat.le_of_ble_eq_true rfl)) (pair_lay _ _).1 (pair_lay _ _).1 (pair_lay _ _).2 rfl)
    (by rw [neg_self (rowD_lay _).1 (by rw [e9]), neg_self (pair_lay _ _).1 (by rw [e10, e11])]; rfl)) (fun q => by cases q) fun _ s F => xs_nil ?_
  refine xs_assign (P := D (rowD (backOf row row.length))) F r (ev_itemT (xs := [rowD (cart 9 (backOf st row.length)).2.2, .int (cart 9 (backOf st row.length)).2.1]) (i := 0) (ev_call (carted_ok (row := backOf st row.length) (most := 9) K (by unfold backOf; rw [List.length_map, rangeL_len]; omega)) (by rfl) (ar2 (D_mono _) (D_mono _) (evc (ev_comp (xs := rangeL 0 1 row.length) (Pa := fun i => D (.int i)) (keep := fun _ => true) (Rs := fun b => bx (st.getD (st.length - 1 - b.toNat) false)) ⟨rfl, rfl, rfl, .inl rfl⟩
    (ev_range1 (n := row.length) K (by rfl) (evc (ev_len (xs := row.map bx) K (by rfl) (by walk_at "ev") (by rw [List.length_map]; omega)) (by rw [List.length_map]))) (src_range (range_small (by decide) (by decide) (by omega) (by omega)) (range_size (by omega))) (by rw [rangeL_len]; omega) (fun _ => D_mono _) (fun _ _ _ => rfl)
    (fun C i hi _ => by
      obtain ⟨n, hn, rfl⟩ := mem_rangeL hi
      exact ev_item (xs := st.map bx) (i := -1 - (0 + (n : Int) * 1)) (by walk_at "ev") (ev_sub (ev_neg ev_int) (by walk_at "ev")) (pick_back (f := bx) (d := false) (by omega) (by omega)) (by rw [List.length_map]; omega))) (by rw [keep_all]; unfold backOf; rw [rowD, List.map_map]; rfl)) ev_int)) ev_int (by rw [e12]; rfl) (by show 2 < 2 ^ 62; decide)) (D_mono _) (st1_fn (by decide)) (by rfl) fun s F => ?_
  refine xs_if (b := false) F r (trc (tr_eq (op := .NotEq) (d := rowD (backOf row row.length)) (e := rowD (backOf row row.length)) (by walk_at "ev") (evc (ev_comp (xs := rangeL 0 1 row.length) (Pa := fun i => D (.int i)) (keep := fun _ => true) (Rs := fun b => bx (row.getD (row.length - 1 - b.toNat) false)) ⟨rfl, rfl, rfl, .inl rfl⟩
    (ev_range1 (n := row.length) K (by rfl) (evc (ev_len (xs := row.map bx) K (by rfl) (by walk_at "ev") (by rw [List.length_map]; omega)) (by rw [List.length_map]))) (src_range (range_small (by decide) (by decide) (by omega) (by omega)) (range_size (by omega))) (by rw [rangeL_len]; omega) (fun _ => D_mono _) (fun _ _ _ => rfl)
    (fun C i hi _ => by
      obtain ⟨n, hn, rfl⟩ := mem_rangeL hi
      exact ev_item (xs := row.map bx) (i := -1 - (0 + (n : Int) * 1)) (by walk_at "ev") (ev_sub (ev_neg ev_int) (by walk_at "ev")) (pick_back (f := bx) (d := false) (by omega) (by omega)) (by rw [List.length_map]; omega))) (by rw [keep_all]; unfold backOf; rw [rowD, List.map_map]; rfl)) (rowD_lay _).1 (rowD_lay _).1 (rowD_lay _).2 rfl) (neg_self (rowD_lay _).1 rfl)) (fun q => by cases q) fun _ s F => xs_nil ?_
  refine xs_return (P := D (.bool true)) F r (evc (ev_eq (op := .Eq) (d := .list (((rangeL 1 1 4).map fun room => (cart room row).2.1).map .int)) (e := .list (((rangeL 1 1 4).map fun room => (rounds.take room.toNat).sum).map .int))
    (evc (ev_comp (xs := rangeL 1 1 4) (Pa := fun i => D (cartD row i)) (keep := fun _ => true) (Rs := fun room => .int (cart room row).2.1) ⟨rfl, rfl, rfl, .inl rfl⟩ (by walk_at "ev") src_list (by rw [rangeL_len]; omega) (fun _ => D_mono _) (fun _ _ _ => rfl) (fun C i hi _ => ev_itemT (xs := [rowD (cart i row).2.2, .int (cart i row).2.1]) (i := 1) (by walk_at "ev") ev_int rfl (by show 2 < 2 ^ 62; decide))) (by rw [keep_all, List.map_map]; rfl))
    (evc (ev_comp (xs := rangeL 1 1 4) (Pa := fun i => D (.int i)) (keep := fun _ => true) (Rs := fun room => .int (rounds.take room.toNat).sum) ⟨rfl, rfl, rfl, .inl rfl⟩ (ev_range2 (m := 1) (n := 5) K (by rfl) ev_int ev_int) (src_range (range_small (by decide) (by decide) (by decide) (by decide)) (range_size (by decide))) (by rw [rangeL_len]; omega) (fun _ => D_mono _) (fun _ _ _ => rfl)
      (fun C i hi _ => by
        obtain ⟨n, hn, rfl⟩ := mem_rangeL hi
        exact ev_sum K (by rfl) (evc (ev_upto (xs := rounds.map .int) (by walk_at "ev") (by walk_at "ev") (by omega) (by rw [List.length_map]; omega)) (by rw [← List.map_take])))) (by rw [keep_all, List.map_map]; rfl))
    (intsD_lay _).1 (intsD_lay _).1 (intsD_lay _).2 rfl) (by rw [eqv_self (intsD_lay _).1 (by rw [e13])])) fun v s' F' p => RetP.of F'.kp p (D_mono _) hY
end
theorem law_ok {c : Cx} {K' : Frag} {C fI fE a : Addr} {cd : Value} {ns : List Int} (K : Kt c) (Ws : WsK c K' C fI fE) (hf : IsFn c a (nmOf (stm 69)) (parOf (stm 69)) (bodyOf (stm 69)) (scOf (stm 69)) cd) (hl : ns.length ≤ 63)
    (h : LawOk (rowOf (ballsOf (placesOf (drawsOf (ns.take 60))))) (ballsOf (placesOf (drawsOf (ns.take 60)))) (ridesOf (drawsOf (ns.take 60))) (mostOf (drawsOf (ns.take 60)))) : CallOK true 13 c (.ref a) [D (.list (ns.map .int))] (D (.bool true)) := by
  refine call_fn (xs := ["script"]) hf (bind1 (by rfl)) rfl (by decide) (by decide) (List.forall_mem_singleton.mpr (D_mono _)) fun A Y₀ W Y s₀ s L E r hY hW F => ?_
  refine law_a K r F hl fun s F => ?_
  have hd : (drawsOf (ns.take 60)).length = 4 := by unfold drawsOf; rw [List.length_map, rangeL_len]
  generalize drawsOf (ns.take 60) = ds at F h hd
  have hrd : (ridesOf ds).length = 4 := by unfold ridesOf; rw [List.length_map, hd]
  have hr8 : ∀ x ∈ ridesOf ds, 0 ≤ x ∧ x < 8 := fun x hx => by
    obtain ⟨d, _, rfl⟩ := List.mem_map.mp hx
    exact ⟨Int.fmod_nonneg_of_pos _ (by decide), Int.fmod_lt_of_pos _ (by decide)⟩
  have hm : 1 ≤ mostOf ds ∧ mostOf ds ≤ 3 := by
    have h1 := Int.fmod_nonneg_of_pos ds.sum (b := 3) (by decide)
    have h2 := Int.fmod_lt_of_pos ds.sum (b := 3) (by decide)
    unfold mostOf
    omega
  have hb := ballsOf_low (placesOf ds)
  generalize ridesOf ds = rides at F h hrd hr8
  generalize mostOf ds = most at F h hm
  generalize ballsOf (placesOf ds) = balls at F h hb
  obtain ⟨rounds, late, st, ot, r0, ll, e1, e2, e3, e4, e5, e6, ⟨z1, z2, z3, z4, z5⟩, e7, e8, e9, e10, e11, e12, e13, e14, e15, e16, e17⟩ := h
  refine law_b K Ws r hb F e1 e2 e5 e6 ⟨z1, z2⟩ ⟨z3, z4⟩ z5 fun s F => ?_
  have hrow : (rowOf balls).length ≤ 22 := by unfold rowOf; rw [rowTo_len]; omega
  have hst : st.length = (rowOf balls).length := by
    unfold stepped at e3
    exact goM_inv (I := fun st => st.length = (rowOf balls).length) (fun b a b' hb e => (ballStep_len e).trans hb) _ (by rw [List.length_map]) e3
  refine law_c K Ws r hY F hb hrow (by rw [rowTo_len]; omega) z5 ?_ hm hrd hr8 e3 e4 e7 e8 e9 e10 e11 e12 e13 e14 e15 e16 e17 hst ?_
  · unfold sizesOf
    rw [(isort_perm _).length_eq, List.length_map, rangeL_len]; omega
  · unfold runsS
    rw [List.length_map]
    have h1 := List.length_filter_le (fun (run : Str) => run != ("" : Str)) (Txt.split (Txt.join "" ((rowOf balls).map sg)) ")")
    have h2 := split_num (x := Txt.join "" ((rowOf balls).map sg)) (y := ")")
    have h3 := joinRow_len (rowOf balls)
    omega
abbrev codes (x : Str) : List Nat := x.cps.toList
theorem codes_cat (x y : Str) : codes (x ++ y) = codes x ++ codes y := Array.toList_append
theorem codes_ext {x y : Str} (h : codes x = codes y) : x = y := Str.ext' (Array.toList_inj.mp h)
theorem codes_join (ss : List Str) : codes (Txt.join "" ss) = (ss.map codes).flatten := by
  rw [show Txt.join "" ss = Str.join "" ss from StrLaws.glued_eq_join "" ss]
  induction ss with
  | nil => rfl
  | cons x r ih =>
    cases r with
    | nil => show codes x = _; simp
    | cons y r =>
      show codes (x ++ ("" : Str) ++ Str.join "" (y :: r)) = _
      rw [codes_cat, codes_cat, ih, show codes ("" : Str) = [] from by decide +kernel, List.append_nil]
      rfl
theorem lit1 : ("\\" : Str) = ⟨#[92]⟩ ∧ ("\"" : Str) = ⟨#[34]⟩ ∧ ("(" : Str) = ⟨#[40]⟩ ∧ (")" : Str) = ⟨#[41]⟩ := by decide +kernel
theorem one_beq (a b : Nat) : ((⟨#[a]⟩ : Str) == ⟨#[b]⟩) = (a == b) := by
  rw [Bool.eq_iff_iff, beq_iff_eq, beq_iff_eq]
  exact ⟨fun h => by simpa using congrArg codes h, fun h => by rw [h]⟩
theorem two_beq (a b : Nat) : ((("\\" : Str) ++ (⟨#[a]⟩ : Str)) == ⟨#[b]⟩) = false := by
  rw [beq_eq_false_iff_ne]
  intro h
  have := congrArg (fun z : Str => (codes z).length) h
  simp only [codes_cat, lit1.1, List.length_append] at this
  simp at this
section
variable {p : Nat} {ch : Nat} {r : List Nat} {x : Str} {st : Int × Option Int × List Str} {q o : Int} {res : List Str}
theorem esc_plain (h : (ch == 92) = false) : escGo p false (ch :: r) = ((p : Int), ⟨#[ch]⟩) :: escGo (p + 1) false r := by
  conv => lhs; unfold escGo
  rw [lit1.1, one_beq, h]; rfl
theorem esc_bs : escGo p false (92 :: ch :: r) = (((p + 1 : Nat) : Int), ("\\" : Str) ++ (⟨#[ch]⟩ : Str)) :: escGo (p + 1 + 1) false r := by
  conv => lhs; unfold escGo
  rw [lit1.1, one_beq]
  show escGo (p + 1) true (ch :: r) = _
  conv => lhs; unfold escGo
  rw [lit1.1]
theorem ss_plain (h : (ch == 34) = false) : stripStep x st (q, ⟨#[ch]⟩) = st := by unfold stripStep; rw [lit1.2.1, one_beq, h]; rfl
theorem ss_esc : stripStep x st (q, ("\\" : Str) ++ (⟨#[ch]⟩ : Str)) = st := by unfold stripStep; rw [lit1.2.1, two_beq]; rfl
theorem ss_q1 {a : Int} : stripStep x (a, none, res) (q, ⟨#[34]⟩) = (a, some q, res) := by unfold stripStep; rw [lit1.2.1, one_beq]; rfl
theorem ss_q2 {a : Int} : stripStep x (a, some o, res) (q, ⟨#[34]⟩) = (q + 1, none, if a != o then res ++ [Txt.slice x (some a) (some o)] else res) := by unfold stripStep; rw [lit1.2.1, one_beq]; rfl
end
abbrev Pc := List Nat × List Nat × Bool
def sgc (b : Bool) : Nat := if b then 40 else 41
def dressC : List (List Nat × List Nat) := [([], []), ([92, 40], [92, 40]), ([34, 41, 34], []), ([34, 92, 34, 41, 34], []), ([92, 92], [92, 92]), ([97, 92, 34], [97, 92, 34])]
def tx (ps : List Pc) : List Nat := (ps.map fun p => p.1 ++ [sgc p.2.2]).flatten
def kx (ps : List Pc) : List Nat := (ps.map fun p => p.2.1 ++ [sgc p.2.2]).flatten
def Rr (x : Str) (res : List Str) (i j : Nat) : List Nat := (res.map codes).flatten ++ ((codes x).drop i).take (j - i)
theorem rr_ext {x : Str} {res : List Str} {pre seg rest : List Nat} {i : Nat} (h : codes x = pre ++ (seg ++ rest)) (hi : i ≤ pre.length) : Rr x res i (pre.length + seg.length) = Rr x res i pre.length ++ seg := by
  unfold Rr
  rw [h, List.drop_append_of_le_length hi, List.append_assoc]
  congr 1
  have e1 : (pre.drop i).length = pre.length - i := List.length_drop
  rw [show pre.length + seg.length - i = (pre.drop i).length + seg.length from by omega, List.take_length_add_append, List.take_left, ← e1, List.take_left]
theorem sgc_ne (b : Bool) : (sgc b == 92) = false ∧ (sgc b == 34) = false := by cases b <;> exact ⟨rfl, rfl⟩
theorem rr_close {x : Str} {res : List Str} {start j : Nat} (h : start ≤ j) (hj : j ≤ (codes x).length) :
    ((if ((start : Int) != (j : Int)) = true then res ++ [Txt.slice x (some (start : Int)) (some (j : Int))] else res).map codes).flatten = Rr x res start j := by
  unfold Rr
  have hcl : (codes x).length = x.length := Array.length_toList
  by_cases e : start = j
  · subst e
    rw [if_neg (by simp), Nat.sub_self, List.take_zero, List.append_nil]
  · rw [if_pos (by simp; omega), List.map_append, List.flatten_append]
    congr 1
    have := beq_iff_eq.mp (slice_closesL (x := x) (i := (start : Int)) (j := (j : Int)) (by omega) (by omega) (by omega))
    rw [this]
    have e2 : ((j : Int) - (start : Int)).toNat = j - start := by omega
    simp [codes, e2]
def HeadOk (x : Str) (d k pre rest : List Nat) (b : Bool) (start : Nat) (res : List Str) : Prop :=
  ∃ (start' : Nat) (res' : List Str), (escGo pre.length false ((d ++ [sgc b]) ++ rest)).foldl (stripStep x) ((start : Int), none, res) = (escGo (pre.length + (d ++ [sgc b]).length) false rest).foldl (stripStep x) ((start' : Int), none, res') ∧
      start' ≤ pre.length + (d ++ [sgc b]).length ∧ Rr x res' start' (pre.length + (d ++ [sgc b]).length) = Rr x res start pre.length ++ (k ++ [sgc b])
theorem strip_head {x : Str} {d k pre rest : List Nat} {b : Bool} {start : Nat} {res : List Str} (hd : (d, k) ∈ dressC) (hx : codes x = pre ++ ((d ++ [sgc b]) ++ rest)) (hs : start ≤ pre.length) : HeadOk x d k pre rest b start res := by
  obtain ⟨n1, n2⟩ := sgc_ne b
  have hl := congrArg List.length hx
  rw [List.length_append] at hl
  have plain : d = k → (escGo pre.length false ((d ++ [sgc b]) ++ rest)).foldl (stripStep x) ((start : Int), none, res) = (escGo (pre.length + (d ++ [sgc b]).length) false rest).foldl (stripStep x) ((start : Int), none, res) → HeadOk x d k pre rest b start res := fun e h => ⟨start, res, h, Nat.le_trans hs (Nat.le_add_right _ _), by rw [rr_ext hx hs, e]⟩
  have quoted : ∀ m : Nat, d.length = m → k = [] → (escGo pre.length false ((d ++ [sgc b]) ++ rest)).foldl (stripStep x) ((start : Int), none, res) = (escGo (pre.length + (d ++ [sgc b]).length) false rest).foldl (stripStep x) (((pre.length + m : Nat) : Int), none, if ((start : Int) != (pre.length : Int)) = true then res ++ [Txt.slice x (some (start : Int)) (some (pre.length : Int))] else res) → HeadOk x d k pre rest b start res := fun m hm hk h => by
    refine ⟨pre.length + m, _, h, by rw [List.length_append]; omega, ?_⟩
    rw [hk, List.nil_append]
    rw [show Rr x _ (pre.length + m) (pre.length + (d ++ [sgc b]).length) = _ ++ _ from rfl, rr_close hs (by omega), List.length_append, hm]
    congr 1
    rw [hx, show pre.length + (m + [sgc b].length) - (pre.length + m) = 1 from by simp; omega, List.append_assoc, ← List.append_assoc, List.drop_left' (by rw [List.length_append, hm])]
    rfl
  simp only [dressC, List.mem_cons, List.not_mem_nil, or_false, Prod.mk.injEq] at hd
  rcases hd with ⟨rfl, rfl⟩ | ⟨rfl, rfl⟩ | ⟨rfl, rfl⟩ | ⟨rfl, rfl⟩ | ⟨rfl, rfl⟩ | ⟨rfl, rfl⟩
  · refine plain rfl ?_
    show List.foldl _ _ (escGo _ false (sgc b :: rest)) = _
    rw [esc_plain n1, List.foldl_cons, ss_plain n2]; rfl
  · refine plain rfl ?_
    show List.foldl _ _ (escGo _ false (92 :: 40 :: sgc b :: rest)) = _
    rw [esc_bs, List.foldl_cons, ss_esc, esc_plain n1, List.foldl_cons, ss_plain n2]; rfl
  · refine quoted 3 rfl rfl ?_
    show List.foldl _ _ (escGo _ false (34 :: 41 :: 34 :: sgc b :: rest)) = _
    rw [esc_plain rfl, List.foldl_cons, ss_q1, esc_plain rfl, List.foldl_cons, ss_plain rfl, esc_plain rfl, List.foldl_cons, ss_q2, esc_plain n1, List.foldl_cons, ss_plain n2]; rfl
  · refine quoted 5 rfl rfl ?_
    show List.foldl _ _ (escGo _ false (34 :: 92 :: 34 :: 41 :: 34 :: sgc b :: rest)) = _
    rw [esc_plain rfl, List.foldl_cons, ss_q1, esc_bs, List.foldl_cons, ss_esc, esc_plain rfl, List.foldl_cons, ss_plain rfl, esc_plain rfl, List.foldl_cons, ss_q2, esc_plain n1, List.foldl_cons, ss_plain n2]; rfl
  · refine plain rfl ?_
    show List.foldl _ _ (escGo _ false (92 :: 92 :: sgc b :: rest)) = _
    rw [esc_bs, List.foldl_cons, ss_esc, esc_plain n1, List.foldl_cons, ss_plain n2]; rfl
  · refine plain rfl ?_
    show List.foldl _ _ (escGo _ false (97 :: 92 :: 34 :: sgc b :: rest)) = _
    rw [esc_plain rfl, List.foldl_cons, ss_plain rfl, esc_bs, List.foldl_cons, ss_esc, esc_plain n1, List.foldl_cons, ss_plain n2]; rfl
theorem strip_pieces {x : Str} : ∀ (ps : List Pc) (pre rest : List Nat) (start : Nat) (res : List Str), (∀ p ∈ ps, (p.1, p.2.1) ∈ dressC) → codes x = pre ++ (tx ps ++ rest) → start ≤ pre.length →
    ∃ (start' : Nat) (res' : List Str), (escGo pre.length false (tx ps ++ rest)).foldl (stripStep x) ((start : Int), none, res) = (escGo (pre.length + (tx ps).length) false rest).foldl (stripStep x) ((start' : Int), none, res') ∧
      start' ≤ pre.length + (tx ps).length ∧ Rr x res' start' (pre.length + (tx ps).length) = Rr x res start pre.length ++ kx ps
  | [], pre, rest, start, res, _, _, hs => ⟨start, res, rfl, hs, by show _ = _ ++ []; rw [List.append_nil]; rfl⟩
  | (d, k, b) :: ps, pre, rest, start, res, hd, hx, hs => by
    have e1 : tx ((d, k, b) :: ps) = (d ++ [sgc b]) ++ tx ps := rfl
    have e2 : kx ((d, k, b) :: ps) = (k ++ [sgc b]) ++ kx ps := rfl
    rw [e1, List.append_assoc] at hx
    obtain ⟨s1, r1, h1, h2, h3⟩ := strip_head (res := res) (hd _ (.head _)) hx hs
    have hx2 : codes x = (pre ++ (d ++ [sgc b])) ++ (tx ps ++ rest) := by rw [List.append_assoc]; exact hx
    have hl : (pre ++ (d ++ [sgc b])).length = pre.length + (d ++ [sgc b]).length := List.length_append
    obtain ⟨s2, r2, g1, g2, g3⟩ := strip_pieces ps (pre ++ (d ++ [sgc b])) rest s1 r1 (fun p hp => hd p (.tail _ hp)) hx2 (by rw [hl]; exact h2)
    rw [hl] at g1 g2 g3
    have hl2 : pre.length + (tx ((d, k, b) :: ps)).length = pre.length + (d ++ [sgc b]).length + (tx ps).length := by rw [e1, List.length_append]; omega
    refine ⟨s2, r2, ?_, by rw [hl2]; exact g2, ?_⟩
    · rw [e1, List.append_assoc, h1, g1, ← e1, hl2]
    · rw [hl2, g3, h3, e2, List.append_assoc]
def endC : List (List Nat) := [[], [41], [34, 41], [41, 92]]
theorem strip_text {x : Str} {ps : List Pc} {e : List Nat} (hd : ∀ p ∈ ps, (p.1, p.2.1) ∈ dressC) (he : e ∈ endC) (hx : codes x = tx ps ++ e) : codes (stripF x) = kx ps ++ e := by
  have hlen : (codes x).length = x.length := Array.length_toList
  unfold stripF
  rw [show Txt.contains x "\"" = decide (34 ∈ codes x) from by rw [lit1.2.1]; exact StrLaws.found_one x 34]
  by_cases hq : 34 ∈ codes x
  · rw [decide_eq_true hq, if_neg (by decide)]
    obtain ⟨s1, r1, h1, h2, h3⟩ := strip_pieces (x := x) ps [] e 0 [] hd hx (Nat.le_refl _)
    have hlt : (codes x).length = (tx ps).length + e.length := by rw [hx, List.length_append]
    have hall : ∃ op, stripAll x (escL x) = ((s1 : Int), op, r1) := by
      unfold stripAll escL
      rw [show x.cps.toList = tx ps ++ e from hx]
      rw [show List.foldl (stripStep x) (0, none, []) (escGo 0 false (tx ps ++ e)) = _ from h1]
      generalize ([] : List Nat).length + (tx ps).length = m
      simp only [endC, List.mem_cons, List.not_mem_nil, or_false] at he
      rcases he with rfl | rfl | rfl | rfl
      · exact ⟨_, rfl⟩
      · rw [esc_plain rfl, List.foldl_cons, ss_plain rfl]; exact ⟨_, rfl⟩
      · rw [esc_plain rfl, List.foldl_cons, ss_q1, esc_plain rfl, List.foldl_cons, ss_plain rfl]; exact ⟨_, rfl⟩
      · rw [esc_plain rfl, List.foldl_cons, ss_plain rfl, show escGo (m + 1) false [92] = [(((m + 1 + 1 - 1 : Nat) : Int), ⟨#[92]⟩)] from by
          unfold escGo; rw [lit1.1, one_beq]; rfl, List.foldl_cons, ss_plain rfl]; exact ⟨_, rfl⟩
    obtain ⟨op, hall⟩ := hall
    rw [hall, codes_join]
    dsimp only
    have h4 : Rr x r1 s1 (codes x).length = kx ps ++ e := by
      have hx' : codes x = tx ps ++ (e ++ []) := by rw [List.append_nil]; exact hx
      have := rr_ext (res := r1) (i := s1) hx' (by simpa using h2)
      rw [hlt, this]
      rw [show (tx ps).length = ([] : List Nat).length + (tx ps).length from by simp, h3]
      simp [Rr]
    have e0 : Rr x [] 0 0 = [] := by simp [Rr]
    unfold Rr at h4
    rw [List.take_of_length_le (by rw [List.length_drop]; omega)] at h4
    by_cases hlt2 : s1 < x.length
    · rw [if_pos (by simpa using hlt2), List.map_append, List.flatten_append]
      have := slice_from_eq (x := x) (i := (s1 : Int)) (b := (x.length : Int)) (by omega) (by omega) rfl
      rw [this, ← h4]
      congr 1
      have e2 : ((x.length : Int) - (s1 : Int)).toNat = x.length - s1 := by omega
      simp only [e2, Int.toNat_natCast, List.map_cons, List.map_nil, List.flatten_cons, List.flatten_nil, List.append_nil]
      exact List.take_of_length_le (by rw [List.length_drop]; exact Nat.le_of_eq (by rw [← hlen]))
    · rw [if_neg (by simpa using hlt2), ← h4, List.drop_eq_nil_of_le (by omega), List.append_nil]
  · rw [decide_eq_false hq, if_pos (by decide), hx]
    congr 1
    have hno : 34 ∉ tx ps := fun h => hq (by rw [hx]; exact List.mem_append_left _ h)
    clear hx hq
    unfold tx kx at *
    congr 1
    refine List.map_congr_left fun p hp => ?_
    have hp2 : 34 ∉ p.1 := fun h => hno (List.mem_flatten.mpr ⟨_, List.mem_map_of_mem hp, List.mem_append_left _ h⟩)
    have := hd p hp
    obtain ⟨d, k, b⟩ := p
    simp only [dressC, List.mem_cons, List.not_mem_nil, or_false, Prod.mk.injEq] at this
    rcases this with ⟨rfl, rfl⟩ | ⟨rfl, rfl⟩ | ⟨rfl, rfl⟩ | ⟨rfl, rfl⟩ | ⟨rfl, rfl⟩ | ⟨rfl, rfl⟩
    · rfl
    · rfl
    · exact absurd (by simp) hp2
    · exact absurd (by simp) hp2
    · rfl
    · rfl
noncomputable def chk0 : Int → List Bool → Bool
  | o, [] => o == 0
  | o, true :: r => chk0 (o + 1) r
  | o, false :: r => if decide (o - 1 < 0) then false else chk0 (o - 1) r
section
variable {p : Nat} {ch : Nat} {o : Int} {q : Int} {l : List (Int × Str)}
theorem cg_sign (b : Bool) : chkGo o ((q, ⟨#[sgc b]⟩) :: l) = if b then chkGo (o + 1) l else if decide (o - 1 < 0) then false else chkGo (o - 1) l := by
  conv => lhs; unfold chkGo
  rw [lit1.2.2.1, lit1.2.2.2, one_beq, one_beq]
  cases b <;> rfl
theorem cg_other (h : (ch == 40) = false) (h2 : (ch == 41) = false) : chkGo o ((q, ⟨#[ch]⟩) :: l) = chkGo o l := by
  conv => lhs; unfold chkGo
  rw [lit1.2.2.1, lit1.2.2.2, one_beq, one_beq, h, h2]; rfl
theorem cg_esc : chkGo o ((q, ("\\" : Str) ++ (⟨#[ch]⟩ : Str)) :: l) = chkGo o l := by
  conv => lhs; unfold chkGo
  rw [lit1.2.2.1, lit1.2.2.2, two_beq, two_beq]; rfl
end
def closeC (e : List Nat) : List Bool := if e.isEmpty then [] else [false]
theorem chk_end {o : Int} {p : Nat} {e : List Nat} (he : e ∈ endC) : chkGo o (escGo p false e) = chk0 o (closeC e) := by
  have e1 : ∀ (o q : Int) (l : List (Int × Str)), chkGo o ((q, ⟨#[41]⟩) :: l) = if decide (o - 1 < 0) then false else chkGo (o - 1) l := fun o q l => cg_sign (q := q) false
  simp only [endC, List.mem_cons, List.not_mem_nil, or_false] at he
  rcases he with rfl | rfl | rfl | rfl
  · rfl
  · rw [esc_plain rfl, e1]; rfl
  · rw [esc_plain rfl, cg_other rfl rfl, esc_plain rfl, e1]; rfl
  · rw [esc_plain rfl, e1, show escGo (p + 1) false [92] = [(((p + 1 + 1 - 1 : Nat) : Int), ⟨#[92]⟩)] from by
      unfold escGo; rw [lit1.1, one_beq]; rfl, cg_other rfl rfl]; rfl
theorem chk_pieces {e : List Nat} (he : e ∈ endC) : ∀ (ps : List Pc) (o : Int) (p : Nat), (∀ p ∈ ps, (p.1, p.2.1) ∈ dressC) → chkGo o (escGo p false (kx ps ++ e)) = chk0 o (ps.map (·.2.2) ++ closeC e)
  | [], o, p, _ => chk_end he
  | (d, k, b) :: ps, o, p, hd => by
    have ih := fun o p => chk_pieces he ps o p fun p hp => hd p (.tail _ hp)
    have hb : ∀ (o : Int) (p : Nat), chkGo o (escGo p false (sgc b :: (kx ps ++ e))) = chk0 o (b :: (ps.map (·.2.2) ++ closeC e)) := fun o p => by
      rw [esc_plain (sgc_ne b).1, cg_sign, ih, ih]
      cases b <;> rfl
    have hp := hd _ (.head _)
    show chkGo o (escGo p false (((k ++ [sgc b]) ++ kx ps) ++ e)) = chk0 o (b :: (ps.map (·.2.2) ++ closeC e))
    rw [List.append_assoc, List.append_assoc]
    simp only [dressC, List.mem_cons, List.not_mem_nil, or_false, Prod.mk.injEq] at hp
    rcases hp with ⟨_, rfl⟩ | ⟨_, rfl⟩ | ⟨_, rfl⟩ | ⟨_, rfl⟩ | ⟨_, rfl⟩ | ⟨_, rfl⟩
    · exact hb o p
    · show chkGo o (escGo p false (92 :: 40 :: sgc b :: (kx ps ++ e))) = _
      rw [esc_bs, cg_esc]; exact hb o _
    · exact hb o p
    · exact hb o p
    · show chkGo o (escGo p false (92 :: 92 :: sgc b :: (kx ps ++ e))) = _
      rw [esc_bs, cg_esc]; exact hb o _
    · show chkGo o (escGo p false (97 :: 92 :: 34 :: sgc b :: (kx ps ++ e))) = _
      rw [esc_plain rfl, cg_other rfl rfl, esc_bs, cg_esc]; exact hb o _
theorem chkF_text {x : Str} {ps : List Pc} {e : List Nat} (hd : ∀ p ∈ ps, (p.1, p.2.1) ∈ dressC) (he : e ∈ endC) (hx : codes x = tx ps ++ e) : chkF x = chk0 0 (ps.map (·.2.2) ++ closeC e) := by
  unfold chkF escL
  rw [show (stripF x).cps.toList = kx ps ++ e from strip_text hd he hx]
  exact chk_pieces he ps 0 0 hd
theorem dress_in : ∀ x ∈ ("" : Str) :: dressL, ∃ k, (codes x, k) ∈ dressC := by
  have h : ∀ x ∈ ("" : Str) :: dressL, codes x ∈ dressC.map (·.1) := by decide +kernel
  intro x hx
  obtain ⟨⟨d, k⟩, h1, h2⟩ := List.mem_map.mp (h x hx)
  exact ⟨k, by rw [← h2]; exact h1⟩
theorem codes_sg (b : Bool) : codes (sg b) = [sgc b] := by cases b <;> decide +kernel
theorem piece_in (rides : List Int) (row : List Bool) (i : Int) : ∃ d k, (d, k) ∈ dressC ∧ codes (pieceOf rides row i) = d ++ [sgc (row.getD i.toNat false)] := by
  unfold pieceOf
  rw [codes_cat, codes_sg]
  split
  · obtain ⟨k, h⟩ := dress_in _ (getD_mem (xs := dressL) (i := (rides.getD (i.fmod 4).toNat 0).toNat) (d := ""))
    exact ⟨_, k, h, rfl⟩
  · obtain ⟨k, h⟩ := dress_in "" (.head _)
    exact ⟨_, k, h, rfl⟩
theorem pieces_in (rides : List Int) (row : List Bool) : ∀ is : List Int, ∃ ps : List Pc, (∀ p ∈ ps, (p.1, p.2.1) ∈ dressC) ∧ ((is.map (pieceOf rides row)).map codes).flatten = tx ps ∧ ps.map (·.2.2) = is.map fun i => row.getD i.toNat false
  | [] => ⟨[], (fun p hp => by cases hp), rfl, rfl⟩
  | i :: is => by
    obtain ⟨ps, h1, h2, h3⟩ := pieces_in rides row is
    obtain ⟨d, k, h4, h5⟩ := piece_in rides row i
    refine ⟨(d, k, row.getD i.toNat false) :: ps, List.forall_mem_cons.mpr ⟨h4, h1⟩, ?_, by rw [List.map_cons, h3]; rfl⟩
    rw [List.map_cons, List.map_cons, List.flatten_cons, h2, h5]; rfl
theorem row_self (row : List Bool) : (rangeL 0 1 row.length).map (fun i => row.getD i.toNat false) = row := by
  refine List.ext_getElem? fun i => ?_
  unfold rangeL
  rw [List.map_map, List.getElem?_map]
  by_cases h : i < row.length
  · rw [List.getElem?_range h]
    show some (row.getD (0 + (i : Int) * 1).toNat false) = _
    rw [show (0 + (i : Int) * 1).toNat = i from by omega]
    exact (getD_some h).symm
  · rw [List.getElem?_eq_none (by rw [List.length_range]; omega), List.getElem?_eq_none (by omega)]; rfl
theorem end_in : ∀ x ∈ ("" : Str) :: endL, codes x ∈ endC := by decide +kernel
theorem end_close : ∀ x ∈ endL, closeC (codes x) = [false] := by decide +kernel
theorem cut_chk (rides : List Int) (row : List Bool) (ball box : Int) : chkF (cutText (piecesOf' rides row) ball box) = chk0 0 ((row.drop ball.toNat).take (box.toNat - ball.toNat) ++ [false]) := by
  have h3m : 0 ≤ box.fmod 3 ∧ box.fmod 3 < 3 := ⟨Int.fmod_nonneg_of_pos box (by decide), Int.fmod_lt_of_pos box (by decide)⟩
  have he : endL.getD (box.fmod 3).toNat "" ∈ endL := List.mem_of_getElem? (getD_some (xs := endL) (i := (box.fmod 3).toNat) (d := "") (by show _ < 3; omega))
  obtain ⟨ps, h1, h2, h3⟩ := pieces_in rides row (((rangeL 0 1 row.length).drop ball.toNat).take (box.toNat - ball.toNat))
  rw [chkF_text (ps := ps) h1 (end_in _ (.tail _ he)) (by
    unfold cutText piecesOf'
    rw [codes_cat, codes_join, ← List.map_drop, ← List.map_take, h2]), end_close _ he, h3, List.map_take, List.map_drop, row_self]
theorem getD_piece {rides : List Int} {row : List Bool} {i : Int} (h : 0 ≤ i ∧ i < row.length) : (piecesOf' rides row).getD i.toNat "" = pieceOf rides row i := by
  unfold piecesOf' rangeL
  rw [List.getD_eq_getElem?_getD, List.getElem?_map, List.getElem?_map, List.getElem?_range (by omega)]
  show pieceOf rides row (0 + (i.toNat : Int) * 1) = _
  rw [show 0 + (i.toNat : Int) * 1 = i from by omega]
theorem pair_codes : codes ("()" : Str) = [40, 41] := by decide +kernel
theorem mate_no {rides : List Int} {row : List Bool} {m : Int} (h : 0 ≤ m ∧ m < row.length) (hr : row.getD m.toNat false = false) : chkF ("()" ++ (piecesOf' rides row).getD m.toNat "") = false := by
  obtain ⟨d, k, h4, h5⟩ := piece_in rides row m
  rw [chkF_text (ps := [([], [], true), ([], [], false), (d, k, row.getD m.toNat false)]) (e := []) ?_ (by decide) (by rw [codes_cat, getD_piece h, h5, pair_codes]; simp [tx, sgc])]
  · rw [hr]; rfl
  · exact List.forall_mem_cons.mpr ⟨.head _, List.forall_mem_cons.mpr ⟨.head _, List.forall_mem_cons.mpr ⟨h4, List.forall_mem_nil _⟩⟩⟩
theorem mate_no2 {rides : List Int} {row : List Bool} {m ball : Int} (h : 0 ≤ m ∧ m < row.length) (h2 : 0 ≤ ball ∧ ball < row.length) (hr : row.getD m.toNat false = false) : chkF ("()" ++ (piecesOf' rides row).getD m.toNat "" ++ (piecesOf' rides row).getD ball.toNat "" ++ "()") = false := by
  obtain ⟨d, k, h4, h5⟩ := piece_in rides row m
  obtain ⟨d2, k2, h6, h7⟩ := piece_in rides row ball
  rw [chkF_text (ps := [([], [], true), ([], [], false), (d, k, row.getD m.toNat false), (d2, k2, row.getD ball.toNat false), ([], [], true), ([], [], false)]) (e := []) ?_ (by decide) (by rw [codes_cat, codes_cat, codes_cat, getD_piece h, getD_piece h2, h5, h7, pair_codes]; simp [tx, sgc])]
  · rw [hr]; rfl
  · exact List.forall_mem_cons.mpr ⟨.head _, List.forall_mem_cons.mpr ⟨.head _, List.forall_mem_cons.mpr ⟨h4, List.forall_mem_cons.mpr ⟨h6, List.forall_mem_cons.mpr ⟨.head _, List.forall_mem_cons.mpr ⟨.head _, List.forall_mem_nil _⟩⟩⟩⟩⟩⟩
def mateStep0 (row : List Bool) (ball : Int) (acc : Option Int) (box : Int) : Option Int := match acc with
  | some b => some b
  | none => if !(row.getD box.toNat true) && chk0 0 ((row.drop ball.toNat).take (box.toNat - ball.toNat) ++ [false]) then some box else none
def ballStep0 (row new : List Bool) (ball : Int) : Option (List Bool) :=
  if row.getD ball.toNat false then ((rangeL (ball + 1) 2 (ahead ball row.length)).foldl (mateStep0 row ball) none).map fun m => new.set m.toNat true else some new
def stepped0 (row : List Bool) : Option (List Bool) := goM (ballStep0 row) (rangeL 0 1 row.length) (row.map fun _ => false)
theorem mate_shut {chk : Str → Bool} {pcs : List Str} {row : List Bool} {ball : Int} : ∀ (xs : List Int) (acc : Option Int), (∀ m, acc = some m → row.getD m.toNat true = false) → ∀ m, xs.foldl (mateStep chk pcs row ball) acc = some m → row.getD m.toNat true = false
  | [], acc, h, m, e => h m e
  | x :: xs, acc, h, m, e => by
    refine mate_shut xs _ (fun y hy => ?_) m e
    unfold mateStep at hy
    cases acc with
    | some b => exact h y hy
    | none =>
      dsimp only at hy
      split at hy
      · rename_i q
        cases hy
        simpa using (Bool.and_eq_true_iff.mp q).1
      · cases hy
theorem stepped_eq (rides : List Int) (row : List Bool) : stepped chkF rides row = stepped0 row := by
  have hm : ∀ ball : Int, mateOf chkF (piecesOf' rides row) row ball = (rangeL (ball + 1) 2 (ahead ball row.length)).foldl (mateStep0 row ball) none := fun ball => by
    unfold mateOf
    congr 1
    funext acc box
    unfold mateStep mateStep0
    cases acc with
    | some b => rfl
    | none => dsimp only; rw [cut_chk]
  have key : ∀ (xs : List Int) (new : List Bool), (∀ b ∈ xs, 0 ≤ b ∧ b < row.length) → goM (ballStep chkF (piecesOf' rides row) row) xs new = goM (ballStep0 row) xs new := by
    intro xs
    induction xs with
    | nil => intro _ _; rfl
    | cons ball xs ih =>
      intro new hx
      have e : ballStep chkF (piecesOf' rides row) row new ball = ballStep0 row new ball := by
        have hb := hx ball (.head _)
        unfold ballStep ballStep0
        split
        · rw [← hm]
          cases e : mateOf chkF (piecesOf' rides row) row ball with
          | none => rfl
          | some m =>
            have h1 := mateOf_in hb.1 e
            have h2 : row.getD m.toNat true = false := mate_shut _ none (fun m h => by cases h) m e
            have h3 : row.getD m.toNat false = false := by
              rw [List.getD_eq_getElem?_getD] at h2 ⊢
              cases q : row[m.toNat]? with
              | none => rfl
              | some v => rw [q] at h2; exact h2
            show (if _ then _ else _) = _
            rw [mate_no h1 h3, mate_no2 h1 hb h3]; rfl
        · rfl
      show (ballStep _ _ _ new ball).bind _ = (ballStep0 row new ball).bind _
      rw [e]
      cases ballStep0 row new ball with
      | none => rfl
      | some n => exact ih n fun b hb => hx b (.tail _ hb)
  unfold stepped stepped0
  refine key _ _ fun b hb => ?_
  obtain ⟨i, hi, rfl⟩ := mem_rangeL hb
  omega
def lawA (row : List Bool) (balls rounds late : List Int) (st : List Bool) (r0 ll : Int) (sizes : List Int) : Bool :=
  decide (0 ≤ r0) && decide (r0 ≤ 20) && decide (0 ≤ ll) && decide (ll ≤ 100) && (rounds.length == 4) && sizes.all (fun z => decide (0 ≤ z) && decide (z ≤ 40)) &&
  (runsS (rowTo late (ll + 2).toNat) == sizes) && apartF (rowTo late (ll + 2).toNat) sizes "" && !apartF (rowTo late (ll + 2).toNat) sizes " " &&
  (apartF row sizes "" == PyData.eqv (.list ((isort (runsS row)).map .int)) (.list (sizes.map .int))) &&
  (moved balls == some (ballsIn st row.length)) && ((cart 4 row).2.2 == st) && ((cart 9 (backOf st row.length)).2.2 == backOf row row.length) &&
  (((rangeL 1 1 4).map fun room => (cart room row).2.1) == ((rangeL 1 1 4).map fun room => (rounds.take room.toNat).sum))
def lawM (row st : List Bool) (most : Int) : Bool := match stepped0 (cart most row).2.2 with
  | some ot => ((cart most st).2.2 == ot) && ((cart most st).2.1 == (cart most row).2.1)
  | none => false
def lawB (balls : List Int) : Bool := match roundsO (rowOf balls), lateOf balls, stepped0 (rowOf balls) with
  | some rounds, some late, some st => (match rounds[0]?, late.getLast? with
    | some r0, some ll => lawA (rowOf balls) balls rounds late st r0 ll (sizesOf rounds r0) && ([1, 2, 3] : List Int).all (lawM (rowOf balls) st)
    | _, _ => false)
  | _, _, _ => false
noncomputable def subs : List Int → List (List Int)
  | [] => [[]]
  | a :: r => subs r ++ (subs r).map (a :: ·)
theorem filter_subs (p : Int → Bool) : ∀ l : List Int, l.filter p ∈ subs l
  | [] => .head _
  | a :: r => by
    have ih := filter_subs p r
    unfold subs
    rw [List.filter_cons]
    split
    · exact List.mem_append_right _ (List.mem_map_of_mem ih)
    · exact List.mem_append_left _ ih
def okB (l : List Int) : Bool := l.isEmpty || decide (4 < l.length) || lawB l
def okAll (pre : List Int) : Bool := (subs [3, 4, 5, 6]).all fun s => okB (pre ++ s)
theorem ok0 : okAll [] = true := by decide +kernel
theorem ok1 : okAll [0] = true := by decide +kernel
theorem ok2 : okAll [1] = true := by decide +kernel
theorem ok3 : okAll [2] = true := by decide +kernel
theorem ok4 : okAll [0, 1] = true := by decide +kernel
theorem ok5 : okAll [0, 2] = true := by decide +kernel
theorem ok6 : okAll [1, 2] = true := by decide +kernel
theorem ok7 : okAll [0, 1, 2] = true := by decide +kernel
theorem okAll_all : ∀ pre ∈ subs [0, 1, 2], okAll pre = true := by
  have e : subs [0, 1, 2] = [[], [2], [1], [1, 2], [0], [0, 2], [0, 1], [0, 1, 2]] := by decide
  rw [e]
  exact List.forall_mem_cons.mpr ⟨ok0, List.forall_mem_cons.mpr ⟨ok3, List.forall_mem_cons.mpr ⟨ok2, List.forall_mem_cons.mpr ⟨ok6, List.forall_mem_cons.mpr ⟨ok1, List.forall_mem_cons.mpr ⟨ok5, List.forall_mem_cons.mpr ⟨ok4, List.forall_mem_cons.mpr ⟨ok7, List.forall_mem_nil _⟩⟩⟩⟩⟩⟩⟩⟩
theorem len_le : ∀ (l ps : List Int), l.Nodup → (∀ b ∈ l, b ∈ ps) → l.length ≤ ps.length
  | [], _, _, _ => Nat.zero_le _
  | a :: r, ps, h, hm => by
    obtain ⟨h1, h2⟩ := List.nodup_cons.mp h
    have ha := hm a (.head _)
    have := len_le r (ps.erase a) h2 fun b hb => (List.mem_erase_of_ne (fun e => h1 (by rw [← e]; exact hb) : b ≠ a)).mpr (hm b (.tail _ hb))
    rw [List.length_erase_of_mem ha] at this
    have hp : 0 < ps.length := List.length_pos_of_mem ha
    rw [List.length_cons]; omega
theorem balls_ok {ps : List Int} (hl : ps.length = 4) (hp : ∀ b ∈ ps, 0 ≤ b ∧ b < 7) : lawB (ballsOf ps) = true := by
  have e : rangeL 0 1 7 = [0, 1, 2] ++ [3, 4, 5, 6] := by decide
  have h1 : ballsOf ps = [0, 1, 2].filter (fun b => ps.any (· == b)) ++ [3, 4, 5, 6].filter fun b => ps.any (· == b) := by
    unfold ballsOf; rw [e, List.filter_append]
  have h2 := List.all_eq_true.mp (okAll_all _ (filter_subs (fun b => ps.any (· == b)) [0, 1, 2])) _ (filter_subs (fun b => ps.any (· == b)) [3, 4, 5, 6])
  rw [← h1] at h2
  unfold okB at h2
  have h3 : (ballsOf ps).length ≤ 4 := by
    rw [← hl]
    refine len_le _ _ (List.Nodup.sublist List.filter_sublist (by decide)) fun b hb => ?_
    obtain ⟨c, h4, h5⟩ := List.any_eq_true.mp (List.mem_filter.mp hb).2
    rw [← beq_iff_eq.mp h5]; exact h4
  have h4 : (ballsOf ps).isEmpty = false := by
    cases ps with
    | nil => cases hl
    | cons b r =>
      have hb := hp b (.head _)
      have : b ∈ ballsOf (b :: r) := by
        refine List.mem_filter.mpr ⟨?_, List.any_eq_true.mpr ⟨b, .head _, beq_self_eq_true b⟩⟩
        refine List.mem_map.mpr ⟨b.toNat, List.mem_range.mpr (by omega), by omega⟩
      cases q : ballsOf (b :: r) with
      | nil => rw [q] at this; cases this
      | cons => rfl
  rw [h4, decide_eq_false (by omega)] at h2
  exact h2
theorem law_true (ns : List Int) : LawOk (rowOf (ballsOf (placesOf (drawsOf ns)))) (ballsOf (placesOf (drawsOf ns))) (ridesOf (drawsOf ns)) (mostOf (drawsOf ns)) := by
  have hd : (drawsOf ns).length = 4 := by unfold drawsOf; rw [List.length_map, rangeL_len]
  generalize drawsOf ns = ds at hd
  have h := balls_ok (ps := placesOf ds) (by unfold placesOf; rw [List.length_map, hd]) fun b hb => by
    obtain ⟨d, _, rfl⟩ := List.mem_map.mp hb
    exact ⟨Int.fmod_nonneg_of_pos _ (by decide), Int.fmod_lt_of_pos _ (by decide)⟩
  have hm : mostOf ds ∈ ([1, 2, 3] : List Int) := by
    have h1 := Int.fmod_nonneg_of_pos ds.sum (b := 3) (by decide)
    have h2 := Int.fmod_lt_of_pos ds.sum (b := 3) (by decide)
    unfold mostOf
    simp only [List.mem_cons, List.not_mem_nil, or_false]; omega
  generalize ballsOf (placesOf ds) = balls at h
  generalize mostOf ds = most at hm
  unfold lawB at h
  split at h
  · rename_i rounds late st e1 e2 e3
    split at h
    · rename_i r0 ll e4 e5
      obtain ⟨ha, hb⟩ := Bool.and_eq_true_iff.mp h
      have hb := List.all_eq_true.mp hb _ hm
      unfold lawM at hb
      split at hb
      · rename_i ot e6
        obtain ⟨b1, b2⟩ := Bool.and_eq_true_iff.mp hb
        unfold lawA at ha
        simp only [Bool.and_eq_true, decide_eq_true_eq, beq_iff_eq, Bool.not_eq_true', List.all_eq_true] at ha b1 b2
        obtain ⟨⟨⟨⟨⟨⟨⟨⟨⟨⟨⟨⟨⟨a1, a2⟩, a3⟩, a4⟩, a5⟩, a6⟩, a7⟩, a8⟩, a9⟩, a10⟩, a11⟩, a12⟩, a13⟩, a14⟩ := ha
        exact ⟨rounds, late, st, ot, r0, ll, e1, e2, by rw [stepped_eq]; exact e3, by rw [stepped_eq]; exact e6, e4, e5, ⟨a1, a2, a3, a4, a5⟩, a6, a7, a8, a9, a10, a11, a12, b1, b2, a13, a14⟩
      · cases hb
    · cases h
  · cases h
abbrev pw : Program := PySem.Challenge.pw_rw0114_01
def isDef : Stmt → Bool
  | .FunctionDef .. => true
  | _ => false
def q0 : Program := { pw with main := { pw.main with body := pw.main.body.filter isDef } }
def loose0 : List Str := (pw.main.scope.names.map (·.1)).filter fun x => !((pw.main.body.filter isDef).any fun st => nmOf st == x)
abbrev FnV := Arguments × FuncBody × Scope × Addr × Addr × List (Str × Addr) × Str × Value × Value × Bool
def fragAt (h : Heap) : Frag := (List.range 170).filterMap fun a => (h.get? a).map fun o => (a, o)
def fnV (h : Heap) (a : Addr) : Option FnV := match h.get? a with
  | some ⟨_, _, .func fd, _⟩ => some (fd.params, fd.body, fd.scope, fd.globals, fd.builtins, fd.closure, fd.qualname, fd.defaults, fd.kwdefaults, codeIn (fragAt h) fd.code fd.qualname)
  | _ => none
def refOf : Option Value → Addr
  | some (.ref a) => a
  | _ => 0
def refOf2 : Option (Option Value) → Addr
  | some v => refOf v
  | none => 0
def isInt (v : Option Value) (n : Int) : Bool := match v with
  | some (.int m _) => m == n
  | _ => false
def clsA (h : Heap) : Addr := refOf (h.nsMap mainGlobals "Whitespace")
def mthA (h : Heap) (x : Str) : Addr := refOf2 (findIn (fragAt h) (.ref (clsA h)) x)
def isStrV (v : Option CFound) (x : Str) : Bool := match v with
  | some (.val (.str y _)) => y == x
  | _ => false
def clsB (h : Heap) (K : Frag) (C fI fE : Addr) : Bool :=
  decide (h.nsMap mainGlobals "Whitespace" = some (.ref C)) && makesIn K C && keepIn K (.ref C) && keepIn K (.ref fE) && decide (findIn K (.ref C) "__init__" = some (some (.ref fI))) && isFn K (.ref fI) &&
  decide (findIn K (.ref C) "__setattr__" = some (some (.builtin "object.__setattr__"))) && plainOver K C && hasDictIn K C && plainGet K C "" &&
  ((["raw", "n", "nt", "norm", "is_simple"] : List Str).all fun x => decide (findIn K (.ref C) x = some none)) && decide (findIn K (.ref C) "equal" = some (some (.ref fE))) && isFn K (.ref fE) && readsIn K C (.type "type") &&
  isStrV (findCls K (.ref C) (.type "type") "S") " " && isStrV (findCls K (.ref C) (.type "type") "T") "\t"
def tokA (h : Heap) : Addr := refOf (h.nsMap mainGlobals "EXACT_TOKEN_TYPES")
def entsOf : Option Obj → Option (List DictEntry)
  | some ⟨.type c, none, .dict es _, sl⟩ => if c == "dict" && sl.isEmpty then some es.toList else none
  | _ => none
def keyOf (e : DictEntry) : Option Str := match e.key with
  | .str x _ => some x
  | _ => none
def getE (es : List DictEntry) (x : Str) : Option Value := findBy Value.isStrOf es.toArray x
def tabKeys : Stmt → List Str
  | .Assign _ (.Dict ks _ _) _ => ks.filterMap fun k => match k with
    | some (.Constant (.str x) _ _) => some x
    | _ => none
  | _ => []
def builtB (h : Heap) : Bool := h.isNs mainGlobals && h.isNs builtinsNs &&
  (["len", "sum", "min", "sorted"] : List String).all (fun x => decide (h.nsMap mainGlobals (Str.ofString x) = none) && decide (h.nsMap builtinsNs (Str.ofString x) = some (.builtin x))) &&
  (["range", "enumerate", "tuple"] : List String).all fun x => decide (h.nsMap mainGlobals (Str.ofString x) = none) && decide (h.nsMap builtinsNs (Str.ofString x) = some (.type x))
def tokB (h : Heap) : Bool := decide (h.nsMap mainGlobals "EXACT_TOKEN_TYPES" = some (.ref (tokA h))) && (match entsOf (h.get? (tokA h)) with
  | some es => isInt (getE es "(") 7 && isInt (getE es ")") 8
  | none => false)
abbrev Obs := Bool × Option FnV × Option FnV × List (Int × Option Str)
def obsH (h : Heap) : Obs :=
  (clsB h (fragAt h) (clsA h) (mthA h "__init__") (mthA h "equal") && builtB h && tokB h && isInt (h.nsMap mainGlobals "NT_OFFSET") 256 && isInt (h.nsMap mainGlobals "ENDMARKER") 0,
   fnV h (mthA h "__init__"), fnV h (mthA h "equal"), ((entsOf (h.get? (tokA h))).getD []).map fun e => (e.hash, keyOf e))
def mthV (i : Nat) (q : Str) : FnV := (parOf (cst i), .stmts (bodyOf (cst i)), scOf (cst i), mainGlobals, builtinsNs, [], q, .none, .none, true)
def valH (w : World) : Obs := (true, some (mthV 1 "Whitespace.__init__"), some (mthV 4 "Whitespace.equal"), (tabKeys (stm 58)).map fun k => (hashStr w k, some k))
noncomputable abbrev boot (w : World) (os : OsState) : Shared := ⟨boot_heap w.params, #[], boot_drawn, boot_toks, os⟩
abbrev row0 : String := "special-get-raises"
def checks (s₀ s₁ : Shared) : Bool := staticsOk (importedModules pw.main.body) s₀.heap s₁.heap && namesBound pw s₁.heap && gensDone s₁ && laidKept s₀.heap s₁.heap
abbrev Xt0 (s : Shared) : Bool := xlAt q0 [] s && recOk [] s
noncomputable def runW (ok : Thread → Bool) (st : SharedT → Thread → Option (SharedT × Thread)) : Nat → SharedT → Thread → Option SharedT
  | 0, _, _ => none
  | n + 1, s, t => match through t with
    | true => some s
    | false => match ok t with
      | false => none
      | true => match st s t with
        | some (s', t') => runW ok st n s' t'
        | none => none
theorem runW_spec {tb : String → Option Builtin} {p : Program} {w : World} {n₀ : Nat} {ann : Option Value} : ∀ (n : Nat) (s : SharedT) (t : Thread) (r : SharedT), runW (stepOk n₀ ann) (stepT (denote tb) p w) n s t = some r → topRun tb p w n₀ ann n s.abs t = some r.abs
  | 0, _, _, _, h => by cases h
  | n + 1, s, t, r, h => by
    unfold runW at h
    unfold topRun
    cases h1 : through t with
    | true => rw [h1] at h; cases h; rfl
    | false =>
      rw [h1] at h
      cases h2 : stepOk n₀ ann t with
      | false => rw [h2] at h; cases h
      | true =>
        rw [h2] at h
        cases h3 : stepT (denote tb) p w s t with
        | none => rw [h3] at h; cases h
        | some q =>
          obtain ⟨s', t'⟩ := q
          rw [h3] at h
          dsimp only at h ⊢
          rw [stepT_spec h3]
          exact runW_spec n s' t' r h
noncomputable def bootT (P : Params) : BT :=
  .node (boot_o_0 P) (.node (boot_o_1 P) (.node (boot_o_3 P) (.node (boot_o_7 P) .nil .nil) .nil) (.node (boot_o_5 P) (.node (boot_o_9 P) .nil .nil) .nil))
    (.node (boot_o_2 P) (.node (boot_o_4 P) (.node (boot_o_8 P) .nil .nil) .nil) (.node (boot_o_6 P) (.node (boot_o_10 P) .nil .nil) .nil))
noncomputable abbrev bootS (w : World) (os : OsState) : SharedT := ⟨bootT w.params, 11, (boot_heap w.params).life, #[], boot_drawn, boot_toks, os⟩
theorem boot_abs (w : World) (os : OsState) : (bootS w os).abs = boot w os := by kernel_rfl
theorem run_f : ∀ (w : World) (os : OsState), (runW (stepOk (boot_heap w.params).objs.size ((boot_heap w.params).nsMap mainGlobals "__annotations__")) (stepT (denote treeTable) pw (w.withFollow row0 false)) 2400 (bootS w os) (topStub pw)).map
    (fun s => (checks (boot w os) s.abs, openSeen q0 loose0 (importedModules pw.main.body) Xt0 true s.abs, obsH s.abs.heap)) = some (true, openGood q0 loose0, valH (w.withFollow row0 false)) := by
  try rw [PySem.W.Fast.te10156331382660048174]
  try rw [PySem.W.Fast.te11892475500146522536]
  try rw [PySem.W.Fast.te14364793385576792824]
  try rw [PySem.W.Fast.te6613529449190102663]
  try rw [PySem.W.Fast.te4187177175401517315]
  exact fun w os => by kernel_rfl
theorem run_t : ∀ (w : World) (os : OsState), (runW (stepOk (boot_heap w.params).objs.size ((boot_heap w.params).nsMap mainGlobals "__annotations__")) (stepT (denote treeTable) pw (w.withFollow row0 true)) 2400 (bootS w os) (topStub pw)).map
    (fun s => (checks (boot w os) s.abs, openSeen q0 loose0 (importedModules pw.main.body) Xt0 true s.abs, obsH s.abs.heap)) = some (true, openGood q0 loose0, valH (w.withFollow row0 true)) := by
  try rw [PySem.W.Fast.te10156331382660048174]
  try rw [PySem.W.Fast.te11892475500146522536]
  try rw [PySem.W.Fast.te14364793385576792824]
  try rw [PySem.W.Fast.te6613529449190102663]
  try rw [PySem.W.Fast.te4187177175401517315]
  exact fun w os => by kernel_rfl
theorem boot_ns : ∀ w : World, ((boot_heap w.params).isNs mainGlobals && (Array.mk ([] : List GenState)).size == 0) = true := fun w => by kernel_rfl
theorem run_b (b : Bool) (w : World) (os : OsState) : (topFrom treeTable pw (w.withFollow row0 b) 2400 (boot w os)).map (fun s => (openSeen q0 loose0 (importedModules pw.main.body) Xt0 true s, obsH s.heap)) = some (openGood q0 loose0, valH (w.withFollow row0 b)) := by
  have h : (runW (stepOk (boot_heap w.params).objs.size ((boot_heap w.params).nsMap mainGlobals "__annotations__")) (stepT (denote treeTable) pw (w.withFollow row0 b)) 2400 (bootS w os) (topStub pw)).map
      (fun s => (checks (boot w os) s.abs, openSeen q0 loose0 (importedModules pw.main.body) Xt0 true s.abs, obsH s.abs.heap)) = some (true, openGood q0 loose0, valH (w.withFollow row0 b)) := by
    cases b
    · exact run_f w os
    · exact run_t w os
  obtain ⟨s, h1, h2⟩ := Option.map_eq_some_iff.mp h
  obtain ⟨h3, h4⟩ := Prod.mk.inj h2
  have h1 := runW_spec _ _ _ _ h1
  rw [boot_abs] at h1
  have e : topFrom treeTable pw (w.withFollow row0 b) 2400 (boot w os) = some s.abs := by
    unfold topFrom
    rw [show ((boot w os).heap.isNs mainGlobals && (boot w os).gens.size == 0) = true from boot_ns w]
    show Option.bind (topRun _ _ _ _ _ _ _ _) _ = _
    rw [h1]
    show (match checks (boot w os) s.abs with | true => some s.abs | false => none) = _
    rw [h3]
  rw [e]
  exact congrArg some h4
theorem left0 : LeftO pw q0 loose0 Xt0 (fun s => obsH s.heap) valH 2400 := LeftO.of_split row0 fun w => by
  obtain ⟨s, h1, h2⟩ := Option.map_eq_some_iff.mp (boot_open (p := pw) (N := 2400) (by kernel_rfl) (by decide) (fun s => by rfl) w)
  rw [h1]
  obtain ⟨h, gs, d, k, os⟩ := s
  obtain ⟨rfl, rfl, rfl, rfl⟩ : h = boot_heap w.params ∧ gs = Array.mk [] ∧ d = boot_drawn ∧ k = boot_toks := by simpa using h2
  exact congrArg some (congr (congrArg Prod.mk (run_b false w os)) (run_b true w os))
theorem ns_unique {h : Heap} {a : Addr} {m m' : Str → Option Value} (x : h.Ns a m) (y : h.Ns a m') : m = m' := by
  obtain ⟨o1, es1, _, g1, d1, _, f1⟩ := x
  obtain ⟨o2, es2, _, g2, d2, _, f2⟩ := y
  rw [g1] at g2; cases g2; rw [d1] at d2; cases d2
  funext n; rw [← f1, ← f2]
theorem frag_lookup {h : Heap} : ∀ (l : List Addr) (a : Addr) (o : Obj), (l.filterMap fun a => (h.get? a).map fun o => (a, o)).lookup a = some o → h.get? a = some o
  | [], _, _, e => by cases e
  | b :: l, a, o, e => by
    rw [List.filterMap_cons] at e
    cases q : h.get? b with
    | none => rw [q] at e; exact frag_lookup l a o e
    | some ob =>
      rw [q] at e
      simp only [Option.map_some] at e
      rw [List.lookup_cons] at e
      cases hb : a == b with
      | true => rw [hb] at e; cases e; rw [beq_iff_eq.mp hb]; exact q
      | false => rw [hb] at e; exact frag_lookup l a o e
theorem fragAt_in (h : Heap) : (fragAt h).In h := fun a o e => frag_lookup _ a o e
def Says (w : World) (h : Heap) : Prop := ∃ h0, obsH h0 = valH w ∧ h0.StaysIn h
theorem isInt_spec {v : Option Value} {n : Int} (h : isInt v n = true) : ∃ t, v = some (.int n t) := by
  unfold isInt at h
  split at h
  · exact ⟨_, by rw [← beq_iff_eq.mp h]⟩
  · cases h
theorem isStrV_spec {v : Option CFound} {x : Str} (h : isStrV v x = true) : ∃ t, v = some (.val (.str x t)) := by
  unfold isStrV at h
  split at h
  · exact ⟨_, by rw [← beq_iff_eq.mp h]⟩
  · cases h
theorem fn_is {c : Cx} {h : Heap} {a : Addr} {i : Nat} {q : Str} (hk : h.StaysIn c.H) (e : fnV h a = some (mthV i q)) : ∃ cd, IsFn c a q (parOf (cst i)) (bodyOf (cst i)) (scOf (cst i)) cd := by
  unfold fnV at e
  split at e
  · rename_i fd _ ho
    simp only [mthV, Option.some.injEq, Prod.mk.injEq] at e
    obtain ⟨e1, e2, e3, e4, e5, e6, e7, e8, e9, e10⟩ := e
    refine ⟨fd.code, (codeRec_of (fragAt_in h) (e7 ▸ e10)).keeps hk, _, fd, hk _ _ ho, rfl, e1, e2, e3, e4, e5, e6, e7, rfl, e8, e9⟩
  · cases e
theorem defs_at : ((recsOf q0).map fun d => (d.name, d.params, d.body, d.scope)) = [0, 2, 3, 4, 59, 60, 61, 63, 64, 65, 66, 67, 68, 69].map fun i => (nmOf (stm i), parOf (stm i), bodyOf (stm i), scOf (stm i)) := by kernel_rfl
theorem fnAt_of {c : Cx} {loose : List Str} {mean : ExcName → Option Value} (T : Top q0 loose mean c.mg c.mb c.H) {i : Nat} (hi : i ∈ [0, 2, 3, 4, 59, 60, 61, 63, 64, 65, 66, 67, 68, 69]) : ∃ a cd, FnAt c i a cd := by
  have hm : (nmOf (stm i), parOf (stm i), bodyOf (stm i), scOf (stm i)) ∈ (recsOf q0).map fun d => (d.name, d.params, d.body, d.scope) := by rw [defs_at]; exact List.mem_map_of_mem hi
  obtain ⟨d, hd, e⟩ := List.mem_map.mp hm
  obtain ⟨e1, e2, e3, e4⟩ : _ ∧ _ ∧ _ ∧ _ := by simpa only [Prod.mk.injEq] using e
  obtain ⟨a, o, pm, code, doc, h1, h2, h3, h4⟩ := T.fn d hd
  refine ⟨a, code, ?_⟩
  show c.mg (nmOf (stm i)) = some (.ref a) ∧ IsFn c a (nmOf (stm i)) (parOf (stm i)) (bodyOf (stm i)) (scOf (stm i)) code
  rw [← e1, ← e2, ← e3, ← e4]
  exact ⟨h1, h4, o, _, h2, h3, rfl, rfl, rfl, rfl, rfl, rfl, rfl, rfl, rfl, rfl⟩
theorem tok_map {prog : Program} {w : World} {h : Heap} (e1 : tokB h = true) (e2 : (((entsOf (h.get? (tokA h))).getD []).map fun e => (e.hash, keyOf e)) = (tabKeys (stm 58)).map fun k => (hashStr w k, some k)) :
    ∃ a f t7 t8, h.nsMap mainGlobals "EXACT_TOKEN_TYPES" = some (.ref a) ∧ h.MapOf (strKind prog w) a f ∧ f "(" = some (.int 7 t7) ∧ f ")" = some (.int 8 t8) := by
  unfold tokB at e1
  obtain ⟨h1, h2⟩ := Bool.and_eq_true_iff.mp e1
  have h1 := of_decide_eq_true h1
  split at h2
  · rename_i es he
    rw [he] at e2
    obtain ⟨h3, h4⟩ := Bool.and_eq_true_iff.mp h2
    obtain ⟨t7, h3⟩ := isInt_spec h3
    obtain ⟨t8, h4⟩ := isInt_spec h4
    unfold entsOf at he
    split at he
    · rename_i c es' ep sl ho
      split at he
      · rename_i hc
        cases he
        obtain ⟨hc1, hc2⟩ := Bool.and_eq_true_iff.mp hc
        rw [beq_iff_eq.mp hc1, show sl = #[] from Array.isEmpty_iff.mp hc2] at ho
        refine ⟨_, fun k => findBy Value.isStrOf es' k, t7, t8, h1, ⟨_, es', ep, ho, ⟨rfl, rfl, rfl⟩, rfl, fun e hm => ?_, fun _ => rfl⟩, ?_, ?_⟩
        · have hm2 : (e.hash, keyOf e) ∈ (es'.toList.map fun e => (e.hash, keyOf e)) := List.mem_map_of_mem (Array.mem_toList_iff.mpr hm)
          rw [show (es'.toList.map fun e => (e.hash, keyOf e)) = _ from e2] at hm2
          obtain ⟨k, _, hk⟩ := List.mem_map.mp hm2
          obtain ⟨k1, k2⟩ := Prod.mk.inj hk
          refine ⟨k, ?_, k1.symm⟩
          unfold keyOf at k2
          split at k2
          · rename_i x t hx
            cases k2
            rw [hx]; exact strKind_is prog w _ t
          · cases k2
        · simpa [getE] using h3
        · simpa [getE] using h4
      · cases he
    · cases he
  · cases h2
theorem mapOf_keeps {prog : Program} {w : World} {h h' : Heap} {a : Addr} {f : Str → Option Value} (m : h.MapOf (strKind prog w) a f) (k : h.StaysIn h') : h'.MapOf (strKind prog w) a f := let ⟨o, es, n, ho, r⟩ := m; ⟨o, es, n, k _ _ ho, r⟩
theorem head_facts {c : Cx} {loose : List Str} {mean : ExcName → Option Value} (T : Top q0 loose mean c.mg c.mb c.H) (S : Says c.w c.H) : Kt c ∧ ∃ K C fI fE, WsK c K C fI fE := by
  obtain ⟨h, e, hk⟩ := S
  simp only [obsH, valH, Prod.mk.injEq, Bool.and_eq_true] at e
  obtain ⟨⟨⟨⟨⟨b1, b2⟩, b3⟩, b4⟩, b5⟩, e2, e3, e4⟩ := e
  unfold builtB at b2
  simp only [Bool.and_eq_true] at b2
  obtain ⟨⟨⟨n1, n2⟩, b2⟩, b2'⟩ := b2
  have eg : c.mg = h.nsMap mainGlobals := ns_unique T.g ((Heap.Ns.of_isNs n1).keeps hk)
  have eb : c.mb = h.nsMap builtinsNs := ns_unique T.b ((Heap.Ns.of_isNs n2).keeps hk)
  have hb : ∀ x ∈ (["len", "sum", "min", "sorted"] : List String), c.mg (Str.ofString x) = none ∧ c.mb (Str.ofString x) = some (.builtin x) := fun x hx => by
    have := List.all_eq_true.mp b2 x hx
    rw [eg, eb]
    exact ⟨of_decide_eq_true (Bool.and_eq_true_iff.mp this).1, of_decide_eq_true (Bool.and_eq_true_iff.mp this).2⟩
  have hb' : ∀ x ∈ (["range", "enumerate", "tuple"] : List String), c.mg (Str.ofString x) = none ∧ c.mb (Str.ofString x) = some (.type x) := fun x hx => by
    have := List.all_eq_true.mp b2' x hx
    rw [eg, eb]
    exact ⟨of_decide_eq_true (Bool.and_eq_true_iff.mp this).1, of_decide_eq_true (Bool.and_eq_true_iff.mp this).2⟩
  have fn := fun (i : Nat) (hi : i ∈ [0, 2, 3, 4, 59, 60, 61, 63, 64, 65, 66, 67, 68, 69]) => fnAt_of (c := c) T hi
  refine ⟨⟨hb _ (by simp), hb _ (by simp), hb _ (by simp), hb _ (by simp), hb' _ (by simp), hb' _ (by simp), hb' _ (by simp), ?_, ?_, ?_, fn 2 (by simp), fn 3 (by simp), fn 4 (by simp), fn 59 (by simp), fn 60 (by simp), fn 61 (by simp), fn 63 (by simp), fn 64 (by simp), fn 65 (by simp), fn 66 (by simp), fn 67 (by simp), fn 68 (by simp)⟩, fragAt h, clsA h, mthA h "__init__", mthA h "equal", ?_⟩
  · rw [eg]; exact isInt_spec b4
  · rw [eg]; exact isInt_spec b5
  · rw [eg]
    obtain ⟨a, f, t7, t8, h1, h2, h3, h4⟩ := tok_map (prog := c.prog) (w := c.w) b3 e4
    exact ⟨a, f, t7, t8, h1, mapOf_keeps h2 hk, h3, h4⟩
  · unfold clsB at b1
    simp only [Bool.and_eq_true, decide_eq_true_eq, List.all_eq_true] at b1
    obtain ⟨⟨⟨⟨⟨⟨⟨⟨⟨⟨⟨⟨⟨⟨⟨c1, c2⟩, c3⟩, c4⟩, c5⟩, c6⟩, c7⟩, c8⟩, c9⟩, c10⟩, c11⟩, c12⟩, c13⟩, c14⟩, c15⟩, c16⟩ := b1
    exact ⟨(fragAt_in h).keeps hk, by rw [eg]; exact c1, c2, c3, c4, c5, c6, c7, c8, c9, c10, c11, c12, c13, c14, isStrV_spec c15, isStrV_spec c16, fn_is hk e2, fn_is hk e3⟩
theorem items_ints : ∀ {xs : List WData}, WShape.hasItems [] xs .int = true → ∃ ns : List Int, xs = ns.map .int
  | [], _ => ⟨[], rfl⟩
  | x :: xs, h => by
    rw [WShape.hasItems] at h
    obtain ⟨h1, h2⟩ := Bool.and_eq_true_iff.mp h
    obtain ⟨ns, rfl⟩ := items_ints h2
    have : ∃ n, x = .int n := by
      cases x with
      | int n => exact ⟨n, rfl⟩
      | _ => simp [WShape.has, WShape.arms] at h1
    obtain ⟨n, rfl⟩ := this
    exact ⟨n :: ns, rfl⟩
theorem arg_ints {args : List WData} (h : WShape.hasAll [] args [.list .int] = true) : ∃ ns : List Int, args = [.list (ns.map .int)] := by
  obtain ⟨d, r, rfl, h1, h2⟩ := hasAllW_cons h
  obtain rfl := hasAllW_nil h2
  have : ∃ xs, d = .list xs ∧ WShape.hasItems [] xs .int = true := by
    cases d with
    | list xs => exact ⟨xs, rfl, by simpa [WShape.has, WShape.arms] using h1⟩
    | _ => simp [WShape.has, WShape.arms] at h1
  obtain ⟨xs, rfl, h3⟩ := this
  obtain ⟨ns, rfl⟩ := items_ints h3
  exact ⟨ns, rfl⟩
theorem readsW_ints {R : WRecords} {cl : Str → Option Addr} {h h' : Heap} : ∀ {ns : List Int} {vs : List Value} {as : List Addr}, ReadsAllW R cl h vs (ns.map .int) as → ∃ bs, ReadsAll h' vs (ns.map .int) bs
  | [], _, _, r => by cases r; exact ⟨_, .nil⟩
  | n :: ns, _, _, r => by
    cases r with
    | cons r1 r2 =>
      cases r1
      obtain ⟨bs, q⟩ := readsW_ints r2
      exact ⟨_, .cons (.int _ _) q⟩
theorem arg_D {R : WRecords} {cl : Str → Option Addr} {h : Heap} {ns : List Int} {vals : List Value} {as : List Addr} (r : ReadsAllW R cl h vals [.list (ns.map .int)] as) : ∃ v, vals = [v] ∧ D (.list (ns.map .int)) h v := by
  cases r with
  | cons r1 r2 =>
    cases r2
    cases r1 with
    | list h1 h2 h3 h4 =>
      obtain ⟨bs, q⟩ := readsW_ints (h' := h) h4
      exact ⟨_, rfl, mk_list (vs := _) ⟨_, h1, h2, _, by rw [h3, Array.toArray_toList]⟩ q⟩
theorem room_caller : Room 13 callerA := ⟨rfl, by decide +kernel, by decide +kernel⟩
theorem post_true (args : List WData) : (WTm.eq .res (.lit (.bool true))).value [] { args := args, res := some (.bool true), after := args } = some (.bool true) := by simp [WTm.value, same]
abbrev rw0 : OpenLaw := PySem.Challenge.rw_rw0114_01
theorem walk0 {XP : (Str → Option Value) → Heap → Prop} {d : DefRec} {kwd : List (Str × Expr)} (hn : d.name = nmOf (stm 69)) : WalkO q0 loose0 XP Says rw0.row.toRowW d kwd fun f vs => PySem.call f vs := by
  intro w s₀ s₁ mg mb G Y a o pm cd doc dV kV ho hd hcd hD hmg hg args vals as hpre hlay hrd hwl hlo
  have T := G.T
  let c : Cx := ⟨pw, w, s₁.heap, mg, mb⟩
  obtain ⟨Kc, K, C, fI, fE, Ws⟩ := head_facts (c := c) T Y
  obtain ⟨a', cd', f1, f2⟩ := fnAt_of (c := c) T (i := 69) (by simp)
  obtain rfl : a' = a := by
    rw [hn] at hmg
    have := hmg.symm.trans f1
    cases this; rfl
  obtain ⟨h1, h2⟩ := pre_splitW hpre
  obtain ⟨ns, rfl⟩ := arg_ints h1
  have hl : ns.length ≤ 63 := by
    have h3 := (holds_andW h2).1
    have e : (WTm.not (.lt (.lit (.int 63)) (.len (.arg 0)))).value [] { args := [.list (ns.map .int)] } = some (.bool (!decide ((63 : Int) < ns.length))) := by
      simp [WTm.value, less?, Num.less?]
    have h4 := condW_of h3 e
    simp at h4
    omega
  obtain ⟨v, rfl, hv⟩ := arg_D hrd
  have ok : c.Ok := ⟨T.g, T.b, T.nolimit⟩
  refine law_ok Kc Ws f2 hl (law_true _) callerA [] s₁ [v] _ _ room_caller ok (fun _ _ e => e) (fun b hb => by cases hb) (.cons hv .nil) fun v s' k p => ?_
  obtain rfl := D_bool.mp p
  exact ⟨.inl ⟨_, .bool true, [], rfl, fun _ => rfl, .bool _, postW_of (X := true) (by rfl) (post_true _) rfl, fun _ => ⟨.nil, fun b hb => by cases hb⟩⟩, OldK.of_keep k.heap, k.os, k.bare (AllBare.of_eq hg)⟩
theorem well_said : rw0.wellSaid = true := by
  try rw [PySem.W.Fast.te9446332074065402090]
  kernel_rfl
theorem chains_ok : (chainsOk q0 && opensWell rw0.row.prog && (frees rw0.row.toRowW && rw0.row.toRowW.within.isEmpty)) = true := by decide +kernel
theorem prog_bare : rw0.row.prog.bare := ⟨rfl, rfl, rfl, rfl, rfl, by decide +kernel⟩
theorem promised0 : rw0.row.toRowW.promised := by w_witness2
def posOf : Stmt → Pos
  | .FunctionDef _ _ _ _ _ _ _ _ _ p => p
  | _ => default
def d69 : DefRec := ⟨nmOf (stm 69), parOf (stm 69), bodyOf (stm 69), scOf (stm 69), posOf (stm 69)⟩
theorem def69 : defOf q0 rw0.row.name = some (d69, []) := by kernel_rfl
theorem the69 : rw0.row.prog.theDef rw0.row.name = some (d69.params, d69.body, d69.scope) := by kernel_rfl
theorem kw69 : kwWritten? d69.params.kwonlyargs d69.params.kw_defaults = some [] := by kernel_rfl
theorem holds0 : rw0.Holds := holds_law well_said fun said =>
  holds_open (q := q0) (loose := loose0) (Xt := Xt0) (XP := XL q0 []) (Yf := fun s => obsH s.heap) (Ya := valH) (YP := Says) (d := d69) (kwd := []) (N := 2400) left0
    (fun w s e => ⟨s.heap, e, fun _ _ e => e⟩) (fun w h h' S k => let ⟨h0, e, k0⟩ := S; ⟨h0, e, fun b o q => k b o (k0 b o q)⟩) (fun s e => xl_of s (Bool.and_eq_true_iff.mp e).1) XL.keeps def69 the69 kw69
    (fun s e => recFacts_of (Bool.and_eq_true_iff.mp e).2) (by rfl) said chains_ok prog_bare promised0 (walk0 rfl)
end
end Mine
theorem PySem.Challenge.cw_rw0114_01_holds : PySem.Challenge.rw_rw0114_01.Holds :=
  Mine.holds0
