import PyProof.Rows.All
import Wide.All
import OpenK.AllK
import Wide.FinOn
import Lean
import PySem.Challenge.RW_dz0011_01
set_option Elab.async false
-- every key of the walk is handed to the words of one's own (k_with) first
local macro_rules | `(tactic| walk_at $s) => `(tactic| k_extra $s)
section
open PySem PySem.W PyProof.Rows
namespace Mine
set_option maxRecDepth 100000 in
set_option maxHeartbeats 8000000 in
open_top hd for PySem.Challenge.rw_dz0011_01
end Mine
end
section
namespace Mine
open PySem in
/-- the count of tokens is of no matter to what follows -/
theorem gen_s {α : Type} {M : Model} {A : Around} {c : Sem α} {hp : Heap} {gs : Array GenState} {dr : Drawn} {tk : Nat} {os : OsState} {Q : α → Shared → Prop} {E : Value → Shared → Prop} (H : ∀ tk' : Nat, wpAny M A c Q E ⟨hp, gs, dr, tk', os⟩) : wpAny M A c Q E ⟨hp, gs, dr, tk, os⟩ := H tk
open PySem in
theorem gen_f {M : Model} {A : Around} {env : Env} {n : Str} {x : UInt64} {t : Tok} {hp : Heap} {gs : Array GenState} {dr : Drawn} {tk : Nat} {os : OsState} {Q : Unit → Shared → Prop} {E : Value → Shared → Prop} (H : ∀ (t' : Tok) (tk' : Nat), wpAny M A (storeName env n (.float x t')) Q E ⟨hp, gs, dr, tk', os⟩) : wpAny M A (storeName env n (.float x t)) Q E ⟨hp, gs, dr, tk, os⟩ := H t tk
open PySem in
theorem gen_i {M : Model} {A : Around} {env : Env} {n : Str} {x : Int} {t : Tok} {hp : Heap} {gs : Array GenState} {dr : Drawn} {tk : Nat} {os : OsState} {Q : Unit → Shared → Prop} {E : Value → Shared → Prop} (H : ∀ (t' : Tok) (tk' : Nat), wpAny M A (storeName env n (.int x t')) Q E ⟨hp, gs, dr, tk', os⟩) : wpAny M A (storeName env n (.int x t)) Q E ⟨hp, gs, dr, tk, os⟩ := H t tk
end Mine
end
section
open PySem PySem.W PyProof.Rows PySem.Calls PySem.Flt
namespace Mine

/-- the greater of three, as max takes it: the first of the greatest -/
def fmax (x y : UInt64) : UInt64 := if (Float64.cmp x y == some .lt) = true then y else x
def fmin (x y : UInt64) : UInt64 := if (Float64.cmp y x == some .lt) = true then y else x
def fmax3 (x y z : UInt64) : UInt64 := fmax (fmax x y) z
def fmin3 (x y z : UInt64) : UInt64 := fmin (fmin x y) z

def vmax (a b : Value) : Value := if ltV a b then b else a
def vmin (a b : Value) : Value := if ltV b a then b else a

theorem vmax_f (x y : UInt64) (t u : Tok) : ∃ v, vmax (.float x t) (.float y u) = .float (fmax x y) v := by
  unfold vmax fmax
  show ∃ v, (if (Float64.cmp x y == some .lt) = true then _ else _) = _
  by_cases h : (Float64.cmp x y == some .lt) = true
  · exact ⟨u, by rw [if_pos h, if_pos h]⟩
  · exact ⟨t, by rw [if_neg h, if_neg h]⟩
theorem vmin_f (x y : UInt64) (t u : Tok) : ∃ v, vmin (.float x t) (.float y u) = .float (fmin x y) v := by
  unfold vmin fmin
  show ∃ v, (if (Float64.cmp y x == some .lt) = true then _ else _) = _
  by_cases h : (Float64.cmp y x == some .lt) = true
  · exact ⟨u, by rw [if_pos h, if_pos h]⟩
  · exact ⟨t, by rw [if_neg h, if_neg h]⟩
theorem vmax_i (x y : Int) (t u : Tok) : ∃ v, vmax (.int x t) (.int y u) = .int (max x y) v := by
  unfold vmax ltV
  by_cases h : x < y
  · exact ⟨u, by simp [h, Int.max_eq_right (Int.le_of_lt h)]⟩
  · exact ⟨t, by simp [h, Int.max_eq_left (Int.not_lt.mp h)]⟩
theorem vmin_i (x y : Int) (t u : Tok) : ∃ v, vmin (.int x t) (.int y u) = .int (min x y) v := by
  unfold vmin ltV
  by_cases h : y < x
  · exact ⟨u, by simp [h, Int.min_eq_right (Int.le_of_lt h)]⟩
  · exact ⟨t, by simp [h, Int.min_eq_left (Int.not_lt.mp h)]⟩

section
variable {prog : Program} {w : World} {A : Around} {E : Value → Shared → Prop} {s : Shared} {Q : Value → Shared → Prop} {a b c : Value} {h₀ : Heap} {L : Addr} {m : Str → Option Value} {news : List (Addr × Obj)}

theorem max_three_num (hh : A.handled = none) (ha : NumV a) (hb : NumV b) (hc : NumV c)
    (h : ∀ h' tk, (∀ d o, s.heap.get? d = some o → h'.get? d = some o) → Q (vmax (vmax a b) c) { s with heap := h', toks := tk }) :
    wpAny (model prog w) A (call (.builtin "max") [a, b, c]) Q E s := by
  have hT : (s.heap.push { cls := .type "tuple", data := .seq #[a, b, c] }).IsTuple s.heap.objs.size #[a, b, c] := ⟨_, Heap.get?_push_size _ rfl, rfl, 0, rfl⟩
  refine call_max_three (wpAny_pyIter_tuple hT ?_)
  have hsz : (s.heap.push { cls := .type "tuple", data := .seq #[a, b, c] }).objs.size = s.heap.objs.size + 1 := Heap.size_push ..
  refine ⟨_, [_, s.heap.objs.size], [_], _, _, _, _, rfl, Walks.tuple (A := A.in1) hh _ s.heap.objs.size (by rw [hsz]; exact Nat.ne_of_lt (Nat.lt_succ_self _)) #[a, b, c],
    ⟨⟨_, Heap.get?_push_size _ rfl, rfl, rfl⟩, hT.push _⟩, fun d hd => ?_, by simp, cmpOf_gt #[a, b, c] (by simp [ha, hb, hc]), fun v h' tk hP hk => ?_⟩
  · show d < ((s.heap.push _).push _).objs.size
    rw [Heap.size_push, hsz]
    rcases List.mem_cons.mp hd with rfl | hd
    · rw [hsz]; exact Nat.lt_succ_self _
    · rcases List.mem_cons.mp hd with rfl | hd
      · exact Nat.lt_succ_of_lt (Nat.lt_succ_self _)
      · cases hd
  · have hold : ∀ d o, s.heap.get? d = some o → h'.get? d = some o := fun d o e => by
      refine hk d o (fun hm => ?_) (Heap.get?_push_of_some _ (Heap.get?_push_of_some _ e))
      rcases List.mem_cons.mp hm with e1 | hm
      · have := Heap.lt_size e; rw [e1, hsz] at this; exact Nat.lt_irrefl _ (Nat.lt_of_succ_lt this)
      · cases hm
    have := h h' tk hold
    have hv : v = vmax (vmax a b) c := by
      unfold vmax
      cases hc : ltV a b <;> simp [argBest, hc] at hP <;> simp
      · cases hd : ltV a c <;> simp [hd] at hP <;> simp [hP]
      · cases hd : ltV b c <;> simp [hd] at hP <;> simp [hP]
    rw [hv]; exact this
theorem min_three_num (hh : A.handled = none) (ha : NumV a) (hb : NumV b) (hc : NumV c)
    (h : ∀ h' tk, (∀ d o, s.heap.get? d = some o → h'.get? d = some o) → Q (vmin (vmin a b) c) { s with heap := h', toks := tk }) :
    wpAny (model prog w) A (call (.builtin "min") [a, b, c]) Q E s := by
  have hT : (s.heap.push { cls := .type "tuple", data := .seq #[a, b, c] }).IsTuple s.heap.objs.size #[a, b, c] := ⟨_, Heap.get?_push_size _ rfl, rfl, 0, rfl⟩
  refine call_min_three (wpAny_pyIter_tuple hT ?_)
  have hsz : (s.heap.push { cls := .type "tuple", data := .seq #[a, b, c] }).objs.size = s.heap.objs.size + 1 := Heap.size_push ..
  refine ⟨_, [_, s.heap.objs.size], [_], _, _, _, _, rfl, Walks.tuple (A := A.in1) hh _ s.heap.objs.size (by rw [hsz]; exact Nat.ne_of_lt (Nat.lt_succ_self _)) #[a, b, c],
    ⟨⟨_, Heap.get?_push_size _ rfl, rfl, rfl⟩, hT.push _⟩, fun d hd => ?_, by simp, cmpOf_lt #[a, b, c] (by simp [ha, hb, hc]), fun v h' tk hP hk => ?_⟩
  · show d < ((s.heap.push _).push _).objs.size
    rw [Heap.size_push, hsz]
    rcases List.mem_cons.mp hd with rfl | hd
    · rw [hsz]; exact Nat.lt_succ_self _
    · rcases List.mem_cons.mp hd with rfl | hd
      · exact Nat.lt_succ_of_lt (Nat.lt_succ_self _)
      · cases hd
  · have hold : ∀ d o, s.heap.get? d = some o → h'.get? d = some o := fun d o e => by
      refine hk d o (fun hm => ?_) (Heap.get?_push_of_some _ (Heap.get?_push_of_some _ e))
      rcases List.mem_cons.mp hm with e1 | hm
      · have := Heap.lt_size e; rw [e1, hsz] at this; exact Nat.lt_irrefl _ (Nat.lt_of_succ_lt this)
      · cases hm
    have := h h' tk hold
    have hv : v = vmin (vmin a b) c := by
      unfold vmin
      cases hc : ltV b a <;> simp [argBest, hc] at hP <;> simp
      · cases hd : ltV c a <;> simp [hd] at hP <;> simp [hP]
      · cases hd : ltV c b <;> simp [hd] at hP <;> simp [hP]
    rw [hv]; exact this

theorem max3_f {x y z : UInt64} {t u o : Tok} (hh : A.handled = none) (F : Fr h₀ L s.heap m) (N : News h₀ L s.heap news)
    (h : ∀ h' tk v, Fr h₀ L h' m → News h₀ L h' news → Q (.float (fmax3 x y z) v) { s with heap := h', toks := tk }) :
    wpAny (model prog w) A (call (.builtin "max") [.float x t, .float y u, .float z o]) Q E s :=
  max_three_num hh (.float _ _) (.float _ _) (.float _ _) fun h' tk kp => by
    obtain ⟨v, e⟩ := vmax_f x y t u
    obtain ⟨v', e'⟩ := vmax_f (fmax x y) z v o
    rw [e, e']
    exact h h' tk v' (F.grownK kp) (N.grown kp)
theorem min3_f {x y z : UInt64} {t u o : Tok} (hh : A.handled = none) (F : Fr h₀ L s.heap m) (N : News h₀ L s.heap news)
    (h : ∀ h' tk v, Fr h₀ L h' m → News h₀ L h' news → Q (.float (fmin3 x y z) v) { s with heap := h', toks := tk }) :
    wpAny (model prog w) A (call (.builtin "min") [.float x t, .float y u, .float z o]) Q E s :=
  min_three_num hh (.float _ _) (.float _ _) (.float _ _) fun h' tk kp => by
    obtain ⟨v, e⟩ := vmin_f x y t u
    obtain ⟨v', e'⟩ := vmin_f (fmin x y) z v o
    rw [e, e']
    exact h h' tk v' (F.grownK kp) (N.grown kp)
theorem max3_i {x y z : Int} {t u o : Tok} (hh : A.handled = none) (F : Fr h₀ L s.heap m) (N : News h₀ L s.heap news)
    (h : ∀ h' tk v, Fr h₀ L h' m → News h₀ L h' news → Q (.int (max (max x y) z) v) { s with heap := h', toks := tk }) :
    wpAny (model prog w) A (call (.builtin "max") [.int x t, .int y u, .int z o]) Q E s :=
  max_three_num hh (.int _ _) (.int _ _) (.int _ _) fun h' tk kp => by
    obtain ⟨v, e⟩ := vmax_i x y t u
    obtain ⟨v', e'⟩ := vmax_i (max x y) z v o
    rw [e, e']
    exact h h' tk v' (F.grownK kp) (N.grown kp)
theorem min3_i {x y z : Int} {t u o : Tok} (hh : A.handled = none) (F : Fr h₀ L s.heap m) (N : News h₀ L s.heap news)
    (h : ∀ h' tk v, Fr h₀ L h' m → News h₀ L h' news → Q (.int (min (min x y) z) v) { s with heap := h', toks := tk }) :
    wpAny (model prog w) A (call (.builtin "min") [.int x t, .int y u, .int z o]) Q E s :=
  min_three_num hh (.int _ _) (.int _ _) (.int _ _) fun h' tk kp => by
    obtain ⟨v, e⟩ := vmin_i x y t u
    obtain ⟨v', e'⟩ := vmin_i (min x y) z v o
    rw [e, e']
    exact h h' tk v' (F.grownK kp) (N.grown kp)
end

/-! an if that lays a float over a float: one path -/
structure JAt (h₀ : Heap) (L : Addr) (m : Str → Option Value) (news : List (Addr × Obj)) (s s' : Shared) : Prop where
  here : ∃ (h : Heap) (tk : Nat), s' = { s with heap := h, toks := tk } ∧ Fr h₀ L h m ∧ News h₀ L h news
structure JTest (c : Bool) (h₀ : Heap) (L : Addr) (m : Str → Option Value) (news : List (Addr × Obj)) (s : Shared) (k : Bool) (s' : Shared) : Prop where
  same : k = c
  here : JAt h₀ L m news s s'
structure JSet (x : Str) (v : UInt64) (h₀ : Heap) (L : Addr) (m : Str → Option Value) (news : List (Addr × Obj)) (s : Shared) (f : Flow) (s' : Shared) : Prop where
  next : f = .next
  here : ∃ t : Tok, JAt h₀ L (fun y => if y = x then some (.float v t) else m y) news s s'
section
variable {M : Model} {A : Around} {E : Value → Shared → Prop} {s : Shared} {env : Env} {h₀ : Heap} {L : Addr} {m : Str → Option Value} {news : List (Addr × Obj)}
theorem join_if {test : Expr} {x : Str} {p q pos : Pos} {e : Expr} {c : Bool} {a v : UInt64} {t₀ : Tok} {Q : Flow → Shared → Prop} (_F : Fr h₀ L s.heap m) (_N : News h₀ L s.heap news)
    (hold : m x = some (.float a t₀))
    (hc : wpAny M A (isTrue test env (eval test env)) (fun k s₂ => JTest c h₀ L m news s k s₂) E s)
    (hv : ∀ h tk, Fr h₀ L h m → News h₀ L h news → wpAny M A (exec (.Assign [.Name x p] e q) env) (fun f s₃ => JSet x v h₀ L m news s f s₃) E { s with heap := h, toks := tk })
    (hk : ∀ h tk t, Fr h₀ L h (fun y => if y = x then some (.float (if c = true then v else a) t) else m y) → News h₀ L h news → Q .next { s with heap := h, toks := tk }) :
    wpAny M A (exec (.If test [.Assign [.Name x p] e q] [] pos) env) Q E s := by
  refine wpAny_If (wpAny_mono hc (fun k s₂ hkc => ?_) fun _ _ h => h)
  obtain ⟨rfl, ⟨h, tk, rfl, F, N⟩⟩ := hkc
  cases k with
  | true =>
    show wpAny M A (execs [_] env) Q E _
    refine wpAny_execs_cons (wpAny_mono (hv h tk F N) (fun f s₃ hf => ?_) fun _ _ h => h)
    obtain ⟨rfl, t, ⟨h', tk', rfl, F', N'⟩⟩ := hf
    exact wpAny_execs_nil (hk h' tk' t F' N')
  | false =>
    show wpAny M A (execs [] env) Q E _
    refine wpAny_execs_nil (hk h tk t₀ ?_ N)
    have e : (fun y => if y = x then some (Value.float (if false = true then v else a) t₀) else m y) = m := by
      funext y
      by_cases hy : y = x
      · rw [if_pos hy, hy, hold]; rfl
      · rw [if_neg hy]
    rw [e]
    exact F
end
end Mine
end
section
open PySem PySem.W PyProof.Rows PySem.Calls PySem.Flt PySem.Spec
namespace Mine

/-! a list comprehension over a tuple of the ledger's -/
def TupIn (ax : Addr) (its : Array Value) (news : List (Addr × Obj)) : Prop := ∃ o, (ax, o) ∈ news ∧ o.cls = .type "tuple" ∧ ∃ n, o.data = .seq its n
theorem TupIn.tup {h₀ h : Heap} {L ax : Addr} {its : Array Value} {news : List (Addr × Obj)} (x : TupIn ax its news) (N : News h₀ L h news) : h.IsTuple ax its := by
  obtain ⟨o, hm, r⟩ := x
  exact ⟨o, (N _ hm).1, r⟩
def TupSrc (prog : Program) (w : World) (A : Around) (h₀ : Heap) (L : Addr) (m : Str → Option Value) (env : Env) (elt : Expr) (x : Str) (scope : Scope) (cl : List (Str × Addr)) (Fin : Shared → List Value → List (Addr × Obj) → Prop) (xv : Value) (s₁ : Shared) : Prop :=
  ∃ ax its news, xv = .ref ax ∧ A.handled = none ∧ Fr h₀ L s₁.heap m ∧ News h₀ L s₁.heap news ∧ TupIn ax its news ∧ its.size ≤ sizeLine ∧
    ∀ s₂ : Shared, (∃ h, s₂ = { s₁ with heap := h }) → LCg.CompRest prog w A h₀ L m env elt x scope cl s₂ (TupIn ax its) (fun i v => its[i]? = some v) (Fin s₂) its.size 0 [] news

section
variable {prog : Program} {w : World} {A : Around} {E : Value → Shared → Prop} {s : Shared} {h₀ : Heap} {L : Addr} {m : Str → Option Value} {env : Env}
theorem TupSrc.intro {elt : Expr} {x : Str} {scope : Scope} {cl : List (Str × Addr)} {Fin : Shared → List Value → List (Addr × Obj) → Prop} {ax : Addr} {a b c : Value} {k : Nat} {news : List (Addr × Obj)} {s₁ : Shared}
    (hh : A.handled = none) (F : Fr h₀ L s₁.heap m) (N : News h₀ L s₁.heap news) (hm : (ax, ({ cls := .type "tuple", data := .seq #[a, b, c] k } : Obj)) ∈ news)
    (h : ∀ g, LCg.CompRest prog w A h₀ L m env elt x scope cl { s₁ with heap := g } (TupIn ax #[a, b, c]) (fun i v => (#[a, b, c] : Array Value)[i]? = some v) (Fin { s₁ with heap := g }) 3 0 [] news) :
    TupSrc prog w A h₀ L m env elt x scope cl Fin (.ref ax) s₁ :=
  ⟨ax, #[a, b, c], news, rfl, hh, F, N, ⟨_, hm, rfl, _, rfl⟩, by show 3 ≤ sizeLine; exact Nat.le_of_ble_eq_true rfl, fun _ ⟨g, e⟩ => e ▸ h g⟩

theorem tup_st {ax I : Addr} {its : Array Value} : ∀ i (h h' : Heap) (o : Obj) (nw : List (Addr × Obj)), (h.IsTupleIter I ax i ∧ h.IsTuple ax its) → h.get? I = some o → h'.get? I = some o → (∀ b o, h₀.get? b = some o → h'.get? b = some o) → News h₀ L h' nw → TupIn ax its nw → (h'.IsTupleIter I ax i ∧ h'.IsTuple ax its) :=
  fun i h h' o nw st e e' k N S => ⟨by obtain ⟨o', q, r⟩ := st.1; rw [e] at q; cases q; exact ⟨o, e', r⟩, S.tup N⟩

theorem ListComp_T {elt iter : Expr} {x : Str} {px : Pos} {scope : Scope} {cl : List (Str × Addr)} {pos : Pos} {Q : Value → Shared → Prop} (_F₀ : Fr h₀ L s.heap m)
    (hclos : closureFor scope env = pure cl) (hcell : ∀ y ∈ scope.names, y.2 ≠ .cell) (hkind : scope.kind = .function)
    (hnames : ∀ y ∈ scope.names, y.2 = .local → scope.names.lookup y.1 = some .local) (hx : scope.names.lookup x = some .local)
    (h : wpAny (model prog w) A (eval iter env) (TupSrc prog w A h₀ L m env elt x scope cl (fun s₂ => LCg.FinE h₀ L m s₂ Q)) E s)
    (hs : ∀ x, foldedSetIterable iter env x = pure x := by intro _; rfl) :
    wpAny (model prog w) A (eval (.ListComp elt [⟨.Name x px, iter, [], 0⟩] scope pos) env) Q E s := by
  rw [eval_ListComp]
  refine wpAny_comprehension_free (use := none) rfl hs hclos hkind hnames (wpAny_mono h (fun xv s₁ h₁ => ?_) fun _ _ e => e)
  obtain ⟨ax, its, news, rfl, hh, F, N, S, hsz, R⟩ := h₁
  have hl := S.tup N
  have hlt : ax < s₁.heap.objs.size := by obtain ⟨_, e, _⟩ := hl; exact Heap.lt_size e
  refine wpAny_pyIter_tuple hl ?_
  have up : ∀ b o, s₁.heap.get? b = some o → (s₁.heap.push { cls := .type "tuple_iterator", data := .fields #[.ref ax, .int 0 0] }).get? b = some o := fun b o e => Heap.get?_push_of_some _ e
  refine LCg.block_U (Walks.tuple hh s₁.heap.objs.size ax (Nat.ne_of_lt hlt) its) hsz (fun i h st => by obtain ⟨o, e, _⟩ := st.1; exact ⟨o, e⟩) tup_st hcell hkind hx ⟨⟨_, Heap.get?_push_size _ rfl, rfl, rfl⟩, hl.push _⟩ (fun b hb => ?_)
    (F.keeps up) (N.grown up) (Nat.ne_of_lt F.ns.lt) (next_is_new F) (fun p hp => Nat.ne_of_lt (Heap.lt_size (N p hp).1)) S (R _ ⟨_, rfl⟩) ?_
  · show b < (s₁.heap.push _).objs.size
    rw [Heap.size_push]
    rcases List.mem_cons.mp hb with rfl | hb
    · exact Nat.lt_succ_self _
    · rw [List.mem_singleton.mp hb]; exact Nat.lt_succ_of_lt hlt
  · intro D C h tk m' ys news' F' N' o1 hn hC₀ hD₀ hCL hDL hCD offC fin
    refine ⟨m', hn, fun h'' hs'' => fin D h'' tk (F'.change hs'' hCL hC₀) (fun p hp => ?_) o1⟩
    refine ⟨hs''.extBut _ _ ?_ (N' p hp).1, (N' p hp).2⟩
    rcases List.mem_cons.mp hp with rfl | hp
    · exact Ne.symm hCD
    · exact offC p hp

theorem Assign_ListComp_T {elt iter : Expr} {x y : Str} {px py : Pos} {scope : Scope} {cl : List (Str × Addr)} {pos spos : Pos} {Q : Flow → Shared → Prop} (_F₀ : Fr h₀ L s.heap m) (hLe : env.locals = L)
    (hsw : swapsWith (.ListComp elt [⟨.Name x px, iter, [], 0⟩] scope pos) (some (.Name y py)) spos.line env = pure true)
    (hclos : closureFor scope env = pure cl) (hcell : ∀ z ∈ scope.names, z.2 ≠ .cell) (hkind : scope.kind = .function)
    (hnames : ∀ z ∈ scope.names, z.2 = .local → scope.names.lookup z.1 = some .local) (hx : scope.names.lookup x = some .local)
    (hy : env.kindOf y = some .local) (hp : (env.scope.kind == .class || (env.scope.kind == .module && env.locals != env.globals)) = false)
    (h : wpAny (model prog w) A (eval iter env) (TupSrc prog w A h₀ L m env elt x scope cl (fun s₂ => LCg.FinA h₀ L m s₂ y Q)) E s)
    (hs : ∀ x, foldedSetIterable iter env x = pure x := by intro _; rfl) :
    wpAny (model prog w) A (exec (.Assign [.Name y py] (.ListComp elt [⟨.Name x px, iter, [], 0⟩] scope pos) spos) env) Q E s := by
  subst hLe
  rw [exec_Assign_Name_used _ _ _ _ hsw]
  refine wpAny_bind (wpAny_standAt (wpAny_bind ?_))
  show wpAny _ A (do let _ ← comprehension (.ListComp elt [⟨.Name x px, iter, [], 0⟩] scope pos) scope env _ (newList []) false (eval iter env) (some (assign (.Name y py) env))) _ _ s
  refine wpAny_bind (wpAny_mono (wpAny_comprehension_free (use := some (assign (.Name y py) env)) (Q := fun _ s' => Q .next s') rfl hs hclos hkind hnames
    (wpAny_mono h (fun xv s₁ h₁ => ?_) fun _ _ e => e)) (fun _ s' hq => wpAny_pure (wpAny_pure hq)) fun _ _ e => e)
  obtain ⟨ax, its, news, rfl, hh, F, N, S, hsz, R⟩ := h₁
  have hl := S.tup N
  have hlt : ax < s₁.heap.objs.size := by obtain ⟨_, e, _⟩ := hl; exact Heap.lt_size e
  refine wpAny_pyIter_tuple hl ?_
  have up : ∀ b o, s₁.heap.get? b = some o → (s₁.heap.push { cls := .type "tuple_iterator", data := .fields #[.ref ax, .int 0 0] }).get? b = some o := fun b o e => Heap.get?_push_of_some _ e
  refine LCg.block_U (Walks.tuple hh s₁.heap.objs.size ax (Nat.ne_of_lt hlt) its) hsz (fun i h st => by obtain ⟨o, e, _⟩ := st.1; exact ⟨o, e⟩) tup_st hcell hkind hx ⟨⟨_, Heap.get?_push_size _ rfl, rfl, rfl⟩, hl.push _⟩ (fun b hb => ?_)
    (F.keeps up) (N.grown up) (Nat.ne_of_lt F.ns.lt) (next_is_new F) (fun p hp => Nat.ne_of_lt (Heap.lt_size (N p hp).1)) S (R _ ⟨_, rfl⟩) ?_
  · show b < (s₁.heap.push _).objs.size
    rw [Heap.size_push]
    rcases List.mem_cons.mp hb with rfl | hb
    · exact Nat.lt_succ_self _
    · rw [List.mem_singleton.mp hb]; exact Nat.lt_succ_of_lt hlt
  · intro D C h' tk m' ys news' F' N' o1 hn hC₀ hD₀ hCL hDL hCD offC fin
    show wpAny _ A (assign (.Name y py) env (.ref D)) _ _ _
    refine wpAny_assign_Name (wpAny_storeName_local hy F'.ns (fun h₂ hn₂ hs₂ => ?_) hp)
    have hL₀ : h₀.get? env.locals = none := Heap.get?_none_of_le F'.above
    have F₂ : Fr h₀ env.locals h₂ (fun z => if z = y then some (.ref D) else m z) := ⟨hn₂, fun b o e => hs₂.extBut b o (fun q => by rw [q, hL₀] at e; cases e) (F'.keep b o e), F'.above⟩
    refine ⟨m', hn.sameBut hs₂ hCL, fun h'' hs'' => fin D h'' _ (F₂.change hs'' hCL hC₀) (fun p hp => ?_) o1⟩
    have z : h₂.get? p.1 = some p.2 := hs₂.extBut _ _ (N' p hp).2.1 (N' p hp).1
    refine ⟨hs''.extBut _ _ ?_ z, (N' p hp).2⟩
    rcases List.mem_cons.mp hp with rfl | hp
    · exact Ne.symm hCD
    · exact offC p hp
theorem drop2 {h : Heap} {news : List (Addr × Obj)} {x y : Addr × Obj} (N : News h₀ L h (x :: y :: news)) : News h₀ L h (x :: news) := fun p hp => N p (by
  rcases List.mem_cons.mp hp with rfl | hp
  · exact List.mem_cons_self
  · exact List.mem_cons_of_mem _ (List.mem_cons_of_mem _ hp))
theorem off1_mem {D : Addr} : ∀ {news : List (Addr × Obj)}, LCg.Off1 D news → ∀ p ∈ news, p.1 ≠ D
  | [], _, _, h => nomatch h
  | _ :: _, x, p, h => by
    rcases List.mem_cons.mp h with rfl | h
    · exact x.1
    · exact off1_mem x.2 p h
end
end Mine
end
section
open PySem PySem.W PyProof.Rows PySem.Calls PySem.Flt PySem.Spec
namespace Mine

/-- the float of a quotient of two ints -/
def qI (a b : Int) : UInt64 := Float64.ofFrac (decide (a < 0) != decide (b < 0)) a.natAbs b.natAbs

theorem lt_big {n : Int} (h : -1099511627776 ≤ n ∧ n ≤ 1099511627776) : n.natAbs < 2 ^ 1023 :=
  Nat.lt_of_le_of_lt (m := 2 ^ 41) (by omega) (Nat.pow_lt_pow_right (by decide) (by decide))
theorem not_over {n : Int} (h : -1099511627776 ≤ n ∧ n ≤ 1099511627776) : ¬ Flt.Over n := by
  intro ho
  have h1 : n.natAbs < 2 ^ 41 := by omega
  have h2 : (2 : Nat) ^ 41 ≤ 2 ^ 1024 - 2 ^ 970 := by decide +kernel
  exact absurd ho (Nat.not_le.mpr (Nat.lt_of_lt_of_le h1 h2))
section
variable {prog : Program} {w : World} {A : Around} {E : Value → Shared → Prop} {s : Shared} {Q : Value → Shared → Prop} {h₀ : Heap} {L : Addr} {m : Str → Option Value} {news : List (Addr × Obj)}

theorem div_small {a b : Int} {t u : Tok} (hA : A.handled = none) (ha : -1099511627776 ≤ a ∧ a ≤ 1099511627776) (hb : b ≠ 0)
    (h : Q (.float (qI a b) s.toks) { s with toks := s.toks + 1 }) : wpAny (model prog w) A (binaryOp .Div (.int a t) (.int b u)) Q E s :=
  div_ii_fits hA (lt_big ha) (fun e => absurd e hb) fun _ _ => h
theorem mul_small {a : UInt64} {n : Int} {t u : Tok} (hA : A.handled = none) (ha : -1099511627776 ≤ n ∧ n ≤ 1099511627776)
    (h : Q (.float (Float64.mul a (Float64.ofInt n)) s.toks) { s with toks := s.toks + 1 }) : wpAny (model prog w) A (binaryOp .Mult (.float a t) (.int n u)) Q E s :=
  mul_fi_sharp hA (fun ho => absurd ho (not_over ha)) fun _ => h

theorem max_tup {x y z : UInt64} {t u o : Tok} {ax : Addr} {k : Nat} (hh : A.handled = none) (F : Fr h₀ L s.heap m) (N : News h₀ L s.heap news) (hm : (ax, ({ cls := .type "tuple", data := .seq #[.float x t, .float y u, .float z o] k } : Obj)) ∈ news)
    (h : ∀ h' tk v, Fr h₀ L h' m → News h₀ L h' news → Q (.float (fmax3 x y z) v) { s with heap := h', toks := tk }) :
    wpAny (model prog w) A (call (.builtin "max") [.ref ax]) Q E s := by
  have hT : s.heap.IsTuple ax #[.float x t, .float y u, .float z o] := ⟨_, (N _ hm).1, rfl, k, rfl⟩
  have hlt : ax < s.heap.objs.size := Heap.lt_size (N _ hm).1
  refine call_max_walk (wpAny_pyIter_tuple hT ?_)
  refine ⟨_, [_, ax], [_], _, _, _, _, rfl, Walks.tuple (A := A.in1) hh _ ax (Nat.ne_of_lt hlt) #[.float x t, .float y u, .float z o],
    ⟨⟨_, Heap.get?_push_size _ rfl, rfl, rfl⟩, hT.push _⟩, fun d hd => ?_, by simp, cmpOf_gt #[.float x t, .float y u, .float z o] (by simp; exact ⟨.float _ _, .float _ _, .float _ _⟩), fun v h' tk hP hk => ?_⟩
  · show d < (s.heap.push _).objs.size
    rw [Heap.size_push]
    rcases List.mem_cons.mp hd with rfl | hd
    · exact Nat.lt_succ_self _
    · rcases List.mem_cons.mp hd with rfl | hd
      · exact Nat.lt_succ_of_lt hlt
      · cases hd
  · have hold : ∀ d o, s.heap.get? d = some o → h'.get? d = some o := fun d o e => by
      refine hk d o (fun hm => ?_) (Heap.get?_push_of_some _ e)
      rcases List.mem_cons.mp hm with e1 | hm
      · have := Heap.lt_size e; rw [e1] at this; exact Nat.lt_irrefl _ this
      · cases hm
    have hv : v = vmax (vmax (.float x t) (.float y u)) (.float z o) := by
      unfold vmax
      cases hc : ltV (.float x t) (.float y u) <;> simp [argBest, hc] at hP <;> simp
      · cases hd : ltV (.float x t) (.float z o) <;> simp [hd] at hP <;> simp [hP]
      · cases hd : ltV (.float y u) (.float z o) <;> simp [hd] at hP <;> simp [hP]
    obtain ⟨v1, e1⟩ := vmax_f x y t u
    obtain ⟨v2, e2⟩ := vmax_f (fmax x y) z v1 o
    rw [hv, e1, e2]
    exact h h' tk v2 (F.grownK hold) (N.grown hold)
theorem min_tup {x y z : UInt64} {t u o : Tok} {ax : Addr} {k : Nat} (hh : A.handled = none) (F : Fr h₀ L s.heap m) (N : News h₀ L s.heap news) (hm : (ax, ({ cls := .type "tuple", data := .seq #[.float x t, .float y u, .float z o] k } : Obj)) ∈ news)
    (h : ∀ h' tk v, Fr h₀ L h' m → News h₀ L h' news → Q (.float (fmin3 x y z) v) { s with heap := h', toks := tk }) :
    wpAny (model prog w) A (call (.builtin "min") [.ref ax]) Q E s := by
  have hT : s.heap.IsTuple ax #[.float x t, .float y u, .float z o] := ⟨_, (N _ hm).1, rfl, k, rfl⟩
  have hlt : ax < s.heap.objs.size := Heap.lt_size (N _ hm).1
  refine call_min_walk (wpAny_pyIter_tuple hT ?_)
  refine ⟨_, [_, ax], [_], _, _, _, _, rfl, Walks.tuple (A := A.in1) hh _ ax (Nat.ne_of_lt hlt) #[.float x t, .float y u, .float z o],
    ⟨⟨_, Heap.get?_push_size _ rfl, rfl, rfl⟩, hT.push _⟩, fun d hd => ?_, by simp, cmpOf_lt #[.float x t, .float y u, .float z o] (by simp; exact ⟨.float _ _, .float _ _, .float _ _⟩), fun v h' tk hP hk => ?_⟩
  · show d < (s.heap.push _).objs.size
    rw [Heap.size_push]
    rcases List.mem_cons.mp hd with rfl | hd
    · exact Nat.lt_succ_self _
    · rcases List.mem_cons.mp hd with rfl | hd
      · exact Nat.lt_succ_of_lt hlt
      · cases hd
  · have hold : ∀ d o, s.heap.get? d = some o → h'.get? d = some o := fun d o e => by
      refine hk d o (fun hm => ?_) (Heap.get?_push_of_some _ e)
      rcases List.mem_cons.mp hm with e1 | hm
      · have := Heap.lt_size e; rw [e1] at this; exact Nat.lt_irrefl _ this
      · cases hm
    have hv : v = vmin (vmin (.float x t) (.float y u)) (.float z o) := by
      unfold vmin
      cases hc : ltV (.float y u) (.float x t) <;> simp [argBest, hc] at hP <;> simp
      · cases hd : ltV (.float z o) (.float x t) <;> simp [hd] at hP <;> simp [hP]
      · cases hd : ltV (.float z o) (.float y u) <;> simp [hd] at hP <;> simp [hP]
    obtain ⟨v1, e1⟩ := vmin_f x y t u
    obtain ⟨v2, e2⟩ := vmin_f (fmin x y) z v1 o
    rw [hv, e1, e2]
    exact h h' tk v2 (F.grownK hold) (N.grown hold)

theorem ints3 (x y z : Int) (t u v : Tok) : IntsAre [.int x t, .int y u, .int z v] [x, y, z] := .cons _ _ (.cons _ _ (.cons _ _ .nil))
theorem eq_lst {a b : Addr} {x y z x' y' z' : Int} {t u v t' u' v' : Tok} {k k' : Nat} (N : News h₀ L s.heap news)
    (ha : (a, ({ cls := .type "list", data := .seq #[.int x t, .int y u, .int z v] k } : Obj)) ∈ news) (hb : (b, ({ cls := .type "list", data := .seq #[.int x' t', .int y' u', .int z' v'] k' } : Obj)) ∈ news)
    (hu : A.units + 64 < cLine) (h : Q (.bool (decide ([x, y, z] = [x', y', z']))) s) : wpAny (model prog w) A (compareOp .Eq (.ref a) (.ref b)) Q E s :=
  ke_eq_ints (xs := [.int x t, .int y u, .int z v]) (ys := [.int x' t', .int y' u', .int z' v']) ⟨_, (N _ ha).1, rfl, k, rfl⟩ ⟨_, (N _ hb).1, rfl, k', rfl⟩ (ints3 ..) (ints3 ..) hu h
theorem ne_lst {a b : Addr} {x y z x' y' z' : Int} {t u v t' u' v' : Tok} {k k' : Nat} (N : News h₀ L s.heap news)
    (ha : (a, ({ cls := .type "list", data := .seq #[.int x t, .int y u, .int z v] k } : Obj)) ∈ news) (hb : (b, ({ cls := .type "list", data := .seq #[.int x' t', .int y' u', .int z' v'] k' } : Obj)) ∈ news)
    (hu : A.units + 64 < cLine) (h : Q (.bool (!decide ([x, y, z] = [x', y', z']))) s) : wpAny (model prog w) A (compareOp .NotEq (.ref a) (.ref b)) Q E s :=
  ke_ne_ints (xs := [.int x t, .int y u, .int z v]) (ys := [.int x' t', .int y' u', .int z' v']) ⟨_, (N _ ha).1, rfl, k, rfl⟩ ⟨_, (N _ hb).1, rfl, k', rfl⟩ (ints3 ..) (ints3 ..) hu h
theorem none_booked {K : Frag} {h : Heap} {p : Program} {loose : List Str} {mean : ExcName → Option Value} {mg mb : Str → Option Value} (X : K.In h) (T : Top p loose mean mg mb h) (e : nsIn K cStatics sharingNotToldKey = some none) : NoneBooked h := by
  obtain ⟨mc, G, _⟩ := T.nodigits
  refine ⟨mc, G, ?_⟩
  obtain ⟨o, es, ep, ho, hd, _, hf⟩ := G
  unfold nsIn at e
  split at e
  · rename_i c d es' n' sl q
    have := X _ _ q
    rw [ho] at this
    cases this
    cases hd
    split at e
    · cases e
    · rename_i he
      rw [← hf]
      unfold nsFind findBy
      rw [← Array.find?_toList, he]
      rfl
  · cases e
theorem isSame_float {M : Model} {x y : UInt64} {u v : Tok} {Q : Bool → Shared → Prop}
    (hu : u ≠ 0) (hv : v ≠ 0) (hb : NoneBooked s.heap) (hq : ∀ b, Q b s) : wpAny M A (isSame (.float x u) (.float y v)) Q E s := by
  show wpAny M A (isSame.created (x == y && !Float64.isNaN x) u v) Q E s
  unfold isSame.created
  refine wpAny_ite ?_
  split
  · rename_i h; simp [hu, hv] at h
  refine wpAny_ite ?_
  split
  · exact wpAny_pure (hq _)
  refine wpAny_ite ?_
  split
  · exact wpAny_pure (hq _)
  refine wpAny_bind (wpAny_sharingNotTold_none hb ?_)
  simp only [Bool.false_eq_true, if_false]
  refine wpAny_bind (wpAny_sharingNotTold_none hb ?_)
  simp only [Bool.false_eq_true, if_false]
  exact wpAny_bind (wpAny_rule (wpAny_bind (wpAny_askSetting (wpAny_pure (hq _)))))
theorem eqAt_float {x y : UInt64} {t u : Tok} (ht : t ≠ 0) (hu : u ≠ 0) (hb : NoneBooked s.heap) (h : (Float64.cmp x y == some .eq) = true) : SeqAt.EqAt A s (.float x t) (.float y u) true := fun prog w E Q hq => by
  unfold eqBool
  refine wpAny_holding ?_
  refine wpAny_ite_split (fun _ => ?_) (fun _ => ?_)
  · exact wpAny_bind (wpAny_rule (wpAny_pure hq))
  · refine wpAny_bind (isSame_float ht hu hb fun b => ?_)
    cases b
    · simp only [Bool.false_eq_true, if_false]
      exact wpAny_bind (AutoFloatOps.eq_0 (by rw [h]; exact wpAny_truthy_bool hq))
    · simp only [if_true]
      exact wpAny_pure hq
theorem eq_tup {a b : Addr} {x y z x' y' z' : UInt64} {t u v t' u' v' : Tok} {k k' : Nat} (N : News h₀ L s.heap news)
    (ha : (a, ({ cls := .type "tuple", data := .seq #[.float x t, .float y u, .float z v] k } : Obj)) ∈ news) (hb : (b, ({ cls := .type "tuple", data := .seq #[.float x' t', .float y' u', .float z' v'] k' } : Obj)) ∈ news)
    (h1 : (Float64.cmp x x' == some .eq) = true) (h2 : (Float64.cmp y y' == some .eq) = true) (h3 : (Float64.cmp z z' == some .eq) = true)
    (k1 : t ≠ 0 ∧ u ≠ 0 ∧ v ≠ 0) (k2 : t' ≠ 0 ∧ u' ≠ 0 ∧ v' ≠ 0) (nb : NoneBooked s.heap)
    (hu : A.units + 64 < cLine) (h : Q (.bool true) s) : wpAny (model prog w) A (compareOp .Eq (.ref a) (.ref b)) Q E s :=
  SeqAt.eq_tupleAt (items := #[.float x t, .float y u, .float z v]) (items2 := #[.float x' t', .float y' u', .float z' v']) (e := fun _ => true) ⟨_, (N _ ha).1, rfl, k, rfl⟩ ⟨_, (N _ hb).1, rfl, k', rfl⟩ (by omega)
    (fun j j1 j2 => by
      have : j = 0 ∨ j = 1 ∨ j = 2 := by simp at j1; omega
      rcases this with rfl | rfl | rfl
      · exact eqAt_float k1.1 k2.1 nb h1
      · exact eqAt_float k1.2.1 k2.2.1 nb h2
      · exact eqAt_float k1.2.2 k2.2.2 nb h3) h

/-! positive token counts kept along a block -/
def Pos1 (n : Nat) (P : Prop) : Prop := 1 ≤ n → P
theorem execs_cons_toks {M : Model} {env : Env} {st : Stmt} {rest : List Stmt} {Q : Flow → Shared → Prop} (h1 : 1 ≤ s.toks)
    (h : wpAny M A (exec st env) (fun f s' => Pos1 s'.toks (match f with | .next => wpAny M A (execs rest env) Q E s' | f => Q f s')) E s) : wpAny M A (execs (st :: rest) env) Q E s :=
  wpAny_execs_cons (wpAny_with_toks h1 (wpAny_mono h (fun f s' x => x) fun _ _ x _ => x))
theorem div_q {a b : Int} {q : UInt64} {t u : Tok} (e : qI a b = q) (hA : A.handled = none) (ha : -1099511627776 ≤ a ∧ a ≤ 1099511627776) (hb : b ≠ 0)
    (h : Q (.float q s.toks) { s with toks := s.toks + 1 }) : wpAny (model prog w) A (binaryOp .Div (.int a t) (.int b u)) Q E s := by
  subst e; exact div_small hA ha hb h
theorem eq_lst_same {a b : Addr} {x y z x' y' z' : Int} {t u v t' u' v' : Tok} {k k' : Nat} (N : News h₀ L s.heap news)
    (ha : (a, ({ cls := .type "list", data := .seq #[.int x t, .int y u, .int z v] k } : Obj)) ∈ news) (hb : (b, ({ cls := .type "list", data := .seq #[.int x' t', .int y' u', .int z' v'] k' } : Obj)) ∈ news)
    (h1 : x = x') (h2 : y = y') (h3 : z = z') (hu : A.units + 64 < cLine) (h : Q (.bool true) s) : wpAny (model prog w) A (compareOp .Eq (.ref a) (.ref b)) Q E s := by
  subst h1 h2 h3
  exact eq_lst N ha hb hu (by simpa using h)
theorem ne_lst_same {a b : Addr} {x y z x' y' z' : Int} {t u v t' u' v' : Tok} {k k' : Nat} (N : News h₀ L s.heap news)
    (ha : (a, ({ cls := .type "list", data := .seq #[.int x t, .int y u, .int z v] k } : Obj)) ∈ news) (hb : (b, ({ cls := .type "list", data := .seq #[.int x' t', .int y' u', .int z' v'] k' } : Obj)) ∈ news)
    (h1 : x = x') (h2 : y = y') (h3 : z = z') (hu : A.units + 64 < cLine) (h : Q (.bool false) s) : wpAny (model prog w) A (compareOp .NotEq (.ref a) (.ref b)) Q E s := by
  subst h1 h2 h3
  exact ne_lst N ha hb hu (by simpa using h)
theorem max2_i {x y : Int} {t u : Tok} (hh : A.handled = none) (F : Fr h₀ L s.heap m) (N : News h₀ L s.heap news)
    (h : ∀ h' tk v, Fr h₀ L h' m → News h₀ L h' news → Q (.int (max x y) v) { s with heap := h', toks := tk }) :
    wpAny (model prog w) A (call (.builtin "max") [.int x t, .int y u]) Q E s :=
  max_two_num hh (.int _ _) (.int _ _) fun h' tk kp => by
    obtain ⟨v, e⟩ := vmax_i x y t u
    have := h h' tk v (F.grownK kp) (N.grown kp)
    rw [← e] at this
    exact this
theorem min2_i {x y : Int} {t u : Tok} (hh : A.handled = none) (F : Fr h₀ L s.heap m) (N : News h₀ L s.heap news)
    (h : ∀ h' tk v, Fr h₀ L h' m → News h₀ L h' news → Q (.int (min x y) v) { s with heap := h', toks := tk }) :
    wpAny (model prog w) A (call (.builtin "min") [.int x t, .int y u]) Q E s :=
  min_two_num hh (.int _ _) (.int _ _) fun h' tk kp => by
    obtain ⟨v, e⟩ := vmin_i x y t u
    have := h h' tk v (F.grownK kp) (N.grown kp)
    rw [← e] at this
    exact this
/-- a comparison of two floats whose answer is known -/
theorem cmpF {op : CmpOp} {x y : UInt64} {t u : Tok} {k k' : Bool} (h0 : ∀ Q : Value → Shared → Prop, Q (.bool k) s → wpAny (model prog w) A (compareOp op (.float x t) (.float y u)) Q E s) (e : k = k')
    (h : Q (.bool k') s) : wpAny (model prog w) A (compareOp op (.float x t) (.float y u)) Q E s := h0 Q (e ▸ h)
theorem max3_q {x y z k : Int} {t u o : Tok} (e : max (max x y) z = k) (hh : A.handled = none) (F : Fr h₀ L s.heap m) (N : News h₀ L s.heap news)
    (h : ∀ h' tk v, Fr h₀ L h' m → News h₀ L h' news → Q (.int k v) { s with heap := h', toks := tk }) :
    wpAny (model prog w) A (call (.builtin "max") [.int x t, .int y u, .int z o]) Q E s := by
  subst e; exact max3_i hh F N h
theorem min3_q {x y z k : Int} {t u o : Tok} (e : min (min x y) z = k) (hh : A.handled = none) (F : Fr h₀ L s.heap m) (N : News h₀ L s.heap news)
    (h : ∀ h' tk v, Fr h₀ L h' m → News h₀ L h' news → Q (.int k v) { s with heap := h', toks := tk }) :
    wpAny (model prog w) A (call (.builtin "min") [.int x t, .int y u, .int z o]) Q E s := by
  subst e; exact min3_i hh F N h
theorem vmax_t (x y : UInt64) {t u : Tok} (ht : t ≠ 0) (hu : u ≠ 0) : ∃ v, v ≠ 0 ∧ vmax (.float x t) (.float y u) = .float (fmax x y) v := by
  unfold vmax fmax
  show ∃ v, v ≠ 0 ∧ (if (Float64.cmp x y == some .lt) = true then _ else _) = _
  by_cases h : (Float64.cmp x y == some .lt) = true
  · exact ⟨u, hu, by rw [if_pos h, if_pos h]⟩
  · exact ⟨t, ht, by rw [if_neg h, if_neg h]⟩
theorem max3_t {x y z : UInt64} {t u o : Tok} (ht : t ≠ 0) (hu : u ≠ 0) (ho : o ≠ 0) (hn : 1 ≤ s.toks) (hh : A.handled = none) (F : Fr h₀ L s.heap m) (N : News h₀ L s.heap news)
    (h : ∀ h' tk v, v ≠ 0 → 1 ≤ tk → Fr h₀ L h' m → News h₀ L h' news → Q (.float (fmax3 x y z) v) { s with heap := h', toks := tk }) :
    wpAny (model prog w) A (call (.builtin "max") [.float x t, .float y u, .float z o]) Q E s :=
  wpAny_with_toks hn (max_three_num hh (.float _ _) (.float _ _) (.float _ _) fun h' tk kp hn' => by
    obtain ⟨v, n1, e⟩ := vmax_t x y ht hu
    obtain ⟨v', n2, e'⟩ := vmax_t (fmax x y) z n1 ho
    rw [e, e']
    exact h h' tk v' n2 hn' (F.grownK kp) (N.grown kp))
theorem min3_t {x y z : UInt64} {t u o : Tok} (hn : 1 ≤ s.toks) (hh : A.handled = none) (F : Fr h₀ L s.heap m) (N : News h₀ L s.heap news)
    (h : ∀ h' tk v, 1 ≤ tk → Fr h₀ L h' m → News h₀ L h' news → Q (.float (fmin3 x y z) v) { s with heap := h', toks := tk }) :
    wpAny (model prog w) A (call (.builtin "min") [.float x t, .float y u, .float z o]) Q E s :=
  wpAny_with_toks hn (min3_f hh F N fun h' tk v F' N' hn' => h h' tk v hn' F' N')
theorem max3_n {x y z k : Int} {t u o : Tok} (e : max (max x y) z = k) (hn : 1 ≤ s.toks) (hh : A.handled = none) (F : Fr h₀ L s.heap m) (N : News h₀ L s.heap news)
    (h : ∀ h' tk v, 1 ≤ tk → Fr h₀ L h' m → News h₀ L h' news → Q (.int k v) { s with heap := h', toks := tk }) :
    wpAny (model prog w) A (call (.builtin "max") [.int x t, .int y u, .int z o]) Q E s :=
  wpAny_with_toks hn (max3_q e hh F N fun h' tk v F' N' hn' => h h' tk v hn' F' N')
theorem min3_n {x y z k : Int} {t u o : Tok} (e : min (min x y) z = k) (hn : 1 ≤ s.toks) (hh : A.handled = none) (F : Fr h₀ L s.heap m) (N : News h₀ L s.heap news)
    (h : ∀ h' tk v, 1 ≤ tk → Fr h₀ L h' m → News h₀ L h' news → Q (.int k v) { s with heap := h', toks := tk }) :
    wpAny (model prog w) A (call (.builtin "min") [.int x t, .int y u, .int z o]) Q E s :=
  wpAny_with_toks hn (min3_q e hh F N fun h' tk v F' N' hn' => h h' tk v hn' F' N')
end
end Mine
end
section
open PySem PySem.W PyProof.Rows PySem.Calls PySem.Flt
namespace Mine
noncomputable abbrev pw : Program := Challenge.rw_dz0011_01.row.prog
noncomputable abbrev lo : List Str := looseW hd.view_39 [Str.ofString "ONE_THIRD", Str.ofString "ONE_SIXTH", Str.ofString "TWO_THIRD"]
abbrev tupF (x y z : UInt64) (t u v : Tok) : Obj := { cls := .type "tuple", data := .seq #[.float x t, .float y u, .float z v] }

def yF (r g b : UInt64) : UInt64 := Float64.add (Float64.add (Float64.mul 0x3fd3333333333333 r) (Float64.mul 0x3fe2e147ae147ae1 g)) (Float64.mul 0x3fbc28f5c28f5c29 b)
def iF (r g b : UInt64) : UInt64 := Float64.sub (Float64.mul 0x3fe7ae147ae147ae (Float64.sub r (yF r g b))) (Float64.mul 0x3fd147ae147ae148 (Float64.sub b (yF r g b)))
def qF (r g b : UInt64) : UInt64 := Float64.add (Float64.mul 0x3fdeb851eb851eb8 (Float64.sub r (yF r g b))) (Float64.mul 0x3fda3d70a3d70a3d (Float64.sub b (yF r g b)))
section
variable {w : World} {mean : ExcName → Option Value} {mg mb : Str → Option Value} {dp un : Nat} {gd : Option (List Code)} {cn : Str} {cs : Scope} {a : Addr} {ccd : Value} {cl : List (Str × Addr)} {outer : List Env} {A₀ : Around} {base h₀ : Heap} {L : Addr} {m : Str → Option Value} {news : List (Addr × Obj)} {s : Shared} {Q E : Value → Shared → Prop}

set_option maxRecDepth 100000 in
set_option maxHeartbeats 8000000 in
theorem c_yiq {r g b : UInt64} {t1 t2 t3 : Tok}
   (B : Below A₀ base outer h₀) (F : Fr h₀ L s.heap m) (X : (hd.heap_39 w.params).In h₀) (N : News h₀ L s.heap news) (T : Top hd.view_39 lo mean mg mb h₀) (hk : cs.kind = .function) (hdp : dp + 1 < recursionLimit) (hu : un + 8 < cLine)
   (hret : ∀ (D : Addr) (t u v : Tok) (h' : Heap) (tk' : Nat), Fr h₀ L h' m → News h₀ L h' ((D, tupF (yF r g b) (iF r g b) (qF r g b) t u v) :: news) → (∀ p ∈ news, p.1 < D) → Q (.ref D) { s with heap := h', toks := tk' }) :
   wpAny (model pw w) (ktrTop dp un gd cn cs L a ccd cl outer) (call (.ref 21) [.float r t1, .float g t2, .float b t3]) Q E s := by
  k_with_none
  refine wpAny_call ?_
  k_dflt cell_enter
  k_steps
  all_goals (first | exact hret _ _ _ _ _ _ (by assumption) (by assumption) (by assumption))
end
end Mine
end
section
open PySem PySem.W PyProof.Rows PySem.Calls PySem.Flt
namespace Mine

def cutF (x : UInt64) : UInt64 :=
  if (Float64.cmp (if (Float64.cmp x 0 == some .lt) = true then 0 else x) 0x3ff0000000000000 == some .gt) = true then 0x3ff0000000000000 else (if (Float64.cmp x 0 == some .lt) = true then 0 else x)
def rB (y i q : UInt64) : UInt64 := Float64.add (Float64.add y (Float64.mul 4606703976345377586 i)) (Float64.mul 4603791717925830846 q)
def gB (y i q : UInt64) : UInt64 := Float64.sub (Float64.sub y (Float64.mul 4598621754083818298 i)) (Float64.mul 4603901015759978483 q)
def bB (y i q : UInt64) : UInt64 := Float64.add (Float64.sub y (Float64.mul 4607671262177584182 i)) (Float64.mul 4610375502138591871 q)
section
variable {w : World} {mean : ExcName → Option Value} {mg mb : Str → Option Value} {dp un : Nat} {gd : Option (List Code)} {cn : Str} {cs : Scope} {a : Addr} {ccd : Value} {cl : List (Str × Addr)} {outer : List Env} {A₀ : Around} {base h₀ : Heap} {L : Addr} {m : Str → Option Value} {news : List (Addr × Obj)} {s : Shared} {Q E : Value → Shared → Prop}

set_option maxRecDepth 100000 in
set_option maxHeartbeats 8000000 in
theorem c_rgb {r g b : UInt64} {t1 t2 t3 : Tok}
   (B : Below A₀ base outer h₀) (F : Fr h₀ L s.heap m) (X : (hd.heap_39 w.params).In h₀) (N : News h₀ L s.heap news) (T : Top hd.view_39 lo mean mg mb h₀) (hk : cs.kind = .function) (hdp : dp + 1 < recursionLimit) (hu : un + 8 < cLine)
   (hret : ∀ (D : Addr) (t u v : Tok) (h' : Heap) (tk' : Nat), Fr h₀ L h' m → News h₀ L h' ((D, tupF (cutF (rB r g b)) (cutF (gB r g b)) (cutF (bB r g b)) t u v) :: news) → (∀ p ∈ news, p.1 < D) → Q (.ref D) { s with heap := h', toks := tk' }) :
   wpAny (model pw w) (ktrTop dp un gd cn cs L a ccd cl outer) (call (.ref 28) [.float r t1, .float g t2, .float b t3]) Q E s := by
  k_with_none
  (k_with "storeName" => (k_here; (with_reducible show wpAny _ _ (storeName _ _ (Value.float _ _)) _ _ (Shared.mk _ _ _ (_ + _) _)); (refine gen_f ?_); intro t1 tk1))
  (k_with "storeName" => (k_here; (with_reducible show wpAny _ _ (storeName _ _ (Value.int _ _)) _ _ (Shared.mk _ _ _ (_ + _) _)); (refine gen_i ?_); intro t1 tk1))
  (k_with "execs cons" => (k_here; (with_reducible show wpAny _ _ (execs _ _) _ _ (Shared.mk _ _ _ (_ + _) _)); (refine gen_s ?_); intro tk1))
  (k_with "exec If" => (k_here; (with_reducible show wpAny _ _ (exec (Stmt.If (PySem.Expr.Compare (PySem.Expr.Name _ _) _ _ _) [Stmt.Assign [PySem.Expr.Name _ _] (PySem.Expr.Constant _ _ _) _] [] _) _) _ _ _); (k_dflt (refine' join_if ?zzk1 ?zzk2 ?zzk3 ?_ (fun h' tk' F' N' => ?_) (fun h' tk' t' F' N' => ?_))); (case zzk1 => k_asm); (case zzk2 => k_asm); (case zzk3 => with_unfolding_all rfl)))
  (k_with "JTest" => exact ⟨rfl, ⟨_, _, rfl, by k_asm, by k_asm⟩⟩)
  (k_with "JSet" => exact ⟨rfl, _, ⟨_, _, rfl, by k_asm, by k_asm⟩⟩)
  refine wpAny_call ?_
  k_dflt cell_enter
  k_steps
  all_goals (first | exact hret _ _ _ _ _ _ (by assumption) (by assumption) (by assumption))
end
end Mine
end
section
open PySem PySem.W PyProof.Rows PySem.Calls PySem.Flt
namespace Mine

def modF (x : UInt64) : UInt64 := (Float64.divmod x 0x3ff0000000000000).2
def vF (m1 m2 hue : UInt64) : UInt64 :=
  if (Float64.cmp (modF hue) 4595172819793696085 == some .lt) = true then Float64.add m1 (Float64.mul (Float64.mul (Float64.sub m2 m1) (modF hue)) 4618441417868443648)
  else if (Float64.cmp (modF hue) 4602678819172646912 == some .lt) = true then m2
  else if (Float64.cmp (modF hue) 4604180019048437077 == some .lt) = true then Float64.add m1 (Float64.mul (Float64.mul (Float64.sub m2 m1) (Float64.sub 4604180019048437077 (modF hue))) 4618441417868443648)
  else m1
section
variable {w : World} {mean : ExcName → Option Value} {mg mb : Str → Option Value} {dp un : Nat} {gd : Option (List Code)} {cn : Str} {cs : Scope} {a : Addr} {ccd : Value} {cl : List (Str × Addr)} {outer : List Env} {A₀ : Around} {base h₀ : Heap} {L : Addr} {m : Str → Option Value} {news : List (Addr × Obj)} {s : Shared} {Q E : Value → Shared → Prop}

set_option maxRecDepth 100000 in
set_option maxHeartbeats 8000000 in
theorem c_v {r g b : UInt64} {t1 t2 t3 : Tok}
   (B : Below A₀ base outer h₀) (F : Fr h₀ L s.heap m) (X : (hd.heap_39 w.params).In h₀) (N : News h₀ L s.heap news) (T : Top hd.view_39 lo mean mg mb h₀) (hk : cs.kind = .function) (hdp : dp + 1 < recursionLimit) (hu : un + 8 < cLine)
   (hret : ∀ (x : UInt64) (t : Tok) (h' : Heap) (tk' : Nat), x = vF r g b → Fr h₀ L h' m → News h₀ L h' news → Q (.float x t) { s with heap := h', toks := tk' }) :
   wpAny (model pw w) (ktrTop dp un gd cn cs L a ccd cl outer) (call (.ref 49) [.float r t1, .float g t2, .float b t3]) Q E s := by
  k_with_none
  refine wpAny_call ?_
  k_dflt cell_enter
  k_steps
  all_goals (refine hret _ _ _ _ ?_ (by assumption) (by assumption); f_lean; simp [vF, modF, *])
end
end Mine
end
section
open PySem PySem.W PyProof.Rows PySem.Calls PySem.Flt
namespace Mine

def rangeF (r g b : UInt64) : UInt64 := Float64.sub (fmax3 r g b) (fmin3 r g b)
def wayF (r g b c : UInt64) : UInt64 := Float64.div (Float64.sub (fmax3 r g b) c) (rangeF r g b)
def hF (r g b : UInt64) : UInt64 :=
  if (Float64.cmp r (fmax3 r g b) == some .eq) = true then Float64.sub (wayF r g b b) (wayF r g b g)
  else if (Float64.cmp g (fmax3 r g b) == some .eq) = true then Float64.sub (Float64.add 0x4000000000000000 (wayF r g b r)) (wayF r g b b)
  else Float64.sub (Float64.add 0x4010000000000000 (wayF r g b g)) (wayF r g b r)
def hueF (r g b : UInt64) : UInt64 := modF (Float64.div (hF r g b) 0x4018000000000000)
section
variable {w : World} {mean : ExcName → Option Value} {mg mb : Str → Option Value} {dp un : Nat} {gd : Option (List Code)} {cn : Str} {cs : Scope} {a : Addr} {ccd : Value} {cl : List (Str × Addr)} {outer : List Env} {A₀ : Around} {base h₀ : Heap} {L : Addr} {m : Str → Option Value} {news : List (Addr × Obj)} {s : Shared} {Q E : Value → Shared → Prop}

set_option maxRecDepth 100000 in
set_option maxHeartbeats 8000000 in
theorem c_hsv {r g b : UInt64} {t1 t2 t3 : Tok}
   (B : Below A₀ base outer h₀) (F : Fr h₀ L s.heap m) (X : (hd.heap_39 w.params).In h₀) (N : News h₀ L s.heap news) (T : Top hd.view_39 lo mean mg mb h₀) (hk : cs.kind = .function) (hdp : dp + 1 < recursionLimit) (hu : un + 8 < cLine)
   (hne : (Float64.cmp (fmin3 r g b) (fmax3 r g b) == some .eq) = false) (hz : Float64.isZero (fmax3 r g b) = false) (hz2 : Float64.isZero (Float64.sub (fmax3 r g b) (fmin3 r g b)) = false)
   (hret : ∀ (x y z : UInt64) (D : Addr) (t u v : Tok) (h' : Heap) (tk' : Nat), x = hueF r g b → y = Float64.div (rangeF r g b) (fmax3 r g b) → z = fmax3 r g b → Fr h₀ L h' m → News h₀ L h' ((D, tupF x y z t u v) :: news) → (∀ p ∈ news, p.1 < D) → Q (.ref D) { s with heap := h', toks := tk' }) :
   wpAny (model pw w) (ktrTop dp un gd cn cs L a ccd cl outer) (call (.ref 56) [.float r t1, .float g t2, .float b t3]) Q E s := by
  k_with_none
  (k_with "storeName" => (k_here; (with_reducible show wpAny _ _ (storeName _ _ (Value.float _ _)) _ _ (Shared.mk _ _ _ (_ + _) _)); (refine gen_f ?_); intro t1 tk1))
  (k_with "storeName" => (k_here; (with_reducible show wpAny _ _ (storeName _ _ (Value.int _ _)) _ _ (Shared.mk _ _ _ (_ + _) _)); (refine gen_i ?_); intro t1 tk1))
  (k_with "execs cons" => (k_here; (with_reducible show wpAny _ _ (execs _ _) _ _ (Shared.mk _ _ _ (_ + _) _)); (refine gen_s ?_); intro tk1))
  (k_with "call builtin:max" => (k_here; (with_reducible show wpAny _ _ (call (Value.builtin _) [Value.float _ _, Value.float _ _, Value.float _ _]) _ _ _); (k_dflt (refine' max3_f ?zzk0 ?zzk1 ?zzk2 (fun h' tk' v' F' N' => ?_))); (case zzk0 => exact rfl); (case zzk1 => k_asm); (case zzk2 => k_asm)))
  (k_with "call builtin:min" => (k_here; (with_reducible show wpAny _ _ (call (Value.builtin _) [Value.float _ _, Value.float _ _, Value.float _ _]) _ _ _); (k_dflt (refine' min3_f ?zzk0 ?zzk1 ?zzk2 (fun h' tk' v' F' N' => ?_))); (case zzk0 => exact rfl); (case zzk1 => k_asm); (case zzk2 => k_asm)))
  (k_with "call builtin:max" => (k_here; (with_reducible show wpAny _ _ (call (Value.builtin _) [Value.int _ _, Value.int _ _, Value.int _ _]) _ _ _); (k_dflt (refine' max3_i ?zzk0 ?zzk1 ?zzk2 (fun h' tk' v' F' N' => ?_))); (case zzk0 => exact rfl); (case zzk1 => k_asm); (case zzk2 => k_asm)))
  (k_with "call builtin:min" => (k_here; (with_reducible show wpAny _ _ (call (Value.builtin _) [Value.int _ _, Value.int _ _, Value.int _ _]) _ _ _); (k_dflt (refine' min3_i ?zzk0 ?zzk1 ?zzk2 (fun h' tk' v' F' N' => ?_))); (case zzk0 => exact rfl); (case zzk1 => k_asm); (case zzk2 => k_asm)))
  refine wpAny_call ?_
  k_dflt cell_enter
  k_steps
  all_goals (refine hret _ _ _ _ _ _ _ _ _ ?_ ?_ ?_ (by assumption) (by assumption) (by assumption) <;> (f_lean; simp [hueF, hF, wayF, rangeF, modF, *]))

end
end Mine
end
section
open PySem PySem.W PyProof.Rows PySem.Calls PySem.Flt
namespace Mine

def lightF (r g b : UInt64) : UInt64 := Float64.div (Float64.add (fmax3 r g b) (fmin3 r g b)) 0x4000000000000000
section
variable {w : World} {mean : ExcName → Option Value} {mg mb : Str → Option Value} {dp un : Nat} {gd : Option (List Code)} {cn : Str} {cs : Scope} {a : Addr} {ccd : Value} {cl : List (Str × Addr)} {outer : List Env} {A₀ : Around} {base h₀ : Heap} {L : Addr} {m : Str → Option Value} {news : List (Addr × Obj)} {s : Shared} {Q E : Value → Shared → Prop}

set_option maxRecDepth 100000 in
set_option maxHeartbeats 8000000 in
theorem c_hlsA {r g b : UInt64} {t1 t2 t3 : Tok}
   (B : Below A₀ base outer h₀) (F : Fr h₀ L s.heap m) (X : (hd.heap_39 w.params).In h₀) (N : News h₀ L s.heap news) (T : Top hd.view_39 lo mean mg mb h₀) (hk : cs.kind = .function) (hdp : dp + 1 < recursionLimit) (hu : un + 8 < cLine)
   (hne : (Float64.cmp (fmin3 r g b) (fmax3 r g b) == some .eq) = false) (hz2 : Float64.isZero (Float64.sub (fmax3 r g b) (fmin3 r g b)) = false) (hz : Float64.isZero (Float64.add (fmax3 r g b) (fmin3 r g b)) = false)
   (hl : (Float64.cmp (Float64.div (Float64.add (fmax3 r g b) (fmin3 r g b)) 4611686018427387904) 4602678819172646912 == some Ordering.lt || Float64.cmp (Float64.div (Float64.add (fmax3 r g b) (fmin3 r g b)) 4611686018427387904) 4602678819172646912 == some Ordering.eq) = true)
   (hret : ∀ (x y z : UInt64) (D : Addr) (t u v : Tok) (h' : Heap) (tk' : Nat), x = hueF r g b → y = lightF r g b → z = Float64.div (rangeF r g b) (Float64.add (fmax3 r g b) (fmin3 r g b)) → Fr h₀ L h' m → News h₀ L h' ((D, tupF x y z t u v) :: news) → (∀ p ∈ news, p.1 < D) → Q (.ref D) { s with heap := h', toks := tk' }) :
   wpAny (model pw w) (ktrTop dp un gd cn cs L a ccd cl outer) (call (.ref 35) [.float r t1, .float g t2, .float b t3]) Q E s := by
  k_with_none
  (k_with "storeName" => (k_here; (with_reducible show wpAny _ _ (storeName _ _ (Value.float _ _)) _ _ (Shared.mk _ _ _ (_ + _) _)); (refine gen_f ?_); intro t1 tk1))
  (k_with "storeName" => (k_here; (with_reducible show wpAny _ _ (storeName _ _ (Value.int _ _)) _ _ (Shared.mk _ _ _ (_ + _) _)); (refine gen_i ?_); intro t1 tk1))
  (k_with "execs cons" => (k_here; (with_reducible show wpAny _ _ (execs _ _) _ _ (Shared.mk _ _ _ (_ + _) _)); (refine gen_s ?_); intro tk1))
  (k_with "call builtin:max" => (k_here; (with_reducible show wpAny _ _ (call (Value.builtin _) [Value.float _ _, Value.float _ _, Value.float _ _]) _ _ _); (k_dflt (refine' max3_f ?zzk0 ?zzk1 ?zzk2 (fun h' tk' v' F' N' => ?_))); (case zzk0 => k_dflt (exact rfl)); (case zzk1 => k_asm); (case zzk2 => k_asm)))
  (k_with "call builtin:min" => (k_here; (with_reducible show wpAny _ _ (call (Value.builtin _) [Value.float _ _, Value.float _ _, Value.float _ _]) _ _ _); (k_dflt (refine' min3_f ?zzk0 ?zzk1 ?zzk2 (fun h' tk' v' F' N' => ?_))); (case zzk0 => k_dflt (exact rfl)); (case zzk1 => k_asm); (case zzk2 => k_asm)))
  (k_with "call builtin:max" => (k_here; (with_reducible show wpAny _ _ (call (Value.builtin _) [Value.int _ _, Value.int _ _, Value.int _ _]) _ _ _); (k_dflt (refine' max3_i ?zzk0 ?zzk1 ?zzk2 (fun h' tk' v' F' N' => ?_))); (case zzk0 => k_dflt (exact rfl)); (case zzk1 => k_asm); (case zzk2 => k_asm)))
  (k_with "call builtin:min" => (k_here; (with_reducible show wpAny _ _ (call (Value.builtin _) [Value.int _ _, Value.int _ _, Value.int _ _]) _ _ _); (k_dflt (refine' min3_i ?zzk0 ?zzk1 ?zzk2 (fun h' tk' v' F' N' => ?_))); (case zzk0 => k_dflt (exact rfl)); (case zzk1 => k_asm); (case zzk2 => k_asm)))
  refine wpAny_call ?_
  k_dflt cell_enter
  k_steps
  all_goals (refine hret _ _ _ _ _ _ _ _ _ ?_ ?_ ?_ (by assumption) (by assumption) (by assumption) <;> (f_lean; simp [hueF, hF, wayF, rangeF, modF, lightF, *]))

set_option maxRecDepth 100000 in
set_option maxHeartbeats 8000000 in
theorem c_hlsB {r g b : UInt64} {t1 t2 t3 : Tok}
   (B : Below A₀ base outer h₀) (F : Fr h₀ L s.heap m) (X : (hd.heap_39 w.params).In h₀) (N : News h₀ L s.heap news) (T : Top hd.view_39 lo mean mg mb h₀) (hk : cs.kind = .function) (hdp : dp + 1 < recursionLimit) (hu : un + 8 < cLine)
   (hne : (Float64.cmp (fmin3 r g b) (fmax3 r g b) == some .eq) = false) (hz2 : Float64.isZero (Float64.sub (fmax3 r g b) (fmin3 r g b)) = false) (hz : Float64.isZero (Float64.sub (Float64.sub 4611686018427387904 (fmax3 r g b)) (fmin3 r g b)) = false)
   (hl : (Float64.cmp (Float64.div (Float64.add (fmax3 r g b) (fmin3 r g b)) 4611686018427387904) 4602678819172646912 == some Ordering.lt || Float64.cmp (Float64.div (Float64.add (fmax3 r g b) (fmin3 r g b)) 4611686018427387904) 4602678819172646912 == some Ordering.eq) = false)
   (hret : ∀ (x y z : UInt64) (D : Addr) (t u v : Tok) (h' : Heap) (tk' : Nat), x = hueF r g b → y = lightF r g b → z = Float64.div (rangeF r g b) (Float64.sub (Float64.sub 4611686018427387904 (fmax3 r g b)) (fmin3 r g b)) → Fr h₀ L h' m → News h₀ L h' ((D, tupF x y z t u v) :: news) → (∀ p ∈ news, p.1 < D) → Q (.ref D) { s with heap := h', toks := tk' }) :
   wpAny (model pw w) (ktrTop dp un gd cn cs L a ccd cl outer) (call (.ref 35) [.float r t1, .float g t2, .float b t3]) Q E s := by
  refine wpAny_call ?_
  k_dflt cell_enter
  k_steps
  all_goals (refine hret _ _ _ _ _ _ _ _ _ ?_ ?_ ?_ (by assumption) (by assumption) (by assumption) <;> (f_lean; simp [hueF, hF, wayF, rangeF, modF, lightF, *]))
end
end Mine
end
section
open PySem PySem.W PyProof.Rows PySem.Calls PySem.Flt
namespace Mine
section
variable {w : World} {mean : ExcName → Option Value} {mg mb : Str → Option Value} {dp un : Nat} {gd : Option (List Code)} {cn : Str} {cs : Scope} {a : Addr} {ccd : Value} {cl : List (Str × Addr)} {outer : List Env} {A₀ : Around} {base h₀ : Heap} {L : Addr} {m : Str → Option Value} {news : List (Addr × Obj)} {s : Shared} {Q E : Value → Shared → Prop}

set_option maxRecDepth 100000 in
set_option maxHeartbeats 8000000 in
theorem c_hsvZ {fs : List Addr} {gg : Heap} {r g b : UInt64} {t1 t2 t3 : Tok}
   (B : Below A₀ base outer h₀) (F : Fr h₀ L s.heap m) (X : (hd.heap_39 w.params).In h₀) (N : News h₀ L s.heap news) (T : Top hd.view_39 lo mean mg mb h₀) (hk : cs.kind = .function) (hdp : dp + 1 < recursionLimit) (hu : un + 8 < cLine)
   (D : KtsDicts fs gg)
   (hne : (Float64.cmp (fmin3 r g b) (fmax3 r g b) == some .eq) = false) (hz2 : Float64.isZero (Float64.sub (fmax3 r g b) (fmin3 r g b)) = false) (hz : Float64.isZero (fmax3 r g b) = true)
   (hret : ∀ (e : Addr) (g' h' : Heap) (tk' : Nat), Fr h₀ L g' m → RaisedSN base g' (envX cn cs L a ccd cl :: outer) e (Value.type "ZeroDivisionError") news h' → g'.UpToSlots h' → E (.ref e) { s with heap := h', toks := tk' }) :
   wpAny (model pw w) (ktrTop dp un gd cn cs L a ccd cl outer) (call (.ref 56) [.float r t1, .float g t2, .float b t3]) Q E s := by
  k_with_none
  (k_with "storeName" => (k_here; (with_reducible show wpAny _ _ (storeName _ _ (Value.float _ _)) _ _ (Shared.mk _ _ _ (_ + _) _)); (refine gen_f ?_); intro t1 tk1))
  (k_with "storeName" => (k_here; (with_reducible show wpAny _ _ (storeName _ _ (Value.int _ _)) _ _ (Shared.mk _ _ _ (_ + _) _)); (refine gen_i ?_); intro t1 tk1))
  (k_with "execs cons" => (k_here; (with_reducible show wpAny _ _ (execs _ _) _ _ (Shared.mk _ _ _ (_ + _) _)); (refine gen_s ?_); intro tk1))
  (k_with "ite" => (k_here; k_dflt (first | refine ite_neg (ne_true_of_eq_false (by with_reducible assumption)) ?_ | refine ite_pos (by with_reducible assumption) ?_)))
  (k_with "exec If" => (k_here; refine wpAny_If ?_))
  (k_with "binaryOp Div float float" => (k_here; k_dflt (refine truediv_float_or rfl (fun _ _ _ _ _ => ?_) (fun q => absurd (by with_reducible assumption) q)); try dsimp only))
  (k_with "call builtin:max" => (k_here; (with_reducible show wpAny _ _ (call (Value.builtin _) [Value.float _ _, Value.float _ _, Value.float _ _]) _ _ _); (k_dflt (refine' max3_f ?zzk0 ?zzk1 ?zzk2 (fun h' tk' v' F' N' => ?_))); (case zzk0 => k_dflt (exact rfl)); (case zzk1 => k_asm); (case zzk2 => k_asm)))
  (k_with "call builtin:min" => (k_here; (with_reducible show wpAny _ _ (call (Value.builtin _) [Value.float _ _, Value.float _ _, Value.float _ _]) _ _ _); (k_dflt (refine' min3_f ?zzk0 ?zzk1 ?zzk2 (fun h' tk' v' F' N' => ?_))); (case zzk0 => k_dflt (exact rfl)); (case zzk1 => k_asm); (case zzk2 => k_asm)))
  refine wpAny_call ?_
  k_dflt cell_enter
  k_steps
  all_goals (first | exact hret _ _ _ _ (by assumption) (by assumption) (by assumption) | (exfalso; f_lean; simp_all; done))

set_option maxRecDepth 100000 in
set_option maxHeartbeats 8000000 in
theorem c_hlsAZ {fs : List Addr} {gg : Heap} {r g b : UInt64} {t1 t2 t3 : Tok}
   (B : Below A₀ base outer h₀) (F : Fr h₀ L s.heap m) (X : (hd.heap_39 w.params).In h₀) (N : News h₀ L s.heap news) (T : Top hd.view_39 lo mean mg mb h₀) (hk : cs.kind = .function) (hdp : dp + 1 < recursionLimit) (hu : un + 8 < cLine)
   (D : KtsDicts fs gg)
   (hne : (Float64.cmp (fmin3 r g b) (fmax3 r g b) == some .eq) = false) (hz2 : Float64.isZero (Float64.sub (fmax3 r g b) (fmin3 r g b)) = false) (hz : Float64.isZero (Float64.add (fmax3 r g b) (fmin3 r g b)) = true)
   (hl : (Float64.cmp (Float64.div (Float64.add (fmax3 r g b) (fmin3 r g b)) 4611686018427387904) 4602678819172646912 == some Ordering.lt || Float64.cmp (Float64.div (Float64.add (fmax3 r g b) (fmin3 r g b)) 4611686018427387904) 4602678819172646912 == some Ordering.eq) = true)
   (hret : ∀ (e : Addr) (g' h' : Heap) (tk' : Nat), Fr h₀ L g' m → RaisedSN base g' (envX cn cs L a ccd cl :: outer) e (Value.type "ZeroDivisionError") news h' → g'.UpToSlots h' → E (.ref e) { s with heap := h', toks := tk' }) :
   wpAny (model pw w) (ktrTop dp un gd cn cs L a ccd cl outer) (call (.ref 35) [.float r t1, .float g t2, .float b t3]) Q E s := by
  refine wpAny_call ?_
  k_dflt cell_enter
  k_steps
  all_goals (first | exact hret _ _ _ _ (by assumption) (by assumption) (by assumption) | (exfalso; f_lean; simp_all; done))

set_option maxRecDepth 100000 in
set_option maxHeartbeats 8000000 in
theorem c_hlsBZ {fs : List Addr} {gg : Heap} {r g b : UInt64} {t1 t2 t3 : Tok}
   (B : Below A₀ base outer h₀) (F : Fr h₀ L s.heap m) (X : (hd.heap_39 w.params).In h₀) (N : News h₀ L s.heap news) (T : Top hd.view_39 lo mean mg mb h₀) (hk : cs.kind = .function) (hdp : dp + 1 < recursionLimit) (hu : un + 8 < cLine)
   (D : KtsDicts fs gg)
   (hne : (Float64.cmp (fmin3 r g b) (fmax3 r g b) == some .eq) = false) (hz2 : Float64.isZero (Float64.sub (fmax3 r g b) (fmin3 r g b)) = false) (hz : Float64.isZero (Float64.sub (Float64.sub 4611686018427387904 (fmax3 r g b)) (fmin3 r g b)) = true)
   (hl : (Float64.cmp (Float64.div (Float64.add (fmax3 r g b) (fmin3 r g b)) 4611686018427387904) 4602678819172646912 == some Ordering.lt || Float64.cmp (Float64.div (Float64.add (fmax3 r g b) (fmin3 r g b)) 4611686018427387904) 4602678819172646912 == some Ordering.eq) = false)
   (hret : ∀ (e : Addr) (g' h' : Heap) (tk' : Nat), Fr h₀ L g' m → RaisedSN base g' (envX cn cs L a ccd cl :: outer) e (Value.type "ZeroDivisionError") news h' → g'.UpToSlots h' → E (.ref e) { s with heap := h', toks := tk' }) :
   wpAny (model pw w) (ktrTop dp un gd cn cs L a ccd cl outer) (call (.ref 35) [.float r t1, .float g t2, .float b t3]) Q E s := by
  refine wpAny_call ?_
  k_dflt cell_enter
  k_steps
  all_goals (first | exact hret _ _ _ _ (by assumption) (by assumption) (by assumption) | (exfalso; f_lean; simp_all; done))
end
end Mine
end
section
open PySem PySem.W PyProof.Rows PySem.Calls PySem.Flt
namespace Mine

def m2F (l s : UInt64) : UInt64 := if (Float64.cmp l 4602678819172646912 == some Ordering.lt || Float64.cmp l 4602678819172646912 == some Ordering.eq) = true then Float64.mul l (Float64.add 0x3ff0000000000000 s) else Float64.sub (Float64.add l s) (Float64.mul l s)
def m1F (l s : UInt64) : UInt64 := Float64.sub (Float64.mul 0x4000000000000000 l) (m2F l s)
section
variable {w : World} {mean : ExcName → Option Value} {mg mb : Str → Option Value} {dp un : Nat} {gd : Option (List Code)} {cn : Str} {cs : Scope} {a : Addr} {ccd : Value} {cl : List (Str × Addr)} {outer : List Env} {A₀ : Around} {base h₀ : Heap} {L : Addr} {m : Str → Option Value} {news : List (Addr × Obj)} {s : Shared} {Q E : Value → Shared → Prop}

set_option maxRecDepth 100000 in
set_option maxHeartbeats 8000000 in
theorem c_hlsR {r g b : UInt64} {t1 t2 t3 : Tok}
   (B : Below A₀ base outer h₀) (F : Fr h₀ L s.heap m) (X : (hd.heap_39 w.params).In h₀) (N : News h₀ L s.heap news) (T : Top hd.view_39 lo mean mg mb h₀) (hk : cs.kind = .function) (hdp : dp + 2 < recursionLimit) (hu : un + 16 < cLine)
 (hs : (Float64.cmp b 0 == some .eq) = false)
   (hret : ∀ (x y z : UInt64) (D : Addr) (t u v : Tok) (h' : Heap) (tk' : Nat), x = vF (m1F g b) (m2F g b) (Float64.add r 4599676419421066581) → y = vF (m1F g b) (m2F g b) r → z = vF (m1F g b) (m2F g b) (Float64.sub r 4599676419421066581) → Fr h₀ L h' m → News h₀ L h' ((D, tupF x y z t u v) :: news) → (∀ p ∈ news, p.1 < D) → Q (.ref D) { s with heap := h', toks := tk' }) :
   wpAny (model pw w) (ktrTop dp un gd cn cs L a ccd cl outer) (call (.ref 42) [.float r t1, .float g t2, .float b t3]) Q E s := by
  k_with_none
  (k_with "storeName" => (k_here; (with_reducible show wpAny _ _ (storeName _ _ (Value.float _ _)) _ _ (Shared.mk _ _ _ (_ + _) _)); (refine gen_f ?_); intro t1 tk1))
  (k_with "storeName" => (k_here; (with_reducible show wpAny _ _ (storeName _ _ (Value.int _ _)) _ _ (Shared.mk _ _ _ (_ + _) _)); (refine gen_i ?_); intro t1 tk1))
  (k_with "execs cons" => (k_here; (with_reducible show wpAny _ _ (execs _ _) _ _ (Shared.mk _ _ _ (_ + _) _)); (refine gen_s ?_); intro tk1))
  (k_with "call ref" => (k_here; (with_reducible show wpAny _ _ (call (Value.ref 49) [Value.float _ _, Value.float _ _, Value.float _ _]) _ _ _); (k_dflt (refine' c_v ?zzk1 ?zzk2 ?zzk3 ?zzk4 ?zzk5 ?zzk6 ?zzk7 ?zzk8 (fun x' t' h' tk' e' F' N' => ?_))); (case zzk1 => k_asm); (case zzk2 => k_asm); (case zzk3 => k_asm); (case zzk4 => k_asm); (case zzk5 => k_asm); (case zzk6 => first | exact rfl | assumption); (case zzk7 => ktr_room); (case zzk8 => ktr_units); subst e'))
  refine wpAny_call ?_
  k_dflt cell_enter
  k_steps
  all_goals (refine hret _ _ _ _ _ _ _ _ _ ?_ ?_ ?_ (by assumption) (by assumption) (by assumption) <;> (f_lean; simp [m1F, m2F, *]))
end
end Mine
end
section
open PySem PySem.W PyProof.Rows PySem.Calls PySem.Flt
namespace Mine

def h6F (h : UInt64) : UInt64 := Float64.mul h 4618441417868443648
def iH (h : UInt64) : Int := Flt.toInt Float64.truncOf (h6F h)
def fH (h : UInt64) : UInt64 := Float64.sub (h6F h) (Float64.ofInt (iH h))
def pH (s v : UInt64) : UInt64 := Float64.mul v (Float64.sub 0x3ff0000000000000 s)
def qH (h s v : UInt64) : UInt64 := Float64.mul v (Float64.sub 0x3ff0000000000000 (Float64.mul s (fH h)))
def tH (h s v : UInt64) : UInt64 := Float64.mul v (Float64.sub 0x3ff0000000000000 (Float64.mul s (Float64.sub 0x3ff0000000000000 (fH h))))
def HsvBack (h s v x y z : UInt64) : Prop :=
  ((iH h).fmod 6 = 0 ∧ x = v ∧ y = tH h s v ∧ z = pH s v) ∨ ((iH h).fmod 6 = 1 ∧ x = qH h s v ∧ y = v ∧ z = pH s v) ∨ ((iH h).fmod 6 = 2 ∧ x = pH s v ∧ y = v ∧ z = tH h s v) ∨
  ((iH h).fmod 6 = 3 ∧ x = pH s v ∧ y = qH h s v ∧ z = v) ∨ ((iH h).fmod 6 = 4 ∧ x = tH h s v ∧ y = pH s v ∧ z = v) ∨ ((iH h).fmod 6 = 5 ∧ x = v ∧ y = pH s v ∧ z = qH h s v)
theorem fmod6 {i : Int} (h0 : i.fmod 6 ≠ 0) (h1 : i.fmod 6 ≠ 1) (h2 : i.fmod 6 ≠ 2) (h3 : i.fmod 6 ≠ 3) (h4 : i.fmod 6 ≠ 4) (h5 : i.fmod 6 ≠ 5) : False := by
  have e : i.fmod 6 = i % 6 := Int.fmod_eq_emod_of_nonneg i (by decide)
  rw [e] at h0 h1 h2 h3 h4 h5
  omega
section
variable {w : World} {mean : ExcName → Option Value} {mg mb : Str → Option Value} {dp un : Nat} {gd : Option (List Code)} {cn : Str} {cs : Scope} {a : Addr} {ccd : Value} {cl : List (Str × Addr)} {outer : List Env} {A₀ : Around} {base h₀ : Heap} {L : Addr} {m : Str → Option Value} {news : List (Addr × Obj)} {s : Shared} {Q E : Value → Shared → Prop}

set_option maxRecDepth 100000 in
set_option maxHeartbeats 8000000 in
theorem c_hsvR {r g b : UInt64} {t1 t2 t3 : Tok}
   (B : Below A₀ base outer h₀) (F : Fr h₀ L s.heap m) (X : (hd.heap_39 w.params).In h₀) (N : News h₀ L s.heap news) (T : Top hd.view_39 lo mean mg mb h₀) (hk : cs.kind = .function) (hdp : dp + 1 < recursionLimit) (hu : un + 8 < cLine)
 (hs : (Float64.cmp g 0 == some .eq) = false) (hf : Float64.isFinite (Float64.mul r 4618441417868443648) = true) (hb : (Flt.toInt Float64.truncOf (Float64.mul r 4618441417868443648)).natAbs < 2 ^ 64)
   (hret : ∀ (x y z : UInt64) (D : Addr) (t u v : Tok) (h' : Heap) (tk' : Nat), HsvBack r g b x y z → Fr h₀ L h' m → News h₀ L h' ((D, tupF x y z t u v) :: news) → (∀ p ∈ news, p.1 < D) → Q (.ref D) { s with heap := h', toks := tk' }) :
   wpAny (model pw w) (ktrTop dp un gd cn cs L a ccd cl outer) (call (.ref 63) [.float r t1, .float g t2, .float b t3]) Q E s := by
  k_with_none
  (k_with "storeName" => (k_here; (with_reducible show wpAny _ _ (storeName _ _ (Value.float _ _)) _ _ (Shared.mk _ _ _ (_ + _) _)); (refine gen_f ?_); intro t1 tk1))
  (k_with "storeName" => (k_here; (with_reducible show wpAny _ _ (storeName _ _ (Value.int _ _)) _ _ (Shared.mk _ _ _ (_ + _) _)); (refine gen_i ?_); intro t1 tk1))
  (k_with "execs cons" => (k_here; (with_reducible show wpAny _ _ (execs _ _) _ _ (Shared.mk _ _ _ (_ + _) _)); (refine gen_s ?_); intro tk1))
  refine wpAny_call ?_
  k_dflt cell_enter
  k_steps
  all_goals (first | (refine hret _ _ _ _ _ _ _ _ _ ?_ (by assumption) (by assumption) (by assumption); f_lean; simp [HsvBack, iH, h6F, fH, pH, qH, tH, *]; done) | (exfalso; refine fmod6 (i := iH r) ?_ ?_ ?_ ?_ ?_ ?_ <;> (unfold iH h6F; assumption)) | skip)
end
end Mine
end
section
open PySem PySem.W PyProof.Rows PySem.Calls PySem.Flt
namespace Mine

def placeI (r g b : Int) : Int :=
  let low := min (min r g) b
  let high := max (max r g) b
  let spread := high - low
  if r = high ∧ b = low then g - low
  else if g = high ∧ b = low then spread + high - r
  else if g = high ∧ r = low then 2 * spread + b - low
  else if b = high ∧ r = low then 3 * spread + high - g
  else if b = high ∧ g = low then 4 * spread + r - low
  else 5 * spread + high - b
theorem pl1 {r g b : Int} (h1 : r = max (max r g) b) (h2 : b ≠ min (min r g) b) (h3 : g = max (max r g) b) : False := by
  have hb : b ≤ max (max r g) b := Int.le_max_right _ _
  have e : r = g := h1.trans h3.symm
  rw [← h3] at hb
  rw [e, Int.min_self, Int.min_eq_right hb] at h2
  exact h2 rfl
theorem pl2 {r g b : Int} (h1 : g = max (max r g) b) (h2 : b ≠ min (min r g) b) (h3 : r ≠ min (min r g) b) : False := by
  have hr : r ≤ g := by
    have : r ≤ max (max r g) b := Int.le_trans (Int.le_max_left _ _) (Int.le_max_left _ _)
    rwa [← h1] at this
  rw [Int.min_eq_left hr] at h2 h3
  rcases Int.le_total r b with q | q
  · rw [Int.min_eq_left q] at h3
    exact h3 rfl
  · rw [Int.min_eq_right q] at h2
    exact h2 rfl
section
variable {w : World} {mean : ExcName → Option Value} {mg mb : Str → Option Value} {dp un : Nat} {gd : Option (List Code)} {cn : Str} {cs : Scope} {a : Addr} {ccd : Value} {cl : List (Str × Addr)} {outer : List Env} {A₀ : Around} {base h₀ : Heap} {L : Addr} {m : Str → Option Value} {news : List (Addr × Obj)} {s : Shared} {Q E : Value → Shared → Prop}

set_option maxRecDepth 100000 in
set_option maxHeartbeats 8000000 in
theorem c_place {r g b : Int} {t1 t2 t3 : Tok}
   (B : Below A₀ base outer h₀) (F : Fr h₀ L s.heap m) (X : (hd.heap_39 w.params).In h₀) (N : News h₀ L s.heap news) (T : Top hd.view_39 lo mean mg mb h₀) (hk : cs.kind = .function) (hdp : dp + 1 < recursionLimit) (hu : un + 8 < cLine)
 (hr : -2097152 ≤ r ∧ r ≤ 2097152) (hg : -2097152 ≤ g ∧ g ≤ 2097152) (hb : -2097152 ≤ b ∧ b ≤ 2097152)
   (hret : ∀ (x : Int) (t : Tok) (h' : Heap) (tk' : Nat), x = placeI r g b → Fr h₀ L h' m → News h₀ L h' news → Q (.int x t) { s with heap := h', toks := tk' }) :
   wpAny (model pw w) (ktrTop dp un gd cn cs L a ccd cl outer) (call (.ref 70) [.int r t1, .int g t2, .int b t3]) Q E s := by
  k_with_none
  (k_with "storeName" => (k_here; (with_reducible show wpAny _ _ (storeName _ _ (Value.float _ _)) _ _ (Shared.mk _ _ _ (_ + _) _)); (refine gen_f ?_); intro t1 tk1))
  (k_with "storeName" => (k_here; (with_reducible show wpAny _ _ (storeName _ _ (Value.int _ _)) _ _ (Shared.mk _ _ _ (_ + _) _)); (refine gen_i ?_); intro t1 tk1))
  (k_with "execs cons" => (k_here; (with_reducible show wpAny _ _ (execs _ _) _ _ (Shared.mk _ _ _ (_ + _) _)); (refine gen_s ?_); intro tk1))
  (k_with "ite" => (k_here; k_dflt (first | refine ite_pos (decide_eq_true (by assumption)) ?_ | refine ite_neg (fun q => absurd (of_decide_eq_true q) (by assumption)) ?_)))
  (k_with "exec If" => (k_here; refine wpAny_If ?_))
  (k_with "call builtin:max" => (k_here; (with_reducible show wpAny _ _ (call (Value.builtin _) [Value.float _ _, Value.float _ _, Value.float _ _]) _ _ _); (k_dflt (refine' max3_f ?zzk0 ?zzk1 ?zzk2 (fun h' tk' v' F' N' => ?_))); (case zzk0 => k_dflt (exact rfl)); (case zzk1 => k_asm); (case zzk2 => k_asm)))
  (k_with "call builtin:min" => (k_here; (with_reducible show wpAny _ _ (call (Value.builtin _) [Value.float _ _, Value.float _ _, Value.float _ _]) _ _ _); (k_dflt (refine' min3_f ?zzk0 ?zzk1 ?zzk2 (fun h' tk' v' F' N' => ?_))); (case zzk0 => k_dflt (exact rfl)); (case zzk1 => k_asm); (case zzk2 => k_asm)))
  (k_with "call builtin:max" => (k_here; (with_reducible show wpAny _ _ (call (Value.builtin _) [Value.int _ _, Value.int _ _, Value.int _ _]) _ _ _); (k_dflt (refine' max3_i ?zzk0 ?zzk1 ?zzk2 (fun h' tk' v' F' N' => ?_))); (case zzk0 => k_dflt (exact rfl)); (case zzk1 => k_asm); (case zzk2 => k_asm)))
  (k_with "call builtin:min" => (k_here; (with_reducible show wpAny _ _ (call (Value.builtin _) [Value.int _ _, Value.int _ _, Value.int _ _]) _ _ _); (k_dflt (refine' min3_i ?zzk0 ?zzk1 ?zzk2 (fun h' tk' v' F' N' => ?_))); (case zzk0 => k_dflt (exact rfl)); (case zzk1 => k_asm); (case zzk2 => k_asm)))
  refine wpAny_call ?_
  k_dflt cell_enter
  k_steps
  all_goals (refine hret _ _ _ _ ?_ (by assumption) (by assumption); first | contradiction | exact (pl1 (by assumption) (by assumption) (by assumption)).elim | exact (pl2 (by assumption) (by assumption) (by assumption)).elim | (f_lean; unfold placeI; dsimp only; repeat (first | rfl | exact (if_pos ⟨by assumption, by assumption⟩).symm | refine Eq.trans ?_ (if_neg (fun q => absurd q.1 (by assumption))).symm | refine Eq.trans ?_ (if_neg (fun q => absurd q.2 (by assumption))).symm | ((repeat' split) <;> omega))))

set_option maxRecDepth 100000 in
set_option maxHeartbeats 8000000 in
theorem c_hue {r g : UInt64} {t1 t2 : Tok}
   (B : Below A₀ base outer h₀) (F : Fr h₀ L s.heap m) (X : (hd.heap_39 w.params).In h₀) (N : News h₀ L s.heap news) (T : Top hd.view_39 lo mean mg mb h₀) (hk : cs.kind = .function) (hdp : dp + 1 < recursionLimit) (hu : un + 8 < cLine)
 (h1 : (Float64.cmp 0 r == some Ordering.lt || Float64.cmp 0 r == some Ordering.eq) = true) (h2 : (Float64.cmp r 0x3ff0000000000000 == some .lt) = true) (h3 : (Float64.cmpInt (Float64.mul (Float64.abs (Float64.sub r g)) (Float64.ofInt (2 ^ Int.toNat 50))) 1 == some .lt) = true)
   (hret : ∀ (h' : Heap) (tk' : Nat), Fr h₀ L h' m → News h₀ L h' news → Q (.bool true) { s with heap := h', toks := tk' }) :
   wpAny (model pw w) (ktrTop dp un gd cn cs L a ccd cl outer) (call (.ref 87) [.float r t1, .float g t2]) Q E s := by
  refine wpAny_call ?_
  k_dflt cell_enter
  k_steps
  rw [h3]; exact hret _ _ (by assumption) (by assumption)
end
end Mine
end
section
open PySem PySem.W PyProof.Rows PySem.Calls PySem.Flt
namespace Mine

def partF (x : UInt64) (sc : Int) : Int := Flt.toInt Float64.nearestOf (Float64.mul x (Float64.ofInt sc))
abbrev lstI (x y z : Int) (t u v : Tok) : Obj := { cls := .type "list", data := .seq #[.int x t, .int y u, .int z v] 3 }
section
variable {w : World} {mean : ExcName → Option Value} {mg mb : Str → Option Value} {dp un : Nat} {gd : Option (List Code)} {cn : Str} {cs : Scope} {a : Addr} {ccd : Value} {cl : List (Str × Addr)} {outer : List Env} {A₀ : Around} {base h₀ : Heap} {L : Addr} {m : Str → Option Value} {news : List (Addr × Obj)} {s : Shared} {Q E : Value → Shared → Prop}

set_option maxRecDepth 100000 in
set_option maxHeartbeats 8000000 in
theorem c_parts {x y z : UInt64} {t1 t2 t3 t4 : Tok} {sc : Int} {D : Addr}
   (B : Below A₀ base outer h₀) (F : Fr h₀ L s.heap m) (X : (hd.heap_39 w.params).In h₀) (N : News h₀ L s.heap news) (T : Top hd.view_39 lo mean mg mb h₀) (hk : cs.kind = .function) (hdp : dp + 1 < recursionLimit) (hu : un + 8 < cLine)
 (hm : (D, tupF x y z t1 t2 t3) ∈ news) (hsc : ¬ Flt.Over sc) (hx : Float64.isFinite (Float64.mul x (Float64.ofInt sc)) = true) (hy : Float64.isFinite (Float64.mul y (Float64.ofInt sc)) = true) (hz : Float64.isFinite (Float64.mul z (Float64.ofInt sc)) = true)
   (hret : ∀ (C : Addr) (t u v : Tok) (h' : Heap) (tk' : Nat), Fr h₀ L h' m → News h₀ L h' ((C, lstI (partF x sc) (partF y sc) (partF z sc) t u v) :: news) → (∀ p ∈ news, p.1 ≠ C) → Q (.ref C) { s with heap := h', toks := tk' }) :
   wpAny (model pw w) (ktrTop dp un gd cn cs L a ccd cl outer) (call (.ref 75) [.ref D, .int sc t4]) Q E s := by
  k_with_none
  (k_with "storeName" => (k_here; (with_reducible show wpAny _ _ (storeName _ _ (Value.float _ _)) _ _ (Shared.mk _ _ _ (_ + _) _)); (refine gen_f ?_); intro t1 tk1))
  (k_with "storeName" => (k_here; (with_reducible show wpAny _ _ (storeName _ _ (Value.int _ _)) _ _ (Shared.mk _ _ _ (_ + _) _)); (refine gen_i ?_); intro t1 tk1))
  (k_with "execs cons" => (k_here; (with_reducible show wpAny _ _ (execs _ _) _ _ (Shared.mk _ _ _ (_ + _) _)); (refine gen_s ?_); intro tk1))
  (k_with "eval ListComp" => (k_here; k_dflt (refine ListComp_T (by k_asm) (by rfl) (by decide) (by rfl) (by decide) (by rfl) ?_)))
  (k_with "exec Assign cons ListComp" => (k_here; k_dflt (refine Assign_ListComp_T (by k_asm) (by rfl) (by with_unfolding_all rfl) (by rfl) (by decide) (by rfl) (by decide) (by rfl) (by rfl) (by rfl) ?_)))
  (k_with "TupSrc" => (k_here; k_dflt (refine TupSrc.intro (by rfl) (by k_asm) (by k_asm) (by first | k_mem | (refine List.mem_cons_of_mem _ ?_; assumption) | assumption) ?_); intro g'))
  (k_with "CompRest" => (with_unfolding_all first | (refine LCg.CompRest.succ ?_; intro v' I' oI' C' oC' D' m' h' tk' E' hv' hC' hx' F' N' off' ne'; lcg_open hv') | refine LCg.CompRest.zero ?_))
  (k_with "CompEnd" => (k_dflt (refine LCg.CompEnd.intro (by k_asm) (by k_asm) _ (fun p hp => hp) (by assumption) ⟨_, by first | k_mem | (refine List.mem_cons_of_mem _ ?_; assumption) | assumption, rfl, _, rfl⟩ ?_)))
  refine wpAny_call ?_
  (k_dflt (refine' code_defC ?k1 ?k2 ?k3 ?k4 ?k5 ?kA ?kF ?kK ?k6 ?k7 ?k8 ?k9 ?kB ?kD ?_ ?c2 ?c3 ?c4; (case kA => exact rfl); (case kF => exact rfl); (case kK => assumption); (case k1 => k_asm); (case k2 => k_asm); (case k3 => k_asm); (case k4 => k_asm); (case k5 => k_asm); (case k6 => k_is); (case k7 => k_is); (case k8 => (show dp < recursionLimit; omega)); (case k9 => exact BindsTo.of_eq rfl); (case kB => exact rfl); (case kD => decide +kernel); (case c2 => exact rfl); (case c3 => exact rfl); (case c4 => exact rfl); k_whole; intro g' L' h' tk' cells' FG' F' N' Y' B' X' T' l1; k_cells Y'; (try simp only [List.cons_append, List.nil_append] at N'); (try dsimp only); (try k_fold)))
  k_steps
  all_goals (exact hret _ _ _ _ _ _ (by assumption) (drop2 (by assumption)) (off1_mem (And.right (by assumption))))
end
end Mine
end
section
open PySem PySem.W PyProof.Rows PySem.Calls PySem.Flt
namespace Mine
section
variable {w : World} {mean : ExcName → Option Value} {mg mb : Str → Option Value} {dp un : Nat} {gd : Option (List Code)} {cn : Str} {cs : Scope} {a : Addr} {ccd : Value} {cl : List (Str × Addr)} {outer : List Env} {A₀ : Around} {base h₀ : Heap} {L : Addr} {m : Str → Option Value} {news : List (Addr × Obj)} {s : Shared} {Q E : Value → Shared → Prop}

theorem c_yiq2 {r g b x y z : UInt64} {t1 t2 t3 : Tok}
   (B : Below A₀ base outer h₀) (F : Fr h₀ L s.heap m) (X : (hd.heap_39 w.params).In h₀) (N : News h₀ L s.heap news) (T : Top hd.view_39 lo mean mg mb h₀) (hk : cs.kind = .function) (hdp : dp + 1 < recursionLimit) (hu : un + 8 < cLine)
   (e1 : yF r g b = x) (e2 : iF r g b = y) (e3 : qF r g b = z)
   (hret : ∀ (D : Addr) (t u v : Tok) (h' : Heap) (tk' : Nat), Fr h₀ L h' m → News h₀ L h' ((D, tupF x y z t u v) :: news) → (∀ p ∈ news, p.1 < D) → Q (.ref D) { s with heap := h', toks := tk' }) :
   wpAny (model pw w) (ktrTop dp un gd cn cs L a ccd cl outer) (call (.ref 21) [.float r t1, .float g t2, .float b t3]) Q E s := by
  subst e1 e2 e3
  exact c_yiq B F X N T hk hdp hu  hret

theorem c_rgb2 {r g b x y z : UInt64} {t1 t2 t3 : Tok}
   (B : Below A₀ base outer h₀) (F : Fr h₀ L s.heap m) (X : (hd.heap_39 w.params).In h₀) (N : News h₀ L s.heap news) (T : Top hd.view_39 lo mean mg mb h₀) (hk : cs.kind = .function) (hdp : dp + 1 < recursionLimit) (hu : un + 8 < cLine)
   (e1 : cutF (rB r g b) = x) (e2 : cutF (gB r g b) = y) (e3 : cutF (bB r g b) = z)
   (hret : ∀ (D : Addr) (t u v : Tok) (h' : Heap) (tk' : Nat), Fr h₀ L h' m → News h₀ L h' ((D, tupF x y z t u v) :: news) → (∀ p ∈ news, p.1 < D) → Q (.ref D) { s with heap := h', toks := tk' }) :
   wpAny (model pw w) (ktrTop dp un gd cn cs L a ccd cl outer) (call (.ref 28) [.float r t1, .float g t2, .float b t3]) Q E s := by
  subst e1 e2 e3
  exact c_rgb B F X N T hk hdp hu  hret

theorem c_parts2 {x y z : UInt64} {x' y' z' : Int} {t1 t2 t3 t4 : Tok} {sc : Int} {D : Addr}
   (B : Below A₀ base outer h₀) (F : Fr h₀ L s.heap m) (X : (hd.heap_39 w.params).In h₀) (N : News h₀ L s.heap news) (T : Top hd.view_39 lo mean mg mb h₀) (hk : cs.kind = .function) (hdp : dp + 1 < recursionLimit) (hu : un + 8 < cLine)
   (hm : (D, tupF x y z t1 t2 t3) ∈ news) (hsc : ¬ Flt.Over sc) (hx : Float64.isFinite (Float64.mul x (Float64.ofInt sc)) = true) (hy : Float64.isFinite (Float64.mul y (Float64.ofInt sc)) = true) (hz : Float64.isFinite (Float64.mul z (Float64.ofInt sc)) = true)
   (e1 : partF x sc = x') (e2 : partF y sc = y') (e3 : partF z sc = z')
   (hret : ∀ (C : Addr) (t u v : Tok) (h' : Heap) (tk' : Nat), Fr h₀ L h' m → News h₀ L h' ((C, lstI x' y' z' t u v) :: news) → (∀ p ∈ news, p.1 ≠ C) → Q (.ref C) { s with heap := h', toks := tk' }) :
   wpAny (model pw w) (ktrTop dp un gd cn cs L a ccd cl outer) (call (.ref 75) [.ref D, .int sc t4]) Q E s := by
  subst e1 e2 e3
  exact c_parts B F X N T hk hdp hu hm hsc hx hy hz hret
end
end Mine
end
section
open PySem PySem.W PyProof.Rows PySem.Calls PySem.Flt
namespace Mine

noncomputable def hsvSix (i : Int) (v t p q : UInt64) : UInt64 × UInt64 × UInt64 :=
  if i = 0 then (v, t, p) else if i = 1 then (q, v, p) else if i = 2 then (p, v, t) else if i = 3 then (p, q, v) else if i = 4 then (t, p, v) else (v, p, q)
theorem hsvBack_is {h s v x y z : UInt64} (a : HsvBack h s v x y z) : (x, y, z) = hsvSix ((iH h).fmod 6) v (tH h s v) (pH s v) (qH h s v) := by
  rcases a with ⟨i, rfl, rfl, rfl⟩ | ⟨i, rfl, rfl, rfl⟩ | ⟨i, rfl, rfl, rfl⟩ | ⟨i, rfl, rfl, rfl⟩ | ⟨i, rfl, rfl, rfl⟩ | ⟨i, rfl, rfl, rfl⟩ <;> rw [i] <;> rfl
theorem hsvBack_uniq {h s v x y z x' y' z' : UInt64} (a : HsvBack h s v x y z) (b : HsvBack h s v x' y' z') : x = x' ∧ y = y' ∧ z = z' := by
  have e := (hsvBack_is a).trans (hsvBack_is b).symm
  exact ⟨congrArg (·.1) e, congrArg (·.2.1) e, congrArg (·.2.2) e⟩
def Uneq (r g b : UInt64) : Prop := (Float64.cmp (fmin3 r g b) (fmax3 r g b) == some .eq) = false ∧ Float64.isZero (Float64.sub (fmax3 r g b) (fmin3 r g b)) = false
def Dark (r g b : UInt64) : Bool := (Float64.cmp (Float64.div (Float64.add (fmax3 r g b) (fmin3 r g b)) 4611686018427387904) 4602678819172646912 == some Ordering.lt || Float64.cmp (Float64.div (Float64.add (fmax3 r g b) (fmin3 r g b)) 4611686018427387904) 4602678819172646912 == some Ordering.eq)
def sumF (r g b : UInt64) : UInt64 := Float64.add (fmax3 r g b) (fmin3 r g b)
def restF (r g b : UInt64) : UInt64 := Float64.sub (Float64.sub 4611686018427387904 (fmax3 r g b)) (fmin3 r g b)
structure HsvOk (r g b x y z : UInt64) : Prop where
  ne : Uneq r g b
  nz : Float64.isZero (fmax3 r g b) = false
  ex : hueF r g b = x
  ey : Float64.div (rangeF r g b) (fmax3 r g b) = y
  ez : fmax3 r g b = z
structure HsvNo (r g b : UInt64) : Prop where
  ne : Uneq r g b
  nz : Float64.isZero (fmax3 r g b) = true
structure HlsOk (r g b x y z : UInt64) : Prop where
  ne : Uneq r g b
  ex : hueF r g b = x
  ey : lightF r g b = y
  ez : (Dark r g b = true ∧ Float64.isZero (sumF r g b) = false ∧ Float64.div (rangeF r g b) (sumF r g b) = z) ∨ (Dark r g b = false ∧ Float64.isZero (restF r g b) = false ∧ Float64.div (rangeF r g b) (restF r g b) = z)
structure HlsNo (r g b : UInt64) : Prop where
  ne : Uneq r g b
  ez : (Dark r g b = true ∧ Float64.isZero (sumF r g b) = true) ∨ (Dark r g b = false ∧ Float64.isZero (restF r g b) = true)
section
variable {w : World} {mean : ExcName → Option Value} {mg mb : Str → Option Value} {dp un : Nat} {gd : Option (List Code)} {cn : Str} {cs : Scope} {a : Addr} {ccd : Value} {cl : List (Str × Addr)} {outer : List Env} {A₀ : Around} {base h₀ : Heap} {L : Addr} {m : Str → Option Value} {news : List (Addr × Obj)} {s : Shared} {Q E : Value → Shared → Prop}

theorem c_hsv2 {r g b x y z : UInt64} {t1 t2 t3 : Tok}
   (B : Below A₀ base outer h₀) (F : Fr h₀ L s.heap m) (X : (hd.heap_39 w.params).In h₀) (N : News h₀ L s.heap news) (T : Top hd.view_39 lo mean mg mb h₀) (hk : cs.kind = .function) (hdp : dp + 1 < recursionLimit) (hu : un + 8 < cLine)
   (H : HsvOk r g b x y z)
   (hret : ∀ (D : Addr) (t u v : Tok) (h' : Heap) (tk' : Nat), Fr h₀ L h' m → News h₀ L h' ((D, tupF x y z t u v) :: news) → (∀ p ∈ news, p.1 < D) → Q (.ref D) { s with heap := h', toks := tk' }) :
   wpAny (model pw w) (ktrTop dp un gd cn cs L a ccd cl outer) (call (.ref 56) [.float r t1, .float g t2, .float b t3]) Q E s := by
  obtain ⟨⟨h1, h2⟩, h3, rfl, rfl, rfl⟩ := H
  exact c_hsv B F X N T hk hdp hu h1 h3 h2 (fun x y z D t u v h' tk' ex ey ez F' N' l' => by subst ex ey ez; exact hret D t u v h' tk' F' N' l')

theorem c_hsvZ2 {fs : List Addr} {gg : Heap} {r g b : UInt64} {t1 t2 t3 : Tok}
   (B : Below A₀ base outer h₀) (F : Fr h₀ L s.heap m) (X : (hd.heap_39 w.params).In h₀) (N : News h₀ L s.heap news) (T : Top hd.view_39 lo mean mg mb h₀) (hk : cs.kind = .function) (hdp : dp + 1 < recursionLimit) (hu : un + 8 < cLine)
   (D : KtsDicts fs gg) (H : HsvNo r g b)
   (hret : ∀ (e : Addr) (g' h' : Heap) (tk' : Nat), Fr h₀ L g' m → RaisedSN base g' (envX cn cs L a ccd cl :: outer) e (Value.type "ZeroDivisionError") news h' → g'.UpToSlots h' → E (.ref e) { s with heap := h', toks := tk' }) :
   wpAny (model pw w) (ktrTop dp un gd cn cs L a ccd cl outer) (call (.ref 56) [.float r t1, .float g t2, .float b t3]) Q E s := by
  obtain ⟨⟨h1, h2⟩, h3⟩ := H
  exact c_hsvZ B F X N T hk hdp hu D h1 h2 h3 hret

theorem c_hls2 {r g b x y z : UInt64} {t1 t2 t3 : Tok}
   (B : Below A₀ base outer h₀) (F : Fr h₀ L s.heap m) (X : (hd.heap_39 w.params).In h₀) (N : News h₀ L s.heap news) (T : Top hd.view_39 lo mean mg mb h₀) (hk : cs.kind = .function) (hdp : dp + 1 < recursionLimit) (hu : un + 8 < cLine)
   (H : HlsOk r g b x y z)
   (hret : ∀ (D : Addr) (t u v : Tok) (h' : Heap) (tk' : Nat), Fr h₀ L h' m → News h₀ L h' ((D, tupF x y z t u v) :: news) → (∀ p ∈ news, p.1 < D) → Q (.ref D) { s with heap := h', toks := tk' }) :
   wpAny (model pw w) (ktrTop dp un gd cn cs L a ccd cl outer) (call (.ref 35) [.float r t1, .float g t2, .float b t3]) Q E s := by
  obtain ⟨⟨h1, h2⟩, rfl, rfl, ⟨h3, h4, rfl⟩ | ⟨h3, h4, rfl⟩⟩ := H
  · exact c_hlsA B F X N T hk hdp hu h1 h2 h4 h3 (fun x y z D t u v h' tk' ex ey ez F' N' l' => by subst ex ey ez; exact hret D t u v h' tk' F' N' l')
  · exact c_hlsB B F X N T hk hdp hu h1 h2 h4 h3 (fun x y z D t u v h' tk' ex ey ez F' N' l' => by subst ex ey ez; exact hret D t u v h' tk' F' N' l')

theorem c_hlsZ2 {fs : List Addr} {gg : Heap} {r g b : UInt64} {t1 t2 t3 : Tok}
   (B : Below A₀ base outer h₀) (F : Fr h₀ L s.heap m) (X : (hd.heap_39 w.params).In h₀) (N : News h₀ L s.heap news) (T : Top hd.view_39 lo mean mg mb h₀) (hk : cs.kind = .function) (hdp : dp + 1 < recursionLimit) (hu : un + 8 < cLine)
   (D : KtsDicts fs gg) (H : HlsNo r g b)
   (hret : ∀ (e : Addr) (g' h' : Heap) (tk' : Nat), Fr h₀ L g' m → RaisedSN base g' (envX cn cs L a ccd cl :: outer) e (Value.type "ZeroDivisionError") news h' → g'.UpToSlots h' → E (.ref e) { s with heap := h', toks := tk' }) :
   wpAny (model pw w) (ktrTop dp un gd cn cs L a ccd cl outer) (call (.ref 35) [.float r t1, .float g t2, .float b t3]) Q E s := by
  obtain ⟨⟨h1, h2⟩, ⟨h3, h4⟩ | ⟨h3, h4⟩⟩ := H
  · exact c_hlsAZ B F X N T hk hdp hu D h1 h2 h4 h3 hret
  · exact c_hlsBZ B F X N T hk hdp hu D h1 h2 h4 h3 hret

theorem c_hsvR2 {r g b x y z : UInt64} {t1 t2 t3 : Tok}
   (B : Below A₀ base outer h₀) (F : Fr h₀ L s.heap m) (X : (hd.heap_39 w.params).In h₀) (N : News h₀ L s.heap news) (T : Top hd.view_39 lo mean mg mb h₀) (hk : cs.kind = .function) (hdp : dp + 1 < recursionLimit) (hu : un + 8 < cLine)
   (hs : (Float64.cmp g 0 == some .eq) = false) (hf : Float64.isFinite (Float64.mul r 4618441417868443648) = true) (hb : (Flt.toInt Float64.truncOf (Float64.mul r 4618441417868443648)).natAbs < 2 ^ 64) (HB : HsvBack r g b x y z)
   (hret : ∀ (D : Addr) (t u v : Tok) (h' : Heap) (tk' : Nat), Fr h₀ L h' m → News h₀ L h' ((D, tupF x y z t u v) :: news) → (∀ p ∈ news, p.1 < D) → Q (.ref D) { s with heap := h', toks := tk' }) :
   wpAny (model pw w) (ktrTop dp un gd cn cs L a ccd cl outer) (call (.ref 63) [.float r t1, .float g t2, .float b t3]) Q E s := by
  refine c_hsvR B F X N T hk hdp hu hs hf hb (fun x' y' z' D t u v h' tk' hB' F' N' l' => ?_)
  obtain ⟨e1, e2, e3⟩ := hsvBack_uniq hB' HB
  subst e1 e2 e3
  exact hret D t u v h' tk' F' N' l' 

theorem c_hlsR2 {r g b x y z : UInt64} {t1 t2 t3 : Tok}
   (B : Below A₀ base outer h₀) (F : Fr h₀ L s.heap m) (X : (hd.heap_39 w.params).In h₀) (N : News h₀ L s.heap news) (T : Top hd.view_39 lo mean mg mb h₀) (hk : cs.kind = .function) (hdp : dp + 2 < recursionLimit) (hu : un + 16 < cLine)
   (hs : (Float64.cmp b 0 == some .eq) = false) (e1 : vF (m1F g b) (m2F g b) (Float64.add r 4599676419421066581) = x) (e2 : vF (m1F g b) (m2F g b) r = y) (e3 : vF (m1F g b) (m2F g b) (Float64.sub r 4599676419421066581) = z)
   (hret : ∀ (D : Addr) (t u v : Tok) (h' : Heap) (tk' : Nat), Fr h₀ L h' m → News h₀ L h' ((D, tupF x y z t u v) :: news) → (∀ p ∈ news, p.1 < D) → Q (.ref D) { s with heap := h', toks := tk' }) :
   wpAny (model pw w) (ktrTop dp un gd cn cs L a ccd cl outer) (call (.ref 42) [.float r t1, .float g t2, .float b t3]) Q E s := by
  exact c_hlsR B F X N T hk hdp hu hs (fun x' y' z' D t u v h' tk' ex ey ez F' N' l' => by rw [e1] at ex; rw [e2] at ey; rw [e3] at ez; subst ex ey ez; exact hret D t u v h' tk' F' N' l')

theorem c_place2 {r g b P : Int} {t1 t2 t3 : Tok}
   (B : Below A₀ base outer h₀) (F : Fr h₀ L s.heap m) (X : (hd.heap_39 w.params).In h₀) (N : News h₀ L s.heap news) (T : Top hd.view_39 lo mean mg mb h₀) (hk : cs.kind = .function) (hdp : dp + 1 < recursionLimit) (hu : un + 8 < cLine)
   (hr : -2097152 ≤ r ∧ r ≤ 2097152) (hg : -2097152 ≤ g ∧ g ≤ 2097152) (hb : -2097152 ≤ b ∧ b ≤ 2097152) (e : placeI r g b = P)
   (hret : ∀ (t : Tok) (h' : Heap) (tk' : Nat), Fr h₀ L h' m → News h₀ L h' news → Q (.int P t) { s with heap := h', toks := tk' }) :
   wpAny (model pw w) (ktrTop dp un gd cn cs L a ccd cl outer) (call (.ref 70) [.int r t1, .int g t2, .int b t3]) Q E s := by
  exact c_place B F X N T hk hdp hu hr hg hb (fun x t h' tk' ex F' N' => by rw [e] at ex; subst ex; exact hret t h' tk' F' N')
end
end Mine
end
section
open PySem PySem.W PyProof.Rows PySem.Calls PySem.Flt
namespace Mine
section
variable {w : World} {mean : ExcName → Option Value} {mg mb : Str → Option Value} {dp un : Nat} {gd : Option (List Code)} {cn : Str} {cs : Scope} {a : Addr} {ccd : Value} {cl : List (Str × Addr)} {outer : List Env} {A₀ : Around} {base h₀ : Heap} {L : Addr} {m : Str → Option Value} {news : List (Addr × Obj)} {s : Shared} {Q E : Value → Shared → Prop}

set_option maxRecDepth 100000 in
set_option maxHeartbeats 8000000 in
theorem c_lawyiq {r g b sc : Int} {t1 t2 t3 t4 : Tok} {rf gf bf Y I J R1 G1 B1 : UInt64}
   (B : Below A₀ base outer h₀) (F : Fr h₀ L s.heap m) (X : (hd.heap_39 w.params).In h₀) (N : News h₀ L s.heap news) (T : Top hd.view_39 lo mean mg mb h₀) (hk : cs.kind = .function) (hdp : dp + 2 < recursionLimit) (hu : un + 200 < cLine)
  (hr : -2097152 ≤ r ∧ r ≤ 2097152) (hg : -2097152 ≤ g ∧ g ≤ 2097152) (hb : -2097152 ≤ b ∧ b ≤ 2097152) (hsc : 1 ≤ sc ∧ sc ≤ 1048576)
  (e1 : qI r sc = rf) (e2 : qI g sc = gf) (e3 : qI b sc = bf) (e4 : yF rf gf bf = Y) (e5 : iF rf gf bf = I) (e6 : qF rf gf bf = J)
  (f1 : Float64.isFinite (Float64.mul Y (Float64.ofInt (10000 * sc))) = true) (f2 : Float64.isFinite (Float64.mul I (Float64.ofInt (10000 * sc))) = true) (f3 : Float64.isFinite (Float64.mul J (Float64.ofInt (10000 * sc))) = true)
  (p1 : partF Y (10000 * sc) = 100 * (30 * r + 59 * g + 11 * b)) (p2 : partF I (10000 * sc) = 74 * (100 * r - (30 * r + 59 * g + 11 * b)) - 27 * (100 * b - (30 * r + 59 * g + 11 * b))) (p3 : partF J (10000 * sc) = 48 * (100 * r - (30 * r + 59 * g + 11 * b)) + 41 * (100 * b - (30 * r + 59 * g + 11 * b)))
  (e7 : cutF (rB Y I J) = R1) (e8 : cutF (gB Y I J) = G1) (e9 : cutF (bB Y I J) = B1)
  (f4 : Float64.isFinite (Float64.mul R1 (Float64.ofInt sc)) = true) (f5 : Float64.isFinite (Float64.mul G1 (Float64.ofInt sc)) = true) (f6 : Float64.isFinite (Float64.mul B1 (Float64.ofInt sc)) = true)
  (p4 : partF R1 sc = min (max r 0) sc) (p5 : partF G1 sc = min (max g 0) sc) (p6 : partF B1 sc = min (max b 0) sc)
  (q1 : (Float64.cmp (fmin3 R1 G1 B1) 0 == some Ordering.gt || Float64.cmp (fmin3 R1 G1 B1) 0 == some Ordering.eq) = true) (q2 : (Float64.cmp (fmax3 R1 G1 B1) 4607182418800017408 == some Ordering.lt || Float64.cmp (fmax3 R1 G1 B1) 4607182418800017408 == some Ordering.eq) = true)
   (hret : ∀ (h' : Heap) (tk' : Nat), Fr h₀ L h' m → News h₀ L h' news → Q (.bool true) { s with heap := h', toks := tk' }) :
   wpAny (model pw w) (ktrTop dp un gd cn cs L a ccd cl outer) (call (.ref 80) [.int r t1, .int g t2, .int b t3, .int sc t4]) Q E s := by
  k_with_none
  (k_with "storeName" => (k_here; (with_reducible show wpAny _ _ (storeName _ _ (Value.float _ _)) _ _ (Shared.mk _ _ _ (_ + _) _)); (refine gen_f ?_); intro t1 tk1))
  (k_with "storeName" => (k_here; (with_reducible show wpAny _ _ (storeName _ _ (Value.int _ _)) _ _ (Shared.mk _ _ _ (_ + _) _)); (refine gen_i ?_); intro t1 tk1))
  (k_with "execs cons" => (k_here; (with_reducible show wpAny _ _ (execs _ _) _ _ (Shared.mk _ _ _ (_ + _) _)); (refine gen_s ?_); intro tk1))
  (k_with "eval ListComp" => (k_here; k_dflt (refine ListComp_T (by k_asm) (by rfl) (by decide) (by rfl) (by decide) (by rfl) ?_)))
  (k_with "exec Assign cons ListComp" => (k_here; k_dflt (refine Assign_ListComp_T (by k_asm) (by rfl) (by with_unfolding_all rfl) (by rfl) (by decide) (by rfl) (by decide) (by rfl) (by rfl) (by rfl) ?_)))
  (k_with "TupSrc" => (k_here; k_dflt (refine TupSrc.intro (by rfl) (by k_asm) (by k_asm) (by first | k_mem | (refine List.mem_cons_of_mem _ ?_; assumption) | assumption) ?_); intro g'))
  (k_with "CompRest" => (with_unfolding_all first | (refine LCg.CompRest.succ ?_; intro v' I' oI' C' oC' D' m' h' tk' E' hv' hC' hx' F' N' off' ne'; lcg_open hv') | refine LCg.CompRest.zero ?_))
  (k_with "CompEnd" => (k_dflt (refine LCg.CompEnd.intro (by k_asm) (by k_asm) _ (fun p hp => hp) (by assumption) ⟨_, by first | k_mem | (refine List.mem_cons_of_mem _ ?_; assumption) | assumption, rfl, _, rfl⟩ ?_)))
  (k_with "binaryOp Mult float int" => (k_here; (k_dflt (refine' mul_small ?zzk0 ?zzk1 ?_)); (case zzk0 => k_dflt (exact rfl)); (case zzk1 => k_dflt omega)))
  (k_with "call builtin:max" => (k_here; (with_reducible show wpAny _ _ (call (Value.builtin _) [Value.ref _]) _ _ _); (k_dflt (refine' max_tup ?zzk0 ?zzk1 ?zzk2 ?zzk3 (fun h' tk' v' F' N' => ?_))); (case zzk0 => k_dflt (exact rfl)); (case zzk1 => k_asm); (case zzk2 => k_asm); (case zzk3 => k_dflt k_mem)))
  (k_with "call builtin:min" => (k_here; (with_reducible show wpAny _ _ (call (Value.builtin _) [Value.ref _]) _ _ _); (k_dflt (refine' min_tup ?zzk0 ?zzk1 ?zzk2 ?zzk3 (fun h' tk' v' F' N' => ?_))); (case zzk0 => k_dflt (exact rfl)); (case zzk1 => k_asm); (case zzk2 => k_asm); (case zzk3 => k_dflt k_mem)))
  (k_with "binaryOp Div int int" => (k_here; (k_dflt (refine' div_q ?zzke ?zzk0 ?zzk1 ?zzk2 ?_)); (case zzke => first | assumption | solve_by_elim); (case zzk0 => k_dflt (exact rfl)); (case zzk1 => k_dflt omega); (case zzk2 => k_dflt omega)))
  (k_with "compareOp NotEq ref ref" => (k_here; (k_dflt (refine' ne_lst_same ?zzk1 ?zzk2 ?zzk3 ?zze1 ?zze2 ?zze3 ?zzk4 ?_)); (case zzk1 => k_asm); (case zzk2 => k_dflt k_mem); (case zzk3 => k_dflt k_mem); (case zze1 => assumption); (case zze2 => assumption); (case zze3 => assumption); (case zzk4 => k_dflt ktr_units)))
  (k_with "compareOp Eq ref ref" => (k_here; (k_dflt (refine' eq_lst_same ?zzk1 ?zzk2 ?zzk3 ?zze1 ?zze2 ?zze3 ?zzk4 ?_)); (case zzk1 => k_asm); (case zzk2 => k_dflt k_mem); (case zzk3 => k_dflt k_mem); (case zze1 => assumption); (case zze2 => assumption); (case zze3 => assumption); (case zzk4 => k_dflt ktr_units)))
  (k_with "call builtin:max" => (k_here; (with_reducible show wpAny _ _ (call (Value.builtin _) [Value.int _ _, Value.int _ _]) _ _ _); (k_dflt (refine' max2_i ?zzk0 ?zzk1 ?zzk2 (fun h' tk' v' F' N' => ?_))); (case zzk0 => k_dflt (exact rfl)); (case zzk1 => k_asm); (case zzk2 => k_asm)))
  (k_with "call builtin:min" => (k_here; (with_reducible show wpAny _ _ (call (Value.builtin _) [Value.int _ _, Value.int _ _]) _ _ _); (k_dflt (refine' min2_i ?zzk0 ?zzk1 ?zzk2 (fun h' tk' v' F' N' => ?_))); (case zzk0 => k_dflt (exact rfl)); (case zzk1 => k_asm); (case zzk2 => k_asm)))
  (k_with "call ref" => (k_here; (with_reducible show wpAny _ _ (call (Value.ref 75) [Value.ref _, Value.int _ _]) _ _ _); (k_dflt (refine' c_parts2 ?zzk1 ?zzk2 ?zzk3 ?zzk4 ?zzk5 ?zzk6 ?zzk7 ?zzk8 ?zze0 ?zze1 ?zze2 ?zze3 ?zze4 ?zze5 ?zze6 ?zze7 (fun D' t' u' v' h' tk' F' N' l' => ?_))); (case zzk1 => k_asm); (case zzk2 => k_asm); (case zzk3 => k_asm); (case zzk4 => k_asm); (case zzk5 => k_asm); (case zzk6 => k_dflt (first | exact rfl | assumption)); (case zzk7 => k_dflt ktr_room); (case zzk8 => k_dflt ktr_units); (case zze0 => (k_dflt k_mem)); (case zze1 => (k_dflt (exact not_over (by omega)))); (case zze2 => assumption); (case zze3 => assumption); (case zze4 => assumption); (case zze5 => assumption); (case zze6 => assumption); (case zze7 => assumption)))
  (k_with "call builtin:max" => (k_here; (with_reducible show wpAny _ _ (call (Value.builtin _) [Value.int _ _, Value.int _ _, Value.int _ _]) _ _ _); (k_dflt (refine' max3_q ?zzke ?zzk0 ?zzk1 ?zzk2 (fun h' tk' v' F' N' => ?_))); (case zzke => assumption); (case zzk0 => k_dflt (exact rfl)); (case zzk1 => k_asm); (case zzk2 => k_asm)))
  (k_with "call builtin:min" => (k_here; (with_reducible show wpAny _ _ (call (Value.builtin _) [Value.int _ _, Value.int _ _, Value.int _ _]) _ _ _); (k_dflt (refine' min3_q ?zzke ?zzk0 ?zzk1 ?zzk2 (fun h' tk' v' F' N' => ?_))); (case zzke => assumption); (case zzk0 => k_dflt (exact rfl)); (case zzk1 => k_asm); (case zzk2 => k_asm)))
  (k_with "ite" => (k_here; k_dflt (first | refine ite_neg (ne_true_of_eq_false (by with_reducible assumption)) ?_ | refine ite_pos (by first | with_reducible assumption | ((try simp only [decide_eq_true_eq, Bool.not_eq_true', decide_eq_false_iff_not, Bool.false_bne, Bool.true_bne, bne_iff_ne, beq_iff_eq, beq_eq_false_iff_ne, ne_eq]); omega)) ?_ | refine ite_neg (by first | with_reducible assumption | ((try simp only [decide_eq_true_eq, Bool.not_eq_true', decide_eq_false_iff_not, Bool.false_bne, Bool.true_bne, bne_iff_ne, beq_iff_eq, beq_eq_false_iff_ne, ne_eq]); omega)) ?_)))
  (k_with "subscriptTail Name Constant ref int" => (k_here; k_dflt (refine' item_tupleT ?zzt ?zza ?zzb ?zzc ?zzd ?_; (case zzt => exact News.isTup (by k_asm) (by k_mem)); (case zza => decide); (case zzb => decide); (case zzc => rfl); (case zzd => rfl); k_whole)))
  (k_with "exec If" => (k_here; refine wpAny_If ?_))
  (k_with "eval Call" => (k_here; k_dflt (refine Call_ ?_)))
  (k_with "call ref" => (k_here; (first | ((with_reducible show wpAny _ _ (call (Value.ref 56) _) _ _ _); k_dflt (first | refine' c_hsv2 ?zzk1 ?zzk2 ?zzk3 ?zzk4 ?zzk5 ?zzk6 ?zzk7 ?zzk8 (by with_reducible assumption) (fun D' t' u' v' h' tk' F' N' l' => ?_) | refine' c_hsvZ2 ?zzk1 ?zzk2 ?zzk3 ?zzk4 ?zzk5 ?zzk6 ?zzk7 ?zzk8 (by with_reducible assumption) (by with_reducible assumption) (fun e' g' h' tk' F' R' U' => ?_))) | ((with_reducible show wpAny _ _ (call (Value.ref 35) _) _ _ _); k_dflt (first | refine' c_hls2 ?zzk1 ?zzk2 ?zzk3 ?zzk4 ?zzk5 ?zzk6 ?zzk7 ?zzk8 (by with_reducible assumption) (fun D' t' u' v' h' tk' F' N' l' => ?_) | refine' c_hlsZ2 ?zzk1 ?zzk2 ?zzk3 ?zzk4 ?zzk5 ?zzk6 ?zzk7 ?zzk8 (by with_reducible assumption) (by with_reducible assumption) (fun e' g' h' tk' F' R' U' => ?_))) | ((with_reducible show wpAny _ _ (call (Value.ref 63) _) _ _ _); k_dflt (refine' c_hsvR2 ?zzk1 ?zzk2 ?zzk3 ?zzk4 ?zzk5 ?zzk6 ?zzk7 ?zzk8 (by with_reducible assumption) (by with_reducible assumption) (by with_reducible assumption) (by with_reducible assumption) (fun D' t' u' v' h' tk' F' N' l' => ?_))) | ((with_reducible show wpAny _ _ (call (Value.ref 42) _) _ _ _); k_dflt (refine' c_hlsR2 ?zzk1 ?zzk2 ?zzk3 ?zzk4 ?zzk5 ?zzk6 ?zzk7 ?zzk8 (by with_reducible assumption) (by with_reducible assumption) (by with_reducible assumption) (by with_reducible assumption) (fun D' t' u' v' h' tk' F' N' l' => ?_))) | ((with_reducible show wpAny _ _ (call (Value.ref 70) _) _ _ _); k_dflt (refine' c_place2 ?zzk1 ?zzk2 ?zzk3 ?zzk4 ?zzk5 ?zzk6 ?zzk7 ?zzk8 (by with_reducible assumption) (by with_reducible assumption) (by with_reducible assumption) (by with_reducible assumption) (fun t' h' tk' F' N' => ?_))) | ((with_reducible show wpAny _ _ (call (Value.ref 87) _) _ _ _); k_dflt (refine' c_hue ?zzk1 ?zzk2 ?zzk3 ?zzk4 ?zzk5 ?zzk6 ?zzk7 ?zzk8 (by with_reducible assumption) (by with_reducible assumption) (by with_reducible assumption) (fun h' tk' F' N' => ?_))) | ((with_reducible show wpAny _ _ (call (Value.ref 21) _) _ _ _); k_dflt (refine' c_yiq2 ?zzk1 ?zzk2 ?zzk3 ?zzk4 ?zzk5 ?zzk6 ?zzk7 ?zzk8 (by with_reducible assumption) (by with_reducible assumption) (by with_reducible assumption) (fun D' t' u' v' h' tk' F' N' l' => ?_))) | ((with_reducible show wpAny _ _ (call (Value.ref 28) _) _ _ _); k_dflt (refine' c_rgb2 ?zzk1 ?zzk2 ?zzk3 ?zzk4 ?zzk5 ?zzk6 ?zzk7 ?zzk8 (by with_reducible assumption) (by with_reducible assumption) (by with_reducible assumption) (fun D' t' u' v' h' tk' F' N' l' => ?_)))); (case zzk1 => k_asm); (case zzk2 => k_asm); (case zzk3 => k_asm); (case zzk4 => k_asm); (case zzk5 => k_asm); (case zzk6 => k_dflt (first | exact rfl | assumption)); (case zzk7 => k_dflt ktr_room); (case zzk8 => k_dflt ktr_units)))
  refine wpAny_call ?_
  (k_dflt (refine' code_defC ?k1 ?k2 ?k3 ?k4 ?k5 ?kA ?kF ?kK ?k6 ?k7 ?k8 ?k9 ?kB ?kD ?_ ?c2 ?c3 ?c4; (case kA => exact rfl); (case kF => exact rfl); (case kK => assumption); (case k1 => k_asm); (case k2 => k_asm); (case k3 => k_asm); (case k4 => k_asm); (case k5 => k_asm); (case k6 => k_is); (case k7 => k_is); (case k8 => (show dp < recursionLimit; omega)); (case k9 => exact BindsTo.of_eq rfl); (case kB => exact rfl); (case kD => decide +kernel); (case c2 => exact rfl); (case c3 => exact rfl); (case c4 => exact rfl); k_whole; intro g' L' h' tk' cells' FG' F' N' Y' B' X' T' l1; k_cells Y'; (try simp only [List.cons_append, List.nil_append] at N'); (try dsimp only); (try k_fold)))
  k_steps
  all_goals (first | (rw [q2]; exact hret _ _ (by assumption) (cb_drop (by assumption) (fun p hp => by repeat (first | exact hp | apply List.mem_cons_of_mem)))) | (exfalso; simp_all; done))

set_option maxRecDepth 100000 in
set_option maxHeartbeats 8000000 in
theorem c_wheelAA {r g b sc high low P : Int} {t1 t2 t3 t4 : Tok} {rf gf bf pf h s1 s1' v v' x1 y1 z1' l l' s2 s2' x2 y2 z2' : UInt64}
   (B : Below A₀ base outer h₀) (F : Fr h₀ L s.heap m) (X : (hd.heap_39 w.params).In h₀) (N : News h₀ L s.heap news) (T : Top hd.view_39 lo mean mg mb h₀) (hk : cs.kind = .function) (hdp : dp + 3 < recursionLimit) (hu : un + 200 < cLine)
  (hr : -2097152 ≤ r ∧ r ≤ 2097152) (hg : -2097152 ≤ g ∧ g ≤ 2097152) (hb : -2097152 ≤ b ∧ b ≤ 2097152) (hsc : 1 ≤ sc ∧ sc ≤ 1048576)
  (eh : max (max r g) b = high) (el : min (min r g) b = low) (hsp : low < high) (hhi : -2097152 ≤ low ∧ high ≤ 2097152)
  (e1 : qI r sc = rf) (e2 : qI g sc = gf) (e3 : qI b sc = bf) (eP : placeI r g b = P) (hP : -100000000 ≤ P ∧ P ≤ 100000000) (ep : qI P (6 * (high - low)) = pf)
  (h1 : (Float64.cmp 0 h == some Ordering.lt || Float64.cmp 0 h == some Ordering.eq) = true) (h2 : (Float64.cmp h 0x3ff0000000000000 == some .lt) = true) (h3 : (Float64.cmpInt (Float64.mul (Float64.abs (Float64.sub h pf)) (Float64.ofInt (2 ^ Int.toNat 50))) 1 == some .lt) = true)
  (H1 : HsvOk rf gf bf h s1 v) (z1 : high ≠ 0) (d1 : qI (high - low) high = s1') (c1 : (Float64.cmp s1 s1' != some .eq) = false) (d2 : qI high sc = v') (c2 : (Float64.cmp v v' != some .eq) = false)
  (hs1 : (Float64.cmp s1 0 == some .eq) = false) (hf1 : Float64.isFinite (Float64.mul h 4618441417868443648) = true) (hb1 : (Flt.toInt Float64.truncOf (Float64.mul h 4618441417868443648)).natAbs < 2 ^ 64) (HB : HsvBack h s1 v x1 y1 z1')
  (f1 : Float64.isFinite (Float64.mul x1 (Float64.ofInt sc)) = true) (f2 : Float64.isFinite (Float64.mul y1 (Float64.ofInt sc)) = true) (f3 : Float64.isFinite (Float64.mul z1' (Float64.ofInt sc)) = true)
  (p1 : partF x1 sc = r) (p2 : partF y1 sc = g) (p3 : partF z1' sc = b)
  (H2 : HlsOk rf gf bf h l s2) (z2 : high + low ≠ 0) (z3 : high + low ≠ 2 * sc) (d3 : qI (high + low) (2 * sc) = l') (c3 : (Float64.cmp l l' != some .eq) = false) (d4 : high + low ≤ sc → qI (high - low) (high + low) = s2') (d5 : ¬ high + low ≤ sc → qI (high - low) (2 * sc - (high + low)) = s2') (c4 : (Float64.cmp s2 s2' != some .eq) = false)
  (hs2 : (Float64.cmp s2 0 == some .eq) = false) (v1 : vF (m1F l s2) (m2F l s2) (Float64.add h 4599676419421066581) = x2) (v2 : vF (m1F l s2) (m2F l s2) h = y2) (v3 : vF (m1F l s2) (m2F l s2) (Float64.sub h 4599676419421066581) = z2')
  (f4 : Float64.isFinite (Float64.mul x2 (Float64.ofInt sc)) = true) (f5 : Float64.isFinite (Float64.mul y2 (Float64.ofInt sc)) = true) (f6 : Float64.isFinite (Float64.mul z2' (Float64.ofInt sc)) = true)
  (p4 : partF x2 sc = r) (p5 : partF y2 sc = g) (p6 : partF z2' sc = b)
  (hh : (Float64.cmp h h == some .eq) = true)
   (hret : ∀ (h' : Heap) (tk' : Nat), Fr h₀ L h' m → News h₀ L h' news → Q (.bool true) { s with heap := h', toks := tk' }) :
   wpAny (model pw w) (ktrTop dp un gd cn cs L a ccd cl outer) (call (.ref 94) [.int r t1, .int g t2, .int b t3, .int sc t4]) Q E s := by
  refine wpAny_call ?_
  k_dflt cell_enter
  k_steps
  all_goals (rw [hh]; exact hret _ _ (by assumption) (cb_drop (by assumption) (fun p hp => by repeat (first | exact hp | apply List.mem_cons_of_mem))))

set_option maxRecDepth 100000 in
set_option maxHeartbeats 8000000 in
theorem c_wheelZA {r g b sc high low P : Int} {t1 t2 t3 t4 : Tok} {rf gf bf pf h s1 s1' v v' x1 y1 z1' l l' s2 s2' x2 y2 z2' : UInt64}
   (B : Below A₀ h₀ [] h₀) (F : Fr h₀ L s.heap m) (X : (hd.heap_39 w.params).In h₀) (N : News h₀ L s.heap news) (T : Top hd.view_39 lo mean mg mb h₀) (hk : cs.kind = .function) (hdp : dp + 3 < recursionLimit) (hu : un + 200 < cLine)
  (hr : -2097152 ≤ r ∧ r ≤ 2097152) (hg : -2097152 ≤ g ∧ g ≤ 2097152) (hb : -2097152 ≤ b ∧ b ≤ 2097152) (hsc : 1 ≤ sc ∧ sc ≤ 1048576)
  (eh : max (max r g) b = high) (el : min (min r g) b = low) (hsp : low < high) (hhi : -2097152 ≤ low ∧ high ≤ 2097152)
  (e1 : qI r sc = rf) (e2 : qI g sc = gf) (e3 : qI b sc = bf) (eP : placeI r g b = P) (hP : -100000000 ≤ P ∧ P ≤ 100000000) (ep : qI P (6 * (high - low)) = pf)
  (h1 : (Float64.cmp 0 h == some Ordering.lt || Float64.cmp 0 h == some Ordering.eq) = true) (h2 : (Float64.cmp h 0x3ff0000000000000 == some .lt) = true) (h3 : (Float64.cmpInt (Float64.mul (Float64.abs (Float64.sub h pf)) (Float64.ofInt (2 ^ Int.toNat 50))) 1 == some .lt) = true)
  (H1 : HsvNo rf gf bf) (z1 : high = 0)
  (H2 : HlsOk rf gf bf h l s2) (z2 : high + low ≠ 0) (z3 : high + low ≠ 2 * sc) (d3 : qI (high + low) (2 * sc) = l') (c3 : (Float64.cmp l l' != some .eq) = false) (d4 : qI (high - low) (high + low) = s2') (d5 : ¬ high + low ≤ sc → qI (high - low) (2 * sc - (high + low)) = s2') (c4 : (Float64.cmp s2 s2' != some .eq) = false)
  (hs2 : (Float64.cmp s2 0 == some .eq) = false) (v1 : vF (m1F l s2) (m2F l s2) (Float64.add h 4599676419421066581) = x2) (v2 : vF (m1F l s2) (m2F l s2) h = y2) (v3 : vF (m1F l s2) (m2F l s2) (Float64.sub h 4599676419421066581) = z2')
  (f4 : Float64.isFinite (Float64.mul x2 (Float64.ofInt sc)) = true) (f5 : Float64.isFinite (Float64.mul y2 (Float64.ofInt sc)) = true) (f6 : Float64.isFinite (Float64.mul z2' (Float64.ofInt sc)) = true)
  (p4 : partF x2 sc = r) (p5 : partF y2 sc = g) (p6 : partF z2' sc = b)
   (hret : ∀ (h' : Heap) (tk' : Nat), Fr h₀ L h' m → News h₀ L h' news → Q (.bool true) { s with heap := h', toks := tk' }) :
   wpAny (model pw w) (ktrTop dp un gd cn cs L a ccd [] []) (call (.ref 94) [.int r t1, .int g t2, .int b t3, .int sc t4]) Q E s := by
  refine wpAny_call ?_
  (k_dflt (refine' code_defS0 ?k1 ?k2 ?k3 ?k4 ?k5 ?kA ?k6 ?k7 ?k8 ?k9 ?kB ?_ ?cK ?c2 ?c3 ?c4 ?c5; (case kA => exact rfl); (case k2 => k_asm); (case k1 => k_asm); (case k3 => k_asm); (case k4 => k_asm); (case k5 => k_asm); (case k6 => k_is); (case k7 => k_is); (case k8 => (show dp < recursionLimit; omega)); (case k9 => exact BindsTo.of_eq rfl); (case kB => exact locs rfl); (case cK => assumption); (case c2 => exact rfl); (case c3 => exact rfl); (case c4 => exact rfl); (case c5 => decide); k_whole; intro g' L' h' FG' F' N' B' X' T' D'; (try dsimp only); (try k_fold)))
  k_steps
  all_goals (exact hret _ _ (by assumption) (cb_drop (by assumption) (fun p hp => by repeat (first | exact hp | apply List.mem_cons_of_mem))))

set_option maxRecDepth 100000 in
set_option maxHeartbeats 8000000 in
theorem c_wheelAZ {r g b sc high low P : Int} {t1 t2 t3 t4 : Tok} {rf gf bf pf h s1 s1' v v' x1 y1 z1' l l' s2 s2' x2 y2 z2' : UInt64}
   (B : Below A₀ h₀ [] h₀) (F : Fr h₀ L s.heap m) (X : (hd.heap_39 w.params).In h₀) (N : News h₀ L s.heap news) (T : Top hd.view_39 lo mean mg mb h₀) (hk : cs.kind = .function) (hdp : dp + 3 < recursionLimit) (hu : un + 200 < cLine)
  (hr : -2097152 ≤ r ∧ r ≤ 2097152) (hg : -2097152 ≤ g ∧ g ≤ 2097152) (hb : -2097152 ≤ b ∧ b ≤ 2097152) (hsc : 1 ≤ sc ∧ sc ≤ 1048576)
  (eh : max (max r g) b = high) (el : min (min r g) b = low) (hsp : low < high) (hhi : -2097152 ≤ low ∧ high ≤ 2097152)
  (e1 : qI r sc = rf) (e2 : qI g sc = gf) (e3 : qI b sc = bf) (eP : placeI r g b = P) (hP : -100000000 ≤ P ∧ P ≤ 100000000) (ep : qI P (6 * (high - low)) = pf)
  (h1 : (Float64.cmp 0 h == some Ordering.lt || Float64.cmp 0 h == some Ordering.eq) = true) (h2 : (Float64.cmp h 0x3ff0000000000000 == some .lt) = true) (h3 : (Float64.cmpInt (Float64.mul (Float64.abs (Float64.sub h pf)) (Float64.ofInt (2 ^ Int.toNat 50))) 1 == some .lt) = true)
  (H1 : HsvOk rf gf bf h s1 v) (z1 : high ≠ 0) (d1 : qI (high - low) high = s1') (c1 : (Float64.cmp s1 s1' != some .eq) = false) (d2 : qI high sc = v') (c2 : (Float64.cmp v v' != some .eq) = false)
  (hs1 : (Float64.cmp s1 0 == some .eq) = false) (hf1 : Float64.isFinite (Float64.mul h 4618441417868443648) = true) (hb1 : (Flt.toInt Float64.truncOf (Float64.mul h 4618441417868443648)).natAbs < 2 ^ 64) (HB : HsvBack h s1 v x1 y1 z1')
  (f1 : Float64.isFinite (Float64.mul x1 (Float64.ofInt sc)) = true) (f2 : Float64.isFinite (Float64.mul y1 (Float64.ofInt sc)) = true) (f3 : Float64.isFinite (Float64.mul z1' (Float64.ofInt sc)) = true)
  (p1 : partF x1 sc = r) (p2 : partF y1 sc = g) (p3 : partF z1' sc = b)
  (H2 : HlsNo rf gf bf) (z2 : high + low = 0 ∨ high + low = 2 * sc)
   (hret : ∀ (h' : Heap) (tk' : Nat), Fr h₀ L h' m → News h₀ L h' news → Q (.bool true) { s with heap := h', toks := tk' }) :
   wpAny (model pw w) (ktrTop dp un gd cn cs L a ccd [] []) (call (.ref 94) [.int r t1, .int g t2, .int b t3, .int sc t4]) Q E s := by
  refine wpAny_call ?_
  (k_dflt (refine' code_defS0 ?k1 ?k2 ?k3 ?k4 ?k5 ?kA ?k6 ?k7 ?k8 ?k9 ?kB ?_ ?cK ?c2 ?c3 ?c4 ?c5; (case kA => exact rfl); (case k2 => k_asm); (case k1 => k_asm); (case k3 => k_asm); (case k4 => k_asm); (case k5 => k_asm); (case k6 => k_is); (case k7 => k_is); (case k8 => (show dp < recursionLimit; omega)); (case k9 => exact BindsTo.of_eq rfl); (case kB => exact locs rfl); (case cK => assumption); (case c2 => exact rfl); (case c3 => exact rfl); (case c4 => exact rfl); (case c5 => decide); k_whole; intro g' L' h' FG' F' N' B' X' T' D'; (try dsimp only); (try k_fold)))
  k_steps
  all_goals (exact hret _ _ (by assumption) (cb_drop (by assumption) (fun p hp => by repeat (first | exact hp | apply List.mem_cons_of_mem))))
end
end Mine
end
section
open PySem PySem.W PyProof.Rows PySem.Calls PySem.Flt
namespace Mine
section
variable {w : World} {mean : ExcName → Option Value} {mg mb : Str → Option Value} {dp un : Nat} {gd : Option (List Code)} {cn : Str} {cs : Scope} {a : Addr} {ccd : Value} {cl : List (Str × Addr)} {outer : List Env} {A₀ : Around} {base h₀ : Heap} {L : Addr} {m : Str → Option Value} {news : List (Addr × Obj)} {s : Shared} {Q E : Value → Shared → Prop}

set_option maxRecDepth 100000 in
set_option maxHeartbeats 8000000 in
theorem c_hsvG {r g b : UInt64} {t1 t2 t3 : Tok}
   (B : Below A₀ base outer h₀) (F : Fr h₀ L s.heap m) (X : (hd.heap_39 w.params).In h₀) (N : News h₀ L s.heap news) (T : Top hd.view_39 lo mean mg mb h₀) (hk : cs.kind = .function) (hdp : dp + 1 < recursionLimit) (hu : un + 8 < cLine)
   (n0 : 1 ≤ s.toks) (n1 : t1 ≠ 0) (n2 : t2 ≠ 0) (n3 : t3 ≠ 0)
   (hne : (Float64.cmp (fmin3 r g b) (fmax3 r g b) == some .eq) = true)
   (hret : ∀ (D : Addr) (t u v : Tok) (h' : Heap) (tk' : Nat), t ≠ 0 → u ≠ 0 → v ≠ 0 → 1 ≤ tk' → Fr h₀ L h' m → News h₀ L h' ((D, tupF 0 0 (fmax3 r g b) t u v) :: news) → (∀ p ∈ news, p.1 < D) → Q (.ref D) { s with heap := h', toks := tk' }) :
   wpAny (model pw w) (ktrTop dp un gd cn cs L a ccd cl outer) (call (.ref 56) [.float r t1, .float g t2, .float b t3]) Q E s := by
  k_with_none
  (k_with "ite" => (k_here; k_dflt (first | refine ite_neg (ne_true_of_eq_false (by with_reducible assumption)) ?_ | refine ite_pos (by first | with_reducible assumption | ((try simp only [decide_eq_true_eq, Bool.not_eq_true', decide_eq_false_iff_not, Bool.false_bne, Bool.true_bne, bne_iff_ne, beq_iff_eq, beq_eq_false_iff_ne, ne_eq]); omega)) ?_ | refine ite_neg (by first | with_reducible assumption | ((try simp only [decide_eq_true_eq, Bool.not_eq_true', decide_eq_false_iff_not, Bool.false_bne, Bool.true_bne, bne_iff_ne, beq_iff_eq, beq_eq_false_iff_ne, ne_eq]); omega)) ?_)))
  (k_with "subscriptTail Name Constant ref int" => (k_here; k_dflt (refine' item_tupleT ?zzt ?zza ?zzb ?zzc ?zzd ?_; (case zzt => exact News.isTup (by k_asm) (by k_mem)); (case zza => decide); (case zzb => decide); (case zzc => rfl); (case zzd => rfl); k_whole)))
  (k_with "exec If" => (k_here; refine wpAny_If ?_))
  (k_with "eval Call" => (k_here; k_dflt (refine Call_ ?_)))
  (k_with "execs cons" => (k_here; (refine execs_cons_toks ?zzk1 ?_); (case zzk1 => (k_dflt ((try dsimp only); omega)))))
  (k_with "Pos1" => (unfold Pos1; intro hp1; (try dsimp only at hp1)))
  (k_with "call builtin:max" => (k_here; (with_reducible show wpAny _ _ (call (Value.builtin _) [Value.float _ _, Value.float _ _, Value.float _ _]) _ _ _); (k_dflt (refine' max3_t ?zze1 ?zze2 ?zze3 ?zzkn ?zzk0 ?zzk1 ?zzk2 (fun h' tk' v' n1' n2' F' N' => ?_))); (case zze1 => k_dflt omega); (case zze2 => k_dflt omega); (case zze3 => k_dflt omega); (case zzkn => (k_dflt ((try dsimp only); omega))); (case zzk0 => k_dflt (exact rfl)); (case zzk1 => k_asm); (case zzk2 => k_asm)))
  (k_with "call builtin:min" => (k_here; (with_reducible show wpAny _ _ (call (Value.builtin _) [Value.float _ _, Value.float _ _, Value.float _ _]) _ _ _); (k_dflt (refine' min3_t ?zzkn ?zzk0 ?zzk1 ?zzk2 (fun h' tk' v' n2' F' N' => ?_))); (case zzkn => (k_dflt ((try dsimp only); omega))); (case zzk0 => k_dflt (exact rfl)); (case zzk1 => k_asm); (case zzk2 => k_asm)))
  (k_with "call builtin:max" => (k_here; (with_reducible show wpAny _ _ (call (Value.builtin _) [Value.int _ _, Value.int _ _, Value.int _ _]) _ _ _); (k_dflt (refine' max3_n ?zzke ?zzkn ?zzk0 ?zzk1 ?zzk2 (fun h' tk' v' n2' F' N' => ?_))); (case zzke => assumption); (case zzkn => (k_dflt ((try dsimp only); omega))); (case zzk0 => k_dflt (exact rfl)); (case zzk1 => k_asm); (case zzk2 => k_asm)))
  (k_with "call builtin:min" => (k_here; (with_reducible show wpAny _ _ (call (Value.builtin _) [Value.int _ _, Value.int _ _, Value.int _ _]) _ _ _); (k_dflt (refine' min3_n ?zzke ?zzkn ?zzk0 ?zzk1 ?zzk2 (fun h' tk' v' n2' F' N' => ?_))); (case zzke => assumption); (case zzkn => (k_dflt ((try dsimp only); omega))); (case zzk0 => k_dflt (exact rfl)); (case zzk1 => k_asm); (case zzk2 => k_asm)))
  refine wpAny_call ?_
  k_dflt cell_enter
  k_steps
  all_goals (refine hret _ _ _ _ _ _ ?_ ?_ ?_ ?_ (by assumption) (by assumption) (by assumption) <;> (first | assumption | exact Nat.succ_ne_zero _ | exact Nat.ne_of_gt (by assumption) | omega | (dsimp only; omega)))

set_option maxRecDepth 100000 in
set_option maxHeartbeats 8000000 in
theorem c_hlsG {r g b : UInt64} {t1 t2 t3 : Tok}
   (B : Below A₀ base outer h₀) (F : Fr h₀ L s.heap m) (X : (hd.heap_39 w.params).In h₀) (N : News h₀ L s.heap news) (T : Top hd.view_39 lo mean mg mb h₀) (hk : cs.kind = .function) (hdp : dp + 1 < recursionLimit) (hu : un + 8 < cLine)
   (n0 : 1 ≤ s.toks) (n1 : t1 ≠ 0) (n2 : t2 ≠ 0) (n3 : t3 ≠ 0)
   (hne : (Float64.cmp (fmin3 r g b) (fmax3 r g b) == some .eq) = true)
   (hret : ∀ (D : Addr) (t u v : Tok) (h' : Heap) (tk' : Nat), t ≠ 0 → u ≠ 0 → v ≠ 0 → 1 ≤ tk' → Fr h₀ L h' m → News h₀ L h' ((D, tupF 0 (lightF r g b) 0 t u v) :: news) → (∀ p ∈ news, p.1 < D) → Q (.ref D) { s with heap := h', toks := tk' }) :
   wpAny (model pw w) (ktrTop dp un gd cn cs L a ccd cl outer) (call (.ref 35) [.float r t1, .float g t2, .float b t3]) Q E s := by
  refine wpAny_call ?_
  k_dflt cell_enter
  k_steps
  all_goals (refine hret _ _ _ _ _ _ ?_ ?_ ?_ ?_ (by assumption) (by assumption) (by assumption) <;> (first | assumption | exact Nat.succ_ne_zero _ | exact Nat.ne_of_gt (by assumption) | omega | (dsimp only; omega)))

set_option maxRecDepth 100000 in
set_option maxHeartbeats 8000000 in
theorem c_hsvRG {r g b : UInt64} {t1 t2 t3 : Tok}
   (B : Below A₀ base outer h₀) (F : Fr h₀ L s.heap m) (X : (hd.heap_39 w.params).In h₀) (N : News h₀ L s.heap news) (T : Top hd.view_39 lo mean mg mb h₀) (hk : cs.kind = .function) (hdp : dp + 1 < recursionLimit) (hu : un + 8 < cLine)
   (n0 : 1 ≤ s.toks) (n1 : t1 ≠ 0) (n2 : t2 ≠ 0) (n3 : t3 ≠ 0)
 (hs : (Float64.cmp g 0 == some .eq) = true)
   (hret : ∀ (D : Addr) (t u v : Tok) (h' : Heap) (tk' : Nat), t ≠ 0 → u ≠ 0 → v ≠ 0 → 1 ≤ tk' → Fr h₀ L h' m → News h₀ L h' ((D, tupF b b b t u v) :: news) → (∀ p ∈ news, p.1 < D) → Q (.ref D) { s with heap := h', toks := tk' }) :
   wpAny (model pw w) (ktrTop dp un gd cn cs L a ccd cl outer) (call (.ref 63) [.float r t1, .float g t2, .float b t3]) Q E s := by
  refine wpAny_call ?_
  k_dflt cell_enter
  k_steps
  all_goals (refine hret _ _ _ _ _ _ ?_ ?_ ?_ ?_ (by assumption) (by assumption) (by assumption) <;> (first | assumption | exact Nat.succ_ne_zero _ | exact Nat.ne_of_gt (by assumption) | omega | (dsimp only; omega)))

set_option maxRecDepth 100000 in
set_option maxHeartbeats 8000000 in
theorem c_hlsRG {r g b : UInt64} {t1 t2 t3 : Tok}
   (B : Below A₀ base outer h₀) (F : Fr h₀ L s.heap m) (X : (hd.heap_39 w.params).In h₀) (N : News h₀ L s.heap news) (T : Top hd.view_39 lo mean mg mb h₀) (hk : cs.kind = .function) (hdp : dp + 1 < recursionLimit) (hu : un + 8 < cLine)
   (n0 : 1 ≤ s.toks) (n1 : t1 ≠ 0) (n2 : t2 ≠ 0) (n3 : t3 ≠ 0)
 (hs : (Float64.cmp b 0 == some .eq) = true)
   (hret : ∀ (D : Addr) (t u v : Tok) (h' : Heap) (tk' : Nat), t ≠ 0 → u ≠ 0 → v ≠ 0 → 1 ≤ tk' → Fr h₀ L h' m → News h₀ L h' ((D, tupF g g g t u v) :: news) → (∀ p ∈ news, p.1 < D) → Q (.ref D) { s with heap := h', toks := tk' }) :
   wpAny (model pw w) (ktrTop dp un gd cn cs L a ccd cl outer) (call (.ref 42) [.float r t1, .float g t2, .float b t3]) Q E s := by
  refine wpAny_call ?_
  k_dflt cell_enter
  k_steps
  all_goals (refine hret _ _ _ _ _ _ ?_ ?_ ?_ ?_ (by assumption) (by assumption) (by assumption) <;> (first | assumption | exact Nat.succ_ne_zero _ | exact Nat.ne_of_gt (by assumption) | omega | (dsimp only; omega)))
end
end Mine
end
section
open PySem PySem.W PyProof.Rows PySem.Calls PySem.Flt
namespace Mine

theorem cmp00 : (Float64.cmp 0 0 == some .eq) = true := by decide +kernel
theorem gen_toks {α : Type} {M : Model} {A : Around} {t : Sem α} {Q : α → Shared → Prop} {E : Value → Shared → Prop} {s : Shared} {h : Heap} {tk : Nat} (h1 : 1 ≤ tk) (k : ∀ tk, 1 ≤ tk → wpAny M A t Q E { s with heap := h, toks := tk }) : wpAny M A t Q E { s with heap := h, toks := tk } := k tk h1
theorem fmax3_same (x : UInt64) : fmax3 x x x = x := by unfold fmax3 fmax; simp
theorem fmin3_same (x : UInt64) : fmin3 x x x = x := by unfold fmin3 fmin; simp
section
variable {w : World} {mean : ExcName → Option Value} {mg mb : Str → Option Value} {dp un : Nat} {gd : Option (List Code)} {cn : Str} {cs : Scope} {a : Addr} {ccd : Value} {cl : List (Str × Addr)} {outer : List Env} {A₀ : Around} {base h₀ : Heap} {L : Addr} {m : Str → Option Value} {news : List (Addr × Obj)} {s : Shared} {Q E : Value → Shared → Prop}

theorem c_hsvG2 {r g b x : UInt64} {t1 t2 t3 : Tok}
   (B : Below A₀ base outer h₀) (F : Fr h₀ L s.heap m) (X : (hd.heap_39 w.params).In h₀) (N : News h₀ L s.heap news) (T : Top hd.view_39 lo mean mg mb h₀) (hk : cs.kind = .function) (hdp : dp + 1 < recursionLimit) (hu : un + 8 < cLine)
   (n0 : 1 ≤ s.toks) (n1 : t1 ≠ 0) (n2 : t2 ≠ 0) (n3 : t3 ≠ 0)
   (hne : (Float64.cmp (fmin3 r g b) (fmax3 r g b) == some .eq) = true) (e : fmax3 r g b = x)
   (hret : ∀ (D : Addr) (t u v : Tok) (h' : Heap) (tk' : Nat), t ≠ 0 → u ≠ 0 → v ≠ 0 → 1 ≤ tk' → Fr h₀ L h' m → News h₀ L h' ((D, tupF 0 0 x t u v) :: news) → (∀ p ∈ news, p.1 < D) → Q (.ref D) { s with heap := h', toks := tk' }) :
   wpAny (model pw w) (ktrTop dp un gd cn cs L a ccd cl outer) (call (.ref 56) [.float r t1, .float g t2, .float b t3]) Q E s := by
  subst e
  exact c_hsvG B F X N T hk hdp hu n0 n1 n2 n3 hne hret

theorem c_hlsG2 {r g b x : UInt64} {t1 t2 t3 : Tok}
   (B : Below A₀ base outer h₀) (F : Fr h₀ L s.heap m) (X : (hd.heap_39 w.params).In h₀) (N : News h₀ L s.heap news) (T : Top hd.view_39 lo mean mg mb h₀) (hk : cs.kind = .function) (hdp : dp + 1 < recursionLimit) (hu : un + 8 < cLine)
   (n0 : 1 ≤ s.toks) (n1 : t1 ≠ 0) (n2 : t2 ≠ 0) (n3 : t3 ≠ 0)
   (hne : (Float64.cmp (fmin3 r g b) (fmax3 r g b) == some .eq) = true) (e : lightF r g b = x)
   (hret : ∀ (D : Addr) (t u v : Tok) (h' : Heap) (tk' : Nat), t ≠ 0 → u ≠ 0 → v ≠ 0 → 1 ≤ tk' → Fr h₀ L h' m → News h₀ L h' ((D, tupF 0 x 0 t u v) :: news) → (∀ p ∈ news, p.1 < D) → Q (.ref D) { s with heap := h', toks := tk' }) :
   wpAny (model pw w) (ktrTop dp un gd cn cs L a ccd cl outer) (call (.ref 35) [.float r t1, .float g t2, .float b t3]) Q E s := by
  subst e
  exact c_hlsG B F X N T hk hdp hu n0 n1 n2 n3 hne hret

set_option maxRecDepth 100000 in
set_option maxHeartbeats 8000000 in
theorem c_wheelG {r sc : Int} {t1 t2 t3 t4 : Tok} {rf lf : UInt64}
   (B : Below A₀ base outer h₀) (F : Fr h₀ L s.heap m) (X : (hd.heap_39 w.params).In h₀) (N : News h₀ L s.heap news) (T : Top hd.view_39 lo mean mg mb h₀) (hk : cs.kind = .function) (hdp : dp + 3 < recursionLimit) (hu : un + 200 < cLine)
  (hr : -2097152 ≤ r ∧ r ≤ 2097152) (hsc : 1 ≤ sc ∧ sc ≤ 1048576) (eh : max (max r r) r = r) (el : min (min r r) r = r)
  (e1 : qI r sc = rf) (hc : (Float64.cmp rf rf == some .eq) = true) (hne : (Float64.cmp (fmin3 rf rf rf) (fmax3 rf rf rf) == some .eq) = true) (ex : fmax3 rf rf rf = rf) (ey : lightF rf rf rf = lf) (hl : (Float64.cmp lf rf == some .eq) = true)
   (hret : ∀ (h' : Heap) (tk' : Nat), Fr h₀ L h' m → News h₀ L h' news → Q (.bool true) { s with heap := h', toks := tk' }) :
   wpAny (model pw w) (ktrTop dp un gd cn cs L a ccd cl outer) (call (.ref 94) [.int r t1, .int r t2, .int r t3, .int sc t4]) Q E s := by
  k_with_none
  (k_with "binaryOp Mult float int" => (k_here; (k_dflt (refine' mul_small ?zzk0 ?zzk1 ?_)); (case zzk0 => k_dflt (exact rfl)); (case zzk1 => k_dflt omega)))
  (k_with "call builtin:max" => (k_here; (with_reducible show wpAny _ _ (call (Value.builtin _) [Value.ref _]) _ _ _); (k_dflt (refine' max_tup ?zzk0 ?zzk1 ?zzk2 ?zzk3 (fun h' tk' v' F' N' => ?_))); (case zzk0 => k_dflt (exact rfl)); (case zzk1 => k_asm); (case zzk2 => k_asm); (case zzk3 => k_dflt k_mem)))
  (k_with "call builtin:min" => (k_here; (with_reducible show wpAny _ _ (call (Value.builtin _) [Value.ref _]) _ _ _); (k_dflt (refine' min_tup ?zzk0 ?zzk1 ?zzk2 ?zzk3 (fun h' tk' v' F' N' => ?_))); (case zzk0 => k_dflt (exact rfl)); (case zzk1 => k_asm); (case zzk2 => k_asm); (case zzk3 => k_dflt k_mem)))
  (k_with "binaryOp Div int int" => (k_here; (k_dflt (refine' div_q ?zzke ?zzk0 ?zzk1 ?zzk2 ?_)); (case zzke => first | assumption | solve_by_elim); (case zzk0 => k_dflt (exact rfl)); (case zzk1 => k_dflt omega); (case zzk2 => k_dflt omega)))
  (k_with "call builtin:max" => (k_here; (with_reducible show wpAny _ _ (call (Value.builtin _) [Value.int _ _, Value.int _ _]) _ _ _); (k_dflt (refine' max2_i ?zzk0 ?zzk1 ?zzk2 (fun h' tk' v' F' N' => ?_))); (case zzk0 => k_dflt (exact rfl)); (case zzk1 => k_asm); (case zzk2 => k_asm)))
  (k_with "call builtin:min" => (k_here; (with_reducible show wpAny _ _ (call (Value.builtin _) [Value.int _ _, Value.int _ _]) _ _ _); (k_dflt (refine' min2_i ?zzk0 ?zzk1 ?zzk2 (fun h' tk' v' F' N' => ?_))); (case zzk0 => k_dflt (exact rfl)); (case zzk1 => k_asm); (case zzk2 => k_asm)))
  (k_with "ite" => (k_here; k_dflt (first | refine ite_neg (ne_true_of_eq_false (by with_reducible assumption)) ?_ | refine ite_pos (by first | with_reducible assumption | ((try simp only [decide_eq_true_eq, Bool.not_eq_true', decide_eq_false_iff_not, Bool.false_bne, Bool.true_bne, bne_iff_ne, beq_iff_eq, beq_eq_false_iff_ne, ne_eq]); omega)) ?_ | refine ite_neg (by first | with_reducible assumption | ((try simp only [decide_eq_true_eq, Bool.not_eq_true', decide_eq_false_iff_not, Bool.false_bne, Bool.true_bne, bne_iff_ne, beq_iff_eq, beq_eq_false_iff_ne, ne_eq]); omega)) ?_)))
  (k_with "subscriptTail Name Constant ref int" => (k_here; k_dflt (refine' item_tupleT ?zzt ?zza ?zzb ?zzc ?zzd ?_; (case zzt => exact News.isTup (by k_asm) (by k_mem)); (case zza => decide); (case zzb => decide); (case zzc => rfl); (case zzd => rfl); k_whole)))
  (k_with "exec If" => (k_here; refine wpAny_If ?_))
  (k_with "eval Call" => (k_here; k_dflt (refine Call_ ?_)))
  (k_with "execs cons" => (k_here; (refine execs_cons_toks ?zzk1 ?_); (case zzk1 => (k_dflt ((try dsimp only); omega)))))
  (k_with "Pos1" => (unfold Pos1; intro hp1; (try dsimp only at hp1)))
  (k_with "call builtin:max" => (k_here; (with_reducible show wpAny _ _ (call (Value.builtin _) [Value.float _ _, Value.float _ _, Value.float _ _]) _ _ _); (k_dflt (refine' max3_t ?zze1 ?zze2 ?zze3 ?zzkn ?zzk0 ?zzk1 ?zzk2 (fun h' tk' v' n1' n2' F' N' => ?_))); (case zze1 => k_dflt omega); (case zze2 => k_dflt omega); (case zze3 => k_dflt omega); (case zzkn => (k_dflt ((try dsimp only); omega))); (case zzk0 => k_dflt (exact rfl)); (case zzk1 => k_asm); (case zzk2 => k_asm)))
  (k_with "call builtin:min" => (k_here; (with_reducible show wpAny _ _ (call (Value.builtin _) [Value.float _ _, Value.float _ _, Value.float _ _]) _ _ _); (k_dflt (refine' min3_t ?zzkn ?zzk0 ?zzk1 ?zzk2 (fun h' tk' v' n2' F' N' => ?_))); (case zzkn => (k_dflt ((try dsimp only); omega))); (case zzk0 => k_dflt (exact rfl)); (case zzk1 => k_asm); (case zzk2 => k_asm)))
  (k_with "call builtin:max" => (k_here; (with_reducible show wpAny _ _ (call (Value.builtin _) [Value.int _ _, Value.int _ _, Value.int _ _]) _ _ _); (k_dflt (refine' max3_n ?zzke ?zzkn ?zzk0 ?zzk1 ?zzk2 (fun h' tk' v' n2' F' N' => ?_))); (case zzke => assumption); (case zzkn => (k_dflt ((try dsimp only); omega))); (case zzk0 => k_dflt (exact rfl)); (case zzk1 => k_asm); (case zzk2 => k_asm)))
  (k_with "call builtin:min" => (k_here; (with_reducible show wpAny _ _ (call (Value.builtin _) [Value.int _ _, Value.int _ _, Value.int _ _]) _ _ _); (k_dflt (refine' min3_n ?zzke ?zzkn ?zzk0 ?zzk1 ?zzk2 (fun h' tk' v' n2' F' N' => ?_))); (case zzke => assumption); (case zzkn => (k_dflt ((try dsimp only); omega))); (case zzk0 => k_dflt (exact rfl)); (case zzk1 => k_asm); (case zzk2 => k_asm)))
  (k_with "call ref" => (k_here; (with_reducible show wpAny _ _ (call (Value.ref 56) [Value.float _ _, Value.float _ _, Value.float _ _]) _ _ _); (k_dflt (refine' c_hsvG2 ?zzk1 ?zzk2 ?zzk3 ?zzk4 ?zzk5 ?zzk6 ?zzk7 ?zzk8 ?zze0 ?zze1 ?zze2 ?zze3 ?zze4 ?zze5 (fun D' t' u' v' h' tk' k1' k2' k3' k4' F' N' l' => ?_))); (case zzk1 => k_asm); (case zzk2 => k_asm); (case zzk3 => k_asm); (case zzk4 => k_asm); (case zzk5 => k_asm); (case zzk6 => k_dflt (first | exact rfl | assumption)); (case zzk7 => k_dflt ktr_room); (case zzk8 => k_dflt ktr_units); (case zze0 => (k_dflt ((try dsimp only); omega))); (case zze1 => (k_dflt (first | assumption | exact Nat.succ_ne_zero _ | exact Nat.ne_of_gt (by assumption)))); (case zze2 => (k_dflt (first | assumption | exact Nat.succ_ne_zero _ | exact Nat.ne_of_gt (by assumption)))); (case zze3 => (k_dflt (first | assumption | exact Nat.succ_ne_zero _ | exact Nat.ne_of_gt (by assumption)))); (case zze4 => assumption); (case zze5 => assumption)))
  (k_with "call ref" => (k_here; (with_reducible show wpAny _ _ (call (Value.ref 35) [Value.float _ _, Value.float _ _, Value.float _ _]) _ _ _); (k_dflt (refine' c_hlsG2 ?zzk1 ?zzk2 ?zzk3 ?zzk4 ?zzk5 ?zzk6 ?zzk7 ?zzk8 ?zze0 ?zze1 ?zze2 ?zze3 ?zze4 ?zze5 (fun D' t' u' v' h' tk' k1' k2' k3' k4' F' N' l' => ?_))); (case zzk1 => k_asm); (case zzk2 => k_asm); (case zzk3 => k_asm); (case zzk4 => k_asm); (case zzk5 => k_asm); (case zzk6 => k_dflt (first | exact rfl | assumption)); (case zzk7 => k_dflt ktr_room); (case zzk8 => k_dflt ktr_units); (case zze0 => (k_dflt ((try dsimp only); omega))); (case zze1 => (k_dflt (first | assumption | exact Nat.succ_ne_zero _ | exact Nat.ne_of_gt (by assumption)))); (case zze2 => (k_dflt (first | assumption | exact Nat.succ_ne_zero _ | exact Nat.ne_of_gt (by assumption)))); (case zze3 => (k_dflt (first | assumption | exact Nat.succ_ne_zero _ | exact Nat.ne_of_gt (by assumption)))); (case zze4 => assumption); (case zze5 => assumption)))
  (k_with "call ref" => (k_here; (with_reducible show wpAny _ _ (call (Value.ref 63) [Value.float _ _, Value.float _ _, Value.float _ _]) _ _ _); (k_dflt (refine' c_hsvRG ?zzk1 ?zzk2 ?zzk3 ?zzk4 ?zzk5 ?zzk6 ?zzk7 ?zzk8 ?zze0 ?zze1 ?zze2 ?zze3 ?zze4 (fun D' t' u' v' h' tk' k1' k2' k3' k4' F' N' l' => ?_))); (case zzk1 => k_asm); (case zzk2 => k_asm); (case zzk3 => k_asm); (case zzk4 => k_asm); (case zzk5 => k_asm); (case zzk6 => k_dflt (first | exact rfl | assumption)); (case zzk7 => k_dflt ktr_room); (case zzk8 => k_dflt ktr_units); (case zze0 => (k_dflt ((try dsimp only); omega))); (case zze1 => (k_dflt (first | assumption | exact Nat.succ_ne_zero _ | exact Nat.ne_of_gt (by assumption)))); (case zze2 => (k_dflt (first | assumption | exact Nat.succ_ne_zero _ | exact Nat.ne_of_gt (by assumption)))); (case zze3 => (k_dflt (first | assumption | exact Nat.succ_ne_zero _ | exact Nat.ne_of_gt (by assumption)))); (case zze4 => (first | (with_reducible exact cmp00) | (with_reducible assumption)))))
  (k_with "call ref" => (k_here; (with_reducible show wpAny _ _ (call (Value.ref 42) [Value.float _ _, Value.float _ _, Value.float _ _]) _ _ _); (k_dflt (refine' c_hlsRG ?zzk1 ?zzk2 ?zzk3 ?zzk4 ?zzk5 ?zzk6 ?zzk7 ?zzk8 ?zze0 ?zze1 ?zze2 ?zze3 ?zze4 (fun D' t' u' v' h' tk' k1' k2' k3' k4' F' N' l' => ?_))); (case zzk1 => k_asm); (case zzk2 => k_asm); (case zzk3 => k_asm); (case zzk4 => k_asm); (case zzk5 => k_asm); (case zzk6 => k_dflt (first | exact rfl | assumption)); (case zzk7 => k_dflt ktr_room); (case zzk8 => k_dflt ktr_units); (case zze0 => (k_dflt ((try dsimp only); omega))); (case zze1 => (k_dflt (first | assumption | exact Nat.succ_ne_zero _ | exact Nat.ne_of_gt (by assumption)))); (case zze2 => (k_dflt (first | assumption | exact Nat.succ_ne_zero _ | exact Nat.ne_of_gt (by assumption)))); (case zze3 => (k_dflt (first | assumption | exact Nat.succ_ne_zero _ | exact Nat.ne_of_gt (by assumption)))); (case zze4 => (first | (with_reducible exact cmp00) | (with_reducible assumption)))))
  (k_with "compareOp Eq ref ref" => (k_here; (k_dflt (refine' eq_tup ?zzk1 ?zzk2 ?zzk3 ?zze1 ?zze2 ?zze3 ⟨?zzt1, ?zzt2, ?zzt3⟩ ⟨?zzu1, ?zzu2, ?zzu3⟩ ?zznb ?zzk4 ?_)); (case zzk1 => k_asm); (case zzk2 => k_dflt k_mem); (case zzk3 => k_dflt k_mem); (case zze1 => (first | (with_reducible exact cmp00) | (with_reducible assumption))); (case zze2 => (first | (with_reducible exact cmp00) | (with_reducible assumption))); (case zze3 => (first | (with_reducible exact cmp00) | (with_reducible assumption))); (case zzt1 => (k_dflt (first | assumption | exact Nat.succ_ne_zero _ | exact Nat.ne_of_gt (by assumption)))); (case zzt2 => (k_dflt (first | assumption | exact Nat.succ_ne_zero _ | exact Nat.ne_of_gt (by assumption)))); (case zzt3 => (k_dflt (first | assumption | exact Nat.succ_ne_zero _ | exact Nat.ne_of_gt (by assumption)))); (case zzu1 => (k_dflt (first | assumption | exact Nat.succ_ne_zero _ | exact Nat.ne_of_gt (by assumption)))); (case zzu2 => (k_dflt (first | assumption | exact Nat.succ_ne_zero _ | exact Nat.ne_of_gt (by assumption)))); (case zzu3 => (k_dflt (first | assumption | exact Nat.succ_ne_zero _ | exact Nat.ne_of_gt (by assumption)))); (case zznb => (k_dflt (refine none_booked (Frag.In.keeps (by k_asm) (Fr.keep (by k_asm))) (Top.keeps (by k_asm) (Fr.keep (by k_asm))) ?_; k_is))); (case zzk4 => k_dflt ktr_units)))
  refine wpAny_call ?_
  k_dflt cell_enter
  refine gen_toks (by with_unfolding_all exact Nat.le_add_left 1 (s.toks + 3)) (fun tk0 hn0 => ?_)
  k_steps
  all_goals (exact hret _ _ (by assumption) (cb_drop (by assumption) (fun p hp => by repeat (first | exact hp | apply List.mem_cons_of_mem))))
end
end Mine
end
section
open PySem PySem.W PyProof.Rows PySem.Calls PySem.Flt PySem.Spec
namespace Mine
section
variable {prog : Program} {w : World} {A : Around} {E : Value → Shared → Prop} {s : Shared} {env : Env} {h₀ : Heap} {x : Str} {body : List Stmt} {Q : Flow → Shared → Prop}

/-- a loop over a range by what holds between its turns -/
theorem krs_induct {I : Addr} {a c : Int} {n : Nat} {m₀ : Str → Option Value} {news₀ : List (Addr × Obj)} (P : Nat → Nat → (Str → Option Value) → List (Addr × Obj) → Prop)
    (h0 : P n 0 m₀ news₀)
    (base : ∀ i m news, P 0 i m news → ∀ h tk, Fr h₀ env.locals h m → News h₀ env.locals h news → Q .next { s with heap := h, toks := tk })
    (step : ∀ k i m news, P (k + 1) i m news → ∀ t h tk, Fr h₀ env.locals h (fun y => if y = x then some (.int (a + (i : Int) * c) t) else m y) →
      News h₀ env.locals h ((I, krsIt (a + ((i + 1 : Nat) : Int) * c) ((n : Int) - ((i + 1 : Nat) : Int)) c) :: news) →
      wpAny (model prog w) A (execs body env) (UnrPost h₀ env.locals { s with heap := h, toks := tk } I (krsIt (a + ((i + 1 : Nat) : Int) * c) ((n : Int) - ((i + 1 : Nat) : Int)) c) (fun m' news' => P k (i + 1) m' news') Q) E { s with heap := h, toks := tk }) :
    KrsRest prog w A E h₀ env x body Q s I a c n n 0 m₀ news₀ := by
  have all : ∀ k i m news, P k i m news → KrsRest prog w A E h₀ env x body Q s I a c n k i m news := by
    intro k
    induction k with
    | zero => exact fun i m news hP => base i m news hP
    | succ k ih =>
      intro i m news hP t h tk F N
      refine wpAny_mono (step k i m news hP t h tk F N) (fun f s₂ p => ?_) fun _ _ e => e
      have up : UnrEnd h₀ env.locals { s with heap := h, toks := tk } I (krsIt (a + ((i + 1 : Nat) : Int) * c) ((n : Int) - ((i + 1 : Nat) : Int)) c) (fun m' news' => P k (i + 1) m' news') s₂ →
          UnrEnd h₀ env.locals { s with heap := h, toks := tk } I (krsIt (a + ((i + 1 : Nat) : Int) * c) ((n : Int) - ((i + 1 : Nat) : Int)) c) (KrsRest prog w A E h₀ env x body Q s I a c n k (i + 1)) s₂ := by
        rintro ⟨h', tk', m', news', e, F', N', off, hp⟩
        exact ⟨h', tk', m', news', e, F', N', off, ih _ _ _ hp⟩
      cases f with
      | ret v => exact p
      | brk => exact p
      | next => exact up p
      | cont => exact up p
  exact all n 0 m₀ news₀ h0
end

abbrev tupI (r g b : Int) (t u o : Tok) : Obj := { cls := .type "tuple", data := .seq #[.int r t, .int g u, .int b o] }
def GoodItems (news : List (Addr × Obj)) (its : List Value) : Prop :=
  ∀ v ∈ its, ∃ (T : Addr) (r g b : Int) (t u o : Tok), v = .ref T ∧ (T, tupI r g b t u o) ∈ news ∧ (-2097152 ≤ r ∧ r ≤ 2097152) ∧ (-2097152 ≤ g ∧ g ≤ 2097152) ∧ (-2097152 ≤ b ∧ b ≤ 2097152)
theorem GoodItems.mono {news news' : List (Addr × Obj)} {its : List Value} (h : GoodItems news its) (hs : ∀ p ∈ news, p ∈ news') : GoodItems news' its := fun v hv => by
  obtain ⟨T, r, g, b, t, u, o, e, hm, hb⟩ := h v hv
  exact ⟨T, r, g, b, t, u, o, e, hs _ hm, hb⟩

theorem ints_get {vs : List Value} {ns : List Int} (h : IntsAre vs ns) : ∀ (i : Nat), i < ns.length → ∃ x t, vs[i]? = some (.int x t) ∧ x ∈ ns := by
  induction h with
  | nil => intro i hi; simp at hi
  | cons n t _ ih =>
    intro i hi
    cases i with
    | zero => exact ⟨n, t, rfl, List.mem_cons_self⟩
    | succ i =>
      obtain ⟨x, u, e, hm⟩ := ih i (by simpa using hi)
      exact ⟨x, u, by simpa using e, List.mem_cons_of_mem _ hm⟩
section
variable {prog : Program} {w : World} {A : Around} {E : Value → Shared → Prop} {s : Shared} {Q : Value → Shared → Prop} {h₀ : Heap} {L : Addr} {m : Str → Option Value} {news : List (Addr × Obj)}
theorem item_part {value slice : PySem.Expr} {l : Addr} {ws : List Value} {ns : List Int} {i : Int} {u : Tok} {k : Nat} (N : News h₀ L s.heap news) (hm : (l, W.listOf ws.toArray k) ∈ news) (hI : IntsAre ws ns)
    (hb : ∀ x ∈ ns, -2097152 ≤ x ∧ x ≤ 2097152) (h0 : 0 ≤ i) (hi : i < ns.length) (h63 : i < 1000)
    (h : ∀ x t, -2097152 ≤ x ∧ x ≤ 2097152 → Q (.int x t) s)
    (hs : subscripted slice false (.ref l) (.int i u) = operate [.ref l, .int i u] (getItem (.ref l) (.int i u)) := by with_unfolding_all rfl) :
    wpAny (model prog w) A (subscriptTail value slice (.ref l) (.int i u)) Q E s := by
  have hl : s.heap.IsList l ws.toArray := ⟨_, (N _ hm).1, rfl, k, rfl⟩
  obtain ⟨x, t, e, hx⟩ := ints_get hI i.toNat (by omega)
  exact tail_any hl.typeIs slot_list_getitem.lookup (wpAny_getItem_list hl h0 (by omega) (by simpa using e) (h x t (hb x hx))) hs
theorem add_col {C l : Addr} {its : List Value} {v : Value} {k k2 : Nat} (F : Fr h₀ L s.heap m) (N : News h₀ L s.heap news)
    (h1 : (C, W.listOf its.toArray k) ∈ news) (h2 : (l, W.listOf #[v] k2) ∈ news) (hsz : its.length ≤ 100)
    (h : ∀ D h', (∀ p ∈ news, p.1 < D) → Fr h₀ L h' m → News h₀ L h' ((D, W.listOf (its ++ [v]).toArray 0) :: news) → Q (.ref D) { s with heap := h' }) :
    wpAny (model prog w) A (binaryOp .Add (.ref C) (.ref l)) Q E s := by
  have hl : s.heap.IsList C its.toArray := ⟨_, (N _ h1).1, rfl, k, rfl⟩
  have hb : s.heap.IsList l #[v] := ⟨_, (N _ h2).1, rfl, k2, rfl⟩
  refine add_arrays F N hl hb (fun h' F' N' => h _ h' (fun p hp => Heap.lt_size (N p hp).1) F' N') ?_
  simp only [List.size_toArray, List.length_cons, List.length_nil]
  rw [sizeLine_eq]; omega
end
end Mine
end
section
open PySem PySem.W PyProof.Rows PySem.Calls PySem.Flt PySem.Spec
namespace Mine
/-- a number of the script's as a part -/
def partOf (n : Int) : Int := (n + 1048576).fmod 2097153 - 1048576
theorem partOf_bound (n : Int) : -2097152 ≤ partOf n ∧ partOf n ≤ 2097152 := by
  unfold partOf
  rw [Int.fmod_eq_emod_of_nonneg _ (by decide)]
  omega

/-- one turn of a comprehension over ints -/
structure CompOne (h₀ : Heap) (L : Addr) (m : Str → Option Value) (s₁ : Shared) (led : List (Addr × Obj)) (k : Int) (y : Value) (s₂ : Shared) : Prop where
  here : ∃ (h' : Heap) (tk' : Nat) (u : Tok), y = .int k u ∧ s₂ = { s₁ with heap := h', toks := tk' } ∧ Fr h₀ L h' m ∧ News h₀ L h' led
theorem ints_snoc {vs : List Value} {ns : List Int} (h : IntsAre vs ns) (n : Int) (t : Tok) : IntsAre (vs ++ [.int n t]) (ns ++ [n]) := by
  induction h with
  | nil => exact .cons _ _ .nil
  | cons m u _ ih => exact .cons m u ih
theorem ints_append {vs ws : List Value} {ns ms : List Int} (h : IntsAre vs ns) (h2 : IntsAre ws ms) : IntsAre (vs ++ ws) (ns ++ ms) := by
  induction h with
  | nil => exact h2
  | cons m u _ ih => exact .cons m u ih
theorem ints_at {vs : List Value} {ns : List Int} (h : IntsAre vs ns) : ∀ (i : Nat) (v : Value), vs[i]? = some v → ∃ n t, v = .int n t ∧ ns[i]? = some n := by
  induction h with
  | nil => intro i v e; simp at e
  | cons n t _ ih =>
    intro i v e
    cases i with
    | zero => exact ⟨n, t, by simpa using e.symm, rfl⟩
    | succ i => simpa using ih i v (by simpa using e)
theorem ints_len {vs : List Value} {ns : List Int} (h : IntsAre vs ns) : vs.length = ns.length := by
  induction h with
  | nil => rfl
  | cons n t _ ih => simp [ih]
section
variable {prog : Program} {w : World} {A : Around} {E : Value → Shared → Prop} {s : Shared} {h₀ : Heap} {L : Addr} {m : Str → Option Value} {news : List (Addr × Obj)} {env : Env}
theorem comp_ints {elt : Expr} {x : Str} {scope : Scope} {cl : List (Str × Addr)} {S : List (Addr × Obj) → Prop} {Fin : List Value → List (Addr × Obj) → Prop} {ws : List Value} {ns : List Int} (f : Int → Int)
    (hI : IntsAre ws ns) (hS : S news)
    (elem : ∀ n t I oI C oC D ys m₂ h tk (E' : Value → Shared → Prop), LCg.NsObj oC m₂ → m₂ x = some (.int n t) → Fr h₀ L h m → News h₀ L h ((I, oI) :: (C, oC) :: (D, LCg.lst ys) :: news) →
      wpAny (model prog w) A (eval elt (compEnvC scope cl C env)) (CompOne h₀ L m { s with heap := h, toks := tk } ((I, oI) :: (C, oC) :: (D, LCg.lst ys) :: news) (f n)) E' { s with heap := h, toks := tk })
    (fin : ∀ ys, IntsAre ys (ns.map f) → Fin ys news) :
    LCg.CompRest prog w A h₀ L m env elt x scope cl s S (fun i v => ws.toArray[i]? = some v) Fin ws.toArray.size 0 [] news := by
  have all : ∀ k i ys, i + k = ns.length → IntsAre ys ((ns.take i).map f) → LCg.CompRest prog w A h₀ L m env elt x scope cl s S (fun i v => ws.toArray[i]? = some v) Fin k i ys news := by
    intro k
    induction k with
    | zero =>
      intro i ys hk hy
      refine fin ys ?_
      rwa [List.take_of_length_le (by omega)] at hy
    | succ k ih =>
      intro i ys hk hy v I oI C oC D m₂ h tk E' hv hC hx F N off ne
      obtain ⟨n, t, rfl, en⟩ := ints_at hI i v (by simpa using hv)
      refine wpAny_mono (elem n t I oI C oC D ys m₂ h tk E' hC hx F N) (fun y s₂ hy2 => ?_) fun _ _ e => e
      obtain ⟨⟨h', tk', u, rfl, rfl, F', N'⟩⟩ := hy2
      refine ⟨h', tk', news, rfl, F', N', off, hS, ih (i + 1) _ (by omega) ?_⟩
      have e2 : ns.take (i + 1) = ns.take i ++ [n] := by
        rw [List.take_add_one, en]; rfl
      rw [e2, List.map_append]
      exact ints_snoc hy _ _
  have e : ws.toArray.size = ns.length := by simp [ints_len hI]
  rw [e]
  exact all ns.length 0 [] (by omega) (by simpa using IntsAre.nil)
theorem add_ints {Q : Value → Shared → Prop} {l l2 : Addr} {ys zs : List Value} {ns ms : List Int} {k k2 : Nat} (F : Fr h₀ L s.heap m) (N : News h₀ L s.heap news)
    (h1 : (l, W.listOf ys.toArray k) ∈ news) (h2 : (l2, W.listOf zs.toArray k2) ∈ news) (hy : IntsAre ys ns) (hz : IntsAre zs ms) (hn : ns.length + ms.length ≤ 1000)
    (h : ∀ D h' vs, (∀ p ∈ news, p.1 < D) → IntsAre vs (ns ++ ms) → Fr h₀ L h' m → News h₀ L h' ((D, W.listOf vs.toArray 0) :: news) → Q (.ref D) { s with heap := h' }) :
    wpAny (model prog w) A (binaryOp .Add (.ref l) (.ref l2)) Q E s := by
  have hl : s.heap.IsList l ys.toArray := ⟨_, (N _ h1).1, rfl, k, rfl⟩
  have hb : s.heap.IsList l2 zs.toArray := ⟨_, (N _ h2).1, rfl, k2, rfl⟩
  refine add_arrays F N hl hb (fun h' F' N' => h _ h' (ys ++ zs) (fun p hp => Heap.lt_size (N p hp).1) (ints_append hy hz) F' N') ?_
  simp only [List.size_toArray, ints_len hy, ints_len hz]
  rw [sizeLine_eq]; omega
theorem pow_20 {Q : Value → Shared → Prop} {t u : Tok} (h : Q (.int 1048576 s.toks) { s with toks := s.toks + 1 }) : wpAny (model prog w) A (binaryOp .Pow (.int 2 t) (.int 20 u)) Q E s :=
  pow_int_small (by decide) (by decide) (by decide) h
theorem pow_21 {Q : Value → Shared → Prop} {t u : Tok} (h : Q (.int 2097152 s.toks) { s with toks := s.toks + 1 }) : wpAny (model prog w) A (binaryOp .Pow (.int 2 t) (.int 21 u)) Q E s :=
  pow_int_small (by decide) (by decide) (by decide) h
end
end Mine
end
section
open PySem PySem.W PyProof.Rows PySem.Calls PySem.Flt
namespace Mine

theorem size_ok {ws : List Value} {ns : List Int} (hI : IntsAre ws ns) (h : ns.length ≤ 1000) : ws.toArray.size ≤ sizeLine := by
  simp only [List.size_toArray, ints_len hI]
  rw [sizeLine_eq]; omega
theorem rng_ok : ∀ K : Nat, K < 19 → Builtin.Range.small 0 (K : Int) 3 = true ∧ Builtin.Range.rangeSize 0 (K : Int) 3 = (((K + 2) / 3 : Nat) : Int) := by decide +kernel
theorem gen_col {G : Prop} {g h : Heap} {L Pa l D : Addr} {M : Str → Option Value} {vs ws its : List Value} {ps : List Int} {kc : Nat} {news : List (Addr × Obj)}
    (F : Fr g L h (fun y => if y = Str.ofString "colours" then some (.ref l) else M y)) (e : M (Str.ofString "parts") = some (.ref Pa)) (N : News g L h news) (hV : IntsAre vs ps)
    (h1 : (Pa, W.listOf vs.toArray 0) ∈ news) (h2 : (l, W.listOf its.toArray kc) ∈ news) (h3 : (D, W.listOf ws.toArray 0) ∈ news) (hn : its.length = 4) (hg : GoodItems news its)
    (k : ∀ (M0 : Str → Option Value) Pa l vs its kc news, Fr g L h (fun y => if y = Str.ofString "colours" then some (.ref l) else M0 y) → M0 (Str.ofString "parts") = some (.ref Pa) → News g L h news → IntsAre vs ps →
      (Pa, W.listOf vs.toArray 0) ∈ news → (l, W.listOf its.toArray kc) ∈ news → (D, W.listOf ws.toArray 0) ∈ news → its.length = 4 → GoodItems news its → G) : G :=
  k M Pa l vs its kc news F e N hV h1 h2 h3 hn hg
theorem map_close {M0 : Str → Option Value} {x y0 : Str} {a : Option Value} : (fun y => if y = x then a else M0 y) = (fun y => if y = x then a else if y = y0 then M0 y0 else M0 y) := by
  funext y
  by_cases h1 : y = x
  · simp [h1]
  · by_cases h2 : y = y0
    · simp [h2]
    · simp [h1, h2]
theorem map_again {M0 : Str → Option Value} {x y0 : Str} {a b c d : Option Value} : (fun y => if y = x then a else if y = y0 then b else if y = x then c else if y = y0 then d else M0 y) = (fun y => if y = x then a else if y = y0 then b else M0 y) := by
  funext y
  by_cases h1 : y = x
  · simp [h1]
  · by_cases h2 : y = y0
    · simp [h2]
    · simp [h1, h2]
/-- what holds between two turns of the loop of colours -/
def ColInv (M0 : Str → Option Value) (Pa D I : Addr) (vs ws : List Value) (n k i : Nat) (m : Str → Option Value) (news : List (Addr × Obj)) : Prop :=
  ∃ (C : Addr) (its : List Value) (kc : Nat) (sv : Option Value), m = (fun y => if y = Str.ofString "colours" then some (.ref C) else if y = Str.ofString "start" then sv else M0 y) ∧ k + i = n ∧ its.length ≤ 4 + i ∧
    (Pa, W.listOf vs.toArray 0) ∈ news ∧ (D, W.listOf ws.toArray 0) ∈ news ∧ (C, W.listOf its.toArray kc) ∈ news ∧ GoodItems news its ∧ ∀ p ∈ news, p.1 ≠ I
theorem col_end {g h' : Heap} {L D' l T I C9 Pa D : Addr} {o it : Obj} {its9 vs ws : List Value} {x y z : Int} {t u v : Tok} {sv sv9 : Option Value} {M0 : Str → Option Value} {news9 : List (Addr × Obj)} {n k i : Nat} {s₁ : Shared} {tk : Nat} {R : Prop}
    (F : Fr g L h' (fun y => if y = Str.ofString "colours" then some (.ref D') else if y = Str.ofString "start" then sv else (fun y => if y = Str.ofString "colours" then some (.ref C9) else if y = Str.ofString "start" then sv9 else M0 y) y))
    (N : News g L h' ((D', W.listOf (its9 ++ [Value.ref T]).toArray 0) :: (l, o) :: (T, tupI x y z t u v) :: (I, it) :: news9))
    (hl : ∀ p ∈ (l, o) :: (T, tupI x y z t u v) :: (I, it) :: news9, p.1 < D') (l1 : I < T ∧ R)
    (hx : -2097152 ≤ x ∧ x ≤ 2097152) (hy : -2097152 ≤ y ∧ y ≤ 2097152) (hz : -2097152 ≤ z ∧ z ≤ 2097152)
    (e1 : k + 1 + i = n) (e2 : its9.length ≤ 4 + i) (q1 : (Pa, W.listOf vs.toArray 0) ∈ news9) (q2 : (D, W.listOf ws.toArray 0) ∈ news9) (q4 : GoodItems news9 its9) (q5 : ∀ p ∈ news9, p.1 ≠ I) :
    UnrEnd g L s₁ I it (fun m' news' => ColInv M0 Pa D I vs ws n k (i + 1) m' news') { s₁ with heap := h', toks := tk } := by
  have hID : I < D' := hl _ (List.mem_cons_of_mem _ (List.mem_cons_of_mem _ List.mem_cons_self))
  have up : ∀ p ∈ news9, p ∈ (D', W.listOf (its9 ++ [Value.ref T]).toArray 0) :: (T, tupI x y z t u v) :: news9 := fun p hp => List.mem_cons_of_mem _ (List.mem_cons_of_mem _ hp)
  refine ⟨h', tk, _, (D', W.listOf (its9 ++ [Value.ref T]).toArray 0) :: (T, tupI x y z t u v) :: news9, rfl, F, fun p hp => N p ?_, fun p hp => ?_, ⟨D', its9 ++ [Value.ref T], 0, sv, map_again, by omega, by simp; omega, up _ q1, up _ q2, List.mem_cons_self, ?_, fun p hp => ?_⟩⟩
  · simp only [List.mem_cons] at hp ⊢
    rcases hp with h | h | h | h
    · exact Or.inr (Or.inr (Or.inr (Or.inl h)))
    · exact Or.inl h
    · exact Or.inr (Or.inr (Or.inl h))
    · exact Or.inr (Or.inr (Or.inr (Or.inr h)))
  · simp only [List.mem_cons] at hp
    rcases hp with rfl | rfl | h
    · exact Nat.ne_of_gt hID
    · exact Nat.ne_of_gt l1.1
    · exact q5 p h
  · intro w hw
    rcases List.mem_append.mp hw with h | h
    · exact (q4.mono up) w h
    · have : w = Value.ref T := by simpa using h
      exact ⟨T, x, y, z, t, u, v, this, List.mem_cons_of_mem _ List.mem_cons_self, hx, hy, hz⟩
  · simp only [List.mem_cons] at hp
    rcases hp with rfl | rfl | h
    · exact Nat.ne_of_gt hID
    · exact Nat.ne_of_gt l1.1
    · exact q5 p h
theorem len_drop1 {ns : List Int} (h : ns.length ≤ 19) : (ns.drop 1).length ≤ 1000 := by simp; omega
section
variable {w : World} {mean : ExcName → Option Value} {mg mb : Str → Option Value} {dp un : Nat} {gd : Option (List Code)} {cn : Str} {cs : Scope} {a : Addr} {ccd : Value} {cl : List (Str × Addr)} {outer : List Env} {A₀ : Around} {base h₀ : Heap} {L : Addr} {m : Str → Option Value} {news : List (Addr × Obj)} {s : Shared} {Q E : Value → Shared → Prop}


set_option maxRecDepth 100000 in
set_option maxHeartbeats 8000000 in
theorem c_colours {ws : List Value} {ns : List Int} {D : Addr} {sc : Int} {t1 : Tok}
   (B : Below A₀ base outer h₀) (F : Fr h₀ L s.heap m) (X : (hd.heap_39 w.params).In h₀) (N : News h₀ L s.heap [(D, W.listOf ws.toArray 0)]) (T : Top hd.view_39 lo mean mg mb h₀) (hk : cs.kind = .function) (hdp : dp + 1 < recursionLimit) (hu : un + 200 < cLine)
  (hI : IntsAre ws ns) (hl : ns.length ≤ 19) (hsc : 1 ≤ sc ∧ sc ≤ 1048576)
   (hret : ∀ (C : Addr) (its : List Value) (kc : Nat) (led : List (Addr × Obj)) (h' : Heap) (tk' : Nat), its.length ≤ 12 → (D, W.listOf ws.toArray 0) ∈ led → (C, W.listOf its.toArray kc) ∈ led → GoodItems led its → Fr h₀ L h' m → News h₀ L h' led → Q (.ref C) { s with heap := h', toks := tk' }) :
   wpAny (model pw w) (ktrTop dp un gd cn cs L a ccd cl outer) (call (.ref 99) [.ref D, .int sc t1]) Q E s := by
  k_with_none
  (k_with "storeName" => (k_here; (with_reducible show wpAny _ _ (storeName _ _ (Value.float _ _)) _ _ (Shared.mk _ _ _ (_ + _) _)); (refine gen_f ?_); intro t1 tk1))
  (k_with "storeName" => (k_here; (with_reducible show wpAny _ _ (storeName _ _ (Value.int _ _)) _ _ (Shared.mk _ _ _ (_ + _) _)); (refine gen_i ?_); intro t1 tk1))
  (k_with "execs cons" => (k_here; (with_reducible show wpAny _ _ (execs _ _) _ _ (Shared.mk _ _ _ (_ + _) _)); (refine gen_s ?_); intro tk1))
  (k_with "exec Assign" => (k_here; k_dflt (refine wpAny_Assign_Name ?_)))
  (k_with "eval Call" => (k_here; k_dflt (refine Call_ ?_)))
  (k_with "eval Name" => (k_here; k_dflt (refine' ld ?zzk1 ?zzk2 ?_; (case zzk1 => k_asm); (case zzk2 => assumption); k_whole)))
  (k_with "subscriptTail" => (k_here; (with_reducible show wpAny _ _ (subscriptTail _ _ (Value.ref _) (Value.int _ _)) _ _ _); k_dflt (refine' item_part ?zzk1 ?zzk2 ?zzk3 ?zzk4 ?zzk5 ?zzk6 ?zzk7 (fun x' t' hx' => ?_); (case zzk1 => k_asm); (case zzk2 => (repeat (first | assumption | refine List.mem_cons_of_mem _ ?_))); (case zzk3 => assumption); (case zzk4 => assumption); (case zzk5 => omega); (case zzk6 => omega); (case zzk7 => omega))))
  (k_with "exec For" => (k_here; k_dflt (refine For_invVF (by k_asm) (by rfl) (by rfl) ?_)))
  (k_with "eval ListComp" => (k_here; k_dflt (refine LCg.ListComp_U (F₀ := by k_asm) (by rfl) (by decide) (by rfl) (by decide) (by rfl) ?_)))
  (k_with "CompSrc" => (k_here; k_dflt (refine LCg.CompSrc.ledger (by rfl) (by k_asm) (by k_asm) (by k_mem) (size_ok (by assumption) (len_drop1 (by assumption))) ?_); intro g'; k_dflt (refine comp_ints partOf (by assumption) (Or.inr ⟨_, by k_mem, rfl, _, rfl⟩) (fun n' t' I' oI' C' oC' D' ys' m' h' tk' E' hC' hx' F' N' => ?_) (fun ys' hy' => ?_))))
  (k_with "CompOne" => (k_dflt (exact ⟨_, _, _, rfl, rfl, by k_asm, by k_asm⟩)))
  (k_with "binaryOp Pow int int" => (k_here; (first | with_reducible refine pow_20 ?_ | with_reducible refine pow_21 ?_)))
  (k_with "binaryOp Mod int int" => (k_here; (with_reducible refine mod_int' ?_ ?_; decide)))
  (k_with "binaryOp Add ref ref" => (k_here; k_dflt (refine' add_col ?zzk1 ?zzk2 ?zzk3 ?zzk4 ?zzk5 (fun D' h' l' F' N' => ?_); (case zzk1 => k_asm); (case zzk2 => k_asm); (case zzk3 => (repeat (first | assumption | refine List.mem_cons_of_mem _ ?_))); (case zzk4 => k_mem); (case zzk5 => omega))))
  (k_with "binaryOp Add ref ref" => (k_here; k_dflt (refine' add_ints ?zzk1 ?zzk2 ?zzk3 ?zzk4 ?zzk5 ?zzk6 ?zzk7 (fun D' h' vs' l' hv' F' N' => ?_); (case zzk1 => k_asm); (case zzk2 => k_asm); (case zzk3 => k_mem); (case zzk4 => k_mem); (case zzk5 => assumption); (case zzk6 => exact IntsAre.cons _ _ (IntsAre.cons _ _ IntsAre.nil)); (case zzk7 => (simp; omega)))))
  refine wpAny_call ?_
  k_dflt cell_enter
  k_steps
  rename IsRange _ _ _ _ _ _ _ _ => hr
  have eK : (((List.map partOf (List.drop 1 ns)).length + (1 + 1) : Nat) : Int) - 2 = ((ns.length - 1 : Nat) : Int) := by simp <;> omega
  rw [eK] at hr
  obtain ⟨hsm, hsz⟩ := rng_ok (ns.length - 1) (by omega)
  rename IntsAre _ (List.map partOf (List.drop 1 ns) ++ [0, 0]) => hV
  have hB : ∀ x ∈ (List.map partOf (List.drop 1 ns) ++ [0, 0]), -2097152 ≤ x ∧ x ≤ 2097152 := by
    intro x hx
    rcases List.mem_append.mp hx with h | h
    · obtain ⟨y, _, rfl⟩ := List.mem_map.mp h
      exact partOf_bound y
    · have : x = 0 := by simpa using h
      omega
  have hLen : (List.map partOf (List.drop 1 ns) ++ [0, 0]).length = (ns.length - 1) + 2 := by simp
  generalize List.map partOf (List.drop 1 ns) ++ [0, 0] = ps at hV hB hLen
  k_dflt (refine gen_col (D := D) (ws := ws) (by assumption) rfl (by assumption) hV (by k_mem) (by k_mem) (by k_mem) rfl ?hg ?_)
  case hg =>
    intro v hv
    simp only [List.mem_cons, List.not_mem_nil, or_false] at hv
    rcases hv with rfl | rfl | rfl | rfl <;> exact ⟨_, _, _, _, _, _, _, rfl, by k_mem, by omega, by omega, by omega⟩
  intro M0 Pa l9 vs9 its0 kc0 led0 F0 hp0 N0 hV0 hm1 hm2 hm3 hn4 hg0
  refine krs_iter rfl hr hsm hsz F0 N0 (fun I9 hI9 => ?_)
  refine krs_induct (ColInv M0 Pa D I9 vs9 ws ((ns.length - 1 + 2) / 3)) ?h0 ?base ?step
  case h0 => exact ⟨l9, its0, kc0, M0 (Str.ofString "start"), map_close, by omega, by omega, hm1, hm3, hm2, hg0, fun p hp => Nat.ne_of_lt (hI9 p hp)⟩
  case base =>
    rintro i m9 news9 ⟨C9, its9, kc9, sv9, rfl, e1, e2, q1, q2, q3, q4, q5⟩ h9 tk9 F9 N9
    k_steps
    exact hret C9 its9 kc9 news9 _ _ (by omega) q2 q3 q4 (by assumption) (by assumption)
  case step =>
    rintro k i m9 news9 ⟨C9, its9, kc9, sv9, rfl, e1, e2, q1, q2, q3, q4, q5⟩ t9 h9 tk9 F9 N9
    have a1 : (0 : Int) + (i : Int) * 3 + 2 < ps.length := by omega
    clear hr N0 F0 hI9 hg0 hm1 hm2 hm3
    (try dsimp only)
    (try k_fold)
    k_steps
    exact col_end (by assumption) (by assumption) (by assumption) (by assumption) (by assumption) (by assumption) (by assumption) e1 e2 q1 q2 q4 q5
end
end Mine
end
section
open PySem PySem.W PyProof.Rows PySem.Calls PySem.Flt PySem.Spec
namespace Mine
def TurnEnd (h₀ : Heap) (L : Addr) (news : List (Addr × Obj)) (JJ : (Str → Option Value) → Prop) (s₁ : Shared) (Q : Flow → Shared → Prop) (f : Flow) (s₂ : Shared) : Prop := match f with
  | .ret v => Q (.ret v) s₂
  | .brk => Q .next s₂
  | _ => ∃ h' tk m', s₂ = { s₁ with heap := h', toks := tk } ∧ Fr h₀ L h' m' ∧ News h₀ L h' news ∧ JJ m'
section
variable {prog : Program} {w : World} {A : Around} {E : Value → Shared → Prop} {s : Shared} {env : Env} {h₀ : Heap} {target : Expr} {body : List Stmt} {Q : Flow → Shared → Prop}
/-- a for over a list of the ledger's by what holds of the frame between its turns -/
theorem turns_list {m : Str → Option Value} {led : List (Addr × Obj)} {C : Addr} {its : List Value} {kc : Nat} (hh : A.handled = none) (F : Fr h₀ env.locals s.heap m) (N : News h₀ env.locals s.heap led)
    (hC : (C, W.listOf its.toArray kc) ∈ led) (JJ : (Str → Option Value) → Prop) (h0 : JJ m)
    (step : ∀ v m₁ news₁ h₁ tk₁, v ∈ its → JJ m₁ → (∀ p ∈ led, p ∈ news₁) → Fr h₀ env.locals h₁ m₁ → News h₀ env.locals h₁ news₁ →
      wpAny (model prog w) A (assign target env v) (fun _ s₃ => wpAny (model prog w) A (execs body env) (TurnEnd h₀ env.locals news₁ JJ { s with heap := h₁, toks := tk₁ } Q) E s₃) E { s with heap := h₁, toks := tk₁ })
    (hQ : ∀ h' tk m', JJ m' → Fr h₀ env.locals h' m' → Q .next { s with heap := h', toks := tk }) :
    wpAny (model prog w) A (pyIter (.ref C)) (fun it s₂ => TurnsAt prog w A h₀ env target body Q E it s₂) E s := by
  have hl : s.heap.IsList C its.toArray := ⟨_, (N _ hC).1, rfl, kc, rfl⟩
  have hlt : C < s.heap.objs.size := Heap.lt_size (N _ hC).1
  refine wpAny_pyIter_list hl ?_
  have up : ∀ b o, s.heap.get? b = some o → (s.heap.push { cls := .type "list_iterator", data := .fields #[.ref C, .int 0 0] }).get? b = some o := fun b o e => Heap.get?_push_of_some _ e
  have hLs : env.locals < s.heap.objs.size := F.ns.lt
  refine ⟨s.heap.objs.size, _, _, _, _, _, _, m, led, fun _ m₁ news₁ => JJ m₁ ∧ ∀ p ∈ led, p ∈ news₁, rfl, KTurns.ofWalks (Walks.list hh s.heap.objs.size C (Nat.ne_of_lt hlt) its.toArray) (fun i v s Q E st q => letGo_listiter st.1 q), ?_, ?_, ?_,
    ⟨⟨_, Heap.get?_push_size _ rfl, rfl, rfl⟩, hl.push _⟩, F.keeps up, N.grown up, ⟨h0, fun p hp => hp⟩, ?_, ?_⟩
  · intro hm
    rcases List.mem_cons.mp hm with e | hm
    · exact absurd hLs (e ▸ Nat.lt_irrefl _)
    · have e : env.locals = C := List.mem_singleton.mp hm
      exact (N _ hC).2.1 e.symm
  · intro b hb
    rw [List.mem_singleton.mp hb]
    exact next_is_new F
  · intro p hp hI
    exact absurd (Heap.lt_size (N p hp).1) ((List.mem_singleton.mp hI) ▸ Nat.lt_irrefl _)
  · intro i v m₁ news₁ h₁ tk₁ own hi hP hJ hoff _ _ _ hst F₁ N₁
    have hv : v ∈ its := by
      have : its.toArray[i]? = some v := hP
      have := Array.mem_of_getElem? this
      simpa using this
    refine wpAny_mono (step v m₁ (own ++ news₁) h₁ tk₁ hv hJ.1 (fun p hp => List.mem_append_right _ (hJ.2 p hp)) F₁ N₁) (fun _ s₃ h₃ => wpAny_mono h₃ (fun f s₄ h₄ => ?_) fun _ _ e => e) fun _ _ e => e
    cases f with
    | ret v => exact h₄
    | brk => exact h₄
    | cont =>
      obtain ⟨h', tk, m', rfl, F', N', j⟩ := h₄
      exact LoopStepV.cont (LoopStepU.intro F' N' hoff ⟨j, hJ.2⟩)
    | next =>
      obtain ⟨h', tk, m', rfl, F', N', j⟩ := h₄
      exact LoopStepV.next (LoopStepU.intro F' N' hoff ⟨j, hJ.2⟩)
  · intro h' tk m' news' F' N' _ hJ
    exact hQ h' tk m' hJ.1 F'
end
end Mine
end
section
namespace Mine
open PySem PySem.Float64

theorem halfEven_close (n d : Nat) (hd : 0 < d) : 2 * dist n (d * halfEven n d) ≤ d := by
  have hn := Nat.div_add_mod n d
  have hr := Nat.mod_lt n hd
  unfold halfEven dist
  simp only
  generalize n / d = q at *
  generalize n % d = r at *
  have hup : d * (q + 1) = d * q + d := by rw [Nat.mul_add, Nat.mul_one]
  split
  · rename_i h
    simp only [Bool.or_eq_true, decide_eq_true_eq, Bool.and_eq_true, beq_iff_eq] at h
    rw [hup]; omega
  · rename_i h
    simp only [Bool.or_eq_true, decide_eq_true_eq, Bool.and_eq_true, beq_iff_eq, not_or, not_and] at h
    omega
theorem halfEven_ge (n d : Nat) : n / d ≤ halfEven n d := by
  unfold halfEven; simp only; split <;> omega

theorem right_near {r : UInt64} {neg : Bool} {W D : Nat} (h : Right r neg W D) (hD : 0 < D) (hW : 2 * W < D * ((2 ^ 54 - 1) * 2 ^ 2045)) :
    ∃ t, t < infMag ∧ r = pack neg t ∧ (2 * dist W (D * V t) ≤ D ∨ 2 ^ 53 * dist W (D * V t) ≤ W) ∧ ∀ t', dist W (D * V t) ≤ dist W (D * V t') := by
  obtain ⟨t, e, hle, hover, hnear⟩ := h
  have hlt : t < infMag := by
    refine Nat.lt_of_le_of_ne hle fun q => ?_
    have := hover.mp q
    exact absurd this (Nat.not_le.mpr hW)
  have near := fun t' => (hnear hlt t').1
  refine ⟨t, hlt, e, ?_, near⟩
  by_cases hs : W < 2 ^ 52 * D
  · left
    have hq : halfEven W D ≤ 2 ^ 52 := by
      have h1 := halfEven_le' W D hD
      have h2 : W / D < 2 ^ 52 := (Nat.div_lt_iff_lt_mul hD).mpr hs
      omega
    have hV : V (halfEven W D) = halfEven W D := by
      have := V_at (k := 0) (q := halfEven W D) (by omega) (.inr rfl)
      simpa using this
    have h1 := near (halfEven W D)
    rw [hV] at h1
    have h2 := halfEven_close W D hD
    omega
  · right
    have hs' : 2 ^ 52 * D ≤ W := Nat.not_lt.mp hs
    have hDp : 0 < D * 2 ^ 52 := Nat.mul_pos hD (Nat.two_pow_pos _)
    have hne : W / (D * 2 ^ 52) ≠ 0 := by
      have : 1 ≤ W / (D * 2 ^ 52) := (Nat.le_div_iff_mul_le hDp).mpr (by rw [Nat.one_mul, Nat.mul_comm]; exact hs')
      omega
    have hlo := Nat.log2_self_le hne
    have hhi := @Nat.lt_log2_self (W / (D * 2 ^ 52))
    generalize (W / (D * 2 ^ 52)).log2 = k at hlo hhi
    have hlo' : 2 ^ k * (D * 2 ^ 52) ≤ W := (Nat.le_div_iff_mul_le hDp).mp hlo
    have hhi' : W < 2 ^ (k + 1) * (D * 2 ^ 52) := (Nat.div_lt_iff_lt_mul hDp).mp hhi
    have hk : 0 < D * 2 ^ k := Nat.mul_pos hD (Nat.two_pow_pos _)
    have e1 : 2 ^ k * (D * 2 ^ 52) = 2 ^ 52 * (D * 2 ^ k) := by ac_rfl
    have e2 : 2 ^ (k + 1) * (D * 2 ^ 52) = 2 ^ 53 * (D * 2 ^ k) := by
      rw [Nat.pow_succ, show (2 : Nat) ^ 53 = 2 * 2 ^ 52 by decide]; ac_rfl
    rw [e1] at hlo'
    rw [e2] at hhi'
    have hq1 : halfEven W (D * 2 ^ k) ≤ 2 ^ 53 := by
      have h1 := halfEven_le' W (D * 2 ^ k) hk
      have h2 : W / (D * 2 ^ k) < 2 ^ 53 := (Nat.div_lt_iff_lt_mul hk).mpr hhi'
      omega
    have hq2 : 2 ^ 52 ≤ halfEven W (D * 2 ^ k) := Nat.le_trans ((Nat.le_div_iff_mul_le hk).mpr hlo') (halfEven_ge _ _)
    have hV := V_at (k := k) hq1 (.inl hq2)
    have h1 := near (k * 2 ^ 52 + halfEven W (D * 2 ^ k))
    rw [hV, show D * (halfEven W (D * 2 ^ k) * 2 ^ k) = D * 2 ^ k * halfEven W (D * 2 ^ k) by ac_rfl] at h1
    have h2 := halfEven_close W (D * 2 ^ k) hk
    generalize D * 2 ^ k = X at *
    generalize dist W (D * V t) = d at *
    generalize dist W (X * halfEven W X) = d2 at *
    omega

theorem rep_V : ∀ (j N : Nat), N ≤ 2 ^ 53 → ∃ t, V t = N * 2 ^ j := by
  intro j
  induction j with
  | zero =>
    intro N hN
    exact ⟨0 * 2 ^ 52 + N, V_at hN (.inr rfl)⟩
  | succ j ih =>
    intro N hN
    by_cases h : 2 ^ 52 ≤ N
    · exact ⟨(j + 1) * 2 ^ 52 + N, V_at hN (.inl h)⟩
    · obtain ⟨t, ht⟩ := ih (2 * N) (by omega)
      exact ⟨t, by rw [ht, Nat.pow_succ]; ac_rfl⟩
end Mine
end
section
namespace Mine
open PySem PySem.Float64

def TT : Rat := (2 : Rat) ^ 1074
theorem TT_pos : 0 < TT := by unfold TT; exact Rat.pow_pos (by decide)
theorem TT_ne : TT ≠ 0 := by have := TT_pos; grind
def rv (x : UInt64) : Rat := (val x : Rat) / TT
def Fin (x : UInt64) : Prop := ∃ a m e, decode x = .fin a m e
theorem isFinite_of {x : UInt64} (h : Fin x) : isFinite x = true := by
  obtain ⟨a, m, e, h⟩ := h
  unfold isFinite; rw [h]
theorem fin_of {x : UInt64} (h : isFinite x = true) : Fin x := by
  unfold isFinite at h
  split at h
  · rename_i a m e q; exact ⟨a, m, e, q⟩
  · cases h

def eps : Rat := 1 / 9007199254740992
def eta : Rat := 1 / (2 * TT)
theorem eta_pos : 0 < eta := by
  unfold eta
  have := TT_pos
  rw [Rat.div_def]
  exact Rat.mul_pos (by decide) (Rat.inv_pos.mpr (by grind))

/-- within one rounding of z -/
structure Near (x : UInt64) (z : Rat) : Prop where
  fin : Fin x
  near : ∀ B, z ≤ B → -B ≤ z → rv x ≤ z + (eps * B + eta) ∧ z - (eps * B + eta) ≤ rv x
  exact : ∀ (N : Int) (j : Nat), N.natAbs ≤ 2 ^ 53 → z * TT = (N : Rat) * ((2 ^ j : Nat) : Rat) → rv x = z

theorem div_le_div {a b c : Rat} (hc : 0 < c) (h : a ≤ b) : a / c ≤ b / c := by
  rw [Rat.div_def, Rat.div_def]
  exact Rat.mul_le_mul_of_nonneg_right h (Rat.le_of_lt (Rat.inv_pos.mpr hc))

theorem le_of_mul {a b c : Rat} (hc : 0 < c) (h : a * c ≤ b * c) : a ≤ b := by
  rcases Rat.le_total (a := a) (b := b) with h1 | h1
  · exact h1
  · rcases Classical.em (a = b) with e | e
    · exact e ▸ Rat.le_refl
    · have hlt : b < a := by grind
      have := Rat.mul_lt_mul_of_pos_right hlt hc
      grind

theorem dist_nil {a b : Nat} (h : dist a b ≤ 0) : a = b := by
  have h := Nat.le_zero.mp h
  unfold dist at h
  have h1 := Nat.sub_eq_zero_iff_le.mp (Nat.eq_zero_of_add_eq_zero_right h)
  have h2 := Nat.sub_eq_zero_iff_le.mp (Nat.eq_zero_of_add_eq_zero_left h)
  exact Nat.le_antisymm h1 h2
theorem right_real {r : UInt64} {neg : Bool} {W D : Nat} (h : Right r neg W D) (hD : 0 < D) (hW : 2 * W < D * ((2 ^ 54 - 1) * 2 ^ 2045)) {z : Rat}
    (hz : z * ((D : Rat) * TT) = ((sgn neg W : Int) : Rat)) : Near r z := by
  obtain ⟨t, ht, rfl, hd, hall⟩ := right_near h hD hW
  obtain ⟨m, e, hdec, hv⟩ := decode_pack neg ht
  have hval : val (pack neg t) = sgn neg (V t) := val_pack neg ht
  have hD' : (0 : Rat) < (D : Rat) := by exact_mod_cast hD
  have hTD : (0 : Rat) < (D : Rat) * TT := Rat.mul_pos hD' TT_pos
  have hTn := TT_ne
  have hr : rv (pack neg t) * ((D : Rat) * TT) = ((sgn neg (D * V t) : Int) : Rat) := by
    unfold rv
    rw [hval, Nat.mul_comm, sgn_mul]
    push_cast
    grind
  have hne : (D : Rat) * TT ≠ 0 := fun q => by rw [q] at hTD; exact absurd hTD (by decide)
  refine ⟨⟨neg, m, e, hdec⟩, ?_, ?_⟩
  rotate_left
  · intro N j hN hzN
    obtain ⟨t', ht'⟩ := rep_V j N.natAbs hN
    have e1 : (sgn neg W : Int) = N * (((2 ^ j : Nat) : Int)) * (D : Int) := by
      have : ((sgn neg W : Int) : Rat) = ((N * (((2 ^ j : Nat) : Int)) * (D : Int) : Int) : Rat) := by
        rw [← hz]
        push_cast at hzN ⊢
        grind
      exact Rat.intCast_inj.mp this
    have e2 : W = D * V t' := by
      have := congrArg Int.natAbs e1
      rw [sgn_natAbs, Int.natAbs_mul, Int.natAbs_mul, Int.natAbs_natCast, Int.natAbs_natCast] at this
      rw [this, ht', Nat.mul_comm]
    have h3 := hall t'
    have h4 : dist W (D * V t') = 0 := by rw [← e2]; unfold dist; omega
    have h5 : W = D * V t := dist_nil (h4 ▸ h3)
    have h6 : rv (pack neg t) * ((D : Rat) * TT) = z * ((D : Rat) * TT) := by rw [hr, hz, ← h5]
    clear h hall hW hd ht hdec hv e1 e2 h3 h4 h5 hr hz hzN
    generalize rv (pack neg t) = x at *
    generalize (D : Rat) * TT = X at *
    grind
  have hab : (sgn neg (D * V t) : Int) - sgn neg W ≤ (dist W (D * V t) : Int) ∧ (sgn neg W : Int) - sgn neg (D * V t) ≤ (dist W (D * V t) : Int) := by
    unfold sgn dist
    cases neg <;> simp only [Bool.false_eq_true, if_true, if_false] <;> omega
  have hWa : (W : Int) = sgn neg W ∨ (W : Int) = - sgn neg W := by
    unfold sgn
    cases neg <;> simp
  intro B hB1 hB2
  generalize rv (pack neg t) = x at *
  generalize dist W (D * V t) = d at *
  generalize (sgn neg (D * V t) : Int) = a at *
  generalize (sgn neg W : Int) = b at *
  have h1 : (a : Rat) - b ≤ (d : Rat) := by exact_mod_cast hab.1
  have h2 : (b : Rat) - a ≤ (d : Rat) := by exact_mod_cast hab.2
  have hBX1 : z * ((D : Rat) * TT) ≤ B * ((D : Rat) * TT) := Rat.mul_le_mul_of_nonneg_right hB1 (Rat.le_of_lt hTD)
  have hBX2 : -B * ((D : Rat) * TT) ≤ z * ((D : Rat) * TT) := Rat.mul_le_mul_of_nonneg_right hB2 (Rat.le_of_lt hTD)
  have hWB : (W : Rat) ≤ B * ((D : Rat) * TT) := by
    rcases hWa with q | q
    · have q2 : (W : Rat) = (b : Rat) := by exact_mod_cast q
      grind
    · have q2 : (W : Rat) = -(b : Rat) := by exact_mod_cast q
      grind
  have hB0 : 0 ≤ B := by grind
  have heta : eta * ((D : Rat) * TT) = (D : Rat) / 2 := by unfold eta; grind
  have hX0 : 0 ≤ eta * ((D : Rat) * TT) := Rat.le_of_lt (Rat.mul_pos eta_pos hTD)
  have hBX0 : 0 ≤ B * ((D : Rat) * TT) := Rat.mul_nonneg hB0 (Rat.le_of_lt hTD)
  have hdR : (d : Rat) ≤ (eps * B + eta) * ((D : Rat) * TT) := by
    rcases hd with q | q
    · have q' : (2 : Rat) * (d : Rat) ≤ (D : Rat) := by exact_mod_cast q
      unfold eps
      grind
    · have q' : (9007199254740992 : Rat) * (d : Rat) ≤ (W : Rat) := by
        have : (9007199254740992 : Nat) * d ≤ W := q
        exact_mod_cast this
      unfold eps
      grind
  constructor
  · refine le_of_mul hTD ?_
    grind
  · refine le_of_mul hTD ?_
    grind
end Mine
end
section
namespace Mine
open PySem PySem.Float64

def BIG : Rat := (2 : Rat) ^ 500
theorem BIG_pos : 0 < BIG := by unfold BIG; exact Rat.pow_pos (by decide)
theorem BIG_TT : BIG * TT = ((2 ^ 1574 : Nat) : Rat) := by
  have e : (2 : Nat) ^ 1574 = 2 ^ 500 * 2 ^ 1074 := by rw [← Nat.pow_add]
  unfold BIG TT
  rw [e, Rat.natCast_mul, Rat.natCast_pow, Rat.natCast_pow]
  rfl
theorem over_ok {W D : Nat} (hD : 0 < D) (h : (W : Rat) ≤ BIG * ((D : Rat) * TT)) : 2 * W < D * ((2 ^ 54 - 1) * 2 ^ 2045) := by
  have e : BIG * ((D : Rat) * TT) = ((2 ^ 1574 * D : Nat) : Rat) := by
    rw [Rat.natCast_mul, ← BIG_TT]; grind
  rw [e] at h
  have h1 : W ≤ 2 ^ 1574 * D := by exact_mod_cast h
  have h2 : (2 : Nat) ^ 1574 ≤ 2 ^ 2045 := Nat.pow_le_pow_right (by decide) (by decide)
  have h3 : (2 : Nat) ^ 1574 * D ≤ 2 ^ 2045 * D := Nat.mul_le_mul_right D h2
  have h4 : 0 < (2 : Nat) ^ 2045 * D := Nat.mul_pos (Nat.two_pow_pos _) hD
  have h5 : ∀ c P : Nat, D * (c * P) = c * (P * D) := fun c P => by rw [Nat.mul_comm, Nat.mul_assoc]
  rw [h5]
  generalize (2 : Nat) ^ 2045 * D = Y at *
  generalize (2 : Nat) ^ 1574 * D = Z at *
  omega
theorem near_of {r : UInt64} {neg : Bool} {W D : Nat} {z : Rat} (h : Right r neg W D) (hD : 0 < D) (hz : z * ((D : Rat) * TT) = ((sgn neg W : Int) : Rat)) (h1 : z ≤ BIG) (h2 : -BIG ≤ z) : Near r z := by
  refine right_real h hD (over_ok hD ?_) hz
  have hD' : (0 : Rat) < (D : Rat) := by exact_mod_cast hD
  have hTD : (0 : Rat) < (D : Rat) * TT := Rat.mul_pos hD' TT_pos
  have a1 : z * ((D : Rat) * TT) ≤ BIG * ((D : Rat) * TT) := Rat.mul_le_mul_of_nonneg_right h1 (Rat.le_of_lt hTD)
  have a2 : -BIG * ((D : Rat) * TT) ≤ z * ((D : Rat) * TT) := Rat.mul_le_mul_of_nonneg_right h2 (Rat.le_of_lt hTD)
  rw [hz] at a1 a2
  have hWa : (W : Int) = sgn neg W ∨ (W : Int) = - sgn neg W := by
    unfold sgn
    cases neg <;> simp
  generalize (sgn neg W : Int) = b at *
  rcases hWa with q | q
  · have q2 : (W : Rat) = (b : Rat) := by exact_mod_cast q
    grind
  · have q2 : (W : Rat) = -(b : Rat) := by exact_mod_cast q
    grind
theorem rv_mul_TT (x : UInt64) : rv x * TT = (val x : Rat) := by unfold rv; have := TT_ne; grind
theorem rv_zero (b : Bool) : rv (zero b) = 0 ∧ Fin (zero b) := by
  obtain ⟨m, e, hd, hv⟩ := decode_pack b (t := 0) (by decide)
  have hval : val (zero b) = sgn b (V 0) := val_pack b (by decide)
  have hV : V 0 = 0 := by decide
  refine ⟨?_, ⟨b, m, e, hd⟩⟩
  unfold rv
  rw [hval, hV]
  have : sgn b 0 = 0 := by cases b <;> rfl
  rw [this]
  have := TT_ne
  grind
theorem near_zero (b : Bool) : Near (zero b) 0 := by
  refine ⟨(rv_zero b).2, fun B h1 h2 => ?_, fun N j _ _ => (rv_zero b).1⟩
  rw [(rv_zero b).1]
  have := eta_pos
  have hB : 0 ≤ B := h1
  unfold eps
  grind
theorem sgn_abs (s : Int) : sgn (decide (s < 0)) s.natAbs = s := by
  unfold sgn
  by_cases h : s < 0
  · simp [h]; omega
  · simp [h]; omega
theorem add_near {x y : UInt64} (hx : Fin x) (hy : Fin y) (h1 : rv x + rv y ≤ BIG) (h2 : -BIG ≤ rv x + rv y) : Near (add x y) (rv x + rv y) := by
  obtain ⟨a, m, e, hx⟩ := hx
  obtain ⟨b, k, f, hy⟩ := hy
  obtain ⟨hz, hn⟩ := add_right hx hy
  have e1 := rv_mul_TT x
  have e2 := rv_mul_TT y
  by_cases h0 : val x + val y = 0
  · rw [hz h0]
    have : rv x + rv y = 0 := by
      have q : ((val x + val y : Int) : Rat) = 0 := by rw [h0]; rfl
      push_cast at q
      have := TT_ne
      have q2 : (rv x + rv y) * TT = 0 := by grind
      grind
    rw [this]
    exact near_zero _
  · refine near_of (hn h0) (by decide) ?_ h1 h2
    rw [sgn_abs]
    push_cast
    grind
theorem sub_near {x y : UInt64} (hx : Fin x) (hy : Fin y) (h1 : rv x - rv y ≤ BIG) (h2 : -BIG ≤ rv x - rv y) : Near (sub x y) (rv x - rv y) := by
  obtain ⟨a, m, e, hx⟩ := hx
  obtain ⟨b, k, f, hy⟩ := hy
  obtain ⟨hz, hn⟩ := sub_right hx hy
  have e1 := rv_mul_TT x
  have e2 := rv_mul_TT y
  by_cases h0 : val x - val y = 0
  · rw [hz h0]
    have : rv x - rv y = 0 := by
      have q : ((val x - val y : Int) : Rat) = 0 := by rw [h0]; rfl
      push_cast at q
      have := TT_ne
      have q2 : (rv x - rv y) * TT = 0 := by grind
      grind
    rw [this]
    exact near_zero _
  · refine near_of (hn h0) (by decide) ?_ h1 h2
    rw [sgn_abs]
    push_cast
    grind
end Mine
end
section
namespace Mine
open PySem PySem.Float64

theorem TT_nat : ((2 ^ 1074 : Nat) : Rat) = TT := by unfold TT; rw [Rat.natCast_pow]; rfl
theorem sgn_xor (a b : Bool) (m k : Nat) : sgn (a != b) (m * k) = sgn a m * sgn b k := by
  unfold sgn
  cases a <;> cases b <;> simp [Int.mul_neg, Int.neg_mul]
theorem val_sgn {x : UInt64} {a : Bool} {m : Nat} {e : Int} (h : decode x = .fin a m e) : sgn a (val x).natAbs = val x := by
  rw [val_eq h, sgn_natAbs]
theorem mul_near {x y : UInt64} (hx : Fin x) (hy : Fin y) (h1 : rv x * rv y ≤ BIG) (h2 : -BIG ≤ rv x * rv y) : Near (mul x y) (rv x * rv y) := by
  obtain ⟨a, m, e, hx⟩ := hx
  obtain ⟨b, k, f, hy⟩ := hy
  have e1 := rv_mul_TT x
  have e2 := rv_mul_TT y
  refine near_of (mul_right hx hy) (Nat.two_pow_pos _) ?_ h1 h2
  rw [sgn_xor, val_sgn hx, val_sgn hy, TT_nat, Rat.intCast_mul, ← e1, ← e2]
  grind
theorem val_ne {y : UInt64} {b : Bool} {k : Nat} {f : Int} (hy : decode y = .fin b k f) (h : rv y ≠ 0) : k ≠ 0 := by
  intro h0
  apply h
  unfold rv
  rw [val_eq hy, h0, Nat.zero_mul]
  have : sgn b 0 = 0 := by cases b <;> rfl
  rw [this]
  have := TT_ne
  grind
theorem div_near {x y : UInt64} (hx : Fin x) (hy : Fin y) (h0 : rv y ≠ 0) (h1 : rv x / rv y ≤ BIG) (h2 : -BIG ≤ rv x / rv y) : Near (div x y) (rv x / rv y) := by
  obtain ⟨a, m, e, hx⟩ := hx
  obtain ⟨b, k, f, hy⟩ := hy
  have e1 := rv_mul_TT x
  have e2 := rv_mul_TT y
  have hk := val_ne hy h0
  have hTn := TT_ne
  have hv : val y ≠ 0 := by
    intro q
    apply h0
    unfold rv
    rw [q]
    grind
  refine near_of (div_right hx hy hk) (by omega) ?_ h1 h2
  have hb : (((val y).natAbs : Nat) : Rat) = (sgn b 1 : Int) * (val y : Rat) := by
    have : ((val y).natAbs : Int) = sgn b 1 * val y := by
      rw [← val_sgn hy]
      rw [sgn_natAbs]
      unfold sgn
      cases b <;> simp
    exact_mod_cast this
  have ha : ((sgn (a != b) ((val x).natAbs * 2 ^ 1074) : Int) : Rat) = (val x : Rat) * ((sgn b 1 : Int) * TT) := by
    rw [sgn_xor, val_sgn hx, Rat.intCast_mul, ← TT_nat]
    have : (sgn b (2 ^ 1074) : Int) = sgn b 1 * ((2 ^ 1074 : Nat) : Int) := by
      rw [← sgn_mul, Nat.one_mul]
    rw [this, Rat.intCast_mul]
    rfl
  rw [ha, hb, ← e1, ← e2]
  grind
theorem ofInt_near {i : Int} (h1 : (i : Rat) ≤ BIG) (h2 : -BIG ≤ (i : Rat)) : Near (ofInt i) (i : Rat) := by
  refine near_of (ofInt_right i) (by decide) ?_ h1 h2
  have : (sgn (decide (i < 0)) (i.natAbs * 2 ^ 1074) : Int) = i * ((2 ^ 1074 : Nat) : Int) := by
    rw [sgn_mul, sgn_abs]
  rw [this, Rat.intCast_mul]
  have e : (((2 ^ 1074 : Nat) : Int) : Rat) = TT := by rw [← TT_nat]; rfl
  rw [e]
  push_cast
  grind
theorem frac_near {a b : Int} (hb : b ≠ 0) (h1 : (a : Rat) / (b : Rat) ≤ BIG) (h2 : -BIG ≤ (a : Rat) / (b : Rat)) :
    Near (ofFrac (decide (a < 0) != decide (b < 0)) a.natAbs b.natAbs) ((a : Rat) / (b : Rat)) := by
  have hd : 0 < b.natAbs := by omega
  refine near_of (ofFrac_right (W := a.natAbs * 2 ^ 1074) (D := b.natAbs) hd rfl hd) hd ?_ h1 h2
  have hbR : (b : Rat) ≠ 0 := fun q => hb (by exact_mod_cast q)
  have hB : ((b.natAbs : Nat) : Rat) = (sgn (decide (b < 0)) 1 : Int) * (b : Rat) := by
    have : (b.natAbs : Int) = sgn (decide (b < 0)) 1 * b := by
      unfold sgn
      by_cases h : b < 0 <;> simp [h] <;> omega
    exact_mod_cast this
  have hA : ((sgn (decide (a < 0) != decide (b < 0)) (a.natAbs * 2 ^ 1074) : Int) : Rat) = (a : Rat) * ((sgn (decide (b < 0)) 1 : Int) * TT) := by
    rw [sgn_xor, sgn_abs, Rat.intCast_mul, ← TT_nat]
    have : (sgn (decide (b < 0)) (2 ^ 1074) : Int) = sgn (decide (b < 0)) 1 * ((2 ^ 1074 : Nat) : Int) := by
      rw [← sgn_mul, Nat.one_mul]
    rw [this, Rat.intCast_mul]
    rfl
  rw [hA, hB]
  grind
end Mine
end
section
namespace Mine
open PySem PySem.Float64
theorem BIG_ge : (1606938044258990275541962092341162602522202993782792835301376 : Rat) ≤ BIG := by
  have h : (1606938044258990275541962092341162602522202993782792835301376 : Nat) ≤ 2 ^ 500 := by decide +kernel
  have h2 : ((1606938044258990275541962092341162602522202993782792835301376 : Nat) : Rat) ≤ ((2 ^ 500 : Nat) : Rat) := Rat.natCast_le_natCast.mpr h
  have e : ((2 ^ 500 : Nat) : Rat) = BIG := by unfold BIG; rw [Rat.natCast_pow]; rfl
  rw [e] at h2
  exact h2
theorem eta_le : eta ≤ 1 / 1606938044258990275541962092341162602522202993782792835301376 := by
  have h : (1606938044258990275541962092341162602522202993782792835301376 : Nat) ≤ 2 ^ 1074 := by decide +kernel
  have h2 : ((1606938044258990275541962092341162602522202993782792835301376 : Nat) : Rat) ≤ ((2 ^ 1074 : Nat) : Rat) := Rat.natCast_le_natCast.mpr h
  rw [TT_nat] at h2
  have h3 : (1606938044258990275541962092341162602522202993782792835301376 : Rat) ≤ TT := h2
  have hp := TT_pos
  have hn := TT_ne
  have he : eta * (2 * TT) = 1 := by unfold eta; grind
  have h4 : eta * 1606938044258990275541962092341162602522202993782792835301376 ≤ eta * TT := Rat.mul_le_mul_of_nonneg_left h3 (Rat.le_of_lt eta_pos)
  grind
end Mine
end
section
namespace Mine
open PySem PySem.Float64

theorem rv_lt_iff {x y : UInt64} : rv x < rv y ↔ val x < val y := by
  have e1 := rv_mul_TT x
  have e2 := rv_mul_TT y
  have hp := TT_pos
  constructor
  · intro h
    have := Rat.mul_lt_mul_of_pos_right h hp
    rw [e1, e2] at this
    exact_mod_cast this
  · intro h
    have h' : (val x : Rat) < (val y : Rat) := by exact_mod_cast h
    rw [← e1, ← e2] at h'
    rcases Rat.le_total (a := rv y) (b := rv x) with q | q
    · have := Rat.mul_le_mul_of_nonneg_right q (Rat.le_of_lt hp)
      grind
    · grind
theorem rv_eq_iff {x y : UInt64} : rv x = rv y ↔ val x = val y := by
  have e1 := rv_mul_TT x
  have e2 := rv_mul_TT y
  constructor
  · intro h
    rw [h] at e1
    have : (val x : Rat) = (val y : Rat) := by rw [← e1, ← e2]
    exact_mod_cast this
  · intro h
    unfold rv
    rw [h]
theorem cmp_lt {x y : UInt64} (hx : Fin x) (hy : Fin y) : (cmp x y == some .lt) = decide (rv x < rv y) := by
  obtain ⟨a, m, e, hx⟩ := hx
  obtain ⟨b, k, f, hy⟩ := hy
  rw [cmp_right hx hy]
  by_cases h : rv x < rv y
  · rw [Int.compare_eq_lt.mpr (rv_lt_iff.mp h)]; simp [h]
  · have h' := mt rv_lt_iff.mpr h
    rcases Int.lt_trichotomy (val x) (val y) with q | q | q
    · exact absurd q h'
    · rw [Int.compare_eq_eq.mpr q]; simp [h]
    · rw [Int.compare_eq_gt.mpr q]; simp [h]
theorem cmp_gt {x y : UInt64} (hx : Fin x) (hy : Fin y) : (cmp x y == some .gt) = decide (rv y < rv x) := by
  obtain ⟨a, m, e, hx⟩ := hx
  obtain ⟨b, k, f, hy⟩ := hy
  rw [cmp_right hx hy]
  by_cases h : rv y < rv x
  · rw [Int.compare_eq_gt.mpr (rv_lt_iff.mp h)]; simp [h]
  · have h' := mt rv_lt_iff.mpr h
    rcases Int.lt_trichotomy (val x) (val y) with q | q | q
    · rw [Int.compare_eq_lt.mpr q]; simp [h]
    · rw [Int.compare_eq_eq.mpr q]; simp [h]
    · exact absurd q h'
theorem cmp_eq {x y : UInt64} (hx : Fin x) (hy : Fin y) : (cmp x y == some .eq) = decide (rv x = rv y) := by
  obtain ⟨a, m, e, hx⟩ := hx
  obtain ⟨b, k, f, hy⟩ := hy
  rw [cmp_right hx hy]
  by_cases h : rv x = rv y
  · rw [Int.compare_eq_eq.mpr (rv_eq_iff.mp h)]; simp [h]
  · have h' := mt rv_eq_iff.mpr h
    rcases Int.lt_trichotomy (val x) (val y) with q | q | q
    · rw [Int.compare_eq_lt.mpr q]; simp [h]
    · exact absurd q h'
    · rw [Int.compare_eq_gt.mpr q]; simp [h]
theorem cmp_ne {x y : UInt64} (hx : Fin x) (hy : Fin y) : (cmp x y != some .eq) = decide (rv x ≠ rv y) := by
  have := cmp_eq hx hy
  by_cases h : rv x = rv y
  · simp only [h, decide_true] at this
    simp [bne, this, h]
  · simp only [h, decide_false] at this
    simp [bne, this, h]
theorem cmp_le {x y : UInt64} (hx : Fin x) (hy : Fin y) : (cmp x y == some .lt || cmp x y == some .eq) = decide (rv x ≤ rv y) := by
  rw [cmp_lt hx hy, cmp_eq hx hy, ← Bool.decide_or]
  apply decide_eq_decide.mpr
  grind
theorem cmp_ge {x y : UInt64} (hx : Fin x) (hy : Fin y) : (cmp x y == some .gt || cmp x y == some .eq) = decide (rv y ≤ rv x) := by
  rw [cmp_gt hx hy, cmp_eq hx hy, ← Bool.decide_or]
  apply decide_eq_decide.mpr
  grind
theorem isZero_iff {x : UInt64} (hx : Fin x) : isZero x = decide (rv x = 0) := by
  obtain ⟨a, m, e, hx⟩ := hx
  have hp := TT_ne
  by_cases h : m = 0
  · have : rv x = 0 := by
      unfold rv
      rw [val_eq hx, h, Nat.zero_mul]
      have : sgn a 0 = 0 := by cases a <;> rfl
      rw [this]
      grind
    rw [this]
    unfold isZero
    rw [hx, h]
    rfl
  · have h2 : rv x ≠ 0 := by
      intro q
      have e1 := rv_mul_TT x
      rw [q, Rat.zero_mul] at e1
      have hv : val x = 0 := by exact_mod_cast e1.symm
      have := val_natAbs hx
      rw [hv] at this
      have h3 : 0 < m * 2 ^ (e + 1074).toNat := Nat.mul_pos (by omega) (Nat.two_pow_pos _)
      simp at this
      omega
    unfold isZero
    rw [hx]
    simp only [h2, decide_false]
    split
    · rename_i q; cases q; exact absurd rfl h
    · rfl
theorem cmpInt_lt {x : UInt64} (hx : Fin x) (i : Int) : (cmpInt x i == some .lt) = decide (rv x < (i : Rat)) := by
  obtain ⟨a, m, e, hx⟩ := hx
  rw [cmpInt_right hx i]
  have e1 := rv_mul_TT x
  have e2 : ((i * 2 ^ 1074 : Int) : Rat) = (i : Rat) * TT := by rw [Rat.intCast_mul, Rat.intCast_pow]; rfl
  have hp := TT_pos
  have key : rv x < (i : Rat) ↔ val x < i * 2 ^ 1074 := by
    constructor
    · intro h
      have := Rat.mul_lt_mul_of_pos_right h hp
      rw [e1, ← e2] at this
      exact_mod_cast this
    · intro h
      have h' : (val x : Rat) < ((i * 2 ^ 1074 : Int) : Rat) := by exact_mod_cast h
      rw [e2, ← e1] at h'
      rcases Rat.le_total (a := (i : Rat)) (b := rv x) with q | q
      · have := Rat.mul_le_mul_of_nonneg_right q (Rat.le_of_lt hp)
        grind
      · grind
  by_cases h : rv x < (i : Rat)
  · rw [Int.compare_eq_lt.mpr (key.mp h)]; simp [h]
  · have h' := mt key.mpr h
    rcases Int.lt_trichotomy (val x) (i * 2 ^ 1074) with q | q | q
    · exact absurd q h'
    · rw [Int.compare_eq_eq.mpr q]; simp [h]
    · rw [Int.compare_eq_gt.mpr q]; simp [h]
/-- a written float -/
theorem lit {x : UInt64} {m k : Nat} (h : decode x = .fin false m (-(k : Int))) (hk : k ≤ 1074) : Fin x ∧ rv x * ((2 ^ k : Nat) : Rat) = (m : Rat) := by
  refine ⟨⟨_, _, _, h⟩, ?_⟩
  have hv : val x = (m : Int) * ((2 ^ (1074 - k) : Nat) : Int) := by
    rw [val_eq h]
    unfold sgn
    have : (-(k : Int) + 1074).toNat = 1074 - k := by omega
    rw [this]
    simp
  have e1 := rv_mul_TT x
  have e2 : TT = ((2 ^ (1074 - k) : Nat) : Rat) * ((2 ^ k : Nat) : Rat) := by
    rw [← Rat.natCast_mul, ← Nat.pow_add, Nat.sub_add_cancel hk, TT_nat]
  have hne : ((2 ^ (1074 - k) : Nat) : Rat) ≠ 0 := by
    intro q
    have := TT_ne
    rw [e2, q, Rat.zero_mul] at this
    exact this rfl
  rw [hv, e2, Rat.intCast_mul] at e1
  have e3 : (((2 ^ (1074 - k) : Nat) : Int) : Rat) = ((2 ^ (1074 - k) : Nat) : Rat) := rfl
  have e4 : ((m : Int) : Rat) = (m : Rat) := rfl
  rw [e3, e4] at e1
  generalize ((2 ^ (1074 - k) : Nat) : Rat) = X at *
  generalize ((2 ^ k : Nat) : Rat) = Y at *
  grind
end Mine
end
section
namespace Mine
open PySem PySem.Float64

theorem toInt_eq {f : Bool → Nat → Int → Int} {y : UInt64} {a : Bool} {m : Nat} {e : Int} (h : decode y = .fin a m e) : Flt.toInt f y = f a m e := by
  unfold Flt.toInt; rw [h]
/-- the value as a quotient -/
theorem rv_shift {y : UInt64} {a : Bool} {m : Nat} {e : Int} (h : decode y = .fin a m e) : rv y * (((shift m 1 e).2 : Nat) : Rat) = ((sgn a (shift m 1 e).1 : Int) : Rat) := by
  have he := decode_ge h
  have hs := shift_one m e 1074 (by omega)
  have e1 := rv_mul_TT y
  rw [val_eq h] at e1
  have hT := TT_ne
  have key : ((sgn a (shift m 1 e).1 : Int) : Rat) * TT = ((sgn a (m * 2 ^ (e + 1074).toNat) : Int) : Rat) * (((shift m 1 e).2 : Nat) : Rat) := by
    rw [← TT_nat]
    have h2 : sgn a ((shift m 1 e).1 * 2 ^ 1074) = sgn a (m * 2 ^ (e + 1074).toNat * (shift m 1 e).2) := by
      have : ((1074 : Nat) : Int) = 1074 := rfl
      rw [this] at hs
      rw [hs]
    rw [sgn_mul, sgn_mul] at h2
    have := congrArg (fun i : Int => (i : Rat)) h2
    simp only [Rat.intCast_mul] at this
    exact this
  rw [← e1] at key
  generalize ((sgn a (shift m 1 e).1 : Int) : Rat) = A at *
  generalize (((shift m 1 e).2 : Nat) : Rat) = B at *
  grind
theorem round_spec {y : UInt64} (hy : Fin y) : rv y ≤ (Flt.toInt nearestOf y : Rat) + 1 / 2 ∧ (Flt.toInt nearestOf y : Rat) - 1 / 2 ≤ rv y := by
  obtain ⟨a, m, e, hy⟩ := hy
  rw [toInt_eq hy]
  have h1 := rv_shift hy
  have hd := shift_pos m 1 e (by decide)
  have hc := halfEven_close (shift m 1 e).1 (shift m 1 e).2 hd
  have en : nearestOf a m e = sgn a (halfEven (shift m 1 e).1 (shift m 1 e).2) := rfl
  rw [en]
  generalize (shift m 1 e).1 = n at *
  generalize (shift m 1 e).2 = d at *
  generalize halfEven n d = q at *
  have hD : (0 : Rat) < (d : Rat) := by exact_mod_cast hd
  have hab : 2 * ((sgn a n : Int) - sgn a q * (d : Int)) ≤ (d : Int) ∧ 2 * ((sgn a q : Int) * (d : Int) - sgn a n) ≤ (d : Int) := by
    rw [← sgn_mul]
    unfold sgn
    unfold dist at hc
    rw [Nat.mul_comm d q] at hc
    have hqd : ((q * d : Nat) : Int) = (q : Int) * (d : Int) := Int.natCast_mul q d
    generalize q * d = X at *
    cases a <;> simp only [Bool.false_eq_true, if_true, if_false] <;> omega
  have b1 : (2 : Rat) * (((sgn a n : Int) : Rat) - ((sgn a q : Int) : Rat) * (d : Rat)) ≤ (d : Rat) := by exact_mod_cast hab.1
  have b2 : (2 : Rat) * (((sgn a q : Int) : Rat) * (d : Rat) - ((sgn a n : Int) : Rat)) ≤ (d : Rat) := by exact_mod_cast hab.2
  rw [← h1] at b1 b2
  constructor
  · refine le_of_mul hD ?_
    grind
  · refine le_of_mul hD ?_
    grind
theorem round_eq {y : UInt64} {N : Int} (hy : Fin y) (h1 : rv y < (N : Rat) + 1 / 2) (h2 : (N : Rat) - 1 / 2 < rv y) : Flt.toInt nearestOf y = N := by
  obtain ⟨a1, a2⟩ := round_spec hy
  generalize Flt.toInt nearestOf y = K at *
  have c1 : (K : Rat) < (N : Rat) + 1 := by grind
  have c2 : (N : Rat) < (K : Rat) + 1 := by grind
  have d1 : K < N + 1 := by exact_mod_cast c1
  have d2 : N < K + 1 := by exact_mod_cast c2
  omega
theorem trunc_spec {y : UInt64} (hy : Fin y) (h0 : 0 ≤ rv y) : (Flt.toInt truncOf y : Rat) ≤ rv y ∧ rv y < (Flt.toInt truncOf y : Rat) + 1 ∧ 0 ≤ Flt.toInt truncOf y := by
  obtain ⟨a, m, e, hy⟩ := hy
  rw [toInt_eq hy]
  have h1 := rv_shift hy
  have hd := shift_pos m 1 e (by decide)
  have hD : (0 : Rat) < (((shift m 1 e).2 : Nat) : Rat) := by exact_mod_cast hd
  -- the value is the quotient, sign apart
  have hn : sgn a (shift m 1 e).1 = ((shift m 1 e).1 : Int) := by
    have : (0 : Rat) ≤ ((sgn a (shift m 1 e).1 : Int) : Rat) := by
      rw [← h1]; exact Rat.mul_nonneg h0 (Rat.le_of_lt hD)
    have h2 : 0 ≤ sgn a (shift m 1 e).1 := by exact_mod_cast this
    revert h2
    unfold sgn
    cases a <;> simp <;> omega
  have hf : truncOf a m e = (((shift m 1 e).1 / (shift m 1 e).2 : Nat) : Int) := by
    cases a
    · show floorOf false m e = _
      unfold floorOf shift
      split
      · simp [sgn]
      · simp only [sgn, Bool.false_eq_true, if_false, Nat.one_mul]
        rw [Int.fdiv_eq_ediv_of_nonneg _ (Int.le_of_lt (Int.pow_pos (by decide)))]
        push_cast
        rfl
    · have hz : (shift m 1 e).1 = 0 := by
        unfold sgn at hn; simp at hn; omega
      have hm : m = 0 := by
        unfold shift at hz
        split at hz
        · exact (Nat.mul_eq_zero.mp hz).resolve_right (Nat.ne_of_gt (Nat.two_pow_pos _))
        · exact hz
      rw [hz, Nat.zero_div]
      show ceilOf true m e = _
      unfold ceilOf floorOf
      rw [hm]
      simp [sgn]
  rw [hf]
  rw [hn] at h1
  generalize (shift m 1 e).1 = n at *
  generalize (shift m 1 e).2 = d at *
  have q1 := Nat.div_mul_le_self n d
  have q2 := Nat.lt_div_mul_add hd (a := n)
  have r1 : (((n / d : Nat) : Int) : Rat) * (d : Rat) ≤ (n : Rat) := by
    have : ((n / d * d : Nat) : Rat) ≤ (n : Rat) := by exact_mod_cast q1
    rw [Rat.natCast_mul] at this
    exact this
  have r2 : (n : Rat) < (((n / d : Nat) : Int) : Rat) * (d : Rat) + (d : Rat) := by
    have : (n : Rat) < ((n / d * d + d : Nat) : Rat) := by exact_mod_cast q2
    rw [Rat.natCast_add, Rat.natCast_mul] at this
    exact this
  have e1 : (((n : Nat) : Int) : Rat) = (n : Rat) := rfl
  rw [e1] at h1
  generalize (((n / d : Nat) : Int) : Rat) = K at *
  refine ⟨le_of_mul hD (by grind), ?_, Int.natCast_nonneg _⟩
  rcases Rat.le_total (a := K + 1) (b := rv y) with q | q
  · have := Rat.mul_le_mul_of_nonneg_right q (Rat.le_of_lt hD)
    grind
  · rcases Classical.em (rv y = K + 1) with q' | q'
    · have : (K + 1) * (d : Rat) = (n : Rat) := by rw [← q', h1]
      grind
    · grind
end Mine
end
section
namespace Mine
open PySem PySem.Float64

theorem decode_lt {x : UInt64} {a : Bool} {m : Nat} {e : Int} (h : decode x = .fin a m e) : m < 2 ^ 53 := by
  unfold decode at h
  simp only at h
  have hf : x.toNat % 2 ^ 52 < 2 ^ 52 := Nat.mod_lt _ (by decide)
  split at h
  · split at h <;> cases h
  · split at h
    · cases h; omega
    · cases h; omega
theorem abs_decode {x : UInt64} {a : Bool} {m : Nat} {e : Int} (h : decode x = .fin a m e) : decode (Float64.abs x) = .fin false m e := by
  have hnan : isNaN x = false := by unfold isNaN; rw [h]
  have hA : Float64.abs x = pack false (x.toNat % 2 ^ 63) := by
    unfold Float64.abs
    rw [if_neg (by simp [hnan])]
  have hlt : x.toNat % 2 ^ 63 < 2 ^ 63 := Nat.mod_lt _ (by decide)
  have hN : (Float64.abs x).toNat = x.toNat % 2 ^ 63 := by rw [hA, pack_toNat false hlt]; simp
  have h1 : (Float64.abs x).toNat / 2 ^ 63 = 0 := by rw [hN]; exact Nat.div_eq_of_lt hlt
  have h2 : (Float64.abs x).toNat / 2 ^ 52 % 2048 = x.toNat / 2 ^ 52 % 2048 := by rw [hN, show (2 : Nat) ^ 63 = 2 ^ 52 * 2048 by decide, Nat.mod_mul_right_div_self, Nat.mod_mod]
  have h3 : (Float64.abs x).toNat % 2 ^ 52 = x.toNat % 2 ^ 52 := by rw [hN, show (2 : Nat) ^ 63 = 2 ^ 52 * 2048 by decide, Nat.mod_mul_right_mod]
  unfold decode at h ⊢
  simp only [h1, h2, h3] at h ⊢
  split at h
  · split at h <;> cases h
  · rename_i q1
    rw [if_neg q1]
    split at h
    · rename_i q2; rw [if_pos q2]; cases h; rfl
    · rename_i q2; rw [if_neg q2]; cases h; rfl
theorem abs_spec {x : UInt64} (hx : Fin x) : Fin (Float64.abs x) ∧ (rv (Float64.abs x) = rv x ∨ rv (Float64.abs x) = -rv x) ∧ 0 ≤ rv (Float64.abs x) := by
  obtain ⟨a, m, e, hx⟩ := hx
  have hd := abs_decode hx
  refine ⟨⟨_, _, _, hd⟩, ?_, ?_⟩
  · unfold rv
    rw [val_eq hd, val_eq hx]
    cases a
    · exact .inl rfl
    · right
      unfold sgn
      simp only [Bool.false_eq_true, if_false, if_true, Rat.intCast_neg]
      grind
  · have e1 := rv_mul_TT (Float64.abs x)
    rw [val_eq hd] at e1
    have h0 : (0 : Rat) ≤ ((sgn false (m * 2 ^ (e + 1074).toNat) : Int) : Rat) := by
      unfold sgn
      simp only [Bool.false_eq_true, if_false]
      exact (Rat.intCast_le_intCast (a := 0)).mpr (Int.natCast_nonneg _)
    refine le_of_mul TT_pos ?_
    rw [e1, Rat.zero_mul]
    exact h0

def one' : UInt64 := 0x3ff0000000000000
theorem decode_one : decode 0x3ff0000000000000 = .fin false (2 ^ 52) (-52) := by with_unfolding_all rfl
theorem one_spec : Fin 0x3ff0000000000000 ∧ rv 0x3ff0000000000000 = 1 := by
  obtain ⟨h1, h2⟩ := lit (x := 0x3ff0000000000000) (m := 2 ^ 52) (k := 52) decode_one (by decide)
  refine ⟨h1, ?_⟩
  have : ((2 ^ 52 : Nat) : Rat) ≠ 0 := by decide
  grind
/-- the remainder by one, of a float: exact, with the float's own sign -/
theorem fmod_one {x : UInt64} {a : Bool} {m : Nat} {e : Int} (hx : decode x = .fin a m e) :
    Fin (fmod x 0x3ff0000000000000) ∧ rv (fmod x 0x3ff0000000000000) * TT = ((sgn a ((val x).natAbs % 2 ^ 1074) : Int) : Rat) := by
  have he := decode_ge hx
  have hm := decode_lt hx
  have hdef : fmod x 0x3ff0000000000000 = ofBin a ((m * 2 ^ (e - min e (-52)).toNat) % (2 ^ 52 * 2 ^ (-52 - min e (-52)).toNat)) (min e (-52)) := by
    unfold fmod
    rw [hx, decode_one]
    simp only [align, sgn, Bool.false_eq_true, if_false]
    rw [if_neg (by decide)]
    simp only [Int.toNat_natCast]
  rw [hdef]
  generalize hg : min e (-52) = g
  have hg1 : g ≤ e := by omega
  have hg2 : g ≤ -52 := by omega
  have hg3 : -1074 ≤ g := by omega
  have hg4 : g = e ∨ g = -52 := by omega
  clear hg hdef
  have hr : ((val x).natAbs % 2 ^ 1074) = (m * 2 ^ (e - g).toNat) % (2 ^ 52 * 2 ^ (-52 - g).toNat) * 2 ^ (g + 1074).toNat := by
    rw [val_natAbs hx]
    have n1 : 0 ≤ g + 1074 := Int.add_le_add_right hg3 1074
    have e1 : (e + 1074).toNat = (e - g).toNat + (g + 1074).toNat := by
      rw [← Int.toNat_add (Int.sub_nonneg.mpr hg1) n1, show e - g + (g + 1074) = e + 1074 by omega]
    have e2 : (1074 : Nat) = (52 + (-52 - g).toNat) + (g + 1074).toNat := by
      rw [Nat.add_assoc, ← Int.toNat_add (Int.sub_nonneg.mpr hg2) n1, show -52 - g + (g + 1074) = 1022 by omega]
      rfl
    rw [e1]
    conv => lhs; rhs; rw [e2]
    rw [Nat.pow_add 2 (e - g).toNat, Nat.pow_add 2 (52 + (-52 - g).toNat), Nat.pow_add 2 52, ← Nat.mul_assoc, Nat.mul_mod_mul_right]
  have hb : (m * 2 ^ (e - g).toNat) % (2 ^ 52 * 2 ^ (-52 - g).toNat) ≤ 2 ^ 53 := by
    by_cases q : e ≤ -52
    · have : (e - g).toNat = 0 := by omega
      rw [this, Nat.pow_zero, Nat.mul_one]
      exact Nat.le_trans (Nat.mod_le _ _) (by omega)
    · have : (-52 - g).toNat = 0 := by omega
      rw [this, Nat.pow_zero, Nat.mul_one]
      exact Nat.le_trans (Nat.le_of_lt (Nat.mod_lt _ (by decide))) (by decide)
  generalize (m * 2 ^ (e - g).toNat) % (2 ^ 52 * 2 ^ (-52 - g).toNat) = p at *
  rw [hr]
  have hR : Right (ofBin a p g) a (p * 2 ^ (g + 1074).toNat) 1 := by
    unfold ofBin
    refine ofFrac_right (shift_pos _ _ _ (by decide)) ?_ (by decide)
    have := shift_one p g 1074 (by omega)
    rw [Nat.mul_one]
    exact this
  have hlt : p * 2 ^ (g + 1074).toNat < 2 ^ 1074 := by rw [← hr]; exact Nat.mod_lt _ (Nat.two_pow_pos _)
  have hT := TT_ne
  have hTp := TT_pos
  have hN : Near (ofBin a p g) (((sgn a (p * 2 ^ (g + 1074).toNat) : Int) : Rat) / TT) := by
    refine right_real hR (by decide) ?_ ?_
    · have h2 : (2 : Nat) ^ 1074 ≤ 2 ^ 2045 := Nat.pow_le_pow_right (by decide) (by decide)
      generalize (2 : Nat) ^ 2045 = Y at *
      generalize (2 : Nat) ^ 1074 = Z at *
      omega
    · push_cast
      grind
  refine ⟨hN.fin, ?_⟩
  have hs : (sgn a (p * 2 ^ (g + 1074).toNat) : Int) = sgn a p * ((2 ^ (g + 1074).toNat : Nat) : Int) := sgn_mul _ _ _
  have := hN.exact (sgn a p) (g + 1074).toNat (by rw [sgn_natAbs]; exact hb) (by
    rw [hs, Rat.intCast_mul]
    have e5 : (((2 ^ (g + 1074).toNat : Nat) : Int) : Rat) = ((2 ^ (g + 1074).toNat : Nat) : Rat) := rfl
    rw [e5]
    grind)
  rw [this]
  grind
end Mine
end
section
namespace Mine
open PySem PySem.Float64

theorem copysign_one : copysign (zero false) 0x3ff0000000000000 = zero false := by decide +kernel
theorem lt_one_zero : lt 0x3ff0000000000000 (zero false) = false := by decide +kernel
theorem modF_eq (x : UInt64) : modF x = if isZero (fmod x 0x3ff0000000000000) then zero false else if lt (fmod x 0x3ff0000000000000) (zero false) then add (fmod x 0x3ff0000000000000) 0x3ff0000000000000 else fmod x 0x3ff0000000000000 := by
  unfold modF divmod
  simp only
  rw [copysign_one, lt_one_zero]
  by_cases h1 : isZero (fmod x 0x3ff0000000000000) = true
  · rw [if_pos h1, if_pos h1]
  · rw [if_neg h1, if_neg h1]
    by_cases h2 : lt (fmod x 0x3ff0000000000000) (zero false) = true
    · rw [if_pos (by rw [h2]; rfl), if_pos h2]
    · have h2' : lt (fmod x 0x3ff0000000000000) (zero false) = false := by simpa using h2
      rw [if_neg (by rw [h2']; decide), if_neg h2]
theorem lt_zero {x : UInt64} (hx : Fin x) : lt x (zero false) = decide (rv x < 0) := by
  have := cmp_lt hx (rv_zero false).2
  rw [(rv_zero false).1] at this
  exact this
inductive ModIs (x : UInt64) : Prop
  | low : 0 ≤ rv x → rv x < 1 → Fin (modF x) → rv (modF x) = rv x → ModIs x
  | high : 1 ≤ rv x → rv x < 2 → Fin (modF x) → rv (modF x) = rv x - 1 → ModIs x
  | neg : rv x < 0 → -1 < rv x → Near (modF x) (rv x + 1) → ModIs x
theorem lt_of_mul {a b c : Rat} (hc : 0 < c) (h : a * c < b * c) : a < b := Rat.not_le.mp fun q => absurd (Rat.mul_le_mul_of_nonneg_right q (Rat.le_of_lt hc)) (Rat.not_le.mpr h)
theorem rv_bound_val {x : UInt64} : (rv x < 1 ↔ val x < 2 ^ 1074) ∧ (rv x < 2 ↔ val x < 2 * 2 ^ 1074) ∧ (-1 < rv x ↔ -(2 ^ 1074) < val x) ∧ (0 ≤ rv x ↔ 0 ≤ val x) := by
  have e1 := rv_mul_TT x
  have hp := TT_pos
  have hT : ((2 ^ 1074 : Int) : Rat) = TT := by rw [Rat.intCast_pow]; rfl
  have key : ∀ (c : Rat), (rv x < c ↔ (val x : Rat) < c * TT) ∧ (c < rv x ↔ c * TT < (val x : Rat)) ∧ (c ≤ rv x ↔ c * TT ≤ (val x : Rat)) := by
    intro c
    rw [← e1]
    exact ⟨⟨fun h => Rat.mul_lt_mul_of_pos_right h hp, fun h => lt_of_mul hp h⟩, ⟨fun h => Rat.mul_lt_mul_of_pos_right h hp, fun h => lt_of_mul hp h⟩, ⟨fun h => Rat.mul_le_mul_of_nonneg_right h (Rat.le_of_lt hp), fun h => le_of_mul hp h⟩⟩
  refine ⟨(key 1).1.trans ?_, (key 2).1.trans ?_, (key (-1)).2.1.trans ?_, (key 0).2.2.trans ?_⟩
  · rw [Rat.one_mul, ← hT]; exact Rat.intCast_lt_intCast
  · have : (2 : Rat) * TT = ((2 * 2 ^ 1074 : Int) : Rat) := by rw [Rat.intCast_mul, hT]; rfl
    rw [this]; exact Rat.intCast_lt_intCast
  · have : (-1 : Rat) * TT = ((-(2 ^ 1074) : Int) : Rat) := by rw [Rat.intCast_neg, hT]; grind
    rw [this]; exact Rat.intCast_lt_intCast
  · rw [Rat.zero_mul]
    exact Rat.intCast_le_intCast (a := 0)
theorem mod_spec {x : UInt64} (hx : Fin x) (h1 : -1 < rv x) (h2 : rv x < 2) : ModIs x := by
  have hx' := hx
  obtain ⟨a, m, e, hd⟩ := hx
  obtain ⟨hf, hv⟩ := fmod_one hd
  obtain ⟨b1, b2, b3, b4⟩ := rv_bound_val (x := x)
  have e1 := rv_mul_TT x
  have hs := val_sgn hd
  have hT := TT_ne
  have hTi : ((2 ^ 1074 : Int) : Rat) = TT := by rw [Rat.intCast_pow]; rfl
  by_cases h0 : 0 ≤ rv x
  · have v0 := b4.mp h0
    by_cases hl : rv x < 1
    · have v1 := b1.mp hl
      have hmod : (val x).natAbs % 2 ^ 1074 = (val x).natAbs := by
        have : ((val x).natAbs : Int) < ((2 ^ 1074 : Nat) : Int) := by
          push_cast
          generalize (2 : Int) ^ 1074 = Z at *
          omega
        exact Nat.mod_eq_of_lt (Int.ofNat_lt.mp this)
      rw [hmod, hs] at hv
      have hfe : rv (fmod x 0x3ff0000000000000) = rv x := by grind
      refine .low h0 hl ?_ ?_ <;> rw [modF_eq]
      · rw [isZero_iff hf, lt_zero hf, hfe]
        split
        · exact (rv_zero false).2
        · rw [if_neg (by simp; grind)]; exact hf
      · rw [isZero_iff hf, lt_zero hf, hfe]
        split
        · rename_i q; simp at q; rw [(rv_zero false).1, q]
        · rw [if_neg (by simp; grind)]; exact hfe
    · have hl' : 1 ≤ rv x := by grind
      have v1 : ¬ val x < 2 ^ 1074 := fun q => hl (b1.mpr q)
      have v2 := b2.mp h2
      have ha : a = false := by
        cases a
        · rfl
        · exfalso
          unfold sgn at hs
          simp only [if_true] at hs
          have : (0 : Int) < 2 ^ 1074 := Int.pow_pos (by decide)
          generalize (2 : Int) ^ 1074 = Z at *
          omega
      have hmod : (((val x).natAbs % 2 ^ 1074 : Nat) : Int) = val x - 2 ^ 1074 := by
        have q1 : ((2 ^ 1074 : Nat) : Int) = 2 ^ 1074 := by push_cast; rfl
        have q2 : 2 ^ 1074 ≤ (val x).natAbs := by
          apply Int.ofNat_le.mp
          rw [q1]
          generalize (2 : Int) ^ 1074 = Z at *
          omega
        rw [Nat.mod_eq_sub_mod q2, Nat.mod_eq_of_lt, Int.ofNat_sub q2, q1]
        · generalize (2 : Int) ^ 1074 = Z at *
          omega
        · apply Int.ofNat_lt.mp
          rw [Int.ofNat_sub q2, q1]
          generalize (2 : Int) ^ 1074 = Z at *
          omega
      rw [ha] at hv
      have hsg : sgn false ((val x).natAbs % 2 ^ 1074) = val x - 2 ^ 1074 := by rw [← hmod]; rfl
      rw [hsg, Rat.intCast_sub, hTi] at hv
      have hfe : rv (fmod x 0x3ff0000000000000) = rv x - 1 := by grind
      refine .high hl' h2 ?_ ?_ <;> rw [modF_eq]
      · rw [isZero_iff hf, lt_zero hf, hfe]
        split
        · exact (rv_zero false).2
        · rw [if_neg (by simp; grind)]; exact hf
      · rw [isZero_iff hf, lt_zero hf, hfe]
        split
        · rename_i q; simp at q; rw [(rv_zero false).1, q]
        · rw [if_neg (by simp; grind)]; exact hfe
  · have hn : rv x < 0 := by grind
    have v0 : ¬ 0 ≤ val x := fun q => h0 (b4.mpr q)
    have v1 := b3.mp h1
    have hmod : (val x).natAbs % 2 ^ 1074 = (val x).natAbs := by
      have : ((val x).natAbs : Int) < ((2 ^ 1074 : Nat) : Int) := by
        push_cast
        generalize (2 : Int) ^ 1074 = Z at *
        omega
      exact Nat.mod_eq_of_lt (Int.ofNat_lt.mp this)
    rw [hmod, hs] at hv
    have hfe : rv (fmod x 0x3ff0000000000000) = rv x := by grind
    refine .neg hn h1 ?_
    rw [modF_eq, isZero_iff hf, lt_zero hf, hfe, if_neg (by simp; grind), if_pos (by simp; exact hn)]
    have hB := BIG_ge
    have := add_near hf one_spec.1 (by rw [hfe, one_spec.2]; grind) (by rw [hfe, one_spec.2]; grind)
    rw [hfe, one_spec.2] at this
    exact this
end Mine
end
section
namespace Mine
open PySem PySem.Float64

/-- a whole number of parts, small enough -/
theorem part_exact {R S : Int} {k : Nat} (hS : S = 2 ^ k) (hk : k ≤ 20) (h1 : -9007199254740992 ≤ R) (h2 : R ≤ 9007199254740992) : Fin (qI R S) ∧ rv (qI R S) = (R : Rat) / (S : Rat) := by
  have hS1 : 1 ≤ S := by rw [hS]; exact Int.pow_pos (by decide)
  have hSR : (1 : Rat) ≤ (S : Rat) := by exact_mod_cast hS1
  have hSp : (0 : Rat) < (S : Rat) := by grind
  have hSn : (S : Rat) ≠ 0 := by grind
  have r1' : ((-9007199254740992 : Int) : Rat) ≤ (R : Rat) := Rat.intCast_le_intCast.mpr h1
  have r2' : (R : Rat) ≤ ((9007199254740992 : Int) : Rat) := Rat.intCast_le_intCast.mpr h2
  have r1 : (-9007199254740992 : Rat) ≤ (R : Rat) := r1'
  have r2 : (R : Rat) ≤ 9007199254740992 := r2'
  have hB := BIG_ge
  have q0 : ((R : Rat) / (S : Rat)) * (S : Rat) = (R : Rat) := by grind
  have b1 : (R : Rat) / (S : Rat) ≤ 9007199254740992 := by
    refine le_of_mul hSp ?_
    rw [q0]
    have : (9007199254740992 : Rat) * 1 ≤ 9007199254740992 * (S : Rat) := Rat.mul_le_mul_of_nonneg_left hSR (by decide)
    grind
  have b2 : (-9007199254740992 : Rat) ≤ (R : Rat) / (S : Rat) := by
    refine le_of_mul hSp ?_
    rw [q0]
    have : (9007199254740992 : Rat) * 1 ≤ 9007199254740992 * (S : Rat) := Rat.mul_le_mul_of_nonneg_left hSR (by decide)
    grind
  have hN : Near (qI R S) ((R : Rat) / (S : Rat)) := frac_near (by omega) (by grind) (by grind)
  refine ⟨hN.fin, hN.exact R (1074 - k) (by omega) ?_⟩
  have e2 : TT = ((2 ^ (1074 - k) : Nat) : Rat) * (S : Rat) := by
    have : (S : Rat) = ((2 ^ k : Nat) : Rat) := by
      rw [hS, Rat.intCast_pow, Rat.natCast_pow]; rfl
    rw [this, ← Rat.natCast_mul, ← Nat.pow_add, Nat.sub_add_cancel (by omega), TT_nat]
  rw [e2]
  generalize ((2 ^ (1074 - k) : Nat) : Rat) = X at *
  grind
theorem fmax_spec {x y : UInt64} (hx : Fin x) (hy : Fin y) : Fin (fmax x y) ∧ rv (fmax x y) = max (rv x) (rv y) := by
  unfold fmax
  rw [cmp_lt hx hy]
  by_cases h : rv x < rv y
  · rw [if_pos (by simpa using h)]
    exact ⟨hy, by grind⟩
  · rw [if_neg (by simpa using h)]
    exact ⟨hx, by grind⟩
theorem fmin_spec {x y : UInt64} (hx : Fin x) (hy : Fin y) : Fin (fmin x y) ∧ rv (fmin x y) = min (rv x) (rv y) := by
  unfold fmin
  rw [cmp_lt hy hx]
  by_cases h : rv y < rv x
  · rw [if_pos (by simpa using h)]
    exact ⟨hy, by grind⟩
  · rw [if_neg (by simpa using h)]
    exact ⟨hx, by grind⟩
end Mine
end
section
namespace Mine
open PySem PySem.Float64
theorem lit_rv {x : UInt64} {m k d : Nat} (h : decode x = .fin false m (-(k : Int))) (hk : k ≤ 1074) (hd : 2 ^ k = d) : Fin x ∧ rv x = (m : Rat) / (d : Rat) := by
  obtain ⟨a, b⟩ := lit h hk
  refine ⟨a, ?_⟩
  rw [hd] at b
  have hp : (d : Rat) ≠ 0 := by
    intro q
    have : d = 0 := by exact_mod_cast q
    have := Nat.two_pow_pos k
    omega
  grind
theorem k30 : Fin 0x3fd3333333333333 ∧ rv 0x3fd3333333333333 = 5404319552844595 / 18014398509481984 := lit_rv (m := 5404319552844595) (k := 54) (d := 18014398509481984) (by with_unfolding_all rfl) (by decide) (by decide)
theorem k59 : Fin 0x3fe2e147ae147ae1 ∧ rv 0x3fe2e147ae147ae1 = 5314247560297185 / 9007199254740992 := lit_rv (m := 5314247560297185) (k := 53) (d := 9007199254740992) (by with_unfolding_all rfl) (by decide) (by decide)
theorem k11 : Fin 0x3fbc28f5c28f5c29 ∧ rv 0x3fbc28f5c28f5c29 = 7926335344172073 / 72057594037927936 := lit_rv (m := 7926335344172073) (k := 56) (d := 72057594037927936) (by with_unfolding_all rfl) (by decide) (by decide)
theorem k74 : Fin 0x3fe7ae147ae147ae ∧ rv 0x3fe7ae147ae147ae = 6665327448508334 / 9007199254740992 := lit_rv (m := 6665327448508334) (k := 53) (d := 9007199254740992) (by with_unfolding_all rfl) (by decide) (by decide)
theorem k27 : Fin 0x3fd147ae147ae148 ∧ rv 0x3fd147ae147ae148 = 4863887597560136 / 18014398509481984 := lit_rv (m := 4863887597560136) (k := 54) (d := 18014398509481984) (by with_unfolding_all rfl) (by decide) (by decide)
theorem k48 : Fin 0x3fdeb851eb851eb8 ∧ rv 0x3fdeb851eb851eb8 = 8646911284551352 / 18014398509481984 := lit_rv (m := 8646911284551352) (k := 54) (d := 18014398509481984) (by with_unfolding_all rfl) (by decide) (by decide)
theorem k41 : Fin 0x3fda3d70a3d70a3d ∧ rv 0x3fda3d70a3d70a3d = 7385903388887613 / 18014398509481984 := lit_rv (m := 7385903388887613) (k := 54) (d := 18014398509481984) (by with_unfolding_all rfl) (by decide) (by decide)
theorem kr1 : Fin 4606703976345377586 ∧ rv 4606703976345377586 = 8528756800101170 / 9007199254740992 := lit_rv (m := 8528756800101170) (k := 53) (d := 9007199254740992) (by with_unfolding_all rfl) (by decide) (by decide)
theorem kr2 : Fin 4603791717925830846 ∧ rv 4603791717925830846 = 5616498380554430 / 9007199254740992 := lit_rv (m := 5616498380554430) (k := 53) (d := 9007199254740992) (by with_unfolding_all rfl) (by decide) (by decide)
theorem kg1 : Fin 4598621754083818298 ∧ rv 4598621754083818298 = 4950134165912378 / 18014398509481984 := lit_rv (m := 4950134165912378) (k := 54) (d := 18014398509481984) (by with_unfolding_all rfl) (by decide) (by decide)
theorem kg2 : Fin 4603901015759978483 ∧ rv 4603901015759978483 = 5725796214702067 / 9007199254740992 := lit_rv (m := 5725796214702067) (k := 53) (d := 9007199254740992) (by with_unfolding_all rfl) (by decide) (by decide)
theorem kb1 : Fin 4607671262177584182 ∧ rv 4607671262177584182 = 4992443004937270 / 4503599627370496 := lit_rv (m := 4992443004937270) (k := 52) (d := 4503599627370496) (by with_unfolding_all rfl) (by decide) (by decide)
theorem kb2 : Fin 4610375502138591871 ∧ rv 4610375502138591871 = 7696682965944959 / 4503599627370496 := lit_rv (m := 7696682965944959) (k := 52) (d := 4503599627370496) (by with_unfolding_all rfl) (by decide) (by decide)
theorem oneThird : Fin 4599676419421066581 ∧ rv 4599676419421066581 = 6004799503160661 / 18014398509481984 := lit_rv (m := 6004799503160661) (k := 54) (d := 18014398509481984) (by with_unfolding_all rfl) (by decide) (by decide)
theorem oneSixth : Fin 4595172819793696085 ∧ rv 4595172819793696085 = 6004799503160661 / 36028797018963968 := lit_rv (m := 6004799503160661) (k := 55) (d := 36028797018963968) (by with_unfolding_all rfl) (by decide) (by decide)
theorem half : Fin 4602678819172646912 ∧ rv 4602678819172646912 = 4503599627370496 / 9007199254740992 := lit_rv (m := 4503599627370496) (k := 53) (d := 9007199254740992) (by with_unfolding_all rfl) (by decide) (by decide)
theorem twoThird : Fin 4604180019048437077 ∧ rv 4604180019048437077 = 6004799503160661 / 9007199254740992 := lit_rv (m := 6004799503160661) (k := 53) (d := 9007199254740992) (by with_unfolding_all rfl) (by decide) (by decide)
theorem six : Fin 4618441417868443648 ∧ rv 4618441417868443648 = 6755399441055744 / 1125899906842624 := lit_rv (m := 6755399441055744) (k := 50) (d := 1125899906842624) (by with_unfolding_all rfl) (by decide) (by decide)
theorem two : Fin 4611686018427387904 ∧ rv 4611686018427387904 = 4503599627370496 / 2251799813685248 := lit_rv (m := 4503599627370496) (k := 51) (d := 2251799813685248) (by with_unfolding_all rfl) (by decide) (by decide)
theorem four : Fin 4616189618054758400 ∧ rv 4616189618054758400 = 4503599627370496 / 1125899906842624 := lit_rv (m := 4503599627370496) (k := 50) (d := 1125899906842624) (by with_unfolding_all rfl) (by decide) (by decide)
end Mine
end
section
namespace Mine
open PySem PySem.Float64
/-- a unit: one part -/
structure Unit1 (σ : Rat) : Prop where
  lo : 1 / 1048576 ≤ σ
  hi : σ ≤ 1
theorem Unit1.pos {σ : Rat} (hs : Unit1 σ) : 0 ≤ σ := by have := hs.lo; grind
/-- x lies within e units of z units, and z within m -/
structure Bd (σ : Rat) (x : UInt64) (z m e : Rat) : Prop where
  fin : Fin x
  up : rv x ≤ (z + e) * σ
  lo : (z - e) * σ ≤ rv x
  b1 : z ≤ m
  b2 : -m ≤ z
noncomputable def okB (m e E : Rat) : Bool := decide (m + e ≤ 1267650600228229401496703205376) && decide (e + (m + e) / 9007199254740992 + 1 / 1267650600228229401496703205376 ≤ E)
theorem opB {x : UInt64} {w z m e E σ : Rat} (hs : Unit1 σ) (hN : w ≤ BIG → -BIG ≤ w → Near x w) (h1 : w ≤ (z + e) * σ) (h2 : (z - e) * σ ≤ w) (b1 : z ≤ m) (b2 : -m ≤ z) (c : okB m e E = true) : Bd σ x z m E := by
  simp only [okB, Bool.and_eq_true, decide_eq_true_eq] at c
  obtain ⟨c1, c2⟩ := c
  have hp := hs.pos
  have hl := hs.lo
  have hh := hs.hi
  have hB := BIG_ge
  have he := eta_le
  have a1 : (z + e) * σ ≤ (m + e) * σ := Rat.mul_le_mul_of_nonneg_right (by grind) hp
  have a2 : -(m + e) * σ ≤ (z - e) * σ := Rat.mul_le_mul_of_nonneg_right (by grind) hp
  have a3 : (m + e) * σ ≤ 1267650600228229401496703205376 * σ := Rat.mul_le_mul_of_nonneg_right c1 hp
  have a4 : (e + (m + e) / 9007199254740992 + 1 / 1267650600228229401496703205376) * σ ≤ E * σ := Rat.mul_le_mul_of_nonneg_right c2 hp
  have N := hN (by grind) (by grind)
  obtain ⟨u, l⟩ := N.near ((m + e) * σ) (by grind) (by grind)
  unfold eps at u l
  exact ⟨N.fin, by grind, by grind, b1, b2⟩
theorem addB {x y : UInt64} {z z' m m' e e' σ : Rat} (hs : Unit1 σ) (hx : Bd σ x z m e) (hy : Bd σ y z' m' e') (E : Rat) (c : okB (m + m') (e + e') E = true) : Bd σ (add x y) (z + z') (m + m') E := by
  obtain ⟨f, u, l, b1, b2⟩ := hx
  obtain ⟨f', u', l', b1', b2'⟩ := hy
  exact opB hs (add_near f f') (by grind) (by grind) (by grind) (by grind) c
theorem subB {x y : UInt64} {z z' m m' e e' σ : Rat} (hs : Unit1 σ) (hx : Bd σ x z m e) (hy : Bd σ y z' m' e') (E : Rat) (c : okB (m + m') (e + e') E = true) : Bd σ (sub x y) (z - z') (m + m') E := by
  obtain ⟨f, u, l, b1, b2⟩ := hx
  obtain ⟨f', u', l', b1', b2'⟩ := hy
  exact opB hs (sub_near f f') (by grind) (by grind) (by grind) (by grind) c
noncomputable def okM (c d m e E : Rat) : Bool := decide (0 ≤ c) && decide (0 ≤ d) && decide (0 ≤ m) && okB (d * m) (c * e + max (c - d) (d - c) * m) E
/-- times a written number c, near d -/
theorem mulB {k y : UInt64} {c z m e σ : Rat} (hs : Unit1 σ) (hk : Fin k ∧ rv k = c) (hy : Bd σ y z m e) (d E : Rat) (h : okM c d m e E = true) : Bd σ (mul k y) (d * z) (d * m) E := by
  simp only [okM, Bool.and_eq_true, decide_eq_true_eq] at h
  obtain ⟨⟨⟨c0, d0⟩, m0⟩, h⟩ := h
  obtain ⟨f, u, l, b1, b2⟩ := hy
  obtain ⟨fk, rfl⟩ := hk
  have hp := hs.pos
  have q1 : (rv k - d) * z ≤ max (rv k - d) (d - rv k) * m ∧ -(max (rv k - d) (d - rv k) * m) ≤ (rv k - d) * z := by
    have n1 : 0 ≤ m - z := by grind
    have n2 : 0 ≤ m + z := by grind
    by_cases q : d ≤ rv k
    · rw [show max (rv k - d) (d - rv k) = rv k - d by grind]
      have p1 := Rat.mul_nonneg (show 0 ≤ rv k - d by grind) n1
      have p2 := Rat.mul_nonneg (show 0 ≤ rv k - d by grind) n2
      grind
    · rw [show max (rv k - d) (d - rv k) = d - rv k by grind]
      have p1 := Rat.mul_nonneg (show 0 ≤ d - rv k by grind) n1
      have p2 := Rat.mul_nonneg (show 0 ≤ d - rv k by grind) n2
      grind
  generalize max (rv k - d) (d - rv k) * m = t at h q1
  have u2 := Rat.mul_le_mul_of_nonneg_left u c0
  have l2 := Rat.mul_le_mul_of_nonneg_left l c0
  have u3 := Rat.mul_le_mul_of_nonneg_right q1.1 hp
  have l3 := Rat.mul_le_mul_of_nonneg_right q1.2 hp
  exact opB hs (mul_near fk f) (by grind) (by grind) (Rat.mul_le_mul_of_nonneg_left b1 d0) (by have := Rat.mul_le_mul_of_nonneg_left b2 d0; grind) h
theorem idB {x : UInt64} {z z' m e σ : Rat} (h : Bd σ x z m e) (q : z = z') : Bd σ x z' m e := q ▸ h
theorem divAdd (N M : Int) (D : Rat) : (N : Rat) / D + (M : Rat) / D = ((N + M : Int) : Rat) / D := by push_cast; grind
theorem divSub (N M : Int) (D : Rat) : (N : Rat) / D - (M : Rat) / D = ((N - M : Int) : Rat) / D := by push_cast; grind
/-- the same with whole numbers over a common D -/
theorem addI {x y : UInt64} {N M : Int} {D m m' e e' σ : Rat} (hs : Unit1 σ) (hx : Bd σ x ((N : Rat) / D) m e) (hy : Bd σ y ((M : Rat) / D) m' e') (E : Rat) (c : okB (m + m') (e + e') E = true) : Bd σ (add x y) (((N + M : Int) : Rat) / D) (m + m') E :=
  idB (addB hs hx hy E c) (divAdd N M D)
theorem subI {x y : UInt64} {N M : Int} {D m m' e e' σ : Rat} (hs : Unit1 σ) (hx : Bd σ x ((N : Rat) / D) m e) (hy : Bd σ y ((M : Rat) / D) m' e') (E : Rat) (c : okB (m + m') (e + e') E = true) : Bd σ (sub x y) (((N - M : Int) : Rat) / D) (m + m') E :=
  idB (subB hs hx hy E c) (divSub N M D)
theorem mulI {k y : UInt64} {N : Int} {c D m e σ : Rat} (hs : Unit1 σ) (hk : Fin k ∧ rv k = c) (hy : Bd σ y ((N : Rat) / D) m e) (p : Int) (q E : Rat) (h : okM c ((p : Rat) / q) m e E = true) : Bd σ (mul k y) (((p * N : Int) : Rat) / (q * D)) ((p : Rat) / q * m) E :=
  idB (mulB hs hk hy _ E h) (by rw [Rat.intCast_mul, Rat.div_def, Rat.div_def, Rat.div_def, Rat.inv_mul_rev]; grind)
theorem timesI {x : UInt64} {N : Int} {D m e σ : Rat} (h : Bd σ x ((N : Rat) / D) m e) (p : Int) (hp : decide ((p : Rat) ≠ 0) = true) : Bd σ x (((p * N : Int) : Rat) / ((p : Rat) * D)) m e :=
  idB h (by
    have := of_decide_eq_true hp
    rw [Rat.intCast_mul, Rat.div_def, Rat.div_def, Rat.inv_mul_rev]
    have : (p : Rat) * (p : Rat)⁻¹ = 1 := Rat.mul_inv_cancel _ this
    grind)
theorem castI {x : UInt64} {N : Int} {D D' m e σ : Rat} (h : Bd σ x ((N : Rat) / D) m e) (q : decide (D = D') = true) : Bd σ x ((N : Rat) / D') m e := by
  rw [← of_decide_eq_true q]; exact h
theorem wholeI {x : UInt64} {N R p : Int} {m e σ : Rat} (h : Bd σ x ((N : Rat) / (p : Rat)) m e) (hp : decide ((p : Rat) ≠ 0) = true) (q : N = p * R) : Bd σ x (R : Rat) m e :=
  idB h (by rw [q, Rat.intCast_mul, Rat.div_def]; have : (p : Rat) * (p : Rat)⁻¹ = 1 := Rat.mul_inv_cancel _ (of_decide_eq_true hp); grind)
end Mine
end
section
namespace Mine
open PySem PySem.Float64
/-- the six numbers of a colour's way there and back -/
structure Yiq (σ : Rat) (r g b : Int) (fr fg fb : UInt64) : Prop where
  y : Bd σ (yF fr fg fb) (((100 * (30 * r + 59 * g + 11 * b) : Int) : Rat) / 10000) 2097152 (1 / 67108864)
  i : Bd σ (iF fr fg fb) (((74 * (100 * r - (30 * r + 59 * g + 11 * b)) - 27 * (100 * b - (30 * r + 59 * g + 11 * b)) : Int) : Rat) / 10000) 4236248 (1 / 67108864)
  q : Bd σ (qF fr fg fb) (((48 * (100 * r - (30 * r + 59 * g + 11 * b)) + 41 * (100 * b - (30 * r + 59 * g + 11 * b)) : Int) : Rat) / 10000) 3732931 (1 / 67108864)
  r : Bd σ (rB (yF fr fg fb) (iF fr fg fb) (qF fr fg fb)) (r : Rat) 16777216 (1 / 1048576)
  g : Bd σ (gB (yF fr fg fb) (iF fr fg fb) (qF fr fg fb)) (g : Rat) 16777216 (1 / 1048576)
  b : Bd σ (bB (yF fr fg fb) (iF fr fg fb) (qF fr fg fb)) (b : Rat) 16777216 (1 / 1048576)
theorem weakB {x : UInt64} {z m e σ : Rat} (h : Bd σ x z m e) (hs : Unit1 σ) {M E : Rat} (c : decide (m ≤ M ∧ e ≤ E) = true) : Bd σ x z M E := by
  obtain ⟨c1, c2⟩ := of_decide_eq_true c
  have a := Rat.mul_le_mul_of_nonneg_right c2 hs.pos
  obtain ⟨f, u, l, b1, b2⟩ := h
  exact ⟨f, by grind, by grind, by grind, by grind⟩
theorem yiq_all {r g b : Int} {σ : Rat} {fr fg fb : UInt64} (hs : Unit1 σ) (hr : Bd σ fr ((r : Rat) / 1) 2097152 0) (hg : Bd σ fg ((g : Rat) / 1) 2097152 0) (hb : Bd σ fb ((b : Rat) / 1) 2097152 0) : Yiq σ r g b fr fg fb := by
  have y : Bd σ (yF fr fg fb) _ _ _ := addI hs (addI hs (mulI hs k30 hr 30 100 (1 / 4294967296) (by decide +kernel)) (mulI hs k59 hg 59 100 (1 / 4294967296) (by decide +kernel)) (1 / 1073741824) (by decide +kernel)) (mulI hs k11 hb 11 100 (1 / 4294967296) (by decide +kernel)) (1 / 536870912) (by decide +kernel)
  have y1 := castI (D' := 100) y (by decide +kernel)
  have y2 := weakB (castI (D' := 10000) (timesI y1 100 (by decide +kernel)) (by decide +kernel)) hs (M := 2097152) (E := 1 / 67108864) (by decide +kernel)
  have x1 := subI hs (castI (D' := 100) (timesI hr 100 (by decide +kernel)) (by decide +kernel)) y1 (1 / 268435456) (by decide +kernel)
  have x2 := subI hs (castI (D' := 100) (timesI hb 100 (by decide +kernel)) (by decide +kernel)) y1 (1 / 268435456) (by decide +kernel)
  have i : Bd σ (iF fr fg fb) _ _ _ := subI hs (mulI hs k74 x1 74 100 (1 / 268435456) (by decide +kernel)) (mulI hs k27 x2 27 100 (1 / 268435456) (by decide +kernel)) (1 / 67108864) (by decide +kernel)
  have q : Bd σ (qF fr fg fb) _ _ _ := addI hs (mulI hs k48 x1 48 100 (1 / 268435456) (by decide +kernel)) (mulI hs k41 x2 41 100 (1 / 268435456) (by decide +kernel)) (1 / 67108864) (by decide +kernel)
  have i1 := weakB (castI (D' := 10000) i (by decide +kernel)) hs (M := 4236248) (E := 1 / 67108864) (by decide +kernel)
  have q1 := weakB (castI (D' := 10000) q (by decide +kernel)) hs (M := 3732931) (E := 1 / 67108864) (by decide +kernel)
  have y3 := timesI y2 433 (by decide +kernel)
  have y4 := timesI y2 25547 (by decide +kernel)
  have R : Bd σ (rB (yF fr fg fb) (iF fr fg fb) (qF fr fg fb)) _ _ _ := addI hs (addI hs y3 (mulI hs kr1 i1 410 433 (1 / 16777216) (by decide +kernel)) (1 / 8388608) (by decide +kernel)) (mulI hs kr2 q1 270 433 (1 / 16777216) (by decide +kernel)) (1 / 1048576) (by decide +kernel)
  have G : Bd σ (gB (yF fr fg fb) (iF fr fg fb) (qF fr fg fb)) _ _ _ := subI hs (subI hs y4 (mulI hs kg1 i1 7020 25547 (1 / 16777216) (by decide +kernel)) (1 / 8388608) (by decide +kernel)) (mulI hs kg2 q1 16240 25547 (1 / 16777216) (by decide +kernel)) (1 / 1048576) (by decide +kernel)
  have B : Bd σ (bB (yF fr fg fb) (iF fr fg fb) (qF fr fg fb)) _ _ _ := addI hs (subI hs y3 (mulI hs kb1 i1 480 433 (1 / 16777216) (by decide +kernel)) (1 / 8388608) (by decide +kernel)) (mulI hs kb2 q1 740 433 (1 / 8388608) (by decide +kernel)) (1 / 1048576) (by decide +kernel)
  exact ⟨y2, i1, q1, weakB (wholeI (p := 4330000) (castI R (by decide +kernel)) (by decide +kernel) (by omega)) hs (by decide +kernel), weakB (wholeI (p := 255470000) (castI G (by decide +kernel)) (by decide +kernel) (by omega)) hs (by decide +kernel), weakB (wholeI (p := 4330000) (castI B (by decide +kernel)) (by decide +kernel) (by omega)) hs (by decide +kernel)⟩
end Mine
end
section
namespace Mine
open PySem PySem.Float64
theorem ofInt_exact {i : Int} (h1 : -1099511627776 ≤ i) (h2 : i ≤ 1099511627776) : Fin (ofInt i) ∧ rv (ofInt i) = (i : Rat) := by
  have r1' : ((-1099511627776 : Int) : Rat) ≤ (i : Rat) := Rat.intCast_le_intCast.mpr h1
  have r2' : (i : Rat) ≤ ((1099511627776 : Int) : Rat) := Rat.intCast_le_intCast.mpr h2
  have r1 : (-1099511627776 : Rat) ≤ (i : Rat) := r1'
  have r2 : (i : Rat) ≤ 1099511627776 := r2'
  have hB := BIG_ge
  have hN := ofInt_near (i := i) (by grind) (by grind)
  exact ⟨hN.fin, hN.exact i 1074 (by omega) (by rw [TT_nat])⟩
theorem part_eq {x : UInt64} {sc N : Int} (hx : Fin x) (s1 : 1 ≤ sc) (s2 : sc ≤ 1099511627776) (n1 : -1099511627776 ≤ N) (n2 : N ≤ 1099511627776) (h1 : rv x * (sc : Rat) ≤ (N : Rat) + 1 / 8) (h2 : (N : Rat) - 1 / 8 ≤ rv x * (sc : Rat)) :
    isFinite (mul x (ofInt sc)) = true ∧ partF x sc = N := by
  obtain ⟨fi, ei⟩ := ofInt_exact (i := sc) (by omega) s2
  have r1' : ((-1099511627776 : Int) : Rat) ≤ (N : Rat) := Rat.intCast_le_intCast.mpr n1
  have r2' : (N : Rat) ≤ ((1099511627776 : Int) : Rat) := Rat.intCast_le_intCast.mpr n2
  have r1 : (-1099511627776 : Rat) ≤ (N : Rat) := r1'
  have r2 : (N : Rat) ≤ 1099511627776 := r2'
  have hB := BIG_ge
  have he := eta_le
  have hM := mul_near hx fi (by rw [ei]; grind) (by rw [ei]; grind)
  rw [ei] at hM
  obtain ⟨a, b⟩ := hM.near 2199023255552 (by grind) (by grind)
  unfold eps at a b
  refine ⟨isFinite_of hM.fin, ?_⟩
  unfold partF
  exact round_eq hM.fin (by grind) (by grind)
theorem cut_spec {x : UInt64} (hx : Fin x) : Fin (cutF x) ∧ rv (cutF x) = min (max (rv x) 0) 1 := by
  have hz : Fin (0 : UInt64) ∧ rv (0 : UInt64) = 0 := by
    have : (0 : UInt64) = zero false := by decide +kernel
    rw [this]; exact ⟨(rv_zero false).2, (rv_zero false).1⟩
  have h0 := cmp_lt hx hz.1
  rw [hz.2] at h0
  have ho := one_spec
  unfold cutF
  by_cases h : rv x < 0
  · have h0' : (cmp x 0 == some .lt) = true := by rw [h0]; simpa using h
    rw [if_pos h0']
    have h1 := cmp_gt hz.1 ho.1
    rw [hz.2, ho.2] at h1
    rw [h1, if_neg (by decide)]
    exact ⟨hz.1, by rw [hz.2]; grind⟩
  · have h0' : ¬ (cmp x 0 == some .lt) = true := by rw [h0]; simpa using h
    rw [if_neg h0']
    have h1 := cmp_gt hx ho.1
    rw [ho.2] at h1
    by_cases q : 1 < rv x
    · rw [if_pos (by rw [h1]; simpa using q)]
      exact ⟨ho.1, by rw [ho.2]; grind⟩
    · rw [if_neg (by rw [h1]; simpa using q)]
      exact ⟨hx, by grind⟩
end Mine
end
section
namespace Mine
open PySem PySem.Float64
/-- what is known of a colour's scale -/
structure Scale (sc : Int) (σ : Rat) : Prop where
  unit : Unit1 σ
  one : σ * (sc : Rat) = 1
  lo : 1 ≤ sc
  hi : sc ≤ 1048576
theorem scale_of {sc : Int} (h : ∃ k : Nat, k ≤ 20 ∧ sc = 2 ^ k) : Scale sc (1 / (sc : Rat)) := by
  obtain ⟨k, hk, rfl⟩ := h
  have hb : ∀ j : Nat, j < 21 → (1 : Int) ≤ 2 ^ j ∧ (2 : Int) ^ j ≤ 1048576 := by decide
  obtain ⟨a, b⟩ := hb k (by omega)
  generalize (2 : Int) ^ k = S at *
  have a' : ((1 : Int) : Rat) ≤ (S : Rat) := Rat.intCast_le_intCast.mpr a
  have b' : (S : Rat) ≤ ((1048576 : Int) : Rat) := Rat.intCast_le_intCast.mpr b
  have a1 : (1 : Rat) ≤ (S : Rat) := a'
  have b1 : (S : Rat) ≤ 1048576 := b'
  have hp : (0 : Rat) < (S : Rat) := by grind
  have hn : (S : Rat) ≠ 0 := by grind
  have h1 : (1 / (S : Rat)) * (S : Rat) = 1 := by grind
  refine ⟨⟨le_of_mul hp ?_, le_of_mul hp ?_⟩, h1, a, b⟩
  · rw [h1]; grind
  · rw [h1]; grind
theorem part_of {R sc : Int} {σ : Rat} (hS : Scale sc σ) (h : ∃ k : Nat, k ≤ 20 ∧ sc = 2 ^ k) (r1 : -2097152 ≤ R) (r2 : R ≤ 2097152) :
    Fin (qI R sc) ∧ rv (qI R sc) = (R : Rat) * σ ∧ rv (qI R sc) ≤ 2097152 * σ ∧ -(2097152 * σ) ≤ rv (qI R sc) := by
  obtain ⟨k, hk, e⟩ := h
  obtain ⟨f, v⟩ := part_exact e hk (R := R) (by omega) (by omega)
  have hone := hS.one
  have hl := hS.unit.lo
  have hp : (0 : Rat) < σ := by grind
  have hsn : (sc : Rat) ≠ 0 := by intro q; rw [q] at hone; grind
  have v' : rv (qI R sc) = (R : Rat) * σ := by rw [v]; grind
  have q1' : ((-2097152 : Int) : Rat) ≤ (R : Rat) := Rat.intCast_le_intCast.mpr r1
  have q2' : (R : Rat) ≤ ((2097152 : Int) : Rat) := Rat.intCast_le_intCast.mpr r2
  have q1 : (-2097152 : Rat) ≤ (R : Rat) := q1'
  have q2 : (R : Rat) ≤ 2097152 := q2'
  have m1 := Rat.mul_le_mul_of_nonneg_right q1 (Rat.le_of_lt hp)
  have m2 := Rat.mul_le_mul_of_nonneg_right q2 (Rat.le_of_lt hp)
  exact ⟨f, v', by rw [v']; exact m2, by rw [v']; grind⟩
theorem part_bd {R sc : Int} {σ : Rat} (hS : Scale sc σ) (h : ∃ k : Nat, k ≤ 20 ∧ sc = 2 ^ k) (r1 : -2097152 ≤ R ∧ R ≤ 2097152) : Bd σ (qI R sc) ((R : Rat) / 1) 2097152 0 := by
  obtain ⟨f, v, _, _⟩ := part_of hS h r1.1 r1.2
  have e : ((R : Rat) / 1) = (R : Rat) := by grind
  rw [e]
  have q1 : (-2097152 : Rat) ≤ (R : Rat) := Rat.intCast_le_intCast.mpr r1.1
  have q2 : (R : Rat) ≤ 2097152 := Rat.intCast_le_intCast.mpr r1.2
  exact ⟨f, by rw [v]; grind, by rw [v]; grind, q2, q1⟩
theorem part_bd10 {x : UInt64} {N sc : Int} {m e σ : Rat} (hS : Scale sc σ) (h : Bd σ x ((N : Rat) / 10000) m e) (c : decide (m ≤ 16777216 ∧ e ≤ 1 / 100000) = true) :
    isFinite (mul x (ofInt (10000 * sc))) = true ∧ partF x (10000 * sc) = N := by
  obtain ⟨c1, c2⟩ := of_decide_eq_true c
  obtain ⟨f, u, l, b1, b2⟩ := h
  have hone := hS.one
  have hlo := hS.lo
  have hhi := hS.hi
  have a1 : (1 : Rat) ≤ (sc : Rat) := Rat.intCast_le_intCast.mpr hlo
  have ec : ((10000 * sc : Int) : Rat) = 10000 * (sc : Rat) := by rw [Rat.intCast_mul]; rfl
  have hp : (0 : Rat) ≤ 10000 * (sc : Rat) := by grind
  have mu := Rat.mul_le_mul_of_nonneg_right u hp
  have ml := Rat.mul_le_mul_of_nonneg_right l hp
  have eu : ((N : Rat) / 10000 + e) * σ * (10000 * (sc : Rat)) = (N : Rat) + 10000 * e := by grind
  have el : ((N : Rat) / 10000 - e) * σ * (10000 * (sc : Rat)) = (N : Rat) - 10000 * e := by grind
  rw [eu, ← ec] at mu
  rw [el, ← ec] at ml
  have n1 : (N : Rat) ≤ ((1099511627776 : Int) : Rat) := by rw [show ((1099511627776 : Int) : Rat) = 1099511627776 from rfl]; grind
  have n2 : ((-1099511627776 : Int) : Rat) ≤ (N : Rat) := by rw [show ((-1099511627776 : Int) : Rat) = -1099511627776 from rfl]; grind
  exact part_eq f (by omega) (by omega) (Rat.intCast_le_intCast.mp n2) (Rat.intCast_le_intCast.mp n1) (by grind) (by grind)
end Mine
end
section
namespace Mine
open PySem PySem.Float64
/-- a component that comes back near its part, cut to the cube -/
theorem cut_part {x : UInt64} {R sc : Int} {σ : Rat} (hS : Scale sc σ) (r1 : -2097152 ≤ R) (r2 : R ≤ 2097152) {m : Rat} (hx : Bd σ x (R : Rat) m (1 / 1048576)) :
    isFinite (mul (cutF x) (ofInt sc)) = true ∧ partF (cutF x) sc = min (max R 0) sc := by
  obtain ⟨hx, u, l, _, _⟩ := hx
  obtain ⟨f, v⟩ := cut_spec hx
  have hone := hS.one
  have hlo := hS.lo
  have hhi := hS.hi
  have a' : ((1 : Int) : Rat) ≤ (sc : Rat) := Rat.intCast_le_intCast.mpr hlo
  have a1 : (1 : Rat) ≤ (sc : Rat) := a'
  have hp : (0 : Rat) < (sc : Rat) := by grind
  have hσ : (0 : Rat) < σ := by have := hS.unit.lo; grind
  have mu := Rat.mul_le_mul_of_nonneg_right u (Rat.le_of_lt hp)
  have ml := Rat.mul_le_mul_of_nonneg_right l (Rat.le_of_lt hp)
  have eu : ((R : Rat) + 1 / 1048576) * σ * (sc : Rat) = (R : Rat) + 1 / 1048576 := by grind
  have el : ((R : Rat) - 1 / 1048576) * σ * (sc : Rat) = (R : Rat) - 1 / 1048576 := by grind
  rw [eu] at mu
  rw [el] at ml
  have key : ∀ K : Int, K = min (max R 0) sc → (rv (cutF x) * (sc : Rat) ≤ (K : Rat) + 1 / 8 ∧ (K : Rat) - 1 / 8 ≤ rv (cutF x) * (sc : Rat)) := by
    intro K hK
    rw [v]
    by_cases c1 : rv x < 0
    · have e1 : min (max (rv x) 0) 1 = 0 := by grind
      rw [e1, Rat.zero_mul]
      have n1 := Rat.mul_lt_mul_of_pos_right c1 hp
      have : (R : Rat) < 1 := by grind
      have hR : R < 1 := by exact_mod_cast this
      have hK0 : K = 0 := by omega
      rw [hK0]
      constructor <;> decide +kernel
    · by_cases c2 : 1 < rv x
      · have e1 : min (max (rv x) 0) 1 = 1 := by grind
        rw [e1, Rat.one_mul]
        have n1 := Rat.mul_lt_mul_of_pos_right c2 hp
        have : (sc : Rat) < (R : Rat) + 1 := by grind
        have hR : sc < R + 1 := by exact_mod_cast this
        have hK0 : K = sc := by omega
        rw [hK0]
        constructor <;> grind
      · have e1 : min (max (rv x) 0) 1 = rv x := by grind
        rw [e1]
        have p1 : 0 * (sc : Rat) ≤ rv x * (sc : Rat) := Rat.mul_le_mul_of_nonneg_right (by grind) (Rat.le_of_lt hp)
        have p2 : rv x * (sc : Rat) ≤ 1 * (sc : Rat) := Rat.mul_le_mul_of_nonneg_right (by grind) (Rat.le_of_lt hp)
        have q1 : ((0 : Int) : Rat) < ((R + 1 : Int) : Rat) := by push_cast; grind
        have q2 : (R : Rat) < (sc : Rat) + 1 := by grind
        have q1' : 0 < R + 1 := Rat.intCast_lt_intCast.mp q1
        have q2' : R < sc + 1 := by exact_mod_cast q2
        have hK0 : K = R := by omega
        rw [hK0]
        constructor <;> grind
  obtain ⟨k1, k2⟩ := key _ rfl
  exact part_eq f hlo (by omega) (by omega) (by omega) k1 k2
end Mine
end
section
namespace Mine
open PySem PySem.W PyProof.Rows PySem.Calls PySem.Flt
theorem fmax3_spec {x y z : UInt64} (hx : Fin x) (hy : Fin y) (hz : Fin z) : Fin (fmax3 x y z) ∧ rv (fmax3 x y z) = max (max (rv x) (rv y)) (rv z) := by
  unfold fmax3
  obtain ⟨a, b⟩ := fmax_spec hx hy
  obtain ⟨c, d⟩ := fmax_spec a hz
  exact ⟨c, by rw [d, b]⟩
theorem fmin3_spec {x y z : UInt64} (hx : Fin x) (hy : Fin y) (hz : Fin z) : Fin (fmin3 x y z) ∧ rv (fmin3 x y z) = min (min (rv x) (rv y)) (rv z) := by
  unfold fmin3
  obtain ⟨a, b⟩ := fmin_spec hx hy
  obtain ⟨c, d⟩ := fmin_spec a hz
  exact ⟨c, by rw [d, b]⟩
theorem zero_lit : Fin (0 : UInt64) ∧ rv (0 : UInt64) = 0 := by
  have : (0 : UInt64) = Float64.zero false := by decide +kernel
  rw [this]; exact ⟨(rv_zero false).2, (rv_zero false).1⟩
end Mine
end
section
open PySem PySem.W PyProof.Rows PySem.Calls PySem.Flt
namespace Mine
theorem cut_range (x : Rat) : 0 ≤ min (max x 0) 1 ∧ min (max x 0) 1 ≤ 1 := by constructor <;> grind
theorem le_min2 {a b c : Rat} (h1 : c ≤ a) (h2 : c ≤ b) : c ≤ min a b := by grind
theorem max2_le {a b c : Rat} (h1 : a ≤ c) (h2 : b ≤ c) : max a b ≤ c := by grind
section
variable {w : World} {mean : ExcName → Option Value} {mg mb : Str → Option Value} {dp un : Nat} {gd : Option (List Code)} {cn : Str} {cs : Scope} {a : Addr} {ccd : Value} {cl : List (Str × Addr)} {outer : List Env} {A₀ : Around} {base h₀ : Heap} {L : Addr} {m : Str → Option Value} {news : List (Addr × Obj)} {s : Shared} {Q E : Value → Shared → Prop}

theorem yiq_true {r g b sc : Int} {t1 t2 t3 t4 : Tok}
   (B : Below A₀ base outer h₀) (F : Fr h₀ L s.heap m) (X : (hd.heap_39 w.params).In h₀) (N : News h₀ L s.heap news) (T : Top hd.view_39 lo mean mg mb h₀) (hk : cs.kind = .function) (hdp : dp + 3 < recursionLimit) (hu : un + 200 < cLine)
   (hr : -2097152 ≤ r ∧ r ≤ 2097152) (hg : -2097152 ≤ g ∧ g ≤ 2097152) (hb : -2097152 ≤ b ∧ b ≤ 2097152) (hp : ∃ k : Nat, k ≤ 20 ∧ sc = 2 ^ k)
   (hret : ∀ (h' : Heap) (tk' : Nat), Fr h₀ L h' m → News h₀ L h' news → Q (.bool true) { s with heap := h', toks := tk' }) :
   wpAny (model pw w) (ktrTop dp un gd cn cs L a ccd cl outer) (call (.ref 80) [.int r t1, .int g t2, .int b t3, .int sc t4]) Q E s := by
  have hS := scale_of hp
  generalize (1 / (sc : Rat)) = σ at hS
  obtain ⟨hy, hi, hq, h1, h2, h3⟩ := yiq_all hS.unit (part_bd hS hp hr) (part_bd hS hp hg) (part_bd hS hp hb)
  obtain ⟨f1, p1⟩ := part_bd10 hS hy (by decide +kernel)
  obtain ⟨f2, p2⟩ := part_bd10 hS hi (by decide +kernel)
  obtain ⟨f3, p3⟩ := part_bd10 hS hq (by decide +kernel)
  obtain ⟨f4, p4⟩ := cut_part hS hr.1 hr.2 h1
  obtain ⟨f5, p5⟩ := cut_part hS hg.1 hg.2 h2
  obtain ⟨f6, p6⟩ := cut_part hS hb.1 hb.2 h3
  obtain ⟨c1, d1⟩ := cut_spec h1.fin
  obtain ⟨c2, d2⟩ := cut_spec h2.fin
  obtain ⟨c3, d3⟩ := cut_spec h3.fin
  obtain ⟨m1, m2⟩ := fmin3_spec c1 c2 c3
  obtain ⟨m3, m4⟩ := fmax3_spec c1 c2 c3
  refine c_lawyiq B F X N T hk (by omega) hu hr hg hb ⟨hS.lo, hS.hi⟩ rfl rfl rfl rfl rfl rfl f1 f2 f3 p1 p2 p3 rfl rfl rfl f4 f5 f6 p4 p5 p6 ?_ ?_ hret
  · rw [cmp_ge m1 zero_lit.1, m2, d1, d2, d3, zero_lit.2]
    exact decide_eq_true (le_min2 (le_min2 (cut_range _).1 (cut_range _).1) (cut_range _).1)
  · rw [cmp_le m3 one_spec.1, m4, d1, d2, d3, one_spec.2]
    exact decide_eq_true (max2_le (max2_le (cut_range _).2 (cut_range _).2) (cut_range _).2)
end
end Mine
end
section
namespace Mine
open PySem PySem.Float64
/-- σ is a power of two within the floats' grid -/
def Grid (σ : Rat) : Prop := ∃ j : Nat, σ * TT = ((2 ^ j : Nat) : Rat)
theorem grid_of {sc : Int} {σ : Rat} (hS : Scale sc σ) (h : ∃ k : Nat, k ≤ 20 ∧ sc = 2 ^ k) : Grid σ := by
  obtain ⟨k, hk, e⟩ := h
  refine ⟨1074 - k, ?_⟩
  have hone := hS.one
  have e2 : TT = ((2 ^ (1074 - k) : Nat) : Rat) * (sc : Rat) := by
    have : (sc : Rat) = ((2 ^ k : Nat) : Rat) := by
      rw [e, Rat.intCast_pow, Rat.natCast_pow]; rfl
    rw [this, ← Rat.natCast_mul, ← Nat.pow_add, Nat.sub_add_cancel (by omega), TT_nat]
  rw [e2]
  generalize ((2 ^ (1074 - k) : Nat) : Rat) = X at *
  grind
theorem grid_exact {x : UInt64} {σ : Rat} {N : Int} (hG : Grid σ) (hN : Near x ((N : Rat) * σ)) (h1 : -9007199254740992 ≤ N) (h2 : N ≤ 9007199254740992) : rv x = (N : Rat) * σ := by
  obtain ⟨j, hj⟩ := hG
  exact hN.exact N j (by omega) (by rw [← hj]; grind)
theorem sub_grid {x y : UInt64} {σ : Rat} {M N : Int} (hs : Unit1 σ) (hG : Grid σ) (hx : Fin x) (hy : Fin y) (ex : rv x = (M : Rat) * σ) (ey : rv y = (N : Rat) * σ) (h1 : -16777216 ≤ M - N) (h2 : M - N ≤ 16777216) :
    Fin (sub x y) ∧ rv (sub x y) = ((M - N : Int) : Rat) * σ := by
  have hB := BIG_ge
  have hl := hs.lo
  have hh := hs.hi
  have hp : (0 : Rat) < σ := by grind
  have q1' : ((-16777216 : Int) : Rat) ≤ ((M - N : Int) : Rat) := Rat.intCast_le_intCast.mpr h1
  have q2' : ((M - N : Int) : Rat) ≤ ((16777216 : Int) : Rat) := Rat.intCast_le_intCast.mpr h2
  have q1 : (-16777216 : Rat) ≤ ((M - N : Int) : Rat) := q1'
  have q2 : ((M - N : Int) : Rat) ≤ 16777216 := q2'
  have m1 := Rat.mul_le_mul_of_nonneg_right q1 (Rat.le_of_lt hp)
  have m2 := Rat.mul_le_mul_of_nonneg_right q2 (Rat.le_of_lt hp)
  have e : rv x - rv y = ((M - N : Int) : Rat) * σ := by rw [ex, ey]; push_cast; grind
  have hN := sub_near hx hy (by rw [e]; grind) (by rw [e]; grind)
  rw [e] at hN
  exact ⟨hN.fin, grid_exact hG hN (by omega) (by omega)⟩
theorem add_grid {x y : UInt64} {σ : Rat} {M N : Int} (hs : Unit1 σ) (hG : Grid σ) (hx : Fin x) (hy : Fin y) (ex : rv x = (M : Rat) * σ) (ey : rv y = (N : Rat) * σ) (h1 : -16777216 ≤ M + N) (h2 : M + N ≤ 16777216) :
    Fin (add x y) ∧ rv (add x y) = ((M + N : Int) : Rat) * σ := by
  have hB := BIG_ge
  have hl := hs.lo
  have hh := hs.hi
  have hp : (0 : Rat) < σ := by grind
  have q1' : ((-16777216 : Int) : Rat) ≤ ((M + N : Int) : Rat) := Rat.intCast_le_intCast.mpr h1
  have q2' : ((M + N : Int) : Rat) ≤ ((16777216 : Int) : Rat) := Rat.intCast_le_intCast.mpr h2
  have q1 : (-16777216 : Rat) ≤ ((M + N : Int) : Rat) := q1'
  have q2 : ((M + N : Int) : Rat) ≤ 16777216 := q2'
  have m1 := Rat.mul_le_mul_of_nonneg_right q1 (Rat.le_of_lt hp)
  have m2 := Rat.mul_le_mul_of_nonneg_right q2 (Rat.le_of_lt hp)
  have e : rv x + rv y = ((M + N : Int) : Rat) * σ := by rw [ex, ey]; push_cast; grind
  have hN := add_near hx hy (by rw [e]; grind) (by rw [e]; grind)
  rw [e] at hN
  exact ⟨hN.fin, grid_exact hG hN (by omega) (by omega)⟩
end Mine
end
section
namespace Mine
open PySem PySem.Float64
theorem dist_up {a b : Nat} (h : a ≤ b) : dist a b = b - a := by unfold dist; rw [Nat.sub_eq_zero_of_le h, Nat.zero_add]
theorem dist_dn {a b : Nat} (h : b ≤ a) : dist a b = a - b := by unfold dist; rw [Nat.sub_eq_zero_of_le h, Nat.add_zero]
theorem dist_mid {W x y z : Nat} (h1 : x < y) (h2 : y < z) (e : dist W x = dist W z) : dist W y < dist W x := by
  rcases Nat.le_total W y with q | q
  · rw [e, dist_up q, dist_up (Nat.le_trans q (Nat.le_of_lt h2))]; omega
  · rw [dist_dn q, dist_dn (Nat.le_trans (Nat.le_of_lt h1) q)]; omega
/-- a right rounding is one alone -/
theorem right_uniq {x y : UInt64} {neg : Bool} {W D : Nat} (hD : 0 < D) (hx : Right x neg W D) (hy : Right y neg W D) : x = y := by
  obtain ⟨t, e1, l1, o1, n1⟩ := hx
  obtain ⟨u, e2, l2, o2, n2⟩ := hy
  suffices h : t = u by rw [e1, e2, h]
  by_cases ht : t = infMag
  · rw [ht]; exact (o2.mpr (o1.mp ht)).symm
  · have hu : u ≠ infMag := fun q => ht (o1.mpr (o2.mp q))
    have n1' := n1 (by omega)
    have n2' := n2 (by omega)
    have key : ∀ a b : Nat, (∀ t', dist W (D * V a) ≤ dist W (D * V t') ∧ (V t' ≠ V a → dist W (D * V a) = dist W (D * V t') → a % 2 = 0)) →
        (∀ t', dist W (D * V b) ≤ dist W (D * V t') ∧ (V t' ≠ V b → dist W (D * V b) = dist W (D * V t') → b % 2 = 0)) → ¬ a < b := by
      intro a b na nb hab
      have hV := V_lt hab
      have d1 := (na b).1
      have d2 := (nb a).1
      have de : dist W (D * V a) = dist W (D * V b) := Nat.le_antisymm d1 d2
      have pa := (na b).2 (by omega) de
      have pb := (nb a).2 (by omega) de.symm
      have h1 := V_succ a
      have h2 := V_lt (show a + 1 < b by omega)
      have d3 := (na (a + 1)).1
      have m1 : D * V a < D * V (a + 1) := (Nat.mul_lt_mul_left hD).mpr h1
      have m2 : D * V (a + 1) < D * V b := (Nat.mul_lt_mul_left hD).mpr h2
      exact absurd d3 (Nat.not_le.mpr (dist_mid m1 m2 de))
    have k1 := key t u n1' n2'
    have k2 := key u t n2' n1'
    omega
theorem sgn_sign {a : Bool} {n : Nat} {i : Int} (h : sgn a n = i) (h0 : i ≠ 0) : a = decide (i < 0) := by
  unfold sgn at h
  cases a
  · simp at h
    have : ¬ i < 0 := by omega
    simp [this]
  · simp at h
    have : i < 0 := by omega
    simp [this]
/-- the quotient of two whole numbers of parts is the quotient of the numbers -/
theorem div_qI {x y : UInt64} {A C : Int} {σ : Rat} (hσ : 0 < σ) (hx : Fin x) (hy : Fin y) (ex : rv x = (A : Rat) * σ) (ey : rv y = (C : Rat) * σ) (hA : A ≠ 0) (hC : C ≠ 0) : div x y = qI A C := by
  have hCR : (C : Rat) ≠ 0 := fun q => hC (by exact_mod_cast q)
  have hAR : (A : Rat) ≠ 0 := fun q => hA (by exact_mod_cast q)
  have hσn : σ ≠ 0 := by grind
  have hy0 : rv y ≠ 0 := by rw [ey]; grind
  obtain ⟨a, m, e, hx⟩ := hx
  obtain ⟨b, k, f, hy⟩ := hy
  have e1 := rv_mul_TT x
  have e2 := rv_mul_TT y
  have hk := val_ne hy hy0
  have hTp := TT_pos
  have hTn := TT_ne
  have hcross : A * val y = val x * C := by
    have : ((A * val y : Int) : Rat) = ((val x * C : Int) : Rat) := by
      rw [Rat.intCast_mul, Rat.intCast_mul, ← e1, ← e2, ex, ey]
      grind
    exact Rat.intCast_inj.mp this
  have hvy : val y ≠ 0 := by
    intro q
    rw [q, Int.mul_zero] at hcross
    apply hy0
    unfold rv
    rw [q]
    grind
  have hvx : val x ≠ 0 := by
    intro q
    rw [q, Int.zero_mul] at hcross
    rcases Int.mul_eq_zero.mp hcross with h | h
    · exact hA h
    · exact hvy h
  have sx := sgn_sign (val_sgn hx) hvx
  have sy := sgn_sign (val_sgn hy) hvy
  have hsT : 0 < σ * TT := Rat.mul_pos hσ hTp
  have sign : ∀ (v K : Int), (v : Rat) = (K : Rat) * (σ * TT) → decide (v < 0) = decide (K < 0) := by
    intro v K h
    apply decide_eq_decide.mpr
    constructor
    · intro q
      have q' : (v : Rat) < 0 := by exact_mod_cast q
      rw [h] at q'
      have : (K : Rat) < 0 := lt_of_mul hsT (by rw [Rat.zero_mul]; exact q')
      exact_mod_cast this
    · intro q
      have q' : (K : Rat) < 0 := by exact_mod_cast q
      have := Rat.mul_lt_mul_of_pos_right q' hsT
      rw [← h, Rat.zero_mul] at this
      exact_mod_cast this
  have sA := sign (val x) A (by rw [← e1, ex]; grind)
  have sC := sign (val y) C (by rw [← e2, ey]; grind)
  have R1 := div_right hx hy hk
  rw [sx, sy, sA, sC] at R1
  have hD : 0 < (val y).natAbs := by omega
  refine right_uniq hD R1 ?_
  unfold qI
  refine ofFrac_right (by omega) ?_ hD
  have hn := congrArg Int.natAbs hcross
  rw [Int.natAbs_mul, Int.natAbs_mul] at hn
  have gen : ∀ Z : Nat, A.natAbs * Z * (val y).natAbs = (val x).natAbs * Z * C.natAbs := fun Z => by
    rw [show A.natAbs * Z * (val y).natAbs = Z * (A.natAbs * (val y).natAbs) by ac_rfl, hn]
    ac_rfl
  exact gen _
end Mine
end
section
namespace Mine
open PySem PySem.Float64
/-- a rounding, in a bound that is no smaller than one part -/
theorem nearN {x : UInt64} {z B : Rat} (hN : Near x z) (hB : 1 / 1048576 ≤ B) (h1 : z ≤ B) (h2 : -B ≤ z) : rv x ≤ z + B / 9000000000000000 ∧ z - B / 9000000000000000 ≤ rv x := by
  obtain ⟨a, b⟩ := hN.near B h1 h2
  have he := eta_le
  unfold eps at a b
  constructor <;> grind
/-- a colour that is no grey -/
structure Col (r g b sc hi lo : Int) (σ : Rat) (fr fg fb : UInt64) : Prop where
  hS : Scale sc σ
  hG : Grid σ
  eh : max (max r g) b = hi
  el : min (min r g) b = lo
  rr : lo ≤ r ∧ r ≤ hi
  rg : lo ≤ g ∧ g ≤ hi
  rb : lo ≤ b ∧ b ≤ hi
  sp : lo < hi
  bh : hi ≤ 2097152
  bl : -2097152 ≤ lo
  nr : Fin fr ∧ rv fr = (r : Rat) * σ
  ng : Fin fg ∧ rv fg = (g : Rat) * σ
  nb : Fin fb ∧ rv fb = (b : Rat) * σ
theorem max_cast (a b : Int) : ((max a b : Int) : Rat) = max (a : Rat) (b : Rat) := by
  rcases Int.le_total a b with h | h
  · have h' : (a : Rat) ≤ (b : Rat) := Rat.intCast_le_intCast.mpr h
    rw [Int.max_eq_right h]; grind
  · have h' : (b : Rat) ≤ (a : Rat) := Rat.intCast_le_intCast.mpr h
    rw [Int.max_eq_left h]; grind
theorem min_cast (a b : Int) : ((min a b : Int) : Rat) = min (a : Rat) (b : Rat) := by
  rcases Int.le_total a b with h | h
  · have h' : (a : Rat) ≤ (b : Rat) := Rat.intCast_le_intCast.mpr h
    rw [Int.min_eq_left h]; grind
  · have h' : (b : Rat) ≤ (a : Rat) := Rat.intCast_le_intCast.mpr h
    rw [Int.min_eq_right h]; grind
theorem max_mul {a b σ : Rat} (hσ : 0 < σ) : max (a * σ) (b * σ) = max a b * σ := by
  rcases Rat.le_total (a := a) (b := b) with h | h
  · have := Rat.mul_le_mul_of_nonneg_right h (Rat.le_of_lt hσ)
    have e : max a b = b := by grind
    rw [e]; grind
  · have := Rat.mul_le_mul_of_nonneg_right h (Rat.le_of_lt hσ)
    have e : max a b = a := by grind
    rw [e]; grind
theorem min_mul {a b σ : Rat} (hσ : 0 < σ) : min (a * σ) (b * σ) = min a b * σ := by
  rcases Rat.le_total (a := a) (b := b) with h | h
  · have := Rat.mul_le_mul_of_nonneg_right h (Rat.le_of_lt hσ)
    have e : min a b = a := by grind
    rw [e]; grind
  · have := Rat.mul_le_mul_of_nonneg_right h (Rat.le_of_lt hσ)
    have e : min a b = b := by grind
    rw [e]; grind
section
variable {r g b sc hi lo : Int} {σ : Rat} {fr fg fb : UInt64}
theorem Col.pos (C : Col r g b sc hi lo σ fr fg fb) : 0 < σ := by have := C.hS.unit.lo; grind
theorem Col.vmax (C : Col r g b sc hi lo σ fr fg fb) : Fin (fmax3 fr fg fb) ∧ rv (fmax3 fr fg fb) = (hi : Rat) * σ := by
  obtain ⟨a, e⟩ := fmax3_spec C.nr.1 C.ng.1 C.nb.1
  refine ⟨a, ?_⟩
  rw [e, C.nr.2, C.ng.2, C.nb.2, max_mul C.pos, max_mul C.pos, ← max_cast, ← max_cast, C.eh]
theorem Col.vmin (C : Col r g b sc hi lo σ fr fg fb) : Fin (fmin3 fr fg fb) ∧ rv (fmin3 fr fg fb) = (lo : Rat) * σ := by
  obtain ⟨a, e⟩ := fmin3_spec C.nr.1 C.ng.1 C.nb.1
  refine ⟨a, ?_⟩
  rw [e, C.nr.2, C.ng.2, C.nb.2, min_mul C.pos, min_mul C.pos, ← min_cast, ← min_cast, C.el]
theorem Col.vrange (C : Col r g b sc hi lo σ fr fg fb) : Fin (rangeF fr fg fb) ∧ rv (rangeF fr fg fb) = ((hi - lo : Int) : Rat) * σ := by
  have h1 := C.sp
  have h2 := C.bh
  have h3 := C.bl
  exact sub_grid C.hS.unit C.hG C.vmax.1 C.vmin.1 C.vmax.2 C.vmin.2 (by omega) (by omega)
theorem Col.vsum (C : Col r g b sc hi lo σ fr fg fb) : Fin (sumF fr fg fb) ∧ rv (sumF fr fg fb) = ((hi + lo : Int) : Rat) * σ := by
  have h1 := C.sp
  have h2 := C.bh
  have h3 := C.bl
  exact add_grid C.hS.unit C.hG C.vmax.1 C.vmin.1 C.vmax.2 C.vmin.2 (by omega) (by omega)
theorem two_grid (hS : Scale sc σ) : Fin (4611686018427387904 : UInt64) ∧ rv 4611686018427387904 = ((2 * sc : Int) : Rat) * σ := by
  refine ⟨two.1, ?_⟩
  have := hS.one
  rw [two.2, Rat.intCast_mul]
  grind
theorem Col.vrest (C : Col r g b sc hi lo σ fr fg fb) : Fin (restF fr fg fb) ∧ rv (restF fr fg fb) = ((2 * sc - (hi + lo) : Int) : Rat) * σ := by
  have h1 := C.sp
  have h2 := C.bh
  have h3 := C.bl
  have h4 := C.hS.lo
  have h5 := C.hS.hi
  have t := two_grid C.hS
  obtain ⟨a, e⟩ := sub_grid C.hS.unit C.hG t.1 C.vmax.1 t.2 C.vmax.2 (by omega) (by omega)
  obtain ⟨a2, e2⟩ := sub_grid C.hS.unit C.hG a C.vmin.1 e C.vmin.2 (by omega) (by omega)
  refine ⟨a2, ?_⟩
  unfold restF
  rw [e2, show 2 * sc - hi - lo = 2 * sc - (hi + lo) by omega]
theorem int_zero {N : Int} (hσ : 0 < σ) : ((N : Rat) * σ = 0) ↔ N = 0 := by
  constructor
  · intro h
    have hn : σ ≠ 0 := by grind
    have : (N : Rat) = 0 := by grind
    exact_mod_cast this
  · intro h; rw [h]; grind
theorem Col.uneq (C : Col r g b sc hi lo σ fr fg fb) : Uneq fr fg fb := by
  have h1 := C.sp
  constructor
  · rw [cmp_eq C.vmin.1 C.vmax.1, C.vmin.2, C.vmax.2]
    simp only [decide_eq_false_iff_not]
    intro q
    have : ((hi - lo : Int) : Rat) * σ = 0 := by rw [Rat.intCast_sub]; grind
    have := (int_zero C.pos).mp this
    omega
  · have := C.vrange
    unfold rangeF at this
    rw [isZero_iff this.1, this.2]
    simp only [decide_eq_false_iff_not]
    intro q
    have := (int_zero C.pos).mp q
    omega
/-- one component's way from the greatest -/
structure Way (hi lo c : Int) (W : Rat) : Prop where
  mul : W * ((hi - lo : Int) : Rat) = ((hi - c : Int) : Rat)
  lo0 : 0 ≤ W
  hi1 : W ≤ 1
  z0 : c = hi → W = 0
  z1 : c = lo → W = 1
  lt1 : lo < c → W ≤ 1 - 1 / 4194304
theorem way_of {c : Int} (h1 : lo < hi) (h2 : hi ≤ 2097152) (h3 : -2097152 ≤ lo) (h4 : lo ≤ c) (h5 : c ≤ hi) : Way hi lo c (((hi - c : Int) : Rat) / ((hi - lo : Int) : Rat)) := by
  have hD : (0 : Rat) < ((hi - lo : Int) : Rat) := (Rat.intCast_lt_intCast (a := 0)).mpr (by omega)
  have hn : ((hi - lo : Int) : Rat) ≠ 0 := by grind
  have key : ((hi - c : Int) : Rat) / ((hi - lo : Int) : Rat) * ((hi - lo : Int) : Rat) = ((hi - c : Int) : Rat) := by grind
  refine ⟨key, ?_, ?_, ?_, ?_, ?_⟩
  · refine le_of_mul hD ?_
    rw [key, Rat.zero_mul]
    exact (Rat.intCast_le_intCast (a := 0)).mpr (by omega)
  · refine le_of_mul hD ?_
    rw [key, Rat.one_mul]
    exact Rat.intCast_le_intCast.mpr (by omega)
  · intro q
    rw [q, Int.sub_self]
    grind
  · intro q
    rw [q]
    grind
  · intro q
    refine le_of_mul hD ?_
    rw [key]
    have a1 : ((hi - c : Int) : Rat) ≤ ((hi - lo - 1 : Int) : Rat) := Rat.intCast_le_intCast.mpr (by omega)
    have a2' : ((hi - lo : Int) : Rat) ≤ ((4194304 : Int) : Rat) := Rat.intCast_le_intCast.mpr (by omega)
    have a2 : ((hi - lo : Int) : Rat) ≤ 4194304 := a2'
    have a3 : ((hi - lo - 1 : Int) : Rat) = ((hi - lo : Int) : Rat) - 1 := by rw [Rat.intCast_sub]; rfl
    grind
theorem Col.way (C : Col r g b sc hi lo σ fr fg fb) {c : Int} {W : Rat} {fc : UInt64} (hW : Way hi lo c W) (hc : Fin fc ∧ rv fc = (c : Rat) * σ) (c1 : lo ≤ c) (c2 : c ≤ hi) :
    Fin (wayF fr fg fb fc) ∧ (rv (wayF fr fg fb fc) ≤ W + 1 / 9000000000000000 ∧ W - 1 / 9000000000000000 ≤ rv (wayF fr fg fb fc)) ∧ (W = 0 → rv (wayF fr fg fb fc) = 0) ∧ (W = 1 → rv (wayF fr fg fb fc) = 1) := by
  have h1 := C.sp
  have h2 := C.bh
  have h3 := C.bl
  have hσ := C.pos
  obtain ⟨a, e⟩ := sub_grid C.hS.unit C.hG C.vmax.1 hc.1 C.vmax.2 hc.2 (by omega) (by omega)
  obtain ⟨a2, e2⟩ := C.vrange
  have hD : (0 : Rat) < ((hi - lo : Int) : Rat) := (Rat.intCast_lt_intCast (a := 0)).mpr (by omega)
  have hm := hW.mul
  have hy0 : rv (rangeF fr fg fb) ≠ 0 := by rw [e2]; intro q; have := (int_zero hσ).mp q; omega
  have hq : rv (sub (fmax3 fr fg fb) fc) / rv (rangeF fr fg fb) = W := by
    rw [e, e2, ← hm]
    rw [e2] at hy0
    generalize ((hi - lo : Int) : Rat) = D at *
    grind
  have hB := BIG_ge
  have w0 := hW.lo0
  have w1 := hW.hi1
  have hN := div_near a a2 hy0 (by rw [hq]; grind) (by rw [hq]; grind)
  rw [hq] at hN
  refine ⟨hN.fin, ?_, ?_, ?_⟩
  · have := nearN hN (B := 1) (by decide +kernel) w1 (by grind)
    exact this
  · intro q
    have := hN.exact 0 0 (by decide) (by rw [q]; grind)
    unfold wayF; rw [this, q]
  · intro q
    have := hN.exact 1 1074 (by decide) (by rw [q, TT_nat]; rfl)
    unfold wayF; rw [this, q]
end
end Mine
end
section
namespace Mine
open PySem PySem.Float64
/-- the six sectors of the wheel -/
def Sector (ρ γ β κ : Rat) : Prop :=
  (ρ = 0 ∧ β = 1 ∧ κ = 1 - γ) ∨ (ρ = 0 ∧ γ = 1 ∧ β ≤ 1 - 1 / 4194304 ∧ κ = 5 + β) ∨ (ρ ≠ 0 ∧ γ = 0 ∧ β = 1 ∧ κ = 1 + ρ) ∨ (ρ ≠ 0 ∧ γ = 0 ∧ ρ = 1 ∧ κ = 3 - β) ∨
  (ρ ≠ 0 ∧ γ ≠ 0 ∧ β = 0 ∧ ρ = 1 ∧ κ = 3 + γ) ∨ (ρ ≠ 0 ∧ γ ≠ 0 ∧ β = 0 ∧ γ = 1 ∧ κ = 5 - ρ)
theorem place_cases {r g b hi lo : Int} (eh : max (max r g) b = hi) (el : min (min r g) b = lo) (sp : lo < hi) :
    (r = hi ∧ b = lo ∧ placeI r g b = hi - lo - (hi - g)) ∨ (r = hi ∧ g = lo ∧ lo < b ∧ placeI r g b = 5 * (hi - lo) + (hi - b)) ∨ (r ≠ hi ∧ g = hi ∧ b = lo ∧ placeI r g b = hi - lo + (hi - r)) ∨ (r ≠ hi ∧ g = hi ∧ r = lo ∧ placeI r g b = 3 * (hi - lo) - (hi - b)) ∨
    (r ≠ hi ∧ g ≠ hi ∧ b = hi ∧ r = lo ∧ placeI r g b = 3 * (hi - lo) + (hi - g)) ∨ (r ≠ hi ∧ g ≠ hi ∧ b = hi ∧ g = lo ∧ placeI r g b = 5 * (hi - lo) - (hi - r)) := by
  have e : placeI r g b = if r = hi ∧ b = lo then g - lo else if g = hi ∧ b = lo then hi - lo + hi - r else if g = hi ∧ r = lo then 2 * (hi - lo) + b - lo else if b = hi ∧ r = lo then 3 * (hi - lo) + hi - g else if b = hi ∧ g = lo then 4 * (hi - lo) + r - lo else 5 * (hi - lo) + hi - b := by
    unfold placeI
    dsimp only
    rw [eh, el]
  have mx : ∀ x y : Int, max x y = x ∨ max x y = y := fun x y => (Int.le_total x y).elim (fun h => .inr (Int.max_eq_right h)) (fun h => .inl (Int.max_eq_left h))
  have mn : ∀ x y : Int, min x y = x ∨ min x y = y := fun x y => (Int.le_total x y).elim (fun h => .inl (Int.min_eq_left h)) (fun h => .inr (Int.min_eq_right h))
  have a1 : r = hi ∨ g = hi ∨ b = hi := by
    rcases mx (max r g) b with q | q
    · rcases mx r g with p | p
      · exact .inl (by rw [← eh, q, p])
      · exact .inr (.inl (by rw [← eh, q, p]))
    · exact .inr (.inr (by rw [← eh, q]))
  have a2 : r = lo ∨ g = lo ∨ b = lo := by
    rcases mn (min r g) b with q | q
    · rcases mn r g with p | p
      · exact .inl (by rw [← el, q, p])
      · exact .inr (.inl (by rw [← el, q, p]))
    · exact .inr (.inr (by rw [← el, q]))
  have a3 : lo ≤ b := by rw [← el]; exact Int.min_le_right _ _
  have ne : lo ≠ hi := Int.ne_of_lt sp
  clear eh el mx mn
  by_cases c1 : r = hi
  · by_cases c2 : b = lo
    · rw [if_pos ⟨c1, c2⟩] at e
      exact .inl ⟨c1, c2, by omega⟩
    · have c3 : g = lo := a2.elim (fun q => absurd (q.symm.trans c1) ne) (fun q => q.elim id (fun q => absurd q c2))
      rw [if_neg (fun q => c2 q.2), if_neg (fun q => c2 q.2), if_neg (fun q => ne (q.2.symm.trans c1)), if_neg (fun q => ne (q.2.symm.trans c1))] at e
      refine .inr (.inl ⟨c1, c3, Int.lt_iff_le_and_ne.mpr ⟨a3, fun q => c2 q.symm⟩, ?_⟩)
      by_cases c4 : b = hi
      · rw [if_pos ⟨c4, c3⟩] at e
        omega
      · rw [if_neg (fun q => c4 q.1)] at e
        omega
  · rw [if_neg (fun q => c1 q.1)] at e
    by_cases c2 : g = hi
    · by_cases c3 : b = lo
      · rw [if_pos ⟨c2, c3⟩] at e
        exact .inr (.inr (.inl ⟨c1, c2, c3, by omega⟩))
      · have c4 : r = lo := a2.elim id (fun q => q.elim (fun q => absurd (q.symm.trans c2) ne) (fun q => absurd q c3))
        rw [if_neg (fun q => c3 q.2), if_pos ⟨c2, c4⟩] at e
        exact .inr (.inr (.inr (.inl ⟨c1, c2, c4, by omega⟩)))
    · have c3 : b = hi := a1.elim (fun q => absurd q c1) (fun q => q.elim (fun q => absurd q c2) id)
      rw [if_neg (fun q => c2 q.1), if_neg (fun q => c2 q.1)] at e
      by_cases c4 : r = lo
      · rw [if_pos ⟨c3, c4⟩] at e
        exact .inr (.inr (.inr (.inr (.inl ⟨c1, c2, c3, c4, by omega⟩))))
      · have c5 : g = lo := a2.elim (fun q => absurd q c4) (fun q => q.elim id (fun q => absurd (q.symm.trans c3) ne))
        rw [if_neg (fun q => c4 q.2), if_pos ⟨c3, c5⟩] at e
        exact .inr (.inr (.inr (.inr (.inr ⟨c1, c2, c3, c5, by omega⟩))))
theorem Way.ne0 {hi lo c : Int} {W : Rat} (h : Way hi lo c W) (q : c ≠ hi) : W ≠ 0 := by
  intro e
  have := h.mul
  rw [e, Rat.zero_mul] at this
  have : hi - c = 0 := by exact_mod_cast this.symm
  omega
section
variable {r g b sc hi lo : Int} {σ : Rat} {fr fg fb : UInt64} {ρ γ β : Rat}
theorem sector_of (C : Col r g b sc hi lo σ fr fg fb) (wr : Way hi lo r ρ) (wg : Way hi lo g γ) (wb : Way hi lo b β) :
    ∃ κ, Sector ρ γ β κ ∧ κ * ((hi - lo : Int) : Rat) = (placeI r g b : Rat) := by
  have mr := wr.mul
  have mg := wg.mul
  have mb := wb.mul
  rcases place_cases C.eh C.el C.sp with ⟨h1, h2, hP⟩ | ⟨h1, h2, h3, hP⟩ | ⟨h0, h1, h2, hP⟩ | ⟨h0, h1, h2, hP⟩ | ⟨h0, h00, h1, h2, hP⟩ | ⟨h0, h00, h1, h2, hP⟩
  · refine ⟨1 - γ, .inl ⟨wr.z0 h1, wb.z1 h2, rfl⟩, ?_⟩
    rw [hP, Rat.intCast_sub (hi - lo)]; grind
  · refine ⟨5 + β, .inr (.inl ⟨wr.z0 h1, wg.z1 h2, wb.lt1 h3, rfl⟩), ?_⟩
    rw [hP, Rat.intCast_add, Rat.intCast_mul]; grind
  · refine ⟨1 + ρ, .inr (.inr (.inl ⟨wr.ne0 h0, wg.z0 h1, wb.z1 h2, rfl⟩)), ?_⟩
    rw [hP, Rat.intCast_add]; grind
  · refine ⟨3 - β, .inr (.inr (.inr (.inl ⟨wr.ne0 h0, wg.z0 h1, wr.z1 h2, rfl⟩))), ?_⟩
    rw [hP, Rat.intCast_sub (3 * (hi - lo)), Rat.intCast_mul]; grind
  · refine ⟨3 + γ, .inr (.inr (.inr (.inr (.inl ⟨wr.ne0 h0, wg.ne0 h00, wb.z0 h1, wr.z1 h2, rfl⟩)))), ?_⟩
    rw [hP, Rat.intCast_add, Rat.intCast_mul]; grind
  · refine ⟨5 - ρ, .inr (.inr (.inr (.inr (.inr ⟨wr.ne0 h0, wg.ne0 h00, wb.z0 h1, wg.z1 h2, rfl⟩)))), ?_⟩
    rw [hP, Rat.intCast_sub (5 * (hi - lo)), Rat.intCast_mul]; grind
end
/-- the walk round the wheel, each component's share of the spread -/
def kR (w : Rat) : Rat := max 0 (min 1 (max (w - 4) (2 - w)))
def kG (w : Rat) : Rat := max 0 (min 1 (min w (4 - w)))
def kB (w : Rat) : Rat := max 0 (min 1 (min (w - 2) (6 - w)))
theorem minL {a b : Rat} (h : a ≤ b) : min a b = a := if_pos h
theorem minR {a b : Rat} (h : b ≤ a) : min a b = b := by
  by_cases q : a ≤ b
  · rw [minL q]; exact Rat.le_antisymm q h
  · exact if_neg q
theorem maxR {a b : Rat} (h : a ≤ b) : max a b = b := if_pos h
theorem maxL {a b : Rat} (h : b ≤ a) : max a b = a := by
  by_cases q : a ≤ b
  · rw [maxR q]; exact Rat.le_antisymm h q
  · exact if_neg q
theorem cut1 {x : Rat} (h : 1 ≤ x) : max 0 (min 1 x) = 1 := by rw [minL h]; exact maxR (by decide)
theorem cut0 {x : Rat} (h : x ≤ 0) : max 0 (min 1 x) = 0 := by rw [minR (Rat.le_trans h (by decide))]; exact maxL h
theorem cutx {x : Rat} (h : 0 ≤ x) (h1 : x ≤ 1) : max 0 (min 1 x) = x := by rw [minR h1]; exact maxR h
theorem kR1 {w : Rat} (h : w ≤ 1) : kR w = 1 := by unfold kR; rw [maxR (show w - 4 ≤ 2 - w by grind)]; exact cut1 (by grind)
theorem kR2 {w : Rat} (h : 1 ≤ w) (h2 : w ≤ 2) : kR w = 2 - w := by unfold kR; rw [maxR (show w - 4 ≤ 2 - w by grind)]; exact cutx (by grind) (by grind)
theorem kR3 {w : Rat} (h : 2 ≤ w) (h2 : w ≤ 4) : kR w = 0 := by
  unfold kR
  by_cases q : w - 4 ≤ 2 - w
  · rw [maxR q]; exact cut0 (by grind)
  · rw [maxL (Rat.le_of_lt (Rat.not_le.mp q))]; exact cut0 (by grind)
theorem kR4 {w : Rat} (h : 4 ≤ w) (h2 : w ≤ 5) : kR w = w - 4 := by unfold kR; rw [maxL (show 2 - w ≤ w - 4 by grind)]; exact cutx (by grind) (by grind)
theorem kR5 {w : Rat} (h : 5 ≤ w) : kR w = 1 := by unfold kR; rw [maxL (show 2 - w ≤ w - 4 by grind)]; exact cut1 (by grind)
theorem kG1 {w : Rat} (h : w ≤ 0) : kG w = 0 := by unfold kG; rw [minL (show w ≤ 4 - w by grind)]; exact cut0 h
theorem kG2 {w : Rat} (h : 0 ≤ w) (h2 : w ≤ 1) : kG w = w := by unfold kG; rw [minL (show w ≤ 4 - w by grind)]; exact cutx h h2
theorem kG3 {w : Rat} (h : 1 ≤ w) (h2 : w ≤ 3) : kG w = 1 := by
  unfold kG
  by_cases q : w ≤ 4 - w
  · rw [minL q]; exact cut1 h
  · rw [minR (Rat.le_of_lt (Rat.not_le.mp q))]; exact cut1 (by grind)
theorem kG4 {w : Rat} (h : 3 ≤ w) (h2 : w ≤ 4) : kG w = 4 - w := by unfold kG; rw [minR (show 4 - w ≤ w by grind)]; exact cutx (by grind) (by grind)
theorem kG5 {w : Rat} (h : 4 ≤ w) : kG w = 0 := by unfold kG; rw [minR (show 4 - w ≤ w by grind)]; exact cut0 (by grind)
theorem kBG (w : Rat) : kB w = kG (w - 2) := by unfold kB kG; rw [show 4 - (w - 2) = 6 - w by grind]
theorem kB1 {w : Rat} (h : w ≤ 2) : kB w = 0 := by rw [kBG]; exact kG1 (by grind)
theorem kB2 {w : Rat} (h : 2 ≤ w) (h2 : w ≤ 3) : kB w = w - 2 := by rw [kBG]; exact kG2 (by grind) (by grind)
theorem kB3 {w : Rat} (h : 3 ≤ w) (h2 : w ≤ 5) : kB w = 1 := by rw [kBG]; exact kG3 (by grind) (by grind)
theorem kB4 {w : Rat} (h : 5 ≤ w) (h2 : w ≤ 6) : kB w = 6 - w := by rw [kBG, kG4 (by grind) (by grind)]; grind
theorem kRG1 {w : Rat} (h : 1 ≤ w) (h2 : w ≤ 6) : kR (w - 2) = kG w := by
  by_cases q : w ≤ 3
  · rw [kR1 (by grind), kG3 h q]
  · by_cases q2 : w ≤ 4
    · rw [kR2 (by grind) (by grind), kG4 (by grind) q2]; grind
    · rw [kR3 (by grind) (by grind), kG5 (by grind)]
theorem kRG2 {w : Rat} (h : 0 ≤ w) (h2 : w ≤ 3) : kR (w + 4) = kG w := by
  by_cases q : w ≤ 1
  · rw [kR4 (by grind) (by grind), kG2 h q]; grind
  · rw [kR5 (by grind), kG3 (by grind) h2]
theorem sector_k {ρ γ β κ : Rat} (h : Sector ρ γ β κ) (r0 : 0 ≤ ρ) (r1 : ρ ≤ 1) (g0 : 0 ≤ γ) (g1 : γ ≤ 1) (b0 : 0 ≤ β) (b1 : β ≤ 1) :
    (ρ = 1 - kR κ ∧ γ = 1 - kG κ ∧ β = 1 - kB κ) ∧ 0 ≤ κ ∧ κ ≤ 6 - 1 / 4194304 := by
  rcases h with ⟨h1, h2, h3⟩ | ⟨h1, h2, h4, h3⟩ | ⟨h0, h1, h2, h3⟩ | ⟨h0, h1, h2, h3⟩ | ⟨h0, h00, h1, h2, h3⟩ | ⟨h0, h00, h1, h2, h3⟩
  · rw [kR1 (by grind), kG2 (by grind) (by grind), kB1 (by grind)]; grind
  · rw [kR5 (by grind), kG5 (by grind), kB4 (by grind) (by grind)]; grind
  · rw [kR2 (by grind) (by grind), kG3 (by grind) (by grind), kB1 (by grind)]; grind
  · rw [kR3 (by grind) (by grind), kG3 (by grind) (by grind), kB2 (by grind) (by grind)]; grind
  · rw [kR3 (by grind) (by grind), kG4 (by grind) (by grind), kB3 (by grind) (by grind)]; grind
  · rw [kR4 (by grind) (by grind), kG5 (by grind), kB3 (by grind) (by grind)]; grind
end Mine
end
section
namespace Mine
open PySem PySem.Float64
theorem six_rv : rv 0x4018000000000000 = 6 := by rw [show (0x4018000000000000 : UInt64) = 4618441417868443648 by decide, six.2]; decide +kernel
theorem six_fin : Fin (0x4018000000000000 : UInt64) := by rw [show (0x4018000000000000 : UInt64) = 4618441417868443648 by decide]; exact six.1
theorem two_rv : rv 0x4000000000000000 = 2 := by rw [show (0x4000000000000000 : UInt64) = 4611686018427387904 by decide, two.2]; decide +kernel
theorem two_fin : Fin (0x4000000000000000 : UInt64) := by rw [show (0x4000000000000000 : UInt64) = 4611686018427387904 by decide]; exact two.1
theorem four_rv : rv 0x4010000000000000 = 4 := by rw [show (0x4010000000000000 : UInt64) = 4616189618054758400 by decide, four.2]; decide +kernel
theorem four_fin : Fin (0x4010000000000000 : UInt64) := by rw [show (0x4010000000000000 : UInt64) = 4616189618054758400 by decide]; exact four.1
theorem addN {x y : UInt64} {B : Rat} (hx : Fin x) (hy : Fin y) (hB : 1 / 1048576 ≤ B) (hB2 : B ≤ 1152921504606846976) (h1 : rv x + rv y ≤ B) (h2 : -B ≤ rv x + rv y) :
    Fin (add x y) ∧ rv (add x y) ≤ rv x + rv y + B / 9000000000000000 ∧ rv x + rv y - B / 9000000000000000 ≤ rv (add x y) := by
  have hG := BIG_ge
  have hN := add_near hx hy (by grind) (by grind)
  exact ⟨hN.fin, nearN hN hB h1 h2⟩
theorem subN {x y : UInt64} {B : Rat} (hx : Fin x) (hy : Fin y) (hB : 1 / 1048576 ≤ B) (hB2 : B ≤ 1152921504606846976) (h1 : rv x - rv y ≤ B) (h2 : -B ≤ rv x - rv y) :
    Fin (sub x y) ∧ rv (sub x y) ≤ rv x - rv y + B / 9000000000000000 ∧ rv x - rv y - B / 9000000000000000 ≤ rv (sub x y) := by
  have hG := BIG_ge
  have hN := sub_near hx hy (by grind) (by grind)
  exact ⟨hN.fin, nearN hN hB h1 h2⟩
theorem mulN {x y : UInt64} {B : Rat} (hx : Fin x) (hy : Fin y) (hB : 1 / 1048576 ≤ B) (hB2 : B ≤ 1152921504606846976) (h1 : rv x * rv y ≤ B) (h2 : -B ≤ rv x * rv y) :
    Fin (mul x y) ∧ rv (mul x y) ≤ rv x * rv y + B / 9000000000000000 ∧ rv x * rv y - B / 9000000000000000 ≤ rv (mul x y) := by
  have hG := BIG_ge
  have hN := mul_near hx hy (by grind) (by grind)
  exact ⟨hN.fin, nearN hN hB h1 h2⟩
theorem div6 {h : UInt64} (hh : Fin h) (h1 : rv h ≤ 11 / 2) (h2 : -(11 / 2) ≤ rv h) :
    Fin (div h 0x4018000000000000) ∧ (rv (div h 0x4018000000000000) ≤ rv h / 6 + 11 / 12 / 9000000000000000 ∧ rv h / 6 - 11 / 12 / 9000000000000000 ≤ rv (div h 0x4018000000000000)) ∧ (rv h = 0 → rv (div h 0x4018000000000000) = 0) := by
  have hG := BIG_ge
  have hN := div_near hh six_fin (by rw [six_rv]; decide) (by rw [six_rv]; grind) (by rw [six_rv]; grind)
  rw [six_rv] at hN
  refine ⟨hN.fin, nearN hN (by decide +kernel) (by grind) (by grind), ?_⟩
  intro q
  rw [q] at hN
  have := hN.exact 0 0 (by decide) (by grind)
  rw [this]; grind
theorem hue_low {h : UInt64} (hh : Fin h) (h1 : rv h ≤ 11 / 2) (h2 : rv h = 0 ∨ 1 / 16777216 ≤ rv h) :
    Fin (modF (div h 0x4018000000000000)) ∧ 0 ≤ rv (modF (div h 0x4018000000000000)) ∧ rv (modF (div h 0x4018000000000000)) < 1 ∧ rv (modF (div h 0x4018000000000000)) ≤ rv h / 6 + 11 / 12 / 9000000000000000 ∧ rv h / 6 - 11 / 12 / 9000000000000000 ≤ rv (modF (div h 0x4018000000000000)) := by
  obtain ⟨f, ⟨u, l⟩, z⟩ := div6 hh h1 (by grind)
  generalize div h 0x4018000000000000 = x at *
  have x0 : 0 ≤ rv x := by
    rcases h2 with q | q
    · rw [z q]; decide +kernel
    · grind
  cases mod_spec f (by grind) (by grind) with
  | low a b c d => rw [d]; exact ⟨c, by grind, by grind, by grind, by grind⟩
  | high a b c d => grind
  | neg a b c => grind
theorem hue_neg {h : UInt64} (hh : Fin h) (h1 : rv h ≤ -(1 / 8388608)) (h2 : -(11 / 10) ≤ rv h) :
    Fin (modF (div h 0x4018000000000000)) ∧ 0 ≤ rv (modF (div h 0x4018000000000000)) ∧ rv (modF (div h 0x4018000000000000)) < 1 ∧ rv (modF (div h 0x4018000000000000)) ≤ 1 + rv h / 6 + 2 / 9000000000000000 ∧ 1 + rv h / 6 - 2 / 9000000000000000 ≤ rv (modF (div h 0x4018000000000000)) := by
  obtain ⟨f, ⟨u, l⟩, z⟩ := div6 hh (by grind) (by grind)
  generalize div h 0x4018000000000000 = x at *
  cases mod_spec f (by grind) (by grind) with
  | low a b c d => grind
  | high a b c d => grind
  | neg a b c =>
    obtain ⟨p, q⟩ := nearN c (B := 1) (by decide +kernel) (by grind) (by grind)
    exact ⟨c.fin, by grind, by grind, by grind, by grind⟩
section
variable {r g b sc hi lo : Int} {σ : Rat} {fr fg fb : UInt64} {ρ γ β κ : Rat}
theorem Col.isMax (C : Col r g b sc hi lo σ fr fg fb) {c : Int} {W : Rat} {fc : UInt64} (hW : Way hi lo c W) (hc : Fin fc ∧ rv fc = (c : Rat) * σ) : (cmp fc (fmax3 fr fg fb) == some .eq) = decide (W = 0) := by
  rw [cmp_eq hc.1 C.vmax.1, C.vmax.2, hc.2]
  apply decide_eq_decide.mpr
  constructor
  · intro h
    have : ((c - hi : Int) : Rat) * σ = 0 := by rw [Rat.intCast_sub]; grind
    have := (int_zero C.pos).mp this
    exact hW.z0 (by omega)
  · intro h
    by_cases q : c = hi
    · rw [q]
    · exact absurd h (hW.ne0 q)
/-- a way as it is reckoned -/
structure WayN (x : UInt64) (W : Rat) : Prop where
  fin : Fin x
  up : rv x ≤ W + 1 / 9000000000000000
  dn : W - 1 / 9000000000000000 ≤ rv x
  z0 : W = 0 → rv x = 0
  z1 : W = 1 → rv x = 1
  w0 : 0 ≤ W
  w1 : W ≤ 1
  d1 : W = 1 ∨ W ≤ 1 - 1 / 4194304
theorem Col.wayN (C : Col r g b sc hi lo σ fr fg fb) {c : Int} {W : Rat} {fc : UInt64} (hW : Way hi lo c W) (hc : Fin fc ∧ rv fc = (c : Rat) * σ) (c1 : lo ≤ c) (c2 : c ≤ hi) : WayN (wayF fr fg fb fc) W := by
  obtain ⟨f, ⟨u, l⟩, z0, z1⟩ := C.way hW hc c1 c2
  refine ⟨f, u, l, z0, z1, hW.lo0, hW.hi1, ?_⟩
  by_cases q : c = lo
  · exact .inl (hW.z1 q)
  · exact .inr (hW.lt1 (by omega))
/-- the hue as it is told -/
structure HueN (x : UInt64) (κ : Rat) : Prop where
  fin : Fin x
  ge0 : 0 ≤ rv x
  lt1 : rv x < 1
  up : rv x ≤ κ / 6 + 3 / 9000000000000000
  dn : κ / 6 - 3 / 9000000000000000 ≤ rv x
theorem unit1 : Unit1 1 := ⟨by decide +kernel, by decide +kernel⟩
theorem WayN.bd {x : UInt64} {W : Rat} (h : WayN x W) : Bd 1 x W 1 (1 / 9000000000000000) := by
  obtain ⟨f, u, l, _, _, w0, w1, _⟩ := h
  exact ⟨f, by rw [Rat.mul_one]; exact u, by rw [Rat.mul_one]; exact l, w1, Rat.le_trans (by decide) w0⟩
theorem litB {k : UInt64} {c : Rat} (f : Fin k) (e : rv k = c) (h : decide (0 ≤ c) = true) : Bd 1 k c c 0 := by
  have h := of_decide_eq_true h
  exact ⟨f, by grind, by grind, Rat.le_refl, by grind⟩
theorem boundB {σ z m e M : Rat} {x : UInt64} (h : Bd σ x z m e) (b1 : z ≤ M) (b2 : -M ≤ z) : Bd σ x z M e := ⟨h.fin, h.up, h.lo, b1, b2⟩
/-- a difference whose parts are not below zero -/
theorem subW {x y : UInt64} {z z' m m' e e' : Rat} (hx : Bd 1 x z m e) (hy : Bd 1 y z' m' e') (z0 : 0 ≤ z) (z0' : 0 ≤ z') (E : Rat) (c : decide (m' ≤ m) = true) (h : okB m (e + e') E = true) : Bd 1 (sub x y) (z - z') m E := by
  have c := of_decide_eq_true c
  obtain ⟨f, u, l, b1, b2⟩ := hx
  obtain ⟨f', u', l', b1', b2'⟩ := hy
  exact opB unit1 (sub_near f f') (by grind) (by grind) (by grind) (by grind) h
theorem hueP {h : UInt64} {z m E : Rat} (B : Bd 1 h z m E) (c : decide (m ≤ 5 ∧ E ≤ 12 / 9000000000000000) = true) (hz : rv h = 0 ∨ 1 / 16777216 ≤ rv h) : HueN (modF (div h 0x4018000000000000)) z := by
  obtain ⟨c1, c2⟩ := of_decide_eq_true c
  obtain ⟨f, u, l, b1, b2⟩ := B
  rw [Rat.mul_one] at u l
  obtain ⟨a1, a2, a3, a4, a5⟩ := hue_low f (by grind) hz
  exact ⟨a1, a2, a3, by grind, by grind⟩
theorem hueP1 {h : UInt64} {z m E : Rat} (B : Bd 1 h z m E) (c : decide (m ≤ 5 ∧ E ≤ 12 / 9000000000000000) = true) (h1 : 1 ≤ z) : HueN (modF (div h 0x4018000000000000)) z :=
  hueP B c (.inr (by obtain ⟨c1, c2⟩ := of_decide_eq_true c; have l := B.lo; rw [Rat.mul_one] at l; grind))
theorem hueM {h : UInt64} {z E : Rat} (B : Bd 1 h z 1 E) (c : decide (E ≤ 3 / 9000000000000000) = true) (hz : z ≤ -(1 / 4194304)) : HueN (modF (div h 0x4018000000000000)) (6 + z) := by
  have c := of_decide_eq_true c
  obtain ⟨f, u, l, b1, b2⟩ := B
  rw [Rat.mul_one] at u l
  obtain ⟨a1, a2, a3, a4, a5⟩ := hue_neg f (by grind) (by grind)
  exact ⟨a1, a2, a3, by grind, by grind⟩
theorem idH {x : UInt64} {κ κ' : Rat} (h : HueN x κ) (e : κ = κ') : HueN x κ' := e ▸ h
theorem sub_ge1 {a x y : Rat} (h : 2 ≤ a) (x0 : 0 ≤ x) (y1 : y ≤ 1) : 1 ≤ a + x - y := by grind
theorem add_ge0 {a x : Rat} (h : 2 ≤ a) (x0 : 0 ≤ x) : 0 ≤ a + x := by grind
theorem turn6 {β γ κ : Rat} (h1 : γ = 1) (h2 : κ = 5 + β) : 6 + (β - γ) = κ := by grind
theorem low1 {β γ : Rat} (h1 : γ = 1) (h2 : β ≤ 1 - 1 / 4194304) : β - γ ≤ -(1 / 4194304) := by grind
theorem hue_two {wr wb : UInt64} (Wr : WayN wr ρ) (Wb : WayN wb β) (h : 2 + ρ - β = κ) : HueN (modF (div (sub (add 0x4000000000000000 wr) wb) 0x4018000000000000)) κ :=
  idH (hueP1 (subW (addB unit1 (litB two_fin two_rv (by decide +kernel)) Wr.bd (9 / 2 / 9000000000000000) (by decide +kernel)) Wb.bd (add_ge0 (by decide) Wr.w0) Wb.w0 (12 / 9000000000000000) (by decide +kernel) (by decide +kernel)) (by decide +kernel) (sub_ge1 (by decide) Wr.w0 Wb.w1)) h
theorem hue_four {wg wr : UInt64} (Wg : WayN wg γ) (Wr : WayN wr ρ) (h : 4 + γ - ρ = κ) : HueN (modF (div (sub (add 0x4010000000000000 wg) wr) 0x4018000000000000)) κ :=
  idH (hueP1 (subW (addB unit1 (litB four_fin four_rv (by decide +kernel)) Wg.bd (6 / 9000000000000000) (by decide +kernel)) Wr.bd (add_ge0 (by decide) Wg.w0) Wr.w0 (12 / 9000000000000000) (by decide +kernel) (by decide +kernel)) (by decide +kernel) (sub_ge1 (by decide) Wg.w0 Wr.w1)) h
theorem hue_zero {wb wg : UInt64} (Wb : WayN wb β) (Wg : WayN wg γ) (h2 : β = 1) : rv (sub wb wg) = 0 ∨ 1 / 16777216 ≤ rv (sub wb wg) := by
  have e1 := Wb.z1 h2
  have hG := BIG_ge
  rcases Wg.d1 with q | q
  · left
    have e2 := Wg.z1 q
    have e : rv wb - rv wg = 0 := by rw [e1, e2]; decide +kernel
    have hN := sub_near Wb.fin Wg.fin (by rw [e]; grind) (by rw [e]; grind)
    rw [e] at hN
    exact hN.exact 0 0 (by decide) (by rw [Rat.zero_mul]; decide +kernel)
  · right
    have l := (subW Wb.bd Wg.bd Wb.w0 Wg.w0 (4 / 9000000000000000) (by decide +kernel) (by decide +kernel)).lo
    rw [Rat.mul_one] at l
    grind
theorem hue_calc {wr wg wb : UInt64} (Wr : WayN wr ρ) (Wg : WayN wg γ) (Wb : WayN wb β) (h : Sector ρ γ β κ) :
    HueN (modF (div (if decide (ρ = 0) = true then sub wb wg else if decide (γ = 0) = true then sub (add 0x4000000000000000 wr) wb else sub (add 0x4010000000000000 wg) wr) 0x4018000000000000)) κ := by
  rcases h with ⟨h1, h2, h3⟩ | ⟨h1, h2, h4, h3⟩ | ⟨h0, h1, h2, h3⟩ | ⟨h0, h1, h2, h3⟩ | ⟨h0, h00, h1, h2, h3⟩ | ⟨h0, h00, h1, h2, h3⟩
  · rw [if_pos (decide_eq_true h1)]
    exact idH (hueP (subW Wb.bd Wg.bd Wb.w0 Wg.w0 (4 / 9000000000000000) (by decide +kernel) (by decide +kernel)) (by decide +kernel) (hue_zero Wb Wg h2)) (by rw [h2, h3])
  · rw [if_pos (decide_eq_true h1)]
    exact idH (hueM (subW Wb.bd Wg.bd Wb.w0 Wg.w0 (3 / 9000000000000000) (by decide +kernel) (by decide +kernel)) (by decide +kernel) (low1 h2 h4)) (turn6 h2 h3)
  all_goals rw [if_neg (fun q => h0 (of_decide_eq_true q))]
  · rw [if_pos (decide_eq_true h1)]
    exact hue_two Wr Wb (by grind)
  · rw [if_pos (decide_eq_true h1)]
    exact hue_two Wr Wb (by grind)
  all_goals rw [if_neg (fun q => h00 (of_decide_eq_true q))]
  · exact hue_four Wg Wr (by grind)
  · exact hue_four Wg Wr (by grind)
theorem Col.hue (C : Col r g b sc hi lo σ fr fg fb) (wr : Way hi lo r ρ) (wg : Way hi lo g γ) (wb : Way hi lo b β) (h : Sector ρ γ β κ) : HueN (hueF fr fg fb) κ := by
  unfold hueF hF
  rw [C.isMax wr C.nr, C.isMax wg C.ng]
  exact hue_calc (C.wayN wr C.nr C.rr.1 C.rr.2) (C.wayN wg C.ng C.rg.1 C.rg.2) (C.wayN wb C.nb C.rb.1 C.rb.2) h
end
end Mine
end
section
namespace Mine
open PySem PySem.Float64
theorem mul_bound {x y a b : Rat} (x1 : x ≤ a) (x2 : -a ≤ x) (y1 : y ≤ b) (y2 : -b ≤ y) : x * y ≤ a * b ∧ -(a * b) ≤ x * y := by
  have m1 := Rat.mul_nonneg (show 0 ≤ a - x by grind) (show 0 ≤ b + y by grind)
  have m2 := Rat.mul_nonneg (show 0 ≤ a + x by grind) (show 0 ≤ b - y by grind)
  have m3 := Rat.mul_nonneg (show 0 ≤ a - x by grind) (show 0 ≤ b - y by grind)
  have m4 := Rat.mul_nonneg (show 0 ≤ a + x by grind) (show 0 ≤ b + y by grind)
  constructor <;> grind
theorem lip_max {a b c d e : Rat} (h1 : a ≤ b + e) (h2 : b ≤ a + e) (h3 : c ≤ d + e) (h4 : d ≤ c + e) : max a c ≤ max b d + e ∧ max b d ≤ max a c + e := by grind
theorem lip_min {a b c d e : Rat} (h1 : a ≤ b + e) (h2 : b ≤ a + e) (h3 : c ≤ d + e) (h4 : d ≤ c + e) : min a c ≤ min b d + e ∧ min b d ≤ min a c + e := by grind
theorem lip_cut {a b e : Rat} (he : 0 ≤ e) (h1 : a ≤ b + e) (h2 : b ≤ a + e) : max 0 (min 1 a) ≤ max 0 (min 1 b) + e ∧ max 0 (min 1 b) ≤ max 0 (min 1 a) + e := by
  obtain ⟨p, q⟩ := lip_min (show (1 : Rat) ≤ 1 + e by grind) (by grind) h1 h2
  exact lip_max (by grind) (by grind) p q
theorem kR_lip {a b e : Rat} (h1 : a ≤ b + e) (h2 : b ≤ a + e) : kR a ≤ kR b + e ∧ kR b ≤ kR a + e := by
  obtain ⟨p, q⟩ := lip_max (show a - 4 ≤ b - 4 + e by grind) (by grind) (show 2 - a ≤ 2 - b + e by grind) (by grind)
  exact lip_cut (by grind) p q
theorem kG_lip {a b e : Rat} (h1 : a ≤ b + e) (h2 : b ≤ a + e) : kG a ≤ kG b + e ∧ kG b ≤ kG a + e := by
  obtain ⟨p, q⟩ := lip_min h1 h2 (show 4 - a ≤ 4 - b + e by grind) (by grind)
  exact lip_cut (by grind) p q
theorem kB_lip {a b e : Rat} (h1 : a ≤ b + e) (h2 : b ≤ a + e) : kB a ≤ kB b + e ∧ kB b ≤ kB a + e := by
  obtain ⟨p, q⟩ := lip_min (show a - 2 ≤ b - 2 + e by grind) (by grind) (show 6 - a ≤ 6 - b + e by grind) (by grind)
  exact lip_cut (by grind) p q
theorem nearZ {x : UInt64} {z B : Rat} (hN : Near x z) (hB : 1 / 1099511627776 ≤ B) (h1 : z ≤ B) (h2 : -B ≤ z) : rv x ≤ z + B / 9000000000000000 ∧ z - B / 9000000000000000 ≤ rv x := by
  obtain ⟨a, b⟩ := hN.near B h1 h2
  have he := eta_le
  unfold eps at a b
  constructor <;> grind
theorem rv_pos_ge {x : UInt64} (h : 0 < rv x) : 2 * eta ≤ rv x := by
  have e1 := rv_mul_TT x
  have hp := TT_pos
  have hn := TT_ne
  have h1 := Rat.mul_lt_mul_of_pos_right h hp
  rw [e1, Rat.zero_mul] at h1
  have h2 : 0 < val x := by exact_mod_cast h1
  have h3 : ((1 : Int) : Rat) ≤ (val x : Rat) := Rat.intCast_le_intCast.mpr (by omega)
  refine le_of_mul hp ?_
  rw [e1]
  have h4 : eta * (2 * TT) = 1 := by unfold eta; grind
  have h5 : ((1 : Int) : Rat) = 1 := rfl
  grind
theorem six_lit : Fin (4618441417868443648 : UInt64) ∧ rv 4618441417868443648 = 6 := ⟨six.1, by rw [six.2]; decide +kernel⟩
/-- six times the hue, its whole part and the rest -/
theorem six_spec {h : UInt64} {κ : Rat} (H : HueN h κ) (k1 : κ ≤ 6 - 1 / 4194304) :
    ∃ (u : Rat), isFinite (mul h 4618441417868443648) = true ∧ (Flt.toInt truncOf (mul h 4618441417868443648)).natAbs < 2 ^ 64 ∧ 0 ≤ iH h ∧ iH h < 6 ∧ (iH h : Rat) ≤ u ∧ u < (iH h : Rat) + 1 ∧ u ≤ κ + 24 / 9000000000000000 ∧ κ ≤ u + 24 / 9000000000000000 ∧
      Fin (fH h) ∧ rv (fH h) ≤ u - (iH h : Rat) + 1 / 9000000000000000 ∧ u - (iH h : Rat) ≤ rv (fH h) + 1 / 9000000000000000 := by
  obtain ⟨hf, h0, h1, hu, hd⟩ := H
  have hG := BIG_ge
  have hN := mul_near hf six_lit.1 (by rw [six_lit.2]; grind) (by rw [six_lit.2]; grind)
  rw [six_lit.2] at hN
  obtain ⟨u1, l1⟩ := nearZ hN (B := 6) (by decide +kernel) (by grind) (by grind)
  have u0 : 0 ≤ rv (mul h 4618441417868443648) := by
    by_cases q : rv h = 0
    · rw [q] at hN
      have := hN.exact 0 0 (by decide) (by grind)
      rw [this]; decide +kernel
    · have := rv_pos_ge (x := h) (by grind)
      obtain ⟨a, b⟩ := hN.near (rv h * 6) (by grind) (by grind)
      have := eta_pos
      unfold eps at b
      grind
  obtain ⟨t1, t2, t3⟩ := trunc_spec hN.fin u0
  have eI : Flt.toInt truncOf (mul h 4618441417868443648) = iH h := rfl
  rw [eI] at t1 t2 t3
  have t4 : (iH h : Rat) < ((6 : Int) : Rat) := by
    have : ((6 : Int) : Rat) = 6 := rfl
    rw [this]; grind
  have t5 : iH h < 6 := Rat.intCast_lt_intCast.mp t4
  obtain ⟨oi, ov⟩ := ofInt_exact (i := iH h) (by omega) (by omega)
  refine ⟨rv (mul h 4618441417868443648), isFinite_of hN.fin, by rw [eI]; omega, t3, t5, t1, t2, by grind, by grind, ?_⟩
  obtain ⟨f2, u2, l2⟩ := subN hN.fin oi (B := 1) (by decide +kernel) (by decide +kernel) (by rw [ov]; grind) (by rw [ov]; grind)
  rw [ov] at u2 l2
  exact ⟨f2, u2, by unfold fH h6F; grind⟩
end Mine
end
section
namespace Mine
open PySem PySem.Float64
theorem mul_pos_le {a b c : Rat} (hc : 0 ≤ c) (h : a ≤ b) : a * c ≤ b * c := Rat.mul_le_mul_of_nonneg_right h hc
/-- the product of two that are known nearly -/
theorem mulBB {x y : UInt64} {z z' m m' e e' σ : Rat} (hs : Unit1 σ) (hx : Bd σ x z m e) (hy : Bd 1 y z' m' e') (E : Rat) (c : okB (m * m') (m * e' + m' * e + e * e') E = true) : Bd σ (mul x y) (z * z') (m * m') E := by
  obtain ⟨f, u, l, b1, b2⟩ := hx
  obtain ⟨f', u', l', b1', b2'⟩ := hy
  have hp := hs.pos
  rw [Rat.mul_one] at u' l'
  have k1 := mul_bound b1 b2 b1' b2'
  have k2 := mul_bound b1 b2 (show rv y - z' ≤ e' by grind) (show -e' ≤ rv y - z' by grind)
  have k3 := mul_bound (show rv x - z * σ ≤ e * σ by grind) (show -(e * σ) ≤ rv x - z * σ by grind) b1' b2'
  have k4 := mul_bound (show rv x - z * σ ≤ e * σ by grind) (show -(e * σ) ≤ rv x - z * σ by grind) (show rv y - z' ≤ e' by grind) (show -e' ≤ rv y - z' by grind)
  have k5 := mul_pos_le hp k2.1
  have k6 := mul_pos_le hp k2.2
  have e1 : rv x * rv y = z * z' * σ + z * (rv y - z') * σ + (rv x - z * σ) * z' + (rv x - z * σ) * (rv y - z') := by grind
  generalize z * (rv y - z') * σ = a at *
  generalize (rv x - z * σ) * z' = b at *
  generalize (rv x - z * σ) * (rv y - z') = d at *
  exact opB hs (mul_near f f') (by rw [e1]; grind) (by rw [e1]; grind) k1.1 k1.2 c
theorem exactB {x : UInt64} {k : Rat} (f : Fin x) (h1 : rv x ≤ k) (h2 : -k ≤ rv x) : Bd 1 x (rv x) k 0 := ⟨f, by grind, by grind, h1, h2⟩
theorem gridB {x : UInt64} {σ z m : Rat} (f : Fin x ∧ rv x = z * σ) (h1 : z ≤ m) (h2 : -m ≤ z) : Bd σ x z m 0 := ⟨f.1, by rw [f.2]; grind, by rw [f.2]; grind, h1, h2⟩
theorem oneB : Bd 1 0x3ff0000000000000 1 1 0 := litB one_spec.1 one_spec.2 (by decide +kernel)
theorem sixB : Bd 1 4618441417868443648 6 6 0 := litB six_lit.1 six_lit.2 (by decide +kernel)
theorem int_ge {n k : Int} (h : n ≤ k) : (n : Rat) ≤ (k : Rat) := Rat.intCast_le_intCast.mpr h
/-- a saturation: spread over some whole number -/
theorem satB {D T : Int} (d1 : 1 ≤ D) (d2 : D ≤ 4194304) (hT : T ≠ 0) : Bd 1 (qI D T) ((D : Rat) / (T : Rat)) 4194304 (1 / 2147483000) := by
  have a1 : (1 : Rat) ≤ (D : Rat) := int_ge d1
  have a2 : (D : Rat) ≤ 4194304 := int_ge d2
  have hTn : (T : Rat) ≠ 0 := fun q => hT (Rat.intCast_inj.mp q)
  have hm : (D : Rat) / (T : Rat) * (T : Rat) = (D : Rat) := by grind
  have k : (D : Rat) / (T : Rat) ≤ 4194304 ∧ -4194304 ≤ (D : Rat) / (T : Rat) := by
    rcases Int.lt_or_gt_of_ne hT with h | h
    · have b1 : (T : Rat) ≤ -1 := int_ge (k := -1) (by omega)
      have hp : (0 : Rat) < -(T : Rat) := by grind
      constructor
      · refine le_of_mul hp ?_
        rw [Rat.mul_neg, hm]; grind
      · refine le_of_mul hp ?_
        rw [Rat.mul_neg (a := (D : Rat) / (T : Rat)), hm]; grind
    · have b1 : (1 : Rat) ≤ (T : Rat) := int_ge (n := 1) (by omega)
      have hp : (0 : Rat) < (T : Rat) := by grind
      constructor
      · refine le_of_mul hp ?_
        rw [hm]; grind
      · refine le_of_mul hp ?_
        rw [hm]; grind
  exact opB unit1 (frac_near hT) (by grind) (by grind) k.1 k.2 (e := 0) (by decide +kernel)
theorem sat_nz {D T : Int} (d1 : 1 ≤ D) (d2 : D ≤ 4194304) (hT : T ≠ 0) (t1 : -16777216 ≤ T) (t2 : T ≤ 16777216) : Fin (qI D T) ∧ rv (qI D T) ≠ 0 := by
  obtain ⟨f, u, l, _, _⟩ := satB d1 d2 hT
  refine ⟨f, fun q => ?_⟩
  rw [q, Rat.mul_one] at u l
  have a1 : (1 : Rat) ≤ (D : Rat) := int_ge d1
  have hTn : (T : Rat) ≠ 0 := fun q => hT (Rat.intCast_inj.mp q)
  have hm : (D : Rat) / (T : Rat) * (T : Rat) = (D : Rat) := by grind
  have k := (mul_bound (show (D : Rat) / (T : Rat) ≤ 1 / 2147483000 by grind) (by grind) (show (T : Rat) ≤ 16777216 from int_ge t2) (show (-16777216 : Rat) ≤ (T : Rat) from int_ge t1)).1
  rw [hm] at k
  grind
/-- a component comes back -/
def Comes (X : UInt64) (sc c : Int) : Prop := isFinite (mul X (ofInt sc)) = true ∧ partF X sc = c
/-- a component that comes back, told by its way from the greatest -/
structure Chan (X : UInt64) (H D σ φ : Rat) : Prop where
  fin : Fin X
  up : rv X ≤ (H - D * φ + 1 / 50) * σ
  dn : (H - D * φ - 1 / 50) * σ ≤ rv X
theorem chan_bd {X : UInt64} {H D σ φ z m e : Rat} (hs : Unit1 σ) (h : Bd σ X z m e) (q : z = H - D * φ) (c : decide (e ≤ 1 / 50) = true) : Chan X H D σ φ := by
  subst q
  have c := mul_pos_le hs.pos (of_decide_eq_true c)
  exact ⟨h.fin, by have := h.up; grind, by have := h.lo; grind⟩
section
variable {σ : Rat}
theorem chan_part {X : UInt64} {c hi lo sc : Int} {φ W : Rat} (hS : Scale sc σ) (hX : Chan X (hi : Rat) ((hi - lo : Int) : Rat) σ φ) (hW : Way hi lo c W) (h0 : lo < hi) (h1 : hi ≤ 2097152) (h2 : -2097152 ≤ lo) (hc : lo ≤ c ∧ c ≤ hi)
    (w : φ ≤ W + 1 / 1099511627776 ∧ W ≤ φ + 1 / 1099511627776) : Comes X sc c := by
  obtain ⟨f, u, l⟩ := hX
  obtain ⟨w1, w2⟩ := w
  have hm := hW.mul
  have hone := hS.one
  have hlo := hS.lo
  have hhi := hS.hi
  have hp : (0 : Rat) ≤ (sc : Rat) := int_ge (n := 0) (by omega)
  have hD1 : ((hi - lo : Int) : Rat) ≤ 4194304 := int_ge (k := 4194304) (by omega)
  have hD0 : (-4194304 : Rat) ≤ ((hi - lo : Int) : Rat) := int_ge (n := -4194304) (by omega)
  obtain ⟨o1, o2⟩ := mul_bound hD1 hD0 (show φ - W ≤ 1 / 1099511627776 by grind) (by grind)
  rw [Rat.intCast_sub hi c] at hm
  have mu := mul_pos_le hp u
  have ml := mul_pos_le hp l
  generalize ((hi - lo : Int) : Rat) = E at *
  have eu : ((hi : Rat) - E * φ + 1 / 50) * σ * (sc : Rat) = (c : Rat) - E * (φ - W) + 1 / 50 := by grind
  have el : ((hi : Rat) - E * φ - 1 / 50) * σ * (sc : Rat) = (c : Rat) - E * (φ - W) - 1 / 50 := by grind
  rw [eu] at mu
  rw [el] at ml
  generalize E * (φ - W) = e at *
  exact part_eq f hlo (by omega) (by omega) (by omega) (by grind) (by grind)
end
end Mine
end
section
namespace Mine
open PySem PySem.Float64
section
variable {r g b sc hi lo : Int} {σ : Rat} {fr fg fb : UInt64} {ρ γ β κ : Rat}
theorem Col.hsvSat (C : Col r g b sc hi lo σ fr fg fb) (h0 : hi ≠ 0) : div (rangeF fr fg fb) (fmax3 fr fg fb) = qI (hi - lo) hi := by
  have := C.sp
  exact div_qI C.pos C.vrange.1 C.vmax.1 C.vrange.2 C.vmax.2 (by omega) h0
theorem Col.top (C : Col r g b sc hi lo σ fr fg fb) : Bd σ (fmax3 fr fg fb) (hi : Rat) 2097152 0 := by
  have c1 := C.sp
  have c2 := C.bh
  have c3 := C.bl
  exact gridB C.vmax (int_ge c2) (int_ge (n := -2097152) (by omega))
theorem Col.sat (C : Col r g b sc hi lo σ fr fg fb) {T : Int} (hT : T ≠ 0) : Bd 1 (qI (hi - lo) T) (((hi - lo : Int) : Rat) / (T : Rat)) 4194304 (1 / 2147483000) := by
  have c1 := C.sp
  have c2 := C.bh
  have c3 := C.bl
  exact satB (by omega) (by omega) hT
theorem div_back {H D φ : Rat} (h : H ≠ 0) : H * (1 - D / H * φ) = H - D * φ := by grind
theorem div_back1 {H D : Rat} (h : H ≠ 0) : H * (1 - D / H) = H - D * 1 := by grind
theorem zero_back {H D : Rat} : H = H - D * 0 := by grind
theorem Col.chS (C : Col r g b sc hi lo σ fr fg fb) : Chan (fmax3 fr fg fb) (hi : Rat) ((hi - lo : Int) : Rat) σ 0 := chan_bd C.hS.unit C.top zero_back (by decide +kernel)
theorem Col.chP (C : Col r g b sc hi lo σ fr fg fb) (h0 : hi ≠ 0) : Chan (pH (qI (hi - lo) hi) (fmax3 fr fg fb)) (hi : Rat) ((hi - lo : Int) : Rat) σ 1 :=
  chan_bd C.hS.unit (mulBB C.hS.unit C.top (subB unit1 oneB (C.sat h0) (1 / 1073741000) (by decide +kernel)) (1 / 340) (by decide +kernel)) (div_back1 (fun q => h0 (Rat.intCast_inj.mp q))) (by decide +kernel)
theorem Col.chF (C : Col r g b sc hi lo σ fr fg fb) (h0 : hi ≠ 0) {f : UInt64} (hf : Fin f) (f1 : rv f ≤ 9 / 8) (f0 : -(9 / 8) ≤ rv f) : Chan (mul (fmax3 fr fg fb) (sub 0x3ff0000000000000 (mul (qI (hi - lo) hi) f))) (hi : Rat) ((hi - lo : Int) : Rat) σ (rv f) :=
  chan_bd C.hS.unit (mulBB C.hS.unit C.top (subB unit1 oneB (mulBB unit1 (C.sat h0) (exactB hf f1 f0) (1 / 954000000) (by decide +kernel)) (1 / 636000000) (by decide +kernel)) (1 / 220) (by decide +kernel)) (div_back (fun q => h0 (Rat.intCast_inj.mp q))) (by decide +kernel)
/-- near enough -/
def Nr (φ ψ : Rat) : Prop := φ ≤ ψ + 40 / 9000000000000000 ∧ ψ ≤ φ + 40 / 9000000000000000
theorem Nr.self (φ : Rat) : Nr φ φ := by constructor <;> grind
theorem near_q {u i f : Rat} (fu : f ≤ u - i + 1 / 9000000000000000) (fl : u - i ≤ f + 1 / 9000000000000000) : Nr f (1 - (i + 1 - u)) := by constructor <;> grind
theorem near_t {u i f g : Rat} (fu : f ≤ u - i + 1 / 9000000000000000) (fl : u - i ≤ f + 1 / 9000000000000000) (gu : g ≤ 1 - f + 3 / 9000000000000000) (gl : 1 - f - 3 / 9000000000000000 ≤ g) : Nr g (1 - (u - i)) := by constructor <;> grind
theorem nr_way {φ k k' W : Rat} (kr : W = 1 - k') (l : k ≤ k' + 24 / 9000000000000000 ∧ k' ≤ k + 24 / 9000000000000000) (h : Nr φ (1 - k)) : φ ≤ W + 1 / 1099511627776 ∧ W ≤ φ + 1 / 1099511627776 := by
  obtain ⟨h1, h2⟩ := h
  constructor <;> grind
theorem lt_le {u a b : Rat} (h : u < a) (c : decide (a ≤ b) = true) : u ≤ b := Rat.le_trans (Rat.le_of_lt h) (of_decide_eq_true c)
theorem ge_le {u a b : Rat} (h : a ≤ u) (c : decide (b ≤ a) = true) : b ≤ u := Rat.le_trans (of_decide_eq_true c) h
theorem frac_bound {u i f : Rat} (iu : i ≤ u) (ui : u < i + 1) (fu : f ≤ u - i + 1 / 9000000000000000) (fl : u - i ≤ f + 1 / 9000000000000000) : f ≤ 17 / 16 ∧ -(1 / 16) ≤ f := by constructor <;> grind
theorem frac_rest {f g : Rat} (h : f ≤ 17 / 16 ∧ -(1 / 16) ≤ f) (gu : g ≤ 1 - f + 3 / 9000000000000000) (gl : 1 - f - 3 / 9000000000000000 ≤ g) : g ≤ 9 / 8 ∧ -(9 / 8) ≤ g := by obtain ⟨_, _⟩ := h; constructor <;> grind
theorem one_less {f : UInt64} (hf : Fin f) (h : rv f ≤ 17 / 16 ∧ -(1 / 16) ≤ rv f) : Fin (sub 0x3ff0000000000000 f) ∧ rv (sub 0x3ff0000000000000 f) ≤ 1 - rv f + 3 / 9000000000000000 ∧ 1 - rv f - 3 / 9000000000000000 ≤ rv (sub 0x3ff0000000000000 f) := by
  obtain ⟨a, u, l, _, _⟩ := subB unit1 oneB (exactB hf (k := 17 / 16) h.1 (ge_le h.2 (by decide +kernel))) (3 / 9000000000000000) (by decide +kernel)
  rw [Rat.mul_one] at u l
  exact ⟨a, u, l⟩
theorem six_cases {i : Int} (h0 : 0 ≤ i) (h6 : i < 6) : i = 0 ∨ i = 1 ∨ i = 2 ∨ i = 3 ∨ i = 4 ∨ i = 5 := by
  obtain ⟨n, rfl⟩ := Int.eq_ofNat_of_zero_le h0
  exact (by decide : ∀ n : Nat, n < 6 → ((n : Int) = 0 ∨ (n : Int) = 1 ∨ (n : Int) = 2 ∨ (n : Int) = 3 ∨ (n : Int) = 4 ∨ (n : Int) = 5)) n (Int.ofNat_lt.mp h6)
/-- the six sectors, told by six times the hue -/
theorem hsv_back {h : UInt64} (C : Col r g b sc hi lo σ fr fg fb) (wr : Way hi lo r ρ) (wg : Way hi lo g γ) (wb : Way hi lo b β) (hs : Sector ρ γ β κ) (H : HueN h κ) (h0 : hi ≠ 0) :
    ∃ x y z, HsvBack h (qI (hi - lo) hi) (fmax3 fr fg fb) x y z ∧ Comes x sc r ∧ Comes y sc g ∧ Comes z sc b := by
  obtain ⟨⟨kr, kg, kb⟩, k0, k1⟩ := sector_k hs wr.lo0 wr.hi1 wg.lo0 wg.hi1 wb.lo0 wb.hi1
  obtain ⟨u, hfin, hnat, i0, i6, iu, ui, u1, u2, ff, fu, fl⟩ := six_spec H k1
  have fb1 := frac_bound iu ui fu fl
  obtain ⟨gf, gu, gl⟩ := one_less ff fb1
  have fb2 := frac_rest fb1 gu gl
  have S := C.chS
  have P := C.chP h0
  have Qc : Chan (qH h (qI (hi - lo) hi) (fmax3 fr fg fb)) _ _ σ (rv (fH h)) := C.chF h0 ff (Rat.le_trans fb1.1 (by decide +kernel)) (ge_le fb1.2 (by decide +kernel))
  have Tc : Chan (tH h (qI (hi - lo) hi) (fmax3 fr fg fb)) _ _ σ (rv (sub 0x3ff0000000000000 (fH h))) := C.chF h0 gf fb2.1 fb2.2
  have pr : ∀ {X : UInt64} {φ : Rat}, Chan X (hi : Rat) ((hi - lo : Int) : Rat) σ φ → Nr φ (1 - kR u) → Comes X sc r :=
    fun hX w => chan_part C.hS hX wr C.sp C.bh C.bl C.rr (nr_way kr (kR_lip u1 u2) w)
  have pg : ∀ {X : UInt64} {φ : Rat}, Chan X (hi : Rat) ((hi - lo : Int) : Rat) σ φ → Nr φ (1 - kG u) → Comes X sc g :=
    fun hX w => chan_part C.hS hX wg C.sp C.bh C.bl C.rg (nr_way kg (kG_lip u1 u2) w)
  have pb : ∀ {X : UInt64} {φ : Rat}, Chan X (hi : Rat) ((hi - lo : Int) : Rat) σ φ → Nr φ (1 - kB u) → Comes X sc b :=
    fun hX w => chan_part C.hS hX wb C.sp C.bh C.bl C.rb (nr_way kb (kB_lip u1 u2) w)
  have z1 : Nr 1 (1 - 0) := by unfold Nr; decide +kernel
  have z0 : Nr 0 (1 - 1) := by unfold Nr; decide +kernel
  have q1 := near_q fu fl
  have t1 := near_t fu fl gu gl
  clear fu fl gu gl kr kg kb hs H hfin hnat u1 u2
  rcases six_cases i0 i6 with q | q | q | q | q | q
  · rw [q] at iu ui t1
    have n : (((0 : Int)) : Rat) = 0 := rfl
    rw [n] at iu ui t1
    rw [kR1 (lt_le ui (by decide +kernel))] at pr
    rw [kG2 iu (lt_le ui (by decide +kernel))] at pg
    rw [kB1 (lt_le ui (by decide +kernel))] at pb
    rw [show u - 0 = u by grind] at t1
    exact ⟨_, _, _, .inl ⟨by rw [q]; rfl, rfl, rfl, rfl⟩, pr S z0, pg Tc t1, pb P z1⟩
  · rw [q] at iu ui q1
    have n : (((1 : Int)) : Rat) = 1 := rfl
    rw [n] at iu ui q1
    rw [kR2 iu (lt_le ui (by decide +kernel))] at pr
    rw [kG3 iu (lt_le ui (by decide +kernel))] at pg
    rw [kB1 (lt_le ui (by decide +kernel))] at pb
    rw [show (1 : Rat) + 1 = 2 by decide +kernel] at q1
    exact ⟨_, _, _, .inr (.inl ⟨by rw [q]; rfl, rfl, rfl, rfl⟩), pr Qc q1, pg S z0, pb P z1⟩
  · rw [q] at iu ui t1
    have n : (((2 : Int)) : Rat) = 2 := rfl
    rw [n] at iu ui t1
    rw [kR3 iu (lt_le ui (by decide +kernel))] at pr
    rw [kG3 (ge_le iu (by decide +kernel)) (lt_le ui (by decide +kernel))] at pg
    rw [kB2 iu (lt_le ui (by decide +kernel))] at pb
    exact ⟨_, _, _, .inr (.inr (.inl ⟨by rw [q]; rfl, rfl, rfl, rfl⟩)), pr P z1, pg S z0, pb Tc t1⟩
  · rw [q] at iu ui q1
    have n : (((3 : Int)) : Rat) = 3 := rfl
    rw [n] at iu ui q1
    rw [kR3 (ge_le iu (by decide +kernel)) (lt_le ui (by decide +kernel))] at pr
    rw [kG4 iu (lt_le ui (by decide +kernel))] at pg
    rw [kB3 iu (lt_le ui (by decide +kernel))] at pb
    rw [show (3 : Rat) + 1 = 4 by decide +kernel] at q1
    exact ⟨_, _, _, .inr (.inr (.inr (.inl ⟨by rw [q]; rfl, rfl, rfl, rfl⟩))), pr P z1, pg Qc q1, pb S z0⟩
  · rw [q] at iu ui t1
    have n : (((4 : Int)) : Rat) = 4 := rfl
    rw [n] at iu ui t1
    rw [kR4 iu (lt_le ui (by decide +kernel))] at pr
    rw [kG5 iu] at pg
    rw [kB3 (ge_le iu (by decide +kernel)) (lt_le ui (by decide +kernel))] at pb
    exact ⟨_, _, _, .inr (.inr (.inr (.inr (.inl ⟨by rw [q]; rfl, rfl, rfl, rfl⟩)))), pr Tc t1, pg P z1, pb S z0⟩
  · rw [q] at iu ui q1
    have n : (((5 : Int)) : Rat) = 5 := rfl
    rw [n] at iu ui q1
    rw [kR5 iu] at pr
    rw [kG5 (ge_le iu (by decide +kernel))] at pg
    rw [kB4 iu (lt_le ui (by decide +kernel))] at pb
    rw [show (5 : Rat) + 1 = 6 by decide +kernel] at q1
    exact ⟨_, _, _, .inr (.inr (.inr (.inr (.inr ⟨by rw [q]; rfl, rfl, rfl, rfl⟩)))), pr S z0, pg P z1, pb Qc q1⟩
end
end Mine
end
section
namespace Mine
open PySem PySem.Float64
theorem half_lit : Fin (4602678819172646912 : UInt64) ∧ rv 4602678819172646912 = 1 / 2 := ⟨half.1, by rw [half.2]; decide +kernel⟩
theorem two_lit : Fin (4611686018427387904 : UInt64) ∧ rv 4611686018427387904 = 2 := ⟨two.1, by rw [two.2]; decide +kernel⟩
section
variable {r g b sc hi lo : Int} {σ : Rat} {fr fg fb : UInt64} {ρ γ β κ : Rat}
theorem grid_half (h : Unit1 σ) (hG : Grid σ) : Grid (σ / 2) := by
  obtain ⟨j, hj⟩ := hG
  have hl := h.lo
  have hp := TT_pos
  cases j with
  | zero =>
    exfalso
    have he := eta_le
    have h1 : eta * (2 * TT) = 1 := by unfold eta; have := TT_ne; grind
    have m1 := mul_pos_le (Rat.le_of_lt hp) hl
    rw [hj] at m1
    have m2 := mul_pos_le (Rat.le_of_lt hp) he
    have n : ((2 ^ 0 : Nat) : Rat) = 1 := rfl
    rw [n] at m1
    grind
  | succ j =>
    refine ⟨j, ?_⟩
    have e : ((2 ^ (j + 1) : Nat) : Rat) = ((2 ^ j : Nat) : Rat) * 2 := by rw [Nat.pow_succ, Rat.natCast_mul]; rfl
    rw [e] at hj
    grind
/-- the light is exact -/
theorem Col.vlight (C : Col r g b sc hi lo σ fr fg fb) : Fin (lightF fr fg fb) ∧ rv (lightF fr fg fb) = ((hi + lo : Int) : Rat) * (σ / 2) := by
  have c1 := C.sp
  have c2 := C.bh
  have c3 := C.bl
  have hσ := C.pos
  have hs2 := C.hS.unit.hi
  obtain ⟨f, e⟩ := C.vsum
  unfold sumF at f e
  have b1' : ((-4194304 : Int) : Rat) ≤ ((hi + lo : Int) : Rat) := Rat.intCast_le_intCast.mpr (by omega)
  have b1 : (-4194304 : Rat) ≤ ((hi + lo : Int) : Rat) := b1'
  have b2' : ((hi + lo : Int) : Rat) ≤ ((4194304 : Int) : Rat) := Rat.intCast_le_intCast.mpr (by omega)
  have b2 : ((hi + lo : Int) : Rat) ≤ 4194304 := b2'
  have m1 := mul_pos_le (Rat.le_of_lt hσ) b1
  have m2 := mul_pos_le (Rat.le_of_lt hσ) b2
  have hG := BIG_ge
  have eq : rv (add (fmax3 fr fg fb) (fmin3 fr fg fb)) / 2 = ((hi + lo : Int) : Rat) * (σ / 2) := by rw [e]; grind
  have hN := div_near f two_fin (by rw [two_rv]; decide) (by rw [two_rv, e]; grind) (by rw [two_rv, e]; grind)
  rw [two_rv, eq] at hN
  exact ⟨hN.fin, grid_exact (grid_half C.hS.unit C.hG) hN (by omega) (by omega)⟩
theorem Col.light_q (C : Col r g b sc hi lo σ fr fg fb) (h : hi + lo ≠ 0) : lightF fr fg fb = qI (hi + lo) (2 * sc) := by
  have := C.hS.lo
  obtain ⟨f, e⟩ := C.vsum
  obtain ⟨f2, e2⟩ := two_grid C.hS
  exact div_qI C.pos f f2 e e2 h (by omega)
theorem light_le (hS : Scale sc σ) {N : Int} : ((N : Rat) * (σ / 2) ≤ 1 / 2) ↔ N ≤ sc := by
  have hone := hS.one
  have hl := hS.unit.lo
  have hp : (0 : Rat) < σ := by grind
  constructor
  · intro h
    have h2 : (N : Rat) * σ ≤ (sc : Rat) * σ := by grind
    have := le_of_mul hp h2
    exact Rat.intCast_le_intCast.mp this
  · intro h
    have h2 := mul_pos_le (Rat.le_of_lt hp) (Rat.intCast_le_intCast.mpr h)
    grind
theorem Col.cmpLight (C : Col r g b sc hi lo σ fr fg fb) : (cmp (lightF fr fg fb) 4602678819172646912 == some Ordering.lt || cmp (lightF fr fg fb) 4602678819172646912 == some Ordering.eq) = decide (hi + lo ≤ sc) := by
  obtain ⟨f, e⟩ := C.vlight
  rw [cmp_le f half_lit.1, e, half_lit.2]
  exact decide_eq_decide.mpr (light_le C.hS)
theorem Col.dark (C : Col r g b sc hi lo σ fr fg fb) : Dark fr fg fb = decide (hi + lo ≤ sc) := C.cmpLight
theorem Col.light (C : Col r g b sc hi lo σ fr fg fb) : Bd σ (lightF fr fg fb) (((hi + lo : Int) : Rat) / 2) 2097152 0 := by
  have c1 := C.sp
  have c2 := C.bh
  have c3 := C.bl
  have h1 : ((hi + lo : Int) : Rat) ≤ 4194304 := int_ge (k := 4194304) (by omega)
  have h2 : (-4194304 : Rat) ≤ ((hi + lo : Int) : Rat) := int_ge (n := -4194304) (by omega)
  obtain ⟨f, e⟩ := C.vlight
  exact gridB ⟨f, by rw [e]; grind⟩ (by grind) (by grind)
theorem Col.hiB (C : Col r g b sc hi lo σ fr fg fb) : (hi : Rat) ≤ 2097152 ∧ -2097152 ≤ (hi : Rat) := ⟨C.top.b1, C.top.b2⟩
/-- a number in units of one, told in parts -/
theorem unitB {x : UInt64} {z m e : Rat} (hS : Scale sc σ) (h : Bd 1 x z m e) (c : decide (0 ≤ m ∧ 0 ≤ e) = true) : Bd σ x (z * (sc : Rat)) (m * 1048576) (e * 1048576) := by
  obtain ⟨m0, e0⟩ := of_decide_eq_true c
  obtain ⟨f, u, l, b1, b2⟩ := h
  have hone := hS.one
  have s0 : (0 : Rat) ≤ (sc : Rat) := Rat.le_trans (by decide) (int_ge (n := 1) hS.lo)
  have s1 : (sc : Rat) ≤ 1048576 := int_ge hS.hi
  have hp := hS.unit.pos
  have k1 := mul_pos_le s0 b1
  have k2 := mul_pos_le s0 b2
  have k3 := Rat.mul_le_mul_of_nonneg_left s1 m0
  have k4 := mul_pos_le hp (Rat.mul_le_mul_of_nonneg_left s1 e0)
  generalize (sc : Rat) = S at *
  have e1 : z * S * σ = z := by grind
  have e2 : e * S * σ = e := by grind
  rw [e2] at k4
  refine ⟨f, ?_, ?_, by grind, by grind⟩
  · rw [Rat.add_mul, e1]; grind
  · rw [Rat.sub_eq_add_neg, Rat.add_mul, e1]; grind
theorem dark_back {H K S D : Rat} (hS : S = H + K) (hD : D = H - K) (h : S ≠ 0) : S / 2 * (1 + D / S) = H := by grind
theorem bright_back {H K S D T k : Rat} (hS : S = H + K) (hD : D = H - K) (hT : T = 2 * k - S) (h : T ≠ 0) : S / 2 + D / T * k - S / 2 * (D / T) = H := by
  have e : D / T * T = D := by grind
  grind
/-- the upper mark comes back -/
theorem m2_spec (C : Col r g b sc hi lo σ fr fg fb) {s : UInt64} (h0 : hi + lo ≠ 0) (h2 : hi + lo ≠ 2 * sc) (es1 : hi + lo ≤ sc → s = qI (hi - lo) (hi + lo)) (es2 : ¬ hi + lo ≤ sc → s = qI (hi - lo) (2 * sc - (hi + lo))) :
    Bd σ (m2F (lightF fr fg fb) s) (hi : Rat) 2097152 (1 / 200) := by
  have hs := C.hS.unit
  unfold m2F
  rw [C.cmpLight]
  by_cases hd : hi + lo ≤ sc
  · rw [if_pos (decide_eq_true hd), es1 hd]
    exact weakB (boundB (idB (mulBB hs C.light (addB unit1 oneB (C.sat h0) (1 / 1073741000) (by decide +kernel)) (1 / 340) (by decide +kernel)) (dark_back (Rat.intCast_add hi lo) (Rat.intCast_sub hi lo) (fun q => h0 (Rat.intCast_inj.mp q)))) C.hiB.1 C.hiB.2) hs (by decide +kernel)
  · rw [if_neg (fun q => hd (of_decide_eq_true q)), es2 hd]
    have hT : 2 * sc - (hi + lo) ≠ 0 := fun q => h2 (Int.eq_of_sub_eq_zero q).symm
    have S := C.sat hT
    exact weakB (boundB (idB (subB hs (addB hs C.light (unitB C.hS S (by decide +kernel)) (1 / 1020) (by decide +kernel)) (mulBB hs C.light S (1 / 510) (by decide +kernel)) (1 / 220) (by decide +kernel)) (bright_back (Rat.intCast_add hi lo) (Rat.intCast_sub hi lo) (by rw [Rat.intCast_sub, Rat.intCast_mul]; rfl) (fun q => hT (Rat.intCast_inj.mp q)))) C.hiB.1 C.hiB.2) hs (by decide +kernel)
theorem low_back {H K S D : Rat} (hS : S = H + K) (hD : D = H - K) : 2 * (S / 2) - H = H - D := by grind
theorem m1_spec (C : Col r g b sc hi lo σ fr fg fb) {s : UInt64} (h : Bd σ (m2F (lightF fr fg fb) s) (hi : Rat) 2097152 (1 / 200)) :
    Bd σ (m1F (lightF fr fg fb) s) ((hi : Rat) - ((hi - lo : Int) : Rat)) 8388608 (1 / 199) :=
  weakB (idB (subB C.hS.unit (mulB C.hS.unit ⟨two_fin, two_rv⟩ C.light 2 (1 / 1000000) (by decide +kernel)) h (1 / 199) (by decide +kernel)) (low_back (Rat.intCast_add hi lo) (Rat.intCast_sub hi lo))) C.hS.unit (by decide +kernel)
end
end Mine
end
section
namespace Mine
open PySem PySem.Float64
/-- the two marks, and the colour's span between them -/
structure Marks (m1 m2 : UInt64) (H D σ : Rat) : Prop where
  s : Unit1 σ
  a : Bd σ m1 (H - D) 8388608 (1 / 199)
  b : Bd σ m2 H 2097152 (1 / 200)
  d : D ≤ 4194304 ∧ -4194304 ≤ D
section
variable {m1 m2 : UInt64} {H D σ κ : Rat}
theorem span_of {H D : Rat} : H - (H - D) = D := by grind
theorem lin_back {H D g : Rat} : H - D + D * g * 6 = H - D * (1 - 6 * g) := by grind
theorem Marks.lin (M : Marks m1 m2 H D σ) {g : UInt64} (hg : Fin g) (g1 : rv g ≤ 1 / 5) (g0 : -(1 / 5) ≤ rv g) :
    Chan (add m1 (mul (mul (sub m2 m1) g) 4618441417868443648)) H D σ (1 - 6 * rv g) :=
  have hs := M.s
  chan_bd hs (addB hs M.a (mulBB hs (mulBB hs (boundB (idB (subB hs M.b M.a (1 / 99) (by decide +kernel)) span_of) M.d.1 M.d.2) (exactB hg g1 g0) (1 / 490) (by decide +kernel)) sixB (1 / 81) (by decide +kernel)) (1 / 57) (by decide +kernel)) lin_back (by decide +kernel)
theorem one_back {H D : Rat} : H - D = H - D * 1 := by grind
theorem Marks.top (M : Marks m1 m2 H D σ) : Chan m2 H D σ 0 := chan_bd M.s M.b zero_back (by decide +kernel)
theorem Marks.low (M : Marks m1 m2 H D σ) : Chan m1 H D σ 1 := chan_bd M.s M.a one_back (by decide +kernel)
theorem kG_one {w e : Rat} (e0 : 0 ≤ e) (e1 : e ≤ 1) (h1 : 1 - e ≤ w) (h2 : w ≤ 3) : 1 - e ≤ kG w ∧ kG w ≤ 1 := by
  by_cases q : w ≤ 1
  · rw [kG2 (by grind) q]; exact ⟨h1, q⟩
  · rw [kG3 (by grind) h2]; constructor <;> grind
theorem kG_nil {w e : Rat} (e0 : 0 ≤ e) (e1 : e ≤ 1) (h1 : 4 - e ≤ w) : 0 ≤ kG w ∧ kG w ≤ e := by
  by_cases q : w ≤ 4
  · rw [kG4 (by grind) q]; constructor <;> grind
  · rw [kG5 (by grind)]; exact ⟨Rat.le_refl, e0⟩
theorem not_lt' {a b : Rat} (h : ¬ a < b) : b ≤ a := Rat.not_lt.mp h
theorem vF_spec (M : Marks m1 m2 H D σ) {x : UInt64} (hf : Fin (modF x)) (h0 : 0 ≤ rv (modF x)) :
    ∃ φ, Chan (vF m1 m2 x) H D σ φ ∧ φ ≤ 1 - kG (6 * rv (modF x)) + 10 / 9000000000000000 ∧ 1 - kG (6 * rv (modF x)) ≤ φ + 10 / 9000000000000000 := by
  have c1 := cmp_lt hf oneSixth.1
  have c2 := cmp_lt hf half.1
  have c3 := cmp_lt hf twoThird.1
  rw [oneSixth.2] at c1
  rw [half.2] at c2
  rw [twoThird.2] at c3
  unfold vF
  rw [c1, c2, c3]
  by_cases q1 : rv (modF x) < 6004799503160661 / 36028797018963968
  · rw [if_pos (decide_eq_true q1)]
    refine ⟨_, M.lin hf (by grind) (by grind), ?_⟩
    rw [kG2 (by grind) (by grind)]
    constructor <;> grind
  · rw [if_neg (fun q => q1 (of_decide_eq_true q))]
    have q1 := not_lt' q1
    by_cases q2 : rv (modF x) < 4503599627370496 / 9007199254740992
    · rw [if_pos (decide_eq_true q2)]
      obtain ⟨k1, k2⟩ := kG_one (w := 6 * rv (modF x)) (e := 10 / 9000000000000000) (by decide +kernel) (by decide +kernel) (by grind) (by grind)
      exact ⟨0, M.top, by grind, by grind⟩
    · rw [if_neg (fun q => q2 (of_decide_eq_true q))]
      by_cases q3 : rv (modF x) < 6004799503160661 / 9007199254740992
      · rw [if_pos (decide_eq_true q3)]
        have q2 := not_lt' q2
        obtain ⟨f, u, l⟩ := subN twoThird.1 hf (B := 1) (by decide +kernel) (by decide +kernel) (by rw [twoThird.2]; grind) (by rw [twoThird.2]; grind)
        rw [twoThird.2] at u l
        refine ⟨_, M.lin f (by grind) (by grind), ?_⟩
        rw [kG4 (by grind) (by grind)]
        constructor <;> grind
      · rw [if_neg (fun q => q3 (of_decide_eq_true q))]
        have q3 := not_lt' q3
        obtain ⟨k1, k2⟩ := kG_nil (w := 6 * rv (modF x)) (e := 10 / 9000000000000000) (by decide +kernel) (by decide +kernel) (by grind)
        exact ⟨1, M.low, by grind, by grind⟩
/-- what is asked of a component's way -/
theorem way_near {φ k k' : Rat} (p1 : φ ≤ 1 - k + 10 / 9000000000000000) (p2 : 1 - k ≤ φ + 10 / 9000000000000000) (l : k ≤ k' + 100 / 9000000000000000 ∧ k' ≤ k + 100 / 9000000000000000) : φ ≤ 1 - k' + 1 / 1099511627776 ∧ 1 - k' ≤ φ + 1 / 1099511627776 := by
  obtain ⟨_, _⟩ := l
  constructor <;> grind
theorem way_near' {φ k k' : Rat} (p1 : φ ≤ 1 - k + 10 / 9000000000000000) (p2 : 1 - k ≤ φ + 10 / 9000000000000000) (n1 : 0 ≤ k) (n2 : k ≤ 30 / 9000000000000000) (l1 : 0 ≤ k' + 100 / 9000000000000000) (l2 : k' ≤ 0 + 100 / 9000000000000000) : φ ≤ 1 - k' + 1 / 1099511627776 ∧ 1 - k' ≤ φ + 1 / 1099511627776 := by
  constructor <;> grind
/-- red: a third of the wheel further -/
theorem vR_spec (M : Marks m1 m2 H D σ) {h : UInt64} (hH : HueN h κ) (k0 : 0 ≤ κ) :
    ∃ φ, Chan (vF m1 m2 (add h 4599676419421066581)) H D σ φ ∧ φ ≤ 1 - kR κ + 1 / 1099511627776 ∧ 1 - kR κ ≤ φ + 1 / 1099511627776 := by
  obtain ⟨hf, h0, h1, hu, hd⟩ := hH
  obtain ⟨f, u, l⟩ := addN hf oneThird.1 (B := 4 / 3) (by decide +kernel) (by decide +kernel) (by rw [oneThird.2]; grind) (by rw [oneThird.2]; grind)
  rw [oneThird.2] at u l
  generalize add h 4599676419421066581 = x at *
  have lip := kR_lip (a := 6 * rv x - 2) (b := κ) (e := 100 / 9000000000000000) (by grind) (by grind)
  cases mod_spec f (by grind) (by grind) with
  | low a b c d =>
    obtain ⟨φ, hC, p1, p2⟩ := vF_spec M c (by rw [d]; exact a)
    rw [d] at p1 p2
    rw [kRG1 (by grind) (by grind)] at lip
    exact ⟨φ, hC, way_near p1 p2 lip⟩
  | high a b c d =>
    obtain ⟨φ, hC, p1, p2⟩ := vF_spec M c (by rw [d]; grind)
    rw [d] at p1 p2
    rw [show 6 * rv x - 2 = 6 * (rv x - 1) + 4 by grind, kRG2 (by grind) (by grind)] at lip
    exact ⟨φ, hC, way_near p1 p2 lip⟩
  | neg a b c => grind
theorem vG_spec (M : Marks m1 m2 H D σ) {h : UInt64} (hH : HueN h κ) :
    ∃ φ, Chan (vF m1 m2 h) H D σ φ ∧ φ ≤ 1 - kG κ + 1 / 1099511627776 ∧ 1 - kG κ ≤ φ + 1 / 1099511627776 := by
  obtain ⟨hf, h0, h1, hu, hd⟩ := hH
  cases mod_spec hf (by grind) (by grind) with
  | low a b c d =>
    obtain ⟨φ, hC, p1, p2⟩ := vF_spec M c (by rw [d]; exact a)
    rw [d] at p1 p2
    exact ⟨φ, hC, way_near p1 p2 (kG_lip (by grind) (by grind))⟩
  | high a b c d => exact absurd h1 (Rat.not_lt.mpr a)
  | neg a b c => exact absurd a (Rat.not_lt.mpr h0)
/-- blue: a third of the wheel back -/
theorem vB_spec (M : Marks m1 m2 H D σ) {h : UInt64} (hH : HueN h κ) (k0 : 0 ≤ κ) :
    ∃ φ, Chan (vF m1 m2 (sub h 4599676419421066581)) H D σ φ ∧ φ ≤ 1 - kB κ + 1 / 1099511627776 ∧ 1 - kB κ ≤ φ + 1 / 1099511627776 := by
  obtain ⟨hf, h0, h1, hu, hd⟩ := hH
  obtain ⟨f, u, l⟩ := subN hf oneThird.1 (B := 1) (by decide +kernel) (by decide +kernel) (by rw [oneThird.2]; grind) (by rw [oneThird.2]; grind)
  rw [oneThird.2] at u l
  generalize sub h 4599676419421066581 = x at *
  have lip := kB_lip (a := 6 * rv x + 2) (b := κ) (e := 100 / 9000000000000000) (by grind) (by grind)
  cases mod_spec f (by grind) (by grind) with
  | low a b c d =>
    obtain ⟨φ, hC, p1, p2⟩ := vF_spec M c (by rw [d]; exact a)
    rw [d] at p1 p2
    rw [kBG, show 6 * rv x + 2 - 2 = 6 * rv x by grind] at lip
    exact ⟨φ, hC, way_near p1 p2 lip⟩
  | high a b c d => grind
  | neg a b c =>
    obtain ⟨y1, y2⟩ := nearZ c (B := 1) (by decide +kernel) (by grind) (by grind)
    obtain ⟨φ, hC, p1, p2⟩ := vF_spec M c.fin (by grind)
    rw [kB1 (by grind)] at lip
    obtain ⟨l1, l2⟩ := lip
    obtain ⟨n1, n2⟩ := kG_nil (w := 6 * rv (modF x)) (e := 30 / 9000000000000000) (by decide +kernel) (by decide +kernel) (by grind)
    exact ⟨φ, hC, way_near' p1 p2 n1 n2 l1 l2⟩
end
section
variable {r g b sc hi lo : Int} {σ : Rat} {fr fg fb : UInt64} {ρ γ β κ : Rat}
theorem Col.marks (C : Col r g b sc hi lo σ fr fg fb) {s : UInt64} (h0 : hi + lo ≠ 0) (h2 : hi + lo ≠ 2 * sc) (es1 : hi + lo ≤ sc → s = qI (hi - lo) (hi + lo)) (es2 : ¬ hi + lo ≤ sc → s = qI (hi - lo) (2 * sc - (hi + lo))) :
    Marks (m1F (lightF fr fg fb) s) (m2F (lightF fr fg fb) s) (hi : Rat) ((hi - lo : Int) : Rat) σ := by
  have c1 := C.sp
  have c2 := C.bh
  have c3 := C.bl
  have a := m2_spec C h0 h2 es1 es2
  exact ⟨C.hS.unit, m1_spec C a, a, int_ge (k := 4194304) (by omega), int_ge (n := -4194304) (by omega)⟩
theorem hls_back {h s : UInt64} (C : Col r g b sc hi lo σ fr fg fb) (wr : Way hi lo r ρ) (wg : Way hi lo g γ) (wb : Way hi lo b β) (hs : Sector ρ γ β κ) (H : HueN h κ) (h0 : hi + lo ≠ 0) (h2 : hi + lo ≠ 2 * sc) (es1 : hi + lo ≤ sc → s = qI (hi - lo) (hi + lo)) (es2 : ¬ hi + lo ≤ sc → s = qI (hi - lo) (2 * sc - (hi + lo))) :
    Comes (vF (m1F (lightF fr fg fb) s) (m2F (lightF fr fg fb) s) (add h 4599676419421066581)) sc r ∧
    Comes (vF (m1F (lightF fr fg fb) s) (m2F (lightF fr fg fb) s) h) sc g ∧
    Comes (vF (m1F (lightF fr fg fb) s) (m2F (lightF fr fg fb) s) (sub h 4599676419421066581)) sc b := by
  have M := C.marks h0 h2 es1 es2
  obtain ⟨⟨kr, kg, kb⟩, k0, k1⟩ := sector_k hs wr.lo0 wr.hi1 wg.lo0 wg.hi1 wb.lo0 wb.hi1
  obtain ⟨φ1, C1, x1⟩ := vR_spec M H k0
  obtain ⟨φ2, C2, x2⟩ := vG_spec M H
  obtain ⟨φ3, C3, x3⟩ := vB_spec M H k0
  rw [← kr] at x1
  rw [← kg] at x2
  rw [← kb] at x3
  exact ⟨chan_part C.hS C1 wr C.sp C.bh C.bl C.rr x1, chan_part C.hS C2 wg C.sp C.bh C.bl C.rg x2, chan_part C.hS C3 wb C.sp C.bh C.bl C.rb x3⟩
end
end Mine
end
section
open PySem PySem.W PyProof.Rows PySem.Calls PySem.Flt
namespace Mine
theorem hue_near {h pf : UInt64} {κ : Rat} (H : HueN h κ) (hN : Near pf (κ / 6)) (k0 : 0 ≤ κ) (k1 : κ ≤ 6 - 1 / 4194304) :
    (Float64.cmp 0 h == some Ordering.lt || Float64.cmp 0 h == some Ordering.eq) = true ∧ (Float64.cmp h 0x3ff0000000000000 == some .lt) = true ∧ (Float64.cmpInt (Float64.mul (Float64.abs (Float64.sub h pf)) (Float64.ofInt (2 ^ Int.toNat 50))) 1 == some .lt) = true ∧ (Float64.cmp h h == some .eq) = true := by
  obtain ⟨hf, h0, h1, hu, hd⟩ := H
  refine ⟨?_, ?_, ?_, ?_⟩
  · rw [cmp_le zero_lit.1 hf, zero_lit.2]; simpa using h0
  · rw [cmp_lt hf one_spec.1, one_spec.2]; simpa using h1
  · obtain ⟨u, l⟩ := nearZ hN (B := 1) (by decide +kernel) (by grind) (by grind)
    obtain ⟨f2, u2, l2⟩ := subN hf hN.fin (B := 1 / 1048576) (by decide +kernel) (by decide +kernel) (by grind) (by grind)
    obtain ⟨f3, e3, g3⟩ := abs_spec f2
    have e50 : (2 : Int) ^ Int.toNat 50 = 1125899906842624 := by decide
    rw [e50]
    have hG := BIG_ge
    have oN : Near (Float64.ofInt 1125899906842624) ((1125899906842624 : Int) : Rat) := ofInt_near (by have : ((1125899906842624 : Int) : Rat) = 1125899906842624 := rfl; rw [this]; grind) (by have : ((1125899906842624 : Int) : Rat) = 1125899906842624 := rfl; rw [this]; grind)
    have ov : rv (Float64.ofInt 1125899906842624) = 1125899906842624 := oN.exact 1125899906842624 1074 (by decide) (by rw [TT_nat])
    obtain ⟨f4, u4, l4⟩ := mulN f3 oN.fin (B := 1) (by decide +kernel) (by decide +kernel) (by rw [ov]; grind) (by rw [ov]; grind)
    rw [ov] at u4 l4
    rw [cmpInt_lt f4]
    simp only [decide_eq_true_eq]
    have n : ((1 : Int) : Rat) = 1 := rfl
    rw [n]
    grind
  · rw [cmp_eq hf hf]; simp
theorem ne_false {x y : UInt64} (hx : Fin x) (e : x = y) : (Float64.cmp x y != some .eq) = false := by
  subst e
  rw [cmp_ne hx hx]; simp
theorem nz_false {x : UInt64} (hx : Fin x) (h : rv x ≠ 0) : (Float64.cmp x 0 == some .eq) = false := by
  rw [cmp_eq hx zero_lit.1, zero_lit.2]; simpa using h
section
variable {r g b sc hi lo : Int} {σ : Rat} {fr fg fb : UInt64}
theorem Col.zmax (C : Col r g b sc hi lo σ fr fg fb) : Float64.isZero (fmax3 fr fg fb) = decide (hi = 0) := by
  rw [isZero_iff C.vmax.1, C.vmax.2]; exact decide_eq_decide.mpr (int_zero C.pos)
theorem Col.zsum (C : Col r g b sc hi lo σ fr fg fb) : Float64.isZero (sumF fr fg fb) = decide (hi + lo = 0) := by
  rw [isZero_iff C.vsum.1, C.vsum.2]; exact decide_eq_decide.mpr (int_zero C.pos)
theorem Col.zrest (C : Col r g b sc hi lo σ fr fg fb) : Float64.isZero (restF fr fg fb) = decide (2 * sc - (hi + lo) = 0) := by
  rw [isZero_iff C.vrest.1, C.vrest.2]; exact decide_eq_decide.mpr (int_zero C.pos)
theorem Col.hsvOk (C : Col r g b sc hi lo σ fr fg fb) (h0 : hi ≠ 0) : HsvOk fr fg fb (hueF fr fg fb) (qI (hi - lo) hi) (fmax3 fr fg fb) :=
  ⟨C.uneq, by rw [C.zmax]; simpa using h0, rfl, C.hsvSat h0, rfl⟩
theorem Col.hsvNo (C : Col r g b sc hi lo σ fr fg fb) (h0 : hi = 0) : HsvNo fr fg fb := ⟨C.uneq, by rw [C.zmax]; simpa using h0⟩
theorem Col.hlsOk (C : Col r g b sc hi lo σ fr fg fb) (h0 : hi + lo ≠ 0) (h2 : hi + lo ≠ 2 * sc) {s : UInt64} (es1 : hi + lo ≤ sc → s = qI (hi - lo) (hi + lo)) (es2 : ¬ hi + lo ≤ sc → s = qI (hi - lo) (2 * sc - (hi + lo))) :
    HlsOk fr fg fb (hueF fr fg fb) (lightF fr fg fb) s := by
  have c1 := C.sp
  refine ⟨C.uneq, rfl, rfl, ?_⟩
  by_cases hd : hi + lo ≤ sc
  · left
    refine ⟨by rw [C.dark]; simpa using hd, by rw [C.zsum]; simpa using h0, ?_⟩
    rw [es1 hd]
    exact div_qI C.pos C.vrange.1 C.vsum.1 C.vrange.2 C.vsum.2 (by omega) h0
  · right
    refine ⟨by rw [C.dark]; simpa using hd, by rw [C.zrest]; simp only [decide_eq_false_iff_not]; omega, ?_⟩
    rw [es2 hd]
    exact div_qI C.pos C.vrange.1 C.vrest.1 C.vrange.2 C.vrest.2 (by omega) (by omega)
theorem Col.hlsNo (C : Col r g b sc hi lo σ fr fg fb) (h : hi + lo = 0 ∨ hi + lo = 2 * sc) : HlsNo fr fg fb := by
  have := C.hS.lo
  refine ⟨C.uneq, ?_⟩
  by_cases hd : hi + lo ≤ sc
  · left
    refine ⟨by rw [C.dark]; simpa using hd, by rw [C.zsum]; simp only [decide_eq_true_eq]; omega⟩
  · right
    refine ⟨by rw [C.dark]; simpa using hd, by rw [C.zrest]; simp only [decide_eq_true_eq]; omega⟩
theorem Col.satNz (C : Col r g b sc hi lo σ fr fg fb) (h0 : hi + lo ≠ 0) (h2 : hi + lo ≠ 2 * sc) {s : UInt64} (es1 : hi + lo ≤ sc → s = qI (hi - lo) (hi + lo)) (es2 : ¬ hi + lo ≤ sc → s = qI (hi - lo) (2 * sc - (hi + lo))) : Fin s ∧ rv s ≠ 0 := by
  have c1 := C.sp
  have c2 := C.bh
  have c3 := C.bl
  have c4 := C.hS.lo
  have c5 := C.hS.hi
  by_cases hd : hi + lo ≤ sc
  · rw [es1 hd]; exact sat_nz (by omega) (by omega) h0 (by omega) (by omega)
  · rw [es2 hd]; exact sat_nz (by omega) (by omega) (by omega) (by omega) (by omega)
theorem Col.place_bound (C : Col r g b sc hi lo σ fr fg fb) : -100000000 ≤ placeI r g b ∧ placeI r g b ≤ 100000000 := by
  have a1 := C.rr
  have a2 := C.rg
  have a3 := C.rb
  have h1 := C.bh
  have h2 := C.bl
  have P := place_cases C.eh C.el C.sp
  generalize placeI r g b = p at *
  have d : 0 ≤ hi - lo ∧ hi - lo ≤ 4194304 := by omega
  have x1 : 0 ≤ hi - r ∧ hi - r ≤ 4194304 := by omega
  have x2 : 0 ≤ hi - g ∧ hi - g ≤ 4194304 := by omega
  have x3 : 0 ≤ hi - b ∧ hi - b ≤ 4194304 := by omega
  clear a1 a2 a3 h1 h2 C
  generalize hi - lo = D at *
  rcases P with ⟨_, _, h⟩ | ⟨_, _, _, h⟩ | ⟨_, _, _, h⟩ | ⟨_, _, _, h⟩ | ⟨_, _, _, _, h⟩ | ⟨_, _, _, _, h⟩
  all_goals (subst h; (generalize hi - r = y at *); (generalize hi - g = y' at *); (generalize hi - b = y'' at *); constructor <;> omega)
end
theorem spread_pos {r g b : Int} (h : ¬ (r = g ∧ r = b)) : min (min r g) b < max (max r g) b := by
  have a1 : min (min r g) b ≤ r := Int.le_trans (Int.min_le_left _ _) (Int.min_le_left _ _)
  have a2 : r ≤ max (max r g) b := Int.le_trans (Int.le_max_left _ _) (Int.le_max_left _ _)
  have b1 : min (min r g) b ≤ g := Int.le_trans (Int.min_le_left _ _) (Int.min_le_right _ _)
  have b2 : g ≤ max (max r g) b := Int.le_trans (Int.le_max_right _ _) (Int.le_max_left _ _)
  have c1 : min (min r g) b ≤ b := Int.min_le_right _ _
  have c2 : b ≤ max (max r g) b := Int.le_max_right _ _
  generalize max (max r g) b = hi at *
  generalize min (min r g) b = lo at *
  omega
section
variable {w : World} {mean : ExcName → Option Value} {mg mb : Str → Option Value} {dp un : Nat} {gd : Option (List Code)} {cn : Str} {cs : Scope} {a : Addr} {ccd : Value} {cl : List (Str × Addr)} {outer : List Env} {A₀ : Around} {base h₀ : Heap} {L : Addr} {m : Str → Option Value} {news : List (Addr × Obj)} {s : Shared} {Q E : Value → Shared → Prop}

theorem wheel_true {r g b sc : Int} {t1 t2 t3 t4 : Tok}
   (B : Below A₀ h₀ [] h₀) (F : Fr h₀ L s.heap m) (X : (hd.heap_39 w.params).In h₀) (N : News h₀ L s.heap news) (T : Top hd.view_39 lo mean mg mb h₀) (hk : cs.kind = .function) (hdp : dp + 3 < recursionLimit) (hu : un + 200 < cLine)
   (hr : -2097152 ≤ r ∧ r ≤ 2097152) (hg : -2097152 ≤ g ∧ g ≤ 2097152) (hb : -2097152 ≤ b ∧ b ≤ 2097152) (hp : ∃ k : Nat, k ≤ 20 ∧ sc = 2 ^ k)
   (hret : ∀ (h' : Heap) (tk' : Nat), Fr h₀ L h' m → News h₀ L h' news → Q (.bool true) { s with heap := h', toks := tk' }) :
   wpAny (model pw w) (ktrTop dp un gd cn cs L a ccd [] []) (call (.ref 94) [.int r t1, .int g t2, .int b t3, .int sc t4]) Q E s := by
  have hS := scale_of hp
  generalize (1 / (sc : Rat)) = σ at hS
  have hG := grid_of hS hp
  have hsc : 1 ≤ sc ∧ sc ≤ 1048576 := ⟨hS.lo, hS.hi⟩
  obtain ⟨fr1, vr, ur, lr⟩ := part_of hS hp hr.1 hr.2
  obtain ⟨fg1, vg, ug, lg⟩ := part_of hS hp hg.1 hg.2
  obtain ⟨fb1, vb, ub, lb⟩ := part_of hS hp hb.1 hb.2
  by_cases hgrey : r = g ∧ r = b
  · obtain ⟨rfl, rfl⟩ := hgrey
    have hc : (Float64.cmp (qI r sc) (qI r sc) == some .eq) = true := by rw [cmp_eq fr1 fr1]; simp
    have hσ : 0 < σ := by have := hS.unit.lo; grind
    -- the light of a grey is its level
    have hl : (Float64.cmp (lightF (qI r sc) (qI r sc) (qI r sc)) (qI r sc) == some .eq) = true := by
      unfold lightF
      rw [fmax3_same, fmin3_same]
      obtain ⟨f, e⟩ := add_grid hS.unit hG fr1 fr1 vr vr (by omega) (by omega)
      have hBG := BIG_ge
      have h1 := hS.unit.hi
      have e' : rv (Float64.add (qI r sc) (qI r sc)) = 2 * ((r : Rat) * σ) := by rw [e, Rat.intCast_add]; grind
      rw [vr] at ur lr
      have e2 : rv (Float64.add (qI r sc) (qI r sc)) / 2 = (r : Rat) * σ := by rw [e']; grind
      have hN := div_near f two_fin (by rw [two_rv]; decide) (by rw [two_rv, e2]; grind) (by rw [two_rv, e2]; grind)
      rw [two_rv, e2] at hN
      rw [cmp_eq hN.fin fr1, vr, grid_exact hG hN (by omega) (by omega)]
      simp
    exact c_wheelG B F X N T hk hdp hu hr hsc (by omega) (by omega) rfl hc (by rw [fmax3_same, fmin3_same]; exact hc) (fmax3_same _) rfl hl hret
  · have C : Col r g b sc (max (max r g) b) (min (min r g) b) σ (qI r sc) (qI g sc) (qI b sc) := ⟨hS, hG, rfl, rfl, ⟨Int.le_trans (Int.min_le_left _ _) (Int.min_le_left _ _), Int.le_trans (Int.le_max_left _ _) (Int.le_max_left _ _)⟩, ⟨Int.le_trans (Int.min_le_left _ _) (Int.min_le_right _ _), Int.le_trans (Int.le_max_right _ _) (Int.le_max_left _ _)⟩, ⟨Int.min_le_right _ _, Int.le_max_right _ _⟩, spread_pos hgrey, Int.max_le.mpr ⟨Int.max_le.mpr ⟨hr.2, hg.2⟩, hb.2⟩, Int.le_min.mpr ⟨Int.le_min.mpr ⟨hr.1, hg.1⟩, hb.1⟩, ⟨fr1, vr⟩, ⟨fg1, vg⟩, ⟨fb1, vb⟩⟩
    have eh : max (max r g) b = max (max r g) b := rfl
    have el : min (min r g) b = min (min r g) b := rfl
    generalize hhi : max (max r g) b = hi at C
    generalize hlo : min (min r g) b = lo' at C
    clear eh el
    have c1 := C.sp
    have c2 := C.bh
    have c3 := C.bl
    have wr := way_of (c := r) c1 c2 c3 C.rr.1 C.rr.2
    have wg := way_of (c := g) c1 c2 c3 C.rg.1 C.rg.2
    have wb := way_of (c := b) c1 c2 c3 C.rb.1 C.rb.2
    obtain ⟨κ, hs, hκ⟩ := sector_of C wr wg wb
    have H := C.hue wr wg wb hs
    obtain ⟨_, k0, k1⟩ := sector_k hs wr.lo0 wr.hi1 wg.lo0 wg.hi1 wb.lo0 wb.hi1
    have hPb := C.place_bound
    have hBG := BIG_ge
    have hDn : ((hi - lo' : Int) : Rat) ≠ 0 := by
      intro q
      have : hi - lo' = 0 := by exact_mod_cast q
      omega
    have eκ : (placeI r g b : Rat) / ((6 * (hi - lo') : Int) : Rat) = κ / 6 := by
      rw [← hκ, Rat.intCast_mul]
      have n : ((6 : Int) : Rat) = 6 := rfl
      rw [n]
      generalize ((hi - lo' : Int) : Rat) = D at *
      grind
    have hNp : Near (qI (placeI r g b) (6 * (hi - lo'))) (κ / 6) := by
      rw [← eκ]
      exact frac_near (by clear hhi hlo hr hg hb hgrey; omega) (by rw [eκ]; grind) (by rw [eκ]; grind)
    obtain ⟨h1, h2, h3, hh⟩ := hue_near H hNp k0 k1
    have fhi := part_of hS hp (R := hi) (by clear hhi hlo hr hg hb hgrey; omega) (by clear hhi hlo hr hg hb hgrey; omega)
    have cv : (Float64.cmp (fmax3 (qI r sc) (qI g sc) (qI b sc)) (qI hi sc) != some .eq) = false := by
      rw [cmp_ne C.vmax.1 fhi.1, C.vmax.2, fhi.2.1]; simp
    by_cases z1 : hi = 0
    · have z2 : hi + lo' ≠ 0 := by clear hhi hlo hr hg hb hgrey; omega
      have z3 : hi + lo' ≠ 2 * sc := by clear hhi hlo hr hg hb hgrey; omega
      have hd : hi + lo' ≤ sc := by clear hhi hlo hr hg hb hgrey; omega
      have es1 : hi + lo' ≤ sc → qI (hi - lo') (hi + lo') = qI (hi - lo') (hi + lo') := fun _ => rfl
      have es2 : ¬ hi + lo' ≤ sc → qI (hi - lo') (hi + lo') = qI (hi - lo') (2 * sc - (hi + lo')) := fun q => absurd hd q
      obtain ⟨sf, sn⟩ := C.satNz z2 z3 es1 es2
      obtain ⟨⟨b4, p4⟩, ⟨b5, p5⟩, ⟨b6, p6⟩⟩ := hls_back C wr wg wb hs H z2 z3 es1 es2
      exact c_wheelZA (s1 := 0) (s1' := 0) (v := 0) (v' := 0) (x1 := 0) (y1 := 0) (z1' := 0) B F X N T hk hdp hu hr hg hb hsc hhi hlo c1 ⟨c3, c2⟩ rfl rfl rfl rfl hPb rfl h1 h2 h3 (C.hsvNo z1) z1 (C.hlsOk z2 z3 es1 es2) z2 z3 rfl (ne_false C.vlight.1 (C.light_q z2)) rfl (fun q => absurd hd q) (ne_false sf rfl) (nz_false sf sn) rfl rfl rfl b4 b5 b6 p4 p5 p6 hret
    · obtain ⟨x, y, z, HB, ⟨b1, p1⟩, ⟨b2, p2⟩, ⟨b3, p3⟩⟩ := hsv_back C wr wg wb hs H z1
      obtain ⟨sf1, sn1⟩ := sat_nz (D := hi - lo') (T := hi) (by clear hhi hlo hr hg hb hgrey; omega) (by clear hhi hlo hr hg hb hgrey; omega) z1 (by clear hhi hlo hr hg hb hgrey; omega) (by clear hhi hlo hr hg hb hgrey; omega)
      obtain ⟨u, hfin, hnat, _⟩ := six_spec H k1
      by_cases z23 : hi + lo' = 0 ∨ hi + lo' = 2 * sc
      · exact c_wheelAZ (l := 0) (l' := 0) (s2 := 0) (s2' := 0) (x2 := 0) (y2 := 0) (z2' := 0) B F X N T hk hdp hu hr hg hb hsc hhi hlo c1 ⟨c3, c2⟩ rfl rfl rfl rfl hPb rfl h1 h2 h3 (C.hsvOk z1) z1 rfl (ne_false sf1 rfl) rfl cv (nz_false sf1 sn1) hfin hnat HB b1 b2 b3 p1 p2 p3 (C.hlsNo z23) z23 hret
      · have z2 : hi + lo' ≠ 0 := by clear hhi hlo hr hg hb hgrey; omega
        have z3 : hi + lo' ≠ 2 * sc := by clear hhi hlo hr hg hb hgrey; omega
        obtain ⟨sat, es1, es2⟩ : ∃ sat : UInt64, (hi + lo' ≤ sc → sat = qI (hi - lo') (hi + lo')) ∧ (¬ hi + lo' ≤ sc → sat = qI (hi - lo') (2 * sc - (hi + lo'))) := by
          by_cases hd : hi + lo' ≤ sc
          · exact ⟨_, fun _ => rfl, fun q => absurd hd q⟩
          · exact ⟨_, fun q => absurd q hd, fun _ => rfl⟩
        obtain ⟨sf, sn⟩ := C.satNz z2 z3 es1 es2
        obtain ⟨⟨b4, p4⟩, ⟨b5, p5⟩, ⟨b6, p6⟩⟩ := hls_back C wr wg wb hs H z2 z3 es1 es2
        exact c_wheelAA B F X N T hk hdp hu hr hg hb hsc hhi hlo c1 ⟨c3, c2⟩ rfl rfl rfl rfl hPb rfl h1 h2 h3 (C.hsvOk z1) z1 rfl (ne_false sf1 rfl) rfl cv (nz_false sf1 sn1) hfin hnat HB b1 b2 b3 p1 p2 p3 (C.hlsOk z2 z3 es1 es2) z2 z3 rfl (ne_false C.vlight.1 (C.light_q z2)) (fun q => (es1 q).symm) (fun q => (es2 q).symm) (ne_false sf rfl) (nz_false sf sn) rfl rfl rfl b4 b5 b6 p4 p5 p6 hh hret
end
end Mine
end
open PySem PySem.W PyProof.Rows PySem.Calls PySem.Flt
namespace Mine

theorem gen_law {G : Prop} {g h : Heap} {L D : Addr} {M : Str → Option Value} {sc : Int} {t : Tok}
    (F : Fr g L h (fun y => if y = Str.ofString "scale" then some (.int sc t) else M y)) (e : M (Str.ofString "cells") = some (.ref D)) (hp : ∃ k : Nat, k ≤ 20 ∧ sc = 2 ^ k)
    (k : ∀ (M0 : Str → Option Value) (sc : Int) (t : Tok), Fr g L h (fun y => if y = Str.ofString "scale" then some (.int sc t) else M0 y) → M0 (Str.ofString "cells") = some (.ref D) → (∃ k : Nat, k ≤ 20 ∧ sc = 2 ^ k) → G) : G := k M sc t F e hp
theorem pow_of_fmod {x : Int} (h1 : 0 ≤ x) (h2 : x < 21) : ∃ k : Nat, k ≤ 20 ∧ (2 : Int) ^ x.toNat = 2 ^ k := ⟨x.toNat, by omega, rfl⟩
theorem pow_bounds {sc : Int} (h : ∃ k : Nat, k ≤ 20 ∧ sc = 2 ^ k) : 1 ≤ sc ∧ sc ≤ 1048576 := by
  obtain ⟨k, hk, rfl⟩ := h
  have : ∀ j : Nat, j < 21 → (1 : Int) ≤ 2 ^ j ∧ (2 : Int) ^ j ≤ 1048576 := by decide
  exact this k (by omega)
/-- the law's frame between two turns -/
def LawMap (M1 m : Str → Option Value) : Prop := ∃ a b c : Option Value, m = fun y => if y = Str.ofString "blue" then c else if y = Str.ofString "green" then b else if y = Str.ofString "red" then a else M1 y
theorem lawMap0 (M1 : Str → Option Value) : LawMap M1 M1 := ⟨M1 (Str.ofString "red"), M1 (Str.ofString "green"), M1 (Str.ofString "blue"), by
  funext y
  by_cases h1 : y = Str.ofString "blue"
  · rw [if_pos h1]; first | rfl | (rw [h1])
  · rw [if_neg h1]
    by_cases h2 : y = Str.ofString "green"
    · rw [if_pos h2]; first | rfl | (rw [h2])
    · rw [if_neg h2]
      by_cases h3 : y = Str.ofString "red"
      · rw [if_pos h3]; first | rfl | (rw [h3])
      · rw [if_neg h3]⟩
theorem lawMap_again {M1 : Str → Option Value} {a b c a' b' c' : Option Value} : LawMap M1 (fun y => if y = Str.ofString "blue" then c' else if y = Str.ofString "green" then b' else if y = Str.ofString "red" then a' else (fun y => if y = Str.ofString "blue" then c else if y = Str.ofString "green" then b else if y = Str.ofString "red" then a else M1 y) y) := ⟨a', b', c', by
  funext y
  by_cases h1 : y = Str.ofString "blue"
  · simp only [if_pos h1]
  · simp only [if_neg h1]
    by_cases h2 : y = Str.ofString "green"
    · simp only [if_pos h2]
    · simp only [if_neg h2]
      by_cases h3 : y = Str.ofString "red"
      · simp only [if_pos h3]
      · simp only [if_neg h3]⟩

set_option maxRecDepth 100000 in
set_option maxHeartbeats 8000000 in
theorem go : PySem.Challenge.rw_dz0011_01.Holds := hd (by
  k_with_none
  (k_with "storeName" => (k_here; (with_reducible show wpAny _ _ (storeName _ _ (Value.float _ _)) _ _ (Shared.mk _ _ _ (_ + _) _)); (refine gen_f ?_); intro t1 tk1))
  (k_with "storeName" => (k_here; (with_reducible show wpAny _ _ (storeName _ _ (Value.int _ _)) _ _ (Shared.mk _ _ _ (_ + _) _)); (refine gen_i ?_); intro t1 tk1))
  (k_with "execs cons" => (k_here; (with_reducible show wpAny _ _ (execs _ _) _ _ (Shared.mk _ _ _ (_ + _) _)); (refine gen_s ?_); intro tk1))
  (k_with "eval Call" => (k_here; k_dflt (refine Call_ ?_)))
  (k_with "exec If" => (k_here; refine wpAny_If ?_))
  (k_with "eval Name" => (k_here; k_dflt (refine' ld ?zzk1 ?zzk2 ?_; (case zzk1 => k_asm); (case zzk2 => assumption); k_whole)))
  (k_with "call ref" => (k_here; (with_reducible show wpAny _ _ (call (Value.ref 80) [Value.int _ _, Value.int _ _, Value.int _ _, Value.int _ _]) _ _ _); (k_dflt (refine' yiq_true ?zzk1 ?zzk2 ?zzk3 ?zzk4 ?zzk5 ?zzk6 ?zzk7 ?zzk8 ?zze0 ?zze1 ?zze2 ?zze3 (fun h' tk' F' N' => ?_))); (case zzk1 => k_asm); (case zzk2 => k_asm); (case zzk3 => k_asm); (case zzk4 => k_asm); (case zzk5 => k_asm); (case zzk6 => k_dflt (first | exact rfl | assumption)); (case zzk7 => k_dflt ktr_room); (case zzk8 => k_dflt ktr_units); (case zze0 => assumption); (case zze1 => assumption); (case zze2 => assumption); (case zze3 => assumption)))
  (k_with "call ref" => (k_here; (with_reducible show wpAny _ _ (call (Value.ref 94) [Value.int _ _, Value.int _ _, Value.int _ _, Value.int _ _]) _ _ _); (k_dflt (refine' wheel_true ?zzk1 ?zzk2 ?zzk3 ?zzk4 ?zzk5 ?zzk6 ?zzk7 ?zzk8 ?zze0 ?zze1 ?zze2 ?zze3 (fun h' tk' F' N' => ?_))); (case zzk1 => k_asm); (case zzk2 => k_asm); (case zzk3 => k_asm); (case zzk4 => k_asm); (case zzk5 => k_asm); (case zzk6 => k_dflt (first | exact rfl | assumption)); (case zzk7 => k_dflt ktr_room); (case zzk8 => k_dflt ktr_units); (case zze0 => assumption); (case zze1 => assumption); (case zze2 => assumption); (case zze3 => assumption)))
  (k_with "call ref" => (k_here; (with_reducible show wpAny _ _ (call (Value.ref 99) [Value.ref _, Value.int _ _]) _ _ _); (k_dflt (refine' c_colours ?zzk1 ?zzk2 ?zzk3 ?zzk4 ?zzk5 ?zzk6 ?zzk7 ?zzk8 ?zze0 ?zze1 ?zze2 (fun C' its' kc' led' h' tk' q1' q2' q3' q4' F' N' => ?_))); (case zzk1 => k_asm); (case zzk2 => k_asm); (case zzk3 => k_asm); (case zzk4 => k_asm); (case zzk5 => k_asm); (case zzk6 => k_dflt (first | exact rfl | assumption)); (case zzk7 => k_dflt ktr_room); (case zzk8 => k_dflt ktr_units); (case zze0 => assumption); (case zze1 => (k_dflt omega)); (case zze2 => (exact pow_bounds (by assumption)))))
  w_on; w_strict (k_go0; (all_goals try k_fold); (repeat' (first | ((fail_if_success (with_reducible show wpAny _ _ (exec (Stmt.For _ _ _ _ _) _) _ _ _)); (first | (k_unfold; (try dsimp only)) | (k_end; wrow_close) | walk1 | (dsimp only; walk1))))));
  all_goals (
    k_dflt (refine gen_law (by assumption) rfl ?hp ?_)
    case hp => first | exact ⟨0, by omega, rfl⟩ | exact pow_of_fmod (by assumption) (by assumption)
    intro M0 sc t0 F0 hc0 hp0
    k_dflt (refine For_turns F0 ?_)
    k_steps
    rename GoodItems _ _ => hgood
    k_dflt (refine turns_list rfl (by assumption) (by assumption) (by assumption) (LawMap (fun y => if y = Str.ofString "scale" then some (Value.int sc t0) else M0 y)) (lawMap0 _) ?step ?hQ)
    case step =>
      rintro v m9 news9 h9 tk9 hv ⟨a9, b9, c9, rfl⟩ hsub F9 N9
      obtain ⟨T9, r9, g9, bb9, t9, u9, o9, rfl, hT, hbr, hbg, hbb⟩ := hgood v hv
      have hT9 := hsub _ hT
      clear hgood hsub hT
      k_steps
      exact ⟨_, _, _, rfl, by assumption, by assumption, lawMap_again⟩
    case hQ =>
      rintro h9 tk9 m9 ⟨a9, b9, c9, rfl⟩ F9
      k_steps))
end Mine

theorem PySem.Challenge.cw_dz0011_01_holds : PySem.Challenge.rw_dz0011_01.Holds :=
  Mine.go
