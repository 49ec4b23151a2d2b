import PyProof.Rows.All
import Wide.All
import OpenK.AllK
import Wide.FinOn
import PySem.Challenge.RW_lg0021_01
set_option Elab.async false
set_option linter.unusedVariables false
set_option linter.unusedSimpArgs false
set_option maxRecDepth 100000
set_option maxHeartbeats 8000000

/- part HD1 -/
section
open PySem PySem.W PyProof.Rows
namespace Mine
open_top hd for PySem.Challenge.rw_lg0021_01
end Mine
end

/- part M0 -/
section
open PySem PySem.Calls PySem.Spec PyProof.Rows PySem.W
namespace Mine

abbrev PW : Program := PySem.Challenge.pw_lg0021_01
/-- what stands in the i-th def or class of a text -/
def bodyAt (b : List Stmt) (i : Nat) : List Stmt := match b[i]? with
  | some (.FunctionDef _ _ r _ _ _ _ _ _ _) => r
  | some (.ClassDef _ _ _ r _ _ _ _ _ _ _) => r
  | _ => []
noncomputable abbrev KK : Params → Frag := hd.heap_39
abbrev NoE : Value → Shared → Prop := fun _ _ => False

/-- what stood off X stands as it was -/
def Up (X : List Nat) (h h' : Heap) : Prop := h.objs.size ≤ h'.objs.size ∧ ∀ b o, b ∉ X → h.get? b = some o → h'.get? b = some o

theorem Up.refl (X : List Nat) (h : Heap) : Up X h h := ⟨Nat.le_refl _, fun _ _ _ e => e⟩
theorem Up.trans {X Y Z : List Nat} {h h' h'' : Heap} (x : Up X h h') (y : Up Y h' h'') (hX : ∀ a ∈ X, a ∈ Z ∨ h.objs.size ≤ a) (hY : ∀ a ∈ Y, a ∈ Z ∨ h.objs.size ≤ a) : Up Z h h'' := by
  refine ⟨Nat.le_trans x.1 y.1, fun b o hb e => ?_⟩
  have lt := Heap.lt_size e
  refine y.2 b o (fun q => ?_) (x.2 b o (fun q => ?_) e)
  · rcases hY b q with z | z
    · exact hb z
    · exact absurd lt (Nat.not_lt.mpr z)
  · rcases hX b q with z | z
    · exact hb z
    · exact absurd lt (Nat.not_lt.mpr z)
theorem Up.step {X Y : List Nat} {h h' h'' : Heap} (x : Up X h h') (y : Up Y h' h'') (hY : ∀ a ∈ Y, a ∈ X ∨ h.objs.size ≤ a) : Up X h h'' := x.trans y (fun _ q => .inl q) hY
theorem Up.step0 {X : List Nat} {h h' h'' : Heap} (x : Up X h h') (y : Up [] h' h'') : Up X h h'' := x.step y (fun _ q => nomatch q)
theorem Up.step1 {X : List Nat} {a : Nat} {h h' h'' : Heap} (x : Up X h h') (y : Up [a] h' h'') (ha : h.objs.size ≤ a) : Up X h h'' := x.step y (fun b q => .inr (by rw [List.mem_singleton.mp q]; exact ha))
theorem Up.mono {X Y : List Nat} {h h' : Heap} (x : Up X h h') (k : ∀ a ∈ X, a ∈ Y) : Up Y h h' := ⟨x.1, fun b o hb e => x.2 b o (fun q => hb (k b q)) e⟩
theorem Up.push (h : Heap) (o : Obj) : Up [] h (h.push o) := ⟨by rw [Heap.size_push]; exact Nat.le_succ _, fun _ _ _ e => Heap.get?_push_of_some _ e⟩
theorem Up.same {a : Nat} {h h' : Heap} (hs : Heap.SameBut a h h') : Up [a] h h' := ⟨Nat.le_of_eq hs.1.symm, fun b o hb e => (hs.2 b (fun q => hb (q ▸ .head _))).trans e⟩
theorem Up.update (h : Heap) (a : Addr) (f : Obj → Obj) : Up [a] h (h.update a f) := Up.same (Heap.SameBut.update ..)
theorem Up.get {X : List Nat} {h h' : Heap} (x : Up X h h') {b : Nat} {o : Obj} (hb : b ∉ X) (e : h.get? b = some o) : h'.get? b = some o := x.2 b o hb e
theorem Up.keep {h h' : Heap} (x : Up [] h h') : ∀ b o, h.get? b = some o → h'.get? b = some o := fun b o e => x.2 b o (fun q => nomatch q) e
theorem Up.of_keep {h h' : Heap} (hs : h.objs.size ≤ h'.objs.size) (k : ∀ b o, h.get? b = some o → h'.get? b = some o) : Up [] h h' := ⟨hs, fun b o _ e => k b o e⟩
theorem Up.ns {X : List Nat} {h h' : Heap} (x : Up X h h') {a : Nat} {m : Str → Option Value} (ha : a ∉ X) (n : h.Ns a m) : h'.Ns a m := let ⟨o, es, ep, e, r⟩ := n; ⟨o, es, ep, x.2 _ _ ha e, r⟩
theorem Up.cell {X : List Nat} {h h' : Heap} (x : Up X h h') {a : Nat} {v : Option Value} (ha : a ∉ X) (n : h.IsCell a v) : h'.IsCell a v := let ⟨o, e, r⟩ := n; ⟨o, x.2 _ _ ha e, r⟩
theorem Up.push' {X : List Nat} {h h' : Heap} (x : Up X h h') (o : Obj) : Up X h (h'.push o) := ⟨Nat.le_trans x.1 (Up.push h' o).1, fun b o' hb e => Heap.get?_push_of_some _ (x.2 b o' hb e)⟩

def kBound (K : Frag) : Bool := K.all fun p => Nat.blt p.1 108
theorem kk_bound (P : Params) : kBound (KK P) = true := by kernel_rfl
theorem lookup_bound : ∀ {K : Frag}, kBound K = true → ∀ {a : Nat}, 108 ≤ a → K.lookup a = none
  | [], _, _, _ => rfl
  | (b, o) :: r, h, a, ha => by
    have h' : (Nat.blt b 108 && kBound r) = true := h
    rw [Bool.and_eq_true] at h'
    have hb : b < 108 := Nat.le_of_ble_eq_true h'.1
    rw [List.lookup_cons]
    have : (a == b) = false := beq_eq_false_iff_ne.mpr (Nat.ne_of_gt (Nat.lt_of_lt_of_le hb ha))
    rw [this]
    exact lookup_bound h'.2 ha
theorem kk_none (P : Params) {a : Nat} (h : 108 ≤ a) : (KK P).lookup a = none := lookup_bound (kk_bound P) h
theorem kk_in_up {P : Params} {X : List Nat} {h h' : Heap} (k : (KK P).In h) (u : Up X h h') (hX : ∀ a ∈ X, (KK P).lookup a = none) : (KK P).In h' := fun a o e =>
  u.get (fun q => by rw [hX a q] at e; cases e) (k a o e)

/-- what every step may lean on -/
structure Base (w : World) (h : Heap) : Prop where
  K : (KK w.params).In h
  b : ∃ mb, h.Ns builtinsNs mb ∧ mb "len" = some (.builtin "len") ∧ mb "list" = some (.type "list") ∧ mb "range" = some (.type "range") ∧ mb "sorted" = some (.builtin "sorted") ∧ mb "getattr" = some (.builtin "getattr") ∧ mb "super" = some (.type "super")
  lim : h.NoLimit
  m : ∃ ob, h.get? 4 = some ob ∧ ob.cls = .type "module" ∧ ob.dict = some builtinsNs ∧ ob.data = .plain

theorem Base.up {w : World} {X : List Nat} {h h' : Heap} (B : Base w h) (u : Up X h h') (hX : ∀ a ∈ X, (KK w.params).lookup a = none ∧ a ≠ 0 ∧ a ≠ 4 ∧ a ≠ 2) : Base w h' := by
  obtain ⟨K, ⟨mb, hb, r⟩, ⟨mc, hc, rc⟩, ob, e, q⟩ := B
  exact ⟨kk_in_up K u (fun a ha => (hX a ha).1), ⟨mb, u.ns (fun z => (hX _ z).2.1 rfl) hb, r⟩, ⟨mc, u.ns (fun z => (hX _ z).2.2.2 rfl) hc, rc⟩, ob, u.get (fun z => (hX _ z).2.2.1 rfl) e, q⟩
theorem Base.size {w : World} {h : Heap} (B : Base w h) : 108 ≤ h.objs.size := by
  have : ((KK w.params).lookup 107).isSome = true := by kernel_rfl
  obtain ⟨o, e⟩ := Option.isSome_iff_exists.mp this
  exact Heap.lt_size (B.K _ _ e)
def High (X : List Nat) : Prop := ∀ a ∈ X, 108 ≤ a
theorem Base.high {w : World} {X : List Nat} {h h' : Heap} (B : Base w h) (u : Up X h h') (hX : High X) : Base w h' :=
  B.up u fun a ha => ⟨kk_none _ (hX a ha), by have := hX a ha; omega, by have := hX a ha; omega, by have := hX a ha; omega⟩
theorem Base.keep {w : World} {h h' : Heap} (B : Base w h) (u : Up [] h h') : Base w h' := B.high u fun _ q => nomatch q
end Mine
end

/- part M1 -/
section
open PySem PySem.Calls PySem.Spec PyProof.Rows PySem.W
namespace Mine

abbrev St (h : Heap) (g : Array GenState) (d : Drawn) (t : Nat) (os : OsState) : Shared := ⟨h, g, d, t, os⟩
abbrev upd (m : Str → Option Value) (x : Str) (v : Value) : Str → Option Value := fun y => if y = x then some v else m y
theorem here {m : Str → Option Value} {x : Str} {v : Value} : upd m x v x = some v := if_pos rfl
theorem skip {m : Str → Option Value} {x y : Str} {v : Value} {r : Option Value} (h : (y == x) = false) (e : m y = r) : upd m x v y = r := (if_neg (beq_eq_false_iff_ne.mp h)).trans e
theorem lookup_foldl (x : Str) : ∀ (b : List (Str × Value)) (m : Str → Option Value), (b.foldl (fun m p => fun y => if y = p.1 then some p.2 else m y) m) x = (b.reverse.lookup x).or (m x)
  | [], _ => by simp
  | (n, v) :: r, m => by
    rw [List.foldl_cons, lookup_foldl x r, List.reverse_cons, List.lookup_append, Option.or_assoc]
    congr 1
    rw [List.lookup_cons]
    by_cases h : x = n
    · rw [if_pos h, beq_iff_eq.mpr h]; rfl
    · rw [if_neg h, beq_eq_false_iff_ne.mpr h]; rfl

/-- the tree ends without a raise, and then Q (a structure: no unfolding on the way) -/
structure W {α : Type} (w : World) (A : Around) (t : Sem α) (Q : α → Shared → Prop) (s : Shared) : Prop where
  run : wpAny (model PW w) A t Q NoE s

section
variable {α β : Type} {w : World} {A : Around} {h : Heap} {g : Array GenState} {d : Drawn} {t : Nat} {os : OsState} {env : Env} {s : Shared}

theorem W.to {m : Sem α} {Q Q' : α → Shared → Prop} (x : W w A m Q s) (k : ∀ a s', Q a s' → Q' a s') : wpAny (model PW w) A m Q' NoE s := wpAny_mono x.run k fun _ _ e => e
theorem W.toE {m : Sem α} {Q Q' : α → Shared → Prop} {E : Value → Shared → Prop} (x : W w A m Q s) (k : ∀ a s', Q a s' → Q' a s') : wpAny (model PW w) A m Q' E s := wpAny_mono x.run k fun _ _ e => e.elim
theorem W.mono {m : Sem α} {Q Q' : α → Shared → Prop} (x : W w A m Q s) (k : ∀ a s', Q a s' → Q' a s') : W w A m Q' s := ⟨x.to k⟩
theorem w_bind {m : Sem α} {f : α → Sem β} {Q : β → Shared → Prop} (x : W w A m (fun a s' => W w A (f a) Q s') s) : W w A (m >>= f) Q s := ⟨wpAny_bind (x.to fun _ _ k => k.run)⟩
theorem w_pure {a : α} {Q : α → Shared → Prop} (q : Q a s) : W w A (pure a) Q s := ⟨wpAny_pure q⟩
theorem w_eq {m m' : Sem α} {Q : α → Shared → Prop} (e : m = m') (x : W w A m' Q s) : W w A m Q s := e ▸ x
theorem w_look {m : Sem α} {a : α} {Q : α → Shared → Prop} (x : Looks (model PW w) s.heap m a) (q : Q a s) : W w A m Q s := ⟨x.here q⟩

-- names
theorem n_loc {x : Str} {pos : Pos} {v : Value} {m : Str → Option Value} {Q : Value → Shared → Prop} (n : s.heap.Ns env.locals m) (hk : env.scope.kind = .function) (hl : env.kindOf x = some .local)
    (hv : m x = some v) (k : Q v s) (hd : (x == ("__debug__" : Str)) = false := by decide +kernel) : W w A (eval (.Name x pos) env) Q s := ⟨wpAny_Name (wpAny_loadName_local hk hl n hv k) hd⟩
theorem n_cell {x : Str} {pos : Pos} {v : Value} {c : Addr} {Q : Value → Shared → Prop} (n : s.heap.IsCell c (some v)) (hk : env.scope.kind = .function) (hl : env.kindOf x = some .cell)
    (hc : env.cells.lookup x = some c) (k : Q v s) (hd : (x == ("__debug__" : Str)) = false := by decide +kernel) : W w A (eval (.Name x pos) env) Q s := ⟨wpAny_Name (wpAny_loadName_cell hk hl hc n k) hd⟩
theorem n_free {x : Str} {pos : Pos} {v : Value} {c : Addr} {Q : Value → Shared → Prop} (n : s.heap.IsCell c (some v)) (hk : env.scope.kind = .function) (hl : env.kindOf x = some .free)
    (hc : env.cells.lookup x = some c) (k : Q v s) (hd : (x == ("__debug__" : Str)) = false := by decide +kernel) (hx : (x == ("__classdict__" : Str)) = false := by decide +kernel) : W w A (eval (.Name x pos) env) Q s :=
  ⟨wpAny_Name (wpAny_loadName_free hk hl hc n k hx) hd⟩
theorem n_glob {x : Str} {pos : Pos} (v : Value) {Q : Value → Shared → Prop} (B : Base w s.heap) (hk : env.scope.kind = .function) (hl : env.kindOf x = some .globalImplicit) (hg : env.globals = mainGlobals)
    (k : Q v s) (e : nsIn (KK w.params) mainGlobals x = some (some v) := by kernel_rfl) (hd : (x == ("__debug__" : Str)) = false := by decide +kernel) : W w A (eval (.Name x pos) env) Q s := by
  refine ⟨Name_function_global hk hl ?_ hd⟩
  unfold loadGlobal
  rw [hg]
  exact wpAny_bind ((looks_nsIn B.K e).here (wpAny_pure k))
theorem n_bt {x : Str} {pos : Pos} {v : Value} {mb : Str → Option Value} {Q : Value → Shared → Prop} (K : (KK w.params).In s.heap) (n : s.heap.Ns builtinsNs mb) (hv : mb x = some v) (hk : env.scope.kind = .function) (hl : env.kindOf x = some .globalImplicit) (hg : env.globals = mainGlobals)
    (hb : env.builtins = builtinsNs) (e : nsIn (KK w.params) mainGlobals x = some none) (k : Q v s) (hd : (x == ("__debug__" : Str)) = false) : W w A (eval (.Name x pos) env) Q s := by
  refine ⟨Name_function_global hk hl ?_ hd⟩
  unfold loadGlobal
  rw [hg, hb]
  refine wpAny_bind ((looks_nsIn K e).here ?_)
  refine wpAny_bind (wpAny_nsGet n ?_)
  rw [hv]; exact wpAny_pure k
theorem n_len {pos : Pos} {Q : Value → Shared → Prop} (B : Base w s.heap) (hk : env.scope.kind = .function) (hl : env.kindOf "len" = some .globalImplicit) (hg : env.globals = mainGlobals) (hb : env.builtins = builtinsNs) (k : Q (.builtin "len") s) : W w A (eval (.Name "len" pos) env) Q s :=
  let ⟨_, n, e, _⟩ := B.b; n_bt B.K n e hk hl hg hb (by kernel_rfl) k (by decide +kernel)
theorem n_list {pos : Pos} {Q : Value → Shared → Prop} (B : Base w s.heap) (hk : env.scope.kind = .function) (hl : env.kindOf "list" = some .globalImplicit) (hg : env.globals = mainGlobals) (hb : env.builtins = builtinsNs) (k : Q (.type "list") s) : W w A (eval (.Name "list" pos) env) Q s :=
  let ⟨_, n, _, e, _⟩ := B.b; n_bt B.K n e hk hl hg hb (by kernel_rfl) k (by decide +kernel)
theorem n_range {pos : Pos} {Q : Value → Shared → Prop} (B : Base w s.heap) (hk : env.scope.kind = .function) (hl : env.kindOf "range" = some .globalImplicit) (hg : env.globals = mainGlobals) (hb : env.builtins = builtinsNs) (k : Q (.type "range") s) : W w A (eval (.Name "range" pos) env) Q s :=
  let ⟨_, n, _, _, e, _⟩ := B.b; n_bt B.K n e hk hl hg hb (by kernel_rfl) k (by decide +kernel)
theorem n_sorted {pos : Pos} {Q : Value → Shared → Prop} (B : Base w s.heap) (hk : env.scope.kind = .function) (hl : env.kindOf "sorted" = some .globalImplicit) (hg : env.globals = mainGlobals) (hb : env.builtins = builtinsNs) (k : Q (.builtin "sorted") s) : W w A (eval (.Name "sorted" pos) env) Q s :=
  let ⟨_, n, _, _, _, e, _⟩ := B.b; n_bt B.K n e hk hl hg hb (by kernel_rfl) k (by decide +kernel)
theorem n_getattr {pos : Pos} {Q : Value → Shared → Prop} (B : Base w s.heap) (hk : env.scope.kind = .function) (hl : env.kindOf "getattr" = some .globalImplicit) (hg : env.globals = mainGlobals) (hb : env.builtins = builtinsNs) (k : Q (.builtin "getattr") s) : W w A (eval (.Name "getattr" pos) env) Q s :=
  let ⟨_, n, _, _, _, _, e, _⟩ := B.b; n_bt B.K n e hk hl hg hb (by kernel_rfl) k (by decide +kernel)

-- stores
theorem s_loc {x : Str} {v : Value} {m : Str → Option Value} {Q : Unit → Shared → Prop} (n : h.Ns env.locals m) (hk : env.scope.kind = .function) (hl : env.kindOf x = some .local)
    (k : ∀ h', h'.Ns env.locals (upd m x v) → Up [env.locals] h h' → Q () (St h' g d (t + 1) os)) : W w A (storeName env x v) Q (St h g d t os) :=
  ⟨wpAny_storeName_local hl n (fun h' hn hs => k h' hn (Up.same hs)) (by show (env.scope.kind == .class || (env.scope.kind == .module && _)) = false; rw [hk]; rfl)⟩
theorem s_cell {x : Str} {v : Value} {v₀ : Option Value} {c : Addr} {Q : Unit → Shared → Prop} (n : h.IsCell c v₀) (hk : env.scope.kind = .function) (hl : env.kindOf x = some .cell) (hc : env.cells.lookup x = some c)
    (k : ∀ h', h'.IsCell c (some v) → Up [c] h h' → Q () (St h' g d t os)) : W w A (storeName env x v) Q (St h g d t os) :=
  ⟨wpAny_storeName_cell hk hl hc n (fun h' hn hs => k h' hn (Up.same hs))⟩

-- literals and operators
theorem c_int {i : Int} {k : Nat} {pos : Pos} {Q : Value → Shared → Prop} (q : Q (.int i t) (St h g d (t + 1) os)) : W w A (eval (.Constant (.int i) k pos) env) Q (St h g d t os) := ⟨wpAny_Constant_int q⟩
theorem c_str {i : Str} {k : Nat} {pos : Pos} {Q : Value → Shared → Prop} (q : Q (.str i t) (St h g d (t + 1) os)) : W w A (eval (.Constant (.str i) k pos) env) Q (St h g d t os) := ⟨Constant_str q⟩
theorem c_bool {b : Bool} {k : Nat} {pos : Pos} {Q : Value → Shared → Prop} (q : Q (.bool b) s) : W w A (eval (.Constant (.bool b) k pos) env) Q s := ⟨Constant_bool q⟩
theorem c_none {k : Nat} {pos : Pos} {Q : Value → Shared → Prop} (q : Q .none s) : W w A (eval (.Constant .none k pos) env) Q s := ⟨Constant_none q⟩
theorem e_bin {l r : Expr} {op : Operator} {pos : Pos} {Q : Value → Shared → Prop} (k : W w A (eval l env) (fun a s₁ => W w A (eval r env) (fun b s₂ => W w A (binaryOp op a b) Q s₂) s₁) s) : W w A (eval (.BinOp l op r pos) env) Q s :=
  ⟨wpAny_BinOp (k.to fun _ _ k => k.to fun _ _ k => k.run)⟩
theorem e_cmp {l r : Expr} {op : CmpOp} {pos : Pos} {Q : Value → Shared → Prop} (hm : behindInMarks op r = false) (k : W w A (eval l env) (fun a s₁ => W w A (eval r env) (fun b s₂ => W w A (compareOp op a b) Q s₂) s₁) s) : W w A (eval (.Compare l [op] [r] pos) env) Q s :=
  ⟨wpAny_Compare1 (k.to fun _ _ k => k.to fun _ _ k => k.run) hm⟩
theorem t_cmp {l r : Expr} {op : CmpOp} {pos : Pos} {whole : Sem Value} {Q : Bool → Shared → Prop} (hm : behindInMarks op r = false)
    (k : W w A (eval l env) (fun a s₁ => W w A (eval r env) (fun b s₂ => W w A (compareOp op a b) (fun c s₃ => W w A (truthy c) Q s₃) s₂) s₁) s) : W w A (isTrue (.Compare l [op] [r] pos) env whole) Q s :=
  ⟨wpAny_isTrue_Compare1 (k.to fun _ _ k => k.to fun _ _ k => k.to fun _ _ k => k.run) hm⟩
theorem tr_bool {b : Bool} {Q : Bool → Shared → Prop} (q : Q b s) : W w A (truthy (.bool b)) Q s := ⟨wpAny_truthy_bool q⟩
theorem t_and {x : Expr} {rest : List Expr} {pos : Pos} {whole : Sem Value} {Q : Bool → Shared → Prop}
    (k : W w A (isTrue x env (eval x env)) (fun c s' => if c = true then W w A (isTrue (.BoolOp .And rest pos) env whole) Q s' else Q false s') s) : W w A (isTrue (.BoolOp .And (x :: rest) pos) env whole) Q s :=
  ⟨isTrue_and (k.to fun c s' k => by cases c; exact k; exact k.run)⟩
theorem t_and_nil {pos : Pos} {whole : Sem Value} {Q : Bool → Shared → Prop} (q : Q true s) : W w A (isTrue (.BoolOp .And [] pos) env whole) Q s := ⟨isTrue_and_nil q⟩
theorem i_add {a b : Int} {ta tb : Tok} {Q : Value → Shared → Prop} (k : Q (.int (a + b) t) (St h g d (t + 1) os)) : W w A (binaryOp .Add (.int a ta) (.int b tb)) Q (St h g d t os) := ⟨add_int k⟩
theorem i_sub {a b : Int} {ta tb : Tok} {Q : Value → Shared → Prop} (k : Q (.int (a - b) t) (St h g d (t + 1) os)) : W w A (binaryOp .Sub (.int a ta) (.int b tb)) Q (St h g d t os) := ⟨sub_int k⟩
theorem i_mod {a b : Int} {ta tb : Tok} {Q : Value → Shared → Prop} (hb : 0 < b) (k : Q (.int (a % b) t) (St h g d (t + 1) os)) : W w A (binaryOp .Mod (.int a ta) (.int b tb)) Q (St h g d t os) :=
  ⟨mod_int (by omega) (by rw [Int.fmod_eq_emod_of_nonneg _ (by omega)]; exact k)⟩
theorem i_div {a b : Int} {ta tb : Tok} {Q : Value → Shared → Prop} (hb : 0 < b) (hb2 : b < 1000) (k : Q (.int (a / b) t) (St h g d (t + 1) os)) : W w A (binaryOp .FloorDiv (.int a ta) (.int b tb)) Q (St h g d t os) :=
  ⟨floordiv_int (by omega) (by rw [Int.fdiv_eq_ediv_of_nonneg _ (by omega)]; exact k) (Or.inl (PyProof.noPylong_small (by omega)))⟩
theorem i_eq {a b : Int} {ta tb : Tok} {Q : Value → Shared → Prop} (k : Q (.bool (a == b)) s) : W w A (compareOp .Eq (.int a ta) (.int b tb)) Q s := ⟨eq_int k⟩
theorem i_ne {a b : Int} {ta tb : Tok} {Q : Value → Shared → Prop} (k : Q (.bool (a != b)) s) : W w A (compareOp .NotEq (.int a ta) (.int b tb)) Q s := ⟨ne_int k⟩
theorem i_lt {a b : Int} {ta tb : Tok} {Q : Value → Shared → Prop} (k : Q (.bool (decide (a < b))) s) : W w A (compareOp .Lt (.int a ta) (.int b tb)) Q s := ⟨lt_int k⟩

-- displays, calls
theorem sp_nil {Q : List Value → Shared → Prop} (q : Q [] s) : W w A (spliced []) Q s := ⟨spliced_nil q⟩
theorem sp_cons {x : Sem Value} {rest : List (Bool × Sem Value)} {Q : List Value → Shared → Prop} (k : W w A x (fun v s₁ => W w A (spliced rest) (fun vs s₂ => Q (v :: vs) s₂) s₁) s) : W w A (spliced ((false, x) :: rest)) Q s :=
  ⟨spliced_cons (k.to fun _ _ k => k.run)⟩
theorem e_list {elts : List Expr} {pos : Pos} {trees : List (Bool × Sem Value)} {Q : Value → Shared → Prop} (ht : backTo pos (starEach elts env) = trees) (k : W w A (spliced trees) (fun vs s₁ => W w A (newList vs) Q s₁) s) : W w A (eval (.List elts pos) env) Q s := by
  subst ht; exact ⟨List_ (k.to fun _ _ k => k.run)⟩
theorem e_tuple {elts : List Expr} {n : Nat} {pos : Pos} {trees : List (Bool × Sem Value)} {Q : Value → Shared → Prop} (ht : backTo pos (starEach elts env) = trees) (k : W w A (spliced trees) (fun vs s₁ => W w A (newTuple vs) Q s₁) s) : W w A (eval (.Tuple elts n pos) env) Q s := by
  subst ht; exact ⟨Tuple_ (k.to fun _ _ k => k.run)⟩
abbrev lobj (xs : Array Value) (n : Nat) : Obj := { cls := .type "list", data := .seq xs n }
theorem lobj_list {a : Addr} {xs : Array Value} {n : Nat} (e : h.get? a = some (lobj xs n)) : h.IsList a xs := ⟨_, e, rfl, _, rfl⟩
theorem lobj_type {a : Addr} {xs : Array Value} {n : Nat} (e : s.heap.get? a = some (lobj xs n)) : s.TypeIs (.ref a) "list" := ⟨_, e, rfl⟩
theorem mk_list {vs : List Value} {Q : Value → Shared → Prop} (hz : vs.length ≤ sizeLine) (k : ∀ a h', a = h.objs.size → h'.get? a = some (lobj vs.toArray 0) → Up [] h h' → a < h'.objs.size → Q (.ref a) (St h' g d t os)) :
    W w A (newList vs) Q (St h g d t os) :=
  ⟨wpAny_newList (k _ _ rfl (Heap.get?_push_size _ rfl) (Up.push _ _) (by rw [Heap.size_push]; exact Nat.lt_succ_self _)) hz⟩
abbrev tobj (xs : Array Value) : Obj := { cls := .type "tuple", data := .seq xs }
theorem mk_tuple {vs : List Value} {Q : Value → Shared → Prop} (hz : vs.length ≤ sizeLine) (k : ∀ a h', a = h.objs.size → h'.get? a = some (tobj vs.toArray) → Up [] h h' → a < h'.objs.size → Q (.ref a) (St h' g d t os)) :
    W w A (newTuple vs) Q (St h g d t os) :=
  ⟨wpAny_newObj_type (k _ _ rfl (Heap.get?_push_size _ rfl) (Up.push _ _) (by rw [Heap.size_push]; exact Nat.lt_succ_self _)) (by show vs.toArray.size ≤ sizeLine; rw [List.size_toArray]; exact hz)⟩

/-- o.name(e), o of a built-in type -/
theorem meth1 (T : String) (id : String) {o e : Expr} {name : Str} {apos pos : Pos} {Q : Value → Shared → Prop} (pa : PlainAttrs T) (sl : Slot T name id) (ty : typeOf (.builtin id) = pure (.type "method_descriptor"))
    (hbase : attributeBase o name env (eval o env) = eval o env) (hline : (apos.endLine == pos.line) = true) (htrees : backTo pos (starEach [e] env) = [(false, eval e env)])
    (k : W w A (eval o env) (fun ov s₁ => s₁.TypeIs ov T ∧ (∀ a, ov = .ref a → ∃ ob, s₁.heap.get? a = some ob ∧ ob.dict = none) ∧ W w A (eval e env) (fun v s₂ => W w A (call (.builtin id) [ov, v]) Q s₂) s₁) s) :
    W w A (eval (.Call (.Attribute o name apos) [e] [] pos) env) Q s :=
  ⟨wpAny_Call_method1_late hbase hline htrees (k.to fun ov s₁ q => ⟨T, id, pa, sl, ty, q.1, q.2.1, callWith_builtin rfl (evalArgs_plain (spliced_cons (q.2.2.to fun v s₂ z => spliced_nil z.run)))⟩)⟩
/-- f(e1, ..) by a name -/
theorem e_call {x : Str} {p pos : Pos} {args : List Expr} {trees : List (Bool × Sem Value)} {Q : Value → Shared → Prop} (ht : backTo pos (starEach args env) = trees)
    (k : W w A (eval (.Name x p) env) (fun f s₁ => W w A (callWith pos f [] trees []) Q s₁) s) : W w A (eval (.Call (.Name x p) args [] pos) env) Q s := by
  subst ht
  refine ⟨?_⟩
  show wpAny _ A (do callWith pos (← eval (.Name x p) env) [] (backTo pos (starEach args env)) (backToKw pos (keywordEach [] env))) Q NoE s
  exact wpAny_bind (k.to fun _ _ k => k.run)
theorem cw_builtin {pos : Pos} {id : String} {x : Sem Value} {rest : List (Bool × Sem Value)} {first : List Value} {Q : Value → Shared → Prop} (hp : ((false, x) :: rest).any (·.1) = false)
    (k : W w A (spliced ((false, x) :: rest)) (fun vs s₁ => W w A (call (.builtin id) (first ++ vs)) Q s₁) s) : W w A (callWith pos (.builtin id) first ((false, x) :: rest) []) Q s :=
  ⟨callWith_builtin hp (evalArgs_plain (k.to fun _ _ k => k.run))⟩
theorem cw_fn {pos : Pos} {a : Addr} {o : Obj} {fd : FuncData} {x : Sem Value} {rest : List (Bool × Sem Value)} {first : List Value} {Q : Value → Shared → Prop}
    (k : W w A (spliced ((false, x) :: rest)) (fun vs s₁ => (s₁.heap.get? a = some o ∧ o.data = .func fd) ∧ W w A (call (.ref a) (first ++ vs)) Q s₁) s) : W w A (callWith pos (.ref a) first ((false, x) :: rest) []) Q s :=
  ⟨callWith_function (evalArgs_plain (k.to fun _ _ k => ⟨k.1, k.2.run⟩))⟩

-- subscripts
theorem e_sub {value slice : Expr} {pos : Pos} {Q : Value → Shared → Prop} (k : W w A (eval value env) (fun o s₁ => W w A (eval slice env) (fun i s₂ => W w A (subscriptTail value slice o i) Q s₂) s₁) s) : W w A (eval (.Subscript value slice pos) env) Q s :=
  ⟨Subscript_ (k.to fun _ _ k => k.to fun _ _ k => k.run)⟩
def ToList (o u : Value) (Q : Value → Shared → Prop) (s : Shared) : Prop := ∃ l xs n j tk, o = .ref l ∧ u = .int j tk ∧ s.heap.get? l = some (lobj xs n) ∧ xs.size ≤ sizeLine ∧
  ∀ a h', s.heap.objs.size ≤ a → h'.get? a = some (lobj (slicePick xs none (some j) none) 0) → Up [] s.heap h' → a < h'.objs.size → Q (.ref a) { s with heap := h' }
theorem to_list {x : Str} {p1 p2 pos : Pos} {e : Expr} {Q : Value → Shared → Prop}
    (k : W w A (eval (.Name x p1) env) (fun o s₁ => W w A (eval e env) (fun u s₂ => ToList o u Q s₂) s₁) s) :
    W w A (eval (.Subscript (.Name x p1) (.Slice none (some e) none p2) pos) env) Q s := by
  refine ⟨Subscript_ (k.to (fun o s₁ k => wpAny_Slice ?_))⟩
  rw [evalPart_none]
  refine wpAny_pure (k.to (fun u s₂ k => ?_))
  refine wpAny_pure ?_
  obtain ⟨l, xs, n, j, tk, rfl, rfl, e, hz, k⟩ := k
  have up := Up.push s₂.heap { cls := .type "slice", data := .fields #[.none, .int j tk, .none] }
  have e' := lobj_list (up.keep _ _ e)
  refine subscriptTail_ops (T := "list") (Heap.IsList.typeIs (s := { s₂ with heap := s₂.heap.push { cls := .type "slice", data := .fields #[.none, .int j tk, .none] } }) e') list_getitem_lookup ?_ (by with_unfolding_all rfl) (fun _ => rfl)
  refine wpAny_getItem_list_slice (s := { s₂ with heap := s₂.heap.push { cls := .type "slice", data := .fields #[.none, .int j tk, .none] } }) e' (Heap.IsSliceOf.new ..) .none (.int j tk) .none (by simp) ?_ hz
  refine k _ _ (by rw [Heap.size_push]; exact Nat.le_succ _) (Heap.get?_push_size _ rfl) (up.push' _) (by simp only [Heap.size_push]; exact Nat.lt_succ_self _)
def ToStr (o u : Value) (Q : Value → Shared → Prop) (s : Shared) : Prop := ∃ x t j tk, o = .str x t ∧ u = .int j tk ∧ x.length ≤ sizeLine ∧
  ∀ t' k h', Up [] s.heap h' → Q (.str (Txt.slice x none (some j)) t') { s with heap := h', toks := k }
theorem to_str {x : Str} {p1 p2 pos : Pos} {e : Expr} {Q : Value → Shared → Prop}
    (k : W w A (eval (.Name x p1) env) (fun o s₁ => W w A (eval e env) (fun u s₂ => ToStr o u Q s₂) s₁) s) :
    W w A (eval (.Subscript (.Name x p1) (.Slice none (some e) none p2) pos) env) Q s := by
  refine ⟨Subscript_ (k.to (fun o s₁ k => wpAny_Slice ?_))⟩
  rw [evalPart_none]
  refine wpAny_pure (k.to (fun u s₂ k => ?_))
  refine wpAny_pure ?_
  obtain ⟨y, t, j, tk, rfl, rfl, hz, k⟩ := k
  have up := Up.push s₂.heap { cls := .type "slice", data := .fields #[.none, .int j tk, .none] }
  refine subscriptTail_ops (T := "str") (typeIs_str _ _ _) F.slot_str_getitem.lookup ?_ (by with_unfolding_all rfl) (fun _ => rfl)
  refine wpAny_getItem_str_slice (l := none) (u := some (j, tk)) (st := none) ⟨_, Heap.get?_push_size _ rfl, rfl, rfl⟩ rfl ?_
  have kk : ∀ t' k, Q (.str (Txt.slice y none (some j)) t') { s₂ with heap := s₂.heap.push { cls := .type "slice", data := .fields #[.none, .int j tk, .none] }, toks := k } := fun t' q => k t' q _ up
  unfold Txt.slice at kk
  unfold sliceMade slicePicked
  dsimp only [Option.map, Option.getD]
  split
  · rename_i q; rw [if_pos q] at kk; exact kk _ _
  · rename_i q; have z := Txt.slice_le y none (some j); unfold Txt.slice at z; rw [if_neg q] at kk z; exact ⟨Nat.le_trans z hz, kk _ _⟩
theorem i_str {value slice : Expr} {x : Str} {tx u : Tok} {i : Int} {Q : Value → Shared → Prop} (hr : -1000 < i) (hr2 : i < 1000) (h1 : -(x.length : Int) ≤ i) (h2 : i < x.length) (hs : subscripted slice false (.str x tx) (.int i u) = operate [.str x tx, .int i u] (getItem (.str x tx) (.int i u)))
    (ht : ∀ r, letTemporaryGo value (.str x tx) r = pure ()) (k : Q (.str (Txt.item x i) t) (St h g d (t + 1) os)) : W w A (subscriptTail value slice (.str x tx) (.int i u)) Q (St h g d t os) :=
  ⟨item_str (by unfold fitsSsize; simp; omega) h1 h2 (fun _ => k) hs ht⟩

-- statements
def Then (w : World) (A : Around) (rest : List Stmt) (env : Env) (Q : Flow → Shared → Prop) (f : Flow) (s' : Shared) : Prop := match f with
  | .next => W w A (execs rest env) Q s'
  | f => Q f s'
theorem x_seq {st : Stmt} {rest : List Stmt} {Q : Flow → Shared → Prop} (k : W w A (exec st env) (Then w A rest env Q) s) : W w A (execs (st :: rest) env) Q s :=
  ⟨wpAny_execs_cons (k.to (fun f _ q => by cases f <;> first | exact q | exact W.run q))⟩
theorem x_nil {Q : Flow → Shared → Prop} (k : Q .next s) : W w A (execs [] env) Q s := ⟨wpAny_execs_nil k⟩
theorem x_assign {x : Str} {p pos : Pos} {value : Expr} {rest : List Stmt} {Q : Flow → Shared → Prop} (hs : swapsWith value (some (.Name x p)) pos.line env = pure false)
    (k : W w A (eval value env) (fun v s₁ => W w A (storeName env x v) (fun _ s₂ => W w A (execs rest env) Q s₂) s₁) s) : W w A (execs (.Assign [.Name x p] value pos :: rest) env) Q s :=
  x_seq ⟨wpAny_Assign_Name (k.to fun _ _ k => k.run) hs⟩
theorem x_ret {e : Expr} {pos : Pos} {rest : List Stmt} {Q : Flow → Shared → Prop} (k : W w A (eval e env) (fun v => Q (.ret v)) s) : W w A (execs (.Return (some e) pos :: rest) env) Q s :=
  x_seq ⟨wpAny_Return_some k.run⟩
theorem x_if {test : Expr} {body orelse rest : List Stmt} {pos : Pos} {Q : Flow → Shared → Prop}
    (k : W w A (isTrue test env (eval test env)) (fun b s₁ => if b = true then W w A (execs body env) (Then w A rest env Q) s₁ else W w A (execs orelse env) (Then w A rest env Q) s₁) s) : W w A (execs (.If test body orelse pos :: rest) env) Q s :=
  x_seq ⟨wpAny_If (k.to fun b _ k => by cases b <;> exact W.run k)⟩

def RetQ (Q : Value → Shared → Prop) (f : Flow) (s : Shared) : Prop := Q (match f with | .ret v => v | _ => .none) s
theorem fn_call (f : Nat) (binds : List (Str × Value)) {o : Obj} {fd : FuncData} {body : List Stmt} {args : List Value} {Q : Value → Shared → Prop} (B : Base w h) (hA : A.depth < recursionLimit)
    (ho : (KK w.params).lookup f = some o) (hd : o.data = .func fd) (hcd : codeIn (KK w.params) fd.code fd.qualname = true) (hbody : fd.body = .stmts body) (hbind : bindArgs fd ⟨args, []⟩ = pure binds)
    (hcell : fd.scope.names.all (fun x => decide (x.2 ≠ .cell)) = true) (hloc : (binds.all fun x => decide (fd.scope.names.lookup x.1 = some .local)) = true)
    (hco : fd.scope.isCoroutine = false) (hgen : fd.scope.isGenerator = false) (hk : fd.scope.kind = .function)
    (k : ∀ env h₁, env = callEnv fd h.objs.size f → h₁.Ns env.locals (binds.foldl (fun m p => upd m p.1 p.2) fun _ => none) → Up [] h h₁ → env.locals = h.objs.size → h.objs.size < h₁.objs.size →
      W w (A.deeper env) (execs body env) (RetQ Q) (St h₁ g d (t + binds.length) os)) :
    W w A (call (.ref f) args) Q (St h g d t os) := by
  refine ⟨wpAny_call (codeAny_call_def hA (B.K _ _ ho) hd B.lim (codeRec_of B.K hcd) hbody (BindsTo.of_eq hbind) (fun x hx => of_decide_eq_true (List.all_eq_true.mp hcell x hx)) (fun x hx => of_decide_eq_true (List.all_eq_true.mp hloc x hx)) (fun h₁ hn hk => ?_) hco hgen hk)⟩
  refine (k (callEnv fd h.objs.size f) h₁ rfl (by rw [show (binds.foldl (fun m p => upd m p.1 p.2) fun _ => none) = fun x => binds.reverse.lookup x from funext fun x => (lookup_foldl x binds _).trans (Option.or_none)]; exact hn) (Up.of_keep (Nat.le_of_lt hn.lt) hk) rfl hn.lt).toE (fun fl s' q => ?_)
  exact q
end
end Mine
end

/- part M2 -/
section
open PySem PySem.Calls PySem.Spec PyProof.Rows PySem.W
namespace Mine

abbrev T (l : List Nat) : Str := ⟨l.toArray⟩
def letter (q : Int) : Nat := [97, 98, 99].getD (q % 3).toNat 0
def wordOf (n : Int) : List Nat := [letter (n / 4), letter (n / 12), letter (n / 36), letter (n / 108)].take (1 + n % 4).toNat

theorem abc_letter (q : Int) : Txt.item (Str.ofString "abc") (q % 3) = T [letter q] := by
  have h1 := Int.emod_nonneg q (show (3:Int) ≠ 0 by decide)
  have h2 := Int.emod_lt_of_pos q (show (0:Int) < 3 by decide)
  unfold letter
  have : q % 3 = 0 ∨ q % 3 = 1 ∨ q % 3 = 2 := by omega
  rcases this with e | e | e <;> rw [e] <;> decide +kernel

section
variable {w : World} {A : Around} {h : Heap} {g : Array GenState} {d : Drawn} {t : Nat} {os : OsState} {env : Env} {E : Value → Shared → Prop}

theorem abc_ev {m : Str → Option Value} {n : Int} {tk : Tok} (K : Int) (hK : 0 < K) (hK2 : K < 1000) {p1 p2 p3 p4 p5 p6 p7 : Pos} {Q : Value → Shared → Prop} (N : h.Ns env.locals m) (k0 : env.scope.kind = .function) (k1 : env.kindOf "n" = some .local)
    (hm : m "n" = some (.int n tk)) (k : ∀ t' t'', Q (.str (T [letter (n / K)]) t') (St h g d t'' os)) :
    W w A (eval (.Subscript (.Constant (.str "abc") 0 p1) (.BinOp (.BinOp (.Name "n" p2) .FloorDiv (.Constant (.int K) 0 p3) p4) .Mod (.Constant (.int 3) 0 p5) p6) p7) env) Q (St h g d t os) := by
  refine e_sub (c_str (e_bin (e_bin (n_loc N k0 k1 hm (c_int (i_div hK hK2 (c_int (i_mod (by decide) ?_))))))))
  have h1 := Int.emod_nonneg (n / K) (show (3:Int) ≠ 0 by decide)
  have h2 := Int.emod_lt_of_pos (n / K) (show (0:Int) < 3 by decide)
  have el : (Str.ofString "abc").length = 3 := by decide +kernel
  refine i_str (by omega) (by omega) (by rw [el]; omega) (by rw [el]; omega) (by with_unfolding_all rfl) (fun _ => rfl) ?_
  rw [abc_letter]
  exact k _ _

theorem word_spec (B : Base w h) (hA : A.depth < recursionLimit) {n : Int} {tk : Tok} {Q : Value → Shared → Prop}
    (k : ∀ h' t' t'', Up [] h h' → Q (.str (T (wordOf n)) t'') (St h' g d t' os)) : W w A (call (.ref 69) [.int n tk]) Q (St h g d t os) := by
  refine fn_call 69 [("n", .int n tk)] B hA rfl rfl (by kernel_rfl) rfl rfl rfl rfl rfl rfl rfl fun env h₁ he N u eL lt => ?_
  have k0 : env.scope.kind = .function := by rw [he]; rfl
  have k1 : env.kindOf "n" = some .local := by rw [he]; kernel_rfl
  have k2 : env.kindOf "letters" = some .local := by rw [he]; kernel_rfl
  clear he
  dsimp only [List.foldl] at N
  generalize A.deeper env = A'
  refine x_assign rfl (e_list rfl ?_)
  refine sp_cons (abc_ev 4 (by decide) (by decide) N k0 k1 here fun t1 _ => ?_)
  refine sp_cons (abc_ev 12 (by decide) (by decide) N k0 k1 here fun t2 _ => ?_)
  refine sp_cons (abc_ev 36 (by decide) (by decide) N k0 k1 here fun t3 _ => ?_)
  refine sp_cons (abc_ev 108 (by decide) (by decide) N k0 k1 here fun t4 _ => ?_)
  refine sp_nil (mk_list (by show 4 ≤ sizeLine; decide) fun a h₂ ea e2 u2 lt2 => ?_)
  refine s_loc (u2.ns (by simp) N) k0 k2 fun h₃ N3 u3 => ?_
  have lL : env.locals < h₁.objs.size := by rw [eL]; exact lt
  have e3 := u3.get (by simp; rw [ea]; exact Nat.ne_of_gt lL) e2
  refine x_ret (meth1 "str" "str.join" F.plainAttrs_str F.slot_str_join F.type_str_join rfl rfl rfl ?_)
  refine c_str ⟨typeIs_str _ _ _, (fun _ z => nomatch z), ?_⟩
  refine to_list (n_loc N3 k0 k2 here ?_)
  refine e_bin (c_int (e_bin (n_loc N3 k0 k1 (skip (by decide +kernel) here) (c_int (i_mod (by decide) (i_add ?_))))))
  refine ⟨_, _, _, _, _, rfl, rfl, e3, (by show 4 ≤ sizeLine; decide), fun b h₄ _ e4 u4 _ => ?_⟩
  have hn1 := Int.emod_nonneg n (show (4:Int) ≠ 0 by decide)
  have hn2 := Int.emod_lt_of_pos n (show (0:Int) < 4 by decide)
  have pick : slicePick #[.str (T [letter (n / 4)]) t1, .str (T [letter (n / 12)]) t2, .str (T [letter (n / 36)]) t3, .str (T [letter (n / 108)]) t4] none (some (1 + n % 4)) none
      = (strValues ([(T [letter (n / 4)], t1), (T [letter (n / 12)], t2), (T [letter (n / 36)], t3), (T [letter (n / 108)], t4)].take (1 + n % 4).toNat)).toArray := by
    have : n % 4 = 0 ∨ n % 4 = 1 ∨ n % 4 = 2 ∨ n % 4 = 3 := by omega
    rcases this with e | e | e | e <;> rw [e] <;> rfl
  have out : Txt.join (Str.ofString "") (([(T [letter (n / 4)], t1), (T [letter (n / 12)], t2), (T [letter (n / 36)], t3), (T [letter (n / 108)], t4)].take (1 + n % 4).toNat).map (·.1)) = T (wordOf n) ∧
      JoinOk (Str.ofString "") (([(T [letter (n / 4)], t1), (T [letter (n / 12)], t2), (T [letter (n / 36)], t3), (T [letter (n / 108)], t4)].take (1 + n % 4).toNat).map (·.1)) = true := by
    have : n % 4 = 0 ∨ n % 4 = 1 ∨ n % 4 = 2 ∨ n % 4 = 3 := by omega
    unfold wordOf
    generalize letter (n / 4) = a1, letter (n / 12) = a2, letter (n / 36) = a3, letter (n / 108) = a4
    rcases this with e | e | e | e <;> rw [e] <;> exact ⟨rfl, rfl⟩
  rw [pick] at e4
  refine ⟨SC.join (lobj_list e4) rfl out.2 fun t5 _ => ?_⟩
  rw [out.1]
  exact k _ _ _ (((u.step0 u2).step1 u3 (Nat.le_of_eq eL.symm)).step0 u4)
end
end Mine
end

/- part M3 -/
section
open PySem PySem.Calls PySem.Spec PyProof.Rows PySem.W Builtin Builtin.ObjectAttr Builtin.Getset_descriptor
namespace Mine

abbrev bobj (es : Array DictEntry) (n : Nat) (dx gr : Nat) : Obj := { cls := .ref 58, dict := some dx, data := .dict es n, slots := #[some (.ref gr)] }
abbrev braw (dx : Nat) : Obj := { cls := .ref 58, dict := some dx, data := .dict #[] }

theorem dn_kind : builtinKind "dict.__new__" = some .builtinFn := by decide +kernel
theorem dn_split : splitId "dict.__new__" = some ("dict", "__new__") := by decide +kernel
theorem dn_entry : entryFor table "dict.__new__" = some Builtin.«dict.__new__» := entryFor_of_tree (by kernel_rfl)
theorem di_entry : entryFor table "dict.__init__" = some Builtin.«dict.__init__» := entryFor_of_tree (by kernel_rfl)
theorem ddi_entry : entryFor table "collections.defaultdict.__init__" = some Builtin.«collections.defaultdict.__init__» := entryFor_of_tree (by kernel_rfl)
theorem ddi_slot : Slot "collections.defaultdict" "__init__" "collections.defaultdict.__init__" :=
  .of (owner := "collections.defaultdict") (n := "__init__") (by rw [typeLookup_type, builtinLookup_eq_fast]; kernel_rfl) (by decide +kernel) (by decide +kernel) (by decide +kernel)
    (by first | exact .inl (by decide +kernel) | exact .inr (by decide +kernel)) (by rw [isSubtype_type]; kernel_rfl)

section
variable {w : World} {A : Around} {h : Heap} {g : Array GenState} {d : Drawn} {t : Nat} {os : OsState} {R : Result → Shared → Prop}

theorem c58 (B : Base w h) : ∃ cd sl, h.get? 58 = some ⟨.type "type", none, .cls cd, sl⟩ ∧ clsIn (KK w.params) 58 = some cd ∧ cd.mro = [.ref 58, .type "collections.defaultdict", .type "dict", .type "object"] ∧ cd.hasDel = false ∧ cd.abstract = false ∧ cd.hasDict = true ∧ sl[4]? = some (some (.builtin "dict.__new__")) := by
  have e : ∃ cd sl, (KK w.params).lookup 58 = some ⟨.type "type", none, .cls cd, sl⟩ ∧ cd.mro = [.ref 58, .type "collections.defaultdict", .type "dict", .type "object"] ∧ cd.hasDel = false ∧ cd.abstract = false ∧ cd.hasDict = true ∧ sl[4]? = some (some (.builtin "dict.__new__")) :=
    ⟨_, _, rfl, rfl, rfl, rfl, rfl, rfl⟩
  obtain ⟨cd, sl, e, r⟩ := e
  exact ⟨cd, sl, B.K _ _ e, by unfold clsIn; rw [e], r⟩

theorem sub58 (B : Base w h) (b : Value) : Looks (model PW w) h (isSubtype (.ref 58) b) ([.ref 58, .type "collections.defaultdict", .type "dict", .type "object"].contains b) := by
  obtain ⟨cd, sl, hC, hc, hm, _⟩ := c58 B
  exact looks_mroIn B.K (by unfold mroIn; rw [hc, Option.bind_some, hm, if_neg (by decide)])
theorem dict_new (B : Base w h) {gr : Nat} (q : R (.ok (.ret (.ref (h.objs.size + 1)))) (St ((h.push emptyDict).push (braw h.objs.size)) g d t os)) :
    codeAny (model PW w) A (.call (.builtin "dict.__new__") ⟨[.ref 58, .ref gr], []⟩) R (St h g d t os) := by
  obtain ⟨cd, sl, hC, hc, hm, e1, e2, e3, e4⟩ := c58 B
  refine codeAny_call_builtin_code (Code.quiet_builtin _ (by decide +kernel)) ?_
  simp only [checkBuiltinCall, dn_kind, dn_split]
  have K := B.K
  have hmro : Looks (model PW w) h (mroOf (.ref 58)) cd.mro := (looks_clsIn K hc).andThen .now
  have sub : Looks (model PW w) h (isSubtype (.ref 58) (.type "dict")) true := looks_mroIn K (by unfold mroIn; rw [hc, Option.bind_some, hm]; decide)
  have isty : Looks (model PW w) h (isType (.ref 58)) true := by
    unfold isType
    exact (Looks.ld hC).andThen .now
  have made : Looks (model PW w) h (Bind.madeBy (.ref 58)) (some "dict.__new__") := by
    intro A Q E s k q
    unfold Bind.madeBy
    refine wpAny_bind (hmro A _ E s k ?_)
    rw [hm, List.forIn_cons]
    refine wpAny_bind (wpAny_bind (wpAny_bind (wpAny_bind (wpAny_loadPart (k _ _ hC) (wpAny_pure ?_)))))
    dsimp only
    rw [e4]
    exact wpAny_pure (wpAny_pure (wpAny_pure q))
  have base : Looks (model PW w) h (Bind.staticBase (.ref 58)) (.ref 58) := by
    intro A Q E s k q
    unfold Bind.staticBase
    refine wpAny_bind (hmro A _ E s k ?_)
    rw [hm, List.forIn_cons]
    exact wpAny_bind (wpAny_bind (wpAny_bind (made A _ E s k (wpAny_pure (wpAny_pure (wpAny_pure q))))))
  repeat (first | simp only [bne_self_eq_false, Bool.false_eq_true, if_false, Bool.not_true] | lk)
  refine codeAny_builtin dn_entry ?_
  unfold Builtin.«dict.__new__»
  repeat (first | simp only [bne_self_eq_false, Bool.false_eq_true, if_false, Bool.not_true] | lk)
  rw [hm, if_neg (by decide)]
  refine wpAny_bind (wpAny_alloc (wpAny_bind ?_))
  have hC' : ((h.push emptyDict).push (braw h.objs.size)).get? 58 = some ⟨.type "type", none, .cls cd, sl⟩ := Heap.get?_push_of_some _ (Heap.get?_push_of_some _ hC)
  show wpAny _ _ (newObjAsIs _ _ _) _ _ _
  unfold newObjAsIs classHasDel
  refine wpAny_bind (wpAny_alloc (wpAny_bind (wpAny_bind (wpAny_load hC' (wpAny_pure ?_)))))
  rw [e1]
  refine wpAny_pure (wpAny_pure ?_)
  show R _ _
  rw [Heap.size_push]
  exact q

theorem dd_init (B : Base w h) {x dx gr : Nat} {og : Obj} (x8 : 108 ≤ x) (hx : h.get? x = some (braw dx)) (hg : h.get? gr = some og) (hgc : og.cls = .type "function")
    (q : ∀ h', h'.get? x = some (bobj #[] 0 dx gr) → Up [x] h h' → R (.ok (.ret .none)) (St h' g d t os)) :
    codeAny (model PW w) A (.call (.builtin "collections.defaultdict.__init__") ⟨[.ref x, .ref gr], []⟩) R (St h g d t os) := by
  obtain ⟨cd, sl, hC, hc, hm, e1, e2, e3, e4⟩ := c58 B
  have K := B.K
  have tx : Looks (model PW w) h (typeOf (.ref x)) (.ref 58) := (Looks.ld hx).andThen .now
  have sub : Looks (model PW w) h (isSubtype (.ref 58) (.type "collections.defaultdict")) true := looks_mroIn K (by unfold mroIn; rw [hc, Option.bind_some, hm]; decide)
  refine codeAny_call_builtin (by decide +kernel) ddi_entry (@check_slot (model PW w) _ _ _ "collections.defaultdict.__init__" "collections.defaultdict" "__init__" (.ref x) [.ref gr] [] _ (by decide +kernel) (by decide +kernel) (tx.andThen sub) (by unfold argsOk; kernel_rfl) ?_)
  unfold Builtin.«collections.defaultdict.__init__»
  have tg : Looks (model PW w) h (typeOf (.ref gr)) (.type "function") := hgc ▸ (Looks.ld hg).andThen .now
  have fc : Looks (model PW w) h (typeLookup (.type "function") "__call__") (some (.builtin "function.__call__")) := Looks.of_pure (by rw [typeLookup_type, builtinLookup_eq_fast]; kernel_rfl)
  repeat (first | simp only [bne_self_eq_false, Bool.false_eq_true, if_false, Bool.not_true] | lk)
  have hx' : (h.update x fun o => { cls := o.cls, dict := o.dict, data := o.data, slots := (o.slots ++ Array.replicate (0 + 1 - o.slots.size) none).setIfInBounds 0 [Value.ref gr].head? }).get? x = some (bobj #[] 0 dx gr) := Heap.get?_update_self _ hx rfl
  have up := Up.update h x fun o => { cls := o.cls, dict := o.dict, data := o.data, slots := (o.slots ++ Array.replicate (0 + 1 - o.slots.size) none).setIfInBounds 0 [Value.ref gr].head? }
  refine wpAny_updatePart (part := some (slotPart 0)) hx (wpAny_bind ?_)
  have q' := q _ hx' up
  have B' := B.high up (fun a ha => by rw [List.mem_singleton.mp ha]; exact x8)
  generalize h.update x _ = h' at hx' up q' B'
  have tx' : Looks (model PW w) h' (typeOf (.ref x)) (.ref 58) := (Looks.ld hx').andThen .now
  have lod : Looks (model PW w) h' (isSubtype (.ref 58) (.type "collections.OrderedDict")) false := sub58 B' _
  refine wpAny_holding (wpAny_runValue (codeAny_builtin di_entry ?_))
  unfold Builtin.«dict.__init__» Dict.selfAndRest Dict.notOrdered isInstance
  repeat (first | simp only [bne_self_eq_false, Bool.false_eq_true, if_false, Bool.not_true] | lk)
  exact q'

theorem new_book (B : Base w h) {gr : Nat} {og : Obj} {Q : Value → Shared → Prop} (hg : h.get? gr = some og) (hgc : og.cls = .type "function")
    (q : ∀ b h', h'.get? (b + 1) = some (bobj #[] 0 b gr) → h'.get? b = some emptyDict → h.objs.size ≤ b → Up [] h h' → Q (.ref (b + 1)) (St h' g d t os)) :
    W w A (call (.ref 58) [.ref gr]) Q (St h g d t os) := by
  obtain ⟨cd, sl, hC, hc, hm, e1, e2, e3, e4⟩ := c58 B
  have K := B.K
  refine ⟨wpAny_call (codeAny_of_tree ?_)⟩
  show wpAny _ _ (callAny (.ref 58) _) _ _ _
  refine nd_load hC ?_
  show wpAny _ _ (callAny.viaDunder (.ref 58) _) _ _ _
  unfold callAny.viaDunder
  have call : Looks (model PW w) h (specialOf (.ref 58) "__call__") (some (.builtin "type.__call__")) := looks_specialIn K (by kernel_rfl)
  have typ : Looks (model PW w) h (isInstance (.ref 58) (.type "type")) true := looks_instIn K (by kernel_rfl)
  have hmro : Looks (model PW w) h (mroOf (.ref 58)) cd.mro := (looks_clsIn K hc).andThen .now
  have made : Looks (model PW w) h (Bind.madeBy (.ref 58)) (some "dict.__new__") := by
    intro A Q E s k q
    unfold Bind.madeBy
    refine wpAny_bind (hmro A _ E s k ?_)
    rw [hm, List.forIn_cons]
    refine wpAny_bind (wpAny_bind (wpAny_bind (wpAny_bind (wpAny_loadPart (k _ _ hC) (wpAny_pure ?_)))))
    dsimp only
    rw [e4]
    exact wpAny_pure (wpAny_pure (wpAny_pure q))
  refine wpAny_bind (call.at ?_)
  dsimp only
  rw [tc_bind]
  refine wpAny_bind (wpAny_pure (wpAny_bind (wpAny_pure ?_)))
  refine wpAny_pure (a := Fin.again (.call (.builtin "type.__call__") ⟨.ref 58 :: [.ref gr], []⟩)) (And.intro rfl ?_)
  refine codeAny_call_builtin_at (Code.quiet_builtin _ (by decide +kernel)) entry_typeCall (check_slot tc_kind tc_split typ (tc_args _ _ _) ?_)
  unfold Builtin.«type.__call__»
  have he : cd.mro.isEmpty = false := by rw [hm]; rfl
  repeat (first | simp only [he, Bool.false_eq_true, if_false] | with_reducible refine wpAny_call ?_ | lk)
  refine dict_new B ?_
  have up := (Up.push h emptyDict).step0 (Up.push _ (braw h.objs.size))
  have hx : ((h.push emptyDict).push (braw h.objs.size)).get? (h.objs.size + 1) = some (braw h.objs.size) := by have := Heap.get?_push_size (h.push emptyDict) (o := braw h.objs.size) rfl; rwa [Heap.size_push] at this
  have hd : ((h.push emptyDict).push (braw h.objs.size)).get? h.objs.size = some emptyDict := Heap.get?_push_of_some _ (Heap.get?_push_size _ rfl)
  have hsz : ((h.push emptyDict).push (braw h.objs.size)).objs.size = h.objs.size + 2 := by simp only [Heap.size_push]
  have hs8 := B.size
  have B1 := B.keep up
  have hg1 := up.keep _ _ hg
  generalize ((h.push emptyDict).push (braw h.objs.size)) = h1 at up hx hd hsz B1 hg1 ⊢
  have t1 : Looks (model PW w) h1 (typeOf (.ref (h.objs.size + 1))) (.ref 58) := (Looks.ld hx).andThen .now
  have s1 : Looks (model PW w) h1 (isSubtype (.ref 58) (.ref 58)) true := sub58 B1 _
  have i1 : Looks (model PW w) h1 (typeLookup (.ref 58) "__init__") (some (.builtin "collections.defaultdict.__init__")) := looks_findIn B1.K (by kernel_rfl)
  have b1 : Looks (model PW w) h1 (bindSpecial (.builtin "collections.defaultdict.__init__") (.ref (h.objs.size + 1))) (.builtin "collections.defaultdict.__init__", [.ref (h.objs.size + 1)]) := Looks.of_pure (ddi_slot.bind _)
  unfold isInstance callSpecial? specialOf
  repeat (first | with_reducible refine wpAny_call ?_ | lk)
  refine dd_init B1 (by omega) hx hg1 hgc fun h2 hx2 up2 => ?_
  refine wpAny_pure (wpAny_pure ?_)
  exact q _ _ hx2 (up2.get (by simp) hd) (Nat.le_refl _) (up.step1 up2 (Nat.le_succ _))
end
end Mine
end

/- part M4 -/
section
open PySem PySem.Calls PySem.Spec PyProof.Rows PySem.W
namespace Mine

def growBody : List Stmt := bodyAt (bodyAt PW.main.body 9) 1
abbrev growScope : Scope := { kind := .function, names := [(Str.ofString "grow", .free), (Str.ofString "runs", .free), (Str.ofString "len", .globalImplicit), (Str.ofString "FreezableDefaultDict", .globalImplicit)], isGenerator := false, isCoroutine := false, more := [] }
abbrev growParams : Arguments := { posonlyargs := [], args := [], vararg := none, kwonlyargs := [], kw_defaults := [], kwarg := none, defaults := [] }
abbrev growQual : Str := "_law_run.<locals>.grow"
abbrev growObj (cg cr : Addr) (doc pm : Value) (cc : Addr) (ctv : Value) : Obj := fnMade "grow" growQual growParams growBody growScope [("runs", cr), ("grow", cg)] doc pm cc ctv

section
variable {w : World} {A : Around} {h : Heap} {g : Array GenState} {d : Drawn} {t : Nat} {os : OsState} {s : Shared} {env : Env}

/-- a call of a function object that has no cells of its own -/
theorem fn_at (binds : List (Str × Value)) {f : Addr} {o : Obj} {fd : FuncData} {body : List Stmt} {args : List Value} {Q : Value → Shared → Prop} (B : Base w h) (hA : A.depth < recursionLimit)
    (ho : h.get? f = some o) (hd : o.data = .func fd) (hcd : h.CodeRec fd.code fd.qualname) (hbody : fd.body = .stmts body) (hbind : bindArgs fd ⟨args, []⟩ = pure binds)
    (hcell : fd.scope.names.all (fun x => decide (x.2 ≠ .cell)) = true) (hloc : (binds.all fun x => decide (fd.scope.names.lookup x.1 = some .local)) = true)
    (hco : fd.scope.isCoroutine = false) (hgen : fd.scope.isGenerator = false) (hk : fd.scope.kind = .function)
    (k : ∀ env h₁, env = callEnv fd h.objs.size f → h₁.Ns env.locals (binds.foldl (fun m p => upd m p.1 p.2) fun _ => none) → Up [] h h₁ → env.locals = h.objs.size → h.objs.size < h₁.objs.size →
      W w (A.deeper env) (execs body env) (RetQ Q) (St h₁ g d (t + binds.length) os)) :
    W w A (call (.ref f) args) Q (St h g d t os) := by
  refine ⟨wpAny_call (codeAny_call_def hA ho hd B.lim hcd hbody (BindsTo.of_eq hbind) (fun x hx => of_decide_eq_true (List.all_eq_true.mp hcell x hx)) (fun x hx => of_decide_eq_true (List.all_eq_true.mp hloc x hx)) (fun h₁ hn hk => ?_) hco hgen hk)⟩
  refine (k (callEnv fd h.objs.size f) h₁ rfl (by rw [show (binds.foldl (fun m p => upd m p.1 p.2) fun _ => none) = fun x => binds.reverse.lookup x from funext fun x => (lookup_foldl x binds _).trans (Option.or_none)]; exact hn) (Up.of_keep (Nat.le_of_lt hn.lt) hk) rfl hn.lt).toE (fun fl s' q => ?_)
  exact q

theorem x_expr {e : Expr} {pos : Pos} {rest : List Stmt} {Q : Flow → Shared → Prop} (k : W w A (eval e env) (fun _ s' => W w A (execs rest env) Q s') s)
    (hi : interactive env = false := by rfl) (hs : swapsWith e none pos.line env = pure false := by rfl) : W w A (execs (.Expr e pos :: rest) env) Q s :=
  x_seq ⟨wpAny_Expr_any (k.run) hi hs⟩
theorem cw_K {pos : Pos} {f : Value} {x : Sem Value} {rest : List (Bool × Sem Value)} {first : List Value} {Q : Value → Shared → Prop} (hk : keepIn (KK w.params) f = true) (hp : ((false, x) :: rest).any (·.1) = false)
    (k : W w A (spliced ((false, x) :: rest)) (fun vs s₁ => Base w s₁.heap ∧ W w A (call f (first ++ vs)) Q s₁) s) : W w A (callWith pos f first ((false, x) :: rest) []) Q s :=
  ⟨callWith_of (by rw [hp]; rfl) (keeps_K hk) (evalArgs_plain (k.to fun _ _ k => ⟨k.1.K, k.2.run⟩))⟩
theorem b_len {a : Addr} {its : Array Value} {n : Nat} {Q : Value → Shared → Prop} (e : h.get? a = some (lobj its n)) (hz : its.size < 100000) (k : ∀ t1 t2, Q (.int its.size t1) (St h g d t2 os)) : W w A (call (.builtin "len") [.ref a]) Q (St h g d t os) :=
  ⟨call_len_list (s := St h g d t os) (lobj_list e) (by omega) (k _ _)⟩

/-- where things lie -/
structure AD where
  lo : Nat
  lr : Nat
  gr : Nat
  cg : Nat
  cr : Nat
/-- the factory stands, with n runs noted -/
structure Gro (w : World) (D : AD) (n : Nat) (h : Heap) : Prop where
  fn : ∃ doc pm cc ctv, h.get? D.gr = some (growObj D.cg D.cr doc pm cc ctv) ∧ h.CodeRec (.ref cc) growQual
  cg : h.IsCell D.cg (some (.ref D.gr))
  cr : h.IsCell D.cr (some (.ref D.lr))
  runs : ∃ xs k, h.get? D.lr = some (lobj xs k) ∧ xs.size = n
  bd : (108 ≤ D.lr ∧ D.lr < D.lo) ∧ (108 ≤ D.gr ∧ D.gr < D.lo) ∧ (108 ≤ D.cg ∧ D.cg < D.lo) ∧ (108 ≤ D.cr ∧ D.cr < D.lo)

def soft (lo a : Nat) : Data → Prop
  | .dict _ _ => True
  | .seq _ _ => True
  | .cell _ => a < lo
  | .fields vs => ∀ q t, vs[1]? ≠ some (.str q t)
  | _ => False
/-- what may be written -/
def Wr (D : AD) (X : List Nat) (h : Heap) : Prop := ∀ a ∈ X, (108 ≤ a ∨ a = 50) ∧ a ≠ D.gr ∧ a ≠ D.cg ∧ a ≠ D.cr ∧ ∀ o, h.get? a = some o → soft D.lo a o.data
theorem Wr.nil {D : AD} : Wr D [] h := fun _ q => nomatch q
theorem Wr.cons {D : AD} {a : Nat} {X : List Nat} (x : Wr D [a] h) (y : Wr D X h) : Wr D (a :: X) h := fun b q => by
  rcases List.mem_cons.mp q with rfl | q
  · exact x _ (.head _)
  · exact y _ q
theorem Gro.obj {D : AD} {n a : Nat} {o : Obj} (G : Gro w D n h) (e : h.get? a = some o) (hf : ∀ fd, o.data ≠ .func fd) (hc : ∀ v, o.data ≠ .cell v) : a ≠ D.gr ∧ a ≠ D.cg ∧ a ≠ D.cr := by
  obtain ⟨doc, pm, cc, ctv, e1, _⟩ := G.fn
  obtain ⟨o2, e2, d2⟩ := G.cg
  obtain ⟨o3, e3, d3⟩ := G.cr
  refine ⟨fun z => ?_, fun z => ?_, fun z => ?_⟩
  · rw [z, e1] at e; cases e; exact hf _ rfl
  · rw [z, e2] at e; cases e; exact hc _ d2
  · rw [z, e3] at e; cases e; exact hc _ d3
theorem Wr.list {D : AD} {n a k : Nat} {xs : Array Value} (G : Gro w D n h) (e : h.get? a = some (lobj xs k)) (h8 : 108 ≤ a) : Wr D [a] h := fun b q => by
  rw [List.mem_singleton.mp q]
  obtain ⟨q1, q2, q3⟩ := G.obj e (by simp) (by simp)
  exact ⟨.inl h8, q1, q2, q3, fun o e' => by rw [e] at e'; cases e'; exact trivial⟩
theorem Wr.dict {D : AD} {n a k : Nat} {o : Obj} {es : Array DictEntry} (G : Gro w D n h) (e : h.get? a = some o) (d : o.data = .dict es k) (h8 : 108 ≤ a) : Wr D [a] h := fun b q => by
  rw [List.mem_singleton.mp q]
  obtain ⟨q1, q2, q3⟩ := G.obj e (by simp [d]) (by simp [d])
  exact ⟨.inl h8, q1, q2, q3, fun o e' => by rw [e] at e'; cases e'; rw [d]; exact trivial⟩
theorem Wr.ns {D : AD} {n a : Nat} {m : Str → Option Value} (G : Gro w D n h) (N : h.Ns a m) (h8 : 108 ≤ a) : Wr D [a] h := let ⟨_, _, _, e, d, _⟩ := N; Wr.dict G e d h8
theorem Wr.it {D : AD} {n a i : Nat} {o : Obj} {vs : Array Value} {tk : Tok} (G : Gro w D n h) (e : h.get? a = some o) (d : o.data = .fields vs) (v : vs[1]? = some (.int i tk)) (h8 : 108 ≤ a) : Wr D [a] h := fun b q => by
  rw [List.mem_singleton.mp q]
  obtain ⟨q1, q2, q3⟩ := G.obj e (by simp [d]) (by simp [d])
  exact ⟨.inl h8, q1, q2, q3, fun o e' => by rw [e] at e'; cases e'; rw [d]; intro q t z; rw [v] at z; cases z⟩
theorem Wr.new {D : AD} {n a : Nat} (G : Gro w D n h) (B : Base w h) (l : h.objs.size ≤ a) : Wr D [a] h := fun b q => by
  rw [List.mem_singleton.mp q]
  obtain ⟨doc, pm, cc, ctv, e1, _⟩ := G.fn
  have l1 := Heap.lt_size e1
  have l2 := G.cg.lt
  have l3 := G.cr.lt
  have l4 := B.size
  exact ⟨.inl (Nat.le_trans l4 l), Nat.ne_of_gt (Nat.lt_of_lt_of_le l1 l), Nat.ne_of_gt (Nat.lt_of_lt_of_le l2 l), Nat.ne_of_gt (Nat.lt_of_lt_of_le l3 l), fun o e => absurd (Heap.lt_size e) (Nat.not_lt.mpr l)⟩
theorem Wr.cell {D : AD} {n a : Nat} {v : Option Value} (G : Gro w D n h) (e : h.IsCell a v) (h8 : 108 ≤ a) (hl : a < D.lo) (n1 : a ≠ D.cg) (n2 : a ≠ D.cr) : Wr D [a] h := fun b q => by
  rw [List.mem_singleton.mp q]
  obtain ⟨o, e, d⟩ := e
  obtain ⟨doc, pm, cc, ctv, e1, _⟩ := G.fn
  exact ⟨.inl h8, (fun z => by rw [z, e1] at e; cases e; cases d), n1, n2, fun o' e' => by rw [e] at e'; cases e'; rw [d]; exact hl⟩
theorem kk50 (P : Params) : (KK P).lookup 50 = none := by kernel_rfl
theorem Base.wr {D : AD} {X : List Nat} {h' : Heap} (B : Base w h) (u : Up X h h') (wr : Wr D X h) : Base w h' := B.up u fun a ha => by
  rcases (wr a ha).1 with z | rfl
  · exact ⟨kk_none _ z, by omega, by omega, by omega⟩
  · exact ⟨kk50 _, by decide, by decide, by decide⟩
theorem code_wr {D : AD} {X : List Nat} {h' : Heap} {v : Value} {q : Str} (c : h.CodeRec v q) (u : Up X h h') (wr : Wr D X h) : h'.CodeRec v q := by
  obtain ⟨c, o, vs, t, q1, q2, q3, q4⟩ := c
  refine ⟨c, o, vs, t, q1, u.get (fun z => ?_) q2, q3, q4⟩
  have := (wr c z).2.2.2.2 o q2
  rw [q3] at this
  exact this _ _ q4
theorem Gro.wr' {D : AD} {n n' : Nat} {X : List Nat} {h' : Heap} (G : Gro w D n h) (u : Up X h h') (wr : Wr D X h) (r : ∃ xs k, h'.get? D.lr = some (lobj xs k) ∧ xs.size = n') : Gro w D n' h' := by
  obtain ⟨doc, pm, cc, ctv, e1, e2⟩ := G.fn
  exact ⟨⟨doc, pm, cc, ctv, u.get (fun z => (wr _ z).2.1 rfl) e1, code_wr e2 u wr⟩, u.cell (fun z => (wr _ z).2.2.1 rfl) G.cg, u.cell (fun z => (wr _ z).2.2.2.1 rfl) G.cr, r, G.bd⟩
theorem Gro.wr {D : AD} {n : Nat} {X : List Nat} {h' : Heap} (G : Gro w D n h) (u : Up X h h') (wr : Wr D X h) (hl : D.lr ∉ X) : Gro w D n h' :=
  G.wr' u wr (let ⟨xs, k, e, z⟩ := G.runs; ⟨xs, k, u.get hl e, z⟩)
theorem Gro.lrw {D : AD} {n : Nat} (G : Gro w D n h) : Wr D [D.lr] h := let ⟨_, _, e, _⟩ := G.runs; Wr.list G e G.bd.1.1

theorem grow_spec {D : AD} {n : Nat} (B : Base w h) (G : Gro w D n h) (hn : n < 10000) (hA : A.depth < recursionLimit) {Q : Value → Shared → Prop}
    (k : ∀ b h' t', h'.get? (b + 1) = some (bobj #[] 0 b D.gr) → h'.get? b = some emptyDict → h.objs.size ≤ b → Up [D.lr] h h' → (∃ xs k, h'.get? D.lr = some (lobj xs k) ∧ xs.size = n + 1) → Q (.ref (b + 1)) (St h' g d t' os)) :
    W w A (call (.ref D.gr) []) Q (St h g d t os) := by
  obtain ⟨⟨doc, pm, cc, ctv, e1, e4⟩, e2, e3, ⟨xs, kk, e5, sz⟩, b1, b2, b3, b4⟩ := id G
  have l3 : D.cg ≠ D.lr := fun z => (G.obj e5 (by simp) (by simp)).2.1 z.symm
  have l6 : D.gr ≠ D.lr := fun z => (G.obj e5 (by simp) (by simp)).1 z.symm
  refine fn_at [] B hA e1 rfl e4 rfl rfl rfl rfl rfl rfl rfl fun env h₁ he N u eL lt => ?_
  have k0 : env.scope.kind = .function := by rw [he]; rfl
  have k1 : env.kindOf "runs" = some .free := by rw [he]; kernel_rfl
  have k2 : env.kindOf "grow" = some .free := by rw [he]; kernel_rfl
  have k3 : env.kindOf "len" = some .globalImplicit := by rw [he]; kernel_rfl
  have k4 : env.kindOf "FreezableDefaultDict" = some .globalImplicit := by rw [he]; kernel_rfl
  have k5 : env.cells.lookup (Str.ofString "runs") = some D.cr := by rw [he]; rfl
  have k6 : env.cells.lookup (Str.ofString "grow") = some D.cg := by rw [he]; rfl
  have k7 : env.globals = mainGlobals := by rw [he]; rfl
  have k8 : env.builtins = builtinsNs := by rw [he]; rfl
  have k9 : interactive env = false := by rw [he]; rfl
  clear he
  generalize A.deeper env = A'
  have B1 := B.keep u
  refine x_expr ?_ k9 rfl
  refine meth1 "list" "list.append" F.plainAttrs_list F.slot_list_append F.type_list_append rfl rfl rfl ?_
  refine n_free (u.cell (by simp) e3) k0 k1 k5 ?_
  have e5' := u.keep _ _ e5
  refine ⟨⟨_, e5', rfl⟩, (fun a q => by cases q; exact ⟨_, e5', rfl⟩), ?_⟩
  refine e_call rfl (n_len B1 k0 k3 k7 k8 (cw_builtin rfl (sp_cons (n_free (u.cell (by simp) e3) k0 k1 k5 (sp_nil (b_len e5' (by omega) (fun _ _ => ?_)))))))
  refine ⟨append_at e5' (fun h₂ sb e6 => ?_) (by unfold sizeLine; omega)⟩
  have u2 := Up.same sb
  refine x_ret (e_call rfl (n_glob (.ref 58) (B1.high u2 (by intro a ha; rw [List.mem_singleton.mp ha]; exact b1.1)) k0 k4 k7 ?_))
  have B2 := B1.high u2 (by intro a ha; rw [List.mem_singleton.mp ha]; exact b1.1)
  refine cw_K (by kernel_rfl) rfl (sp_cons (n_free (u2.cell (by simpa using l3) (u.cell (by simp) e2)) k0 k2 k6 (sp_nil ⟨B2, ?_⟩)))
  refine new_book B2 (u2.get (by simpa using l6) (u.keep _ _ e1)) rfl fun b h₃ f1 f2 f3 u3 => ?_
  refine k b h₃ _ f1 f2 (Nat.le_trans (Nat.le_trans u.1 u2.1) f3) ((Up.mono u (by simp)).step (u2.step0 u3) (fun a ha => .inl ha)) ⟨_, _, u3.keep _ _ e6, ?_⟩
  rw [Array.size_push, sz]
end
end Mine
end

/- part M5 -/
section
open PySem PySem.Calls PySem.Spec PyProof.Rows PySem.W Builtin Builtin.ObjectAttr Builtin.Getset_descriptor
namespace Mine

/-- the entries of a book, as letters and the places of the books below -/
def Ents : List DictEntry → List (Nat × Nat) → Prop
  | [], [] => True
  | e :: r, p :: l => ((∃ t, e.key = .str (T [p.1]) t) ∧ e.val = .ref (p.2 + 1)) ∧ Ents r l
  | _, _ => False

theorem T_inj {a b : Nat} (h : T [a] = T [b]) : a = b := by
  have := congrArg (fun s : Str => s.cps.toList) h
  simpa using this
theorem Ents.exact : ∀ {es : List DictEntry} {l : List (Nat × Nat)}, Ents es l → (es.all fun e => isExactStrKey e.key) = true
  | [], _, _ => rfl
  | e :: r, p :: l, h => by
    obtain ⟨⟨⟨t, ht⟩, _⟩, hr⟩ := h
    rw [List.all_cons, Ents.exact hr, ht]; rfl
theorem Ents.isStr {e : DictEntry} {a c : Nat} {t : Tok} (h : e.key = .str (T [a]) t) : e.key.isStr (T [c]) = (c == a) := by
  rw [h]
  show (T [a] == T [c]) = (c == a)
  by_cases q : c = a
  · subst q; simp
  · rw [beq_eq_false_iff_ne.mpr q, beq_eq_false_iff_ne.mpr (fun z => q (T_inj z).symm)]
theorem Ents.find : ∀ {es : List DictEntry} {l : List (Nat × Nat)}, Ents es l → ∀ c, (es.findIdx? fun e => e.key.isStr (T [c])) = l.findIdx? fun p => c == p.1
  | [], [], _, _ => rfl
  | e :: r, p :: l, h, c => by
    obtain ⟨⟨⟨t, ht⟩, _⟩, hr⟩ := h
    rw [List.findIdx?_cons, List.findIdx?_cons, Ents.isStr ht, Ents.find hr c]
theorem Ents.at' : ∀ {es : List DictEntry} {l : List (Nat × Nat)}, Ents es l → ∀ {i : Nat} {p : Nat × Nat}, l[i]? = some p → ∃ e, es[i]? = some e ∧ e.val = .ref (p.2 + 1)
  | e :: r, q :: l, h, 0, p, hp => by
    cases (by simpa using hp : q = p)
    exact ⟨e, rfl, h.1.2⟩
  | e :: r, q :: l, h, i + 1, p, hp => by
    rw [List.getElem?_cons_succ] at hp ⊢
    exact Ents.at' h.2 hp
  | [], [], _, _, _, hp => by simp at hp
theorem Ents.push : ∀ {es : List DictEntry} {l : List (Nat × Nat)}, Ents es l → ∀ {e : DictEntry} {p : Nat × Nat}, (∃ t, e.key = .str (T [p.1]) t) → e.val = .ref (p.2 + 1) → Ents (es ++ [e]) (l ++ [p])
  | [], [], _, _, _, a, b => ⟨⟨a, b⟩, trivial⟩
  | _ :: _, _ :: _, h, _, _, a, b => ⟨h.1, h.2.push a b⟩
theorem Ents.erase : ∀ {es : List DictEntry} {l : List (Nat × Nat)}, Ents es l → ∀ i, Ents (es.eraseIdx i) (l.eraseIdx i)
  | [], [], _, _ => trivial
  | _ :: _, _ :: _, h, 0 => h.2
  | _ :: _, _ :: _, h, i + 1 => ⟨h.1, h.2.erase i⟩
theorem Ents.length : ∀ {es : List DictEntry} {l : List (Nat × Nat)}, Ents es l → es.length = l.length
  | [], [], _ => rfl
  | _ :: _, _ :: _, h => congrArg (· + 1) h.2.length

/-- a book stands at b + 1, its own dict of attributes at b -/
def Bk (h : Heap) (gr b : Nat) (l : List (Nat × Nat)) : Prop := ∃ es n, h.get? (b + 1) = some (bobj es n b gr) ∧ Ents es.toList l

theorem dg_entry : entryFor table "dict.__getitem__" = some Builtin.«dict.__getitem__» := entryFor_of_tree (by kernel_rfl)
theorem sys_small : sysModules < 108 := by decide +kernel

section
variable {w : World} {A : Around} {h : Heap} {g : Array GenState} {d : Drawn} {t : Nat} {os : OsState} {s : Shared} {env : Env}

theorem type_bk {gr b n : Nat} {es : Array DictEntry} (hx : h.get? (b + 1) = some (bobj es n b gr)) : Looks (model PW w) h (typeOf (.ref (b + 1))) (.ref 58) := (Looks.ld hx).andThen .now

theorem w_dictGet {x : Addr} {o : Obj} {es : Array DictEntry} {n : Nat} {c : Nat} {tk : Tok} {Q : Option Value → Shared → Prop} (hx : h.get? x = some o) (hd : o.data = .dict es n) {l : List (Nat × Nat)} (E : Ents es.toList l)
    (k : ∀ t', Q ((l.find? fun p => c == p.1).map fun p => .ref (p.2 + 1)) (St h g d t' os)) : W w A (dictGet x (.str (T [c]) tk)) Q (St h g d t os) := by
  refine ⟨?_⟩
  unfold dictGet
  refine wpAny_holding (wpAny_bind (wpAny_pyHash_str ?_))
  have hall : (es.all fun e => isExactStrKey e.key) = true := by rw [← Array.all_toList]; exact E.exact
  refine wpAny_bind (KTD.kt_dictFind_strs (s := { St h g d t os with toks := t + 1 }) hx hd hall ?_)
  rw [show (es.findIdx? fun e => e.key.isStr (T [c])) = l.findIdx? fun p => c == p.1 by rw [← E.find c]; cases es; simp]
  cases hi : l.findIdx? fun p => c == p.1 with
  | none =>
    refine wpAny_pure ?_
    have : (l.find? fun p => c == p.1) = none := by
      rw [List.find?_eq_none]
      rw [List.findIdx?_eq_none_iff] at hi
      intro p hp; simp [hi p hp]
    rw [this] at k
    exact k _
  | some i =>
    refine wpAny_bind (wpAny_dictEntries hx hd (wpAny_pure ?_))
    obtain ⟨hlt, h1, h2⟩ := List.findIdx?_eq_some_iff_getElem.mp hi
    have : (l.find? fun p => c == p.1) = some l[i] := by
      rw [List.find?_eq_some_iff_getElem]
      exact ⟨h1, i, hlt, rfl, fun j hj => by simpa using h2 j hj⟩
    rw [this] at k
    obtain ⟨e, he, hv⟩ := E.at' (List.getElem?_eq_getElem hlt)
    have he' : es[i]? = some e := by rw [← Array.getElem?_toList]; exact he
    show Q (Option.map (fun e => e.val) es[i]?) _
    rw [he', Option.map_some, hv]
    exact k _

/-- book[letter], as far as the table -/
theorem bk_sub {gr b c : Nat} {tk : Tok} {l : List (Nat × Nat)} {x y : Str} {p q : Pos} {Q : Value → Shared → Prop} (B : Base w h) (hb : 108 ≤ b) (K : Bk h gr b l)
    (hit : ∀ p t', (l.find? fun p => c == p.1) = some p → Q (.ref (p.2 + 1)) (St h g d t' os))
    (miss : (l.find? fun p => c == p.1) = none → ∀ t', W w A.in1 (call (.ref 48) [.ref (b + 1), .str (T [c]) tk]) Q (St h g d t' os)) :
    W w A (subscriptTail (.Name x p) (.Name y q) (.ref (b + 1)) (.str (T [c]) tk)) Q (St h g d t os) := by
  obtain ⟨es, n, hx, E⟩ := K
  have tx : Looks (model PW w) h (typeOf (.ref (b + 1))) (.ref 58) := type_bk hx
  have gi : Looks (model PW w) h (typeLookup (.ref 58) "__getitem__") (some (.builtin "dict.__getitem__")) := looks_findIn B.K (by kernel_rfl)
  have sp : Looks (model PW w) h (specialOf (.ref (b + 1)) "__getitem__") (some (.builtin "dict.__getitem__")) := tx.andThen gi
  have bs : Looks (model PW w) h (bindSpecial (.builtin "dict.__getitem__") (.ref (b + 1))) (.builtin "dict.__getitem__", [.ref (b + 1)]) := Looks.of_pure (slot_dict_getitem.bind _)
  refine ⟨?_⟩
  unfold subscriptTail getitemInPython
  refine wpAny_bind (wpAny_bind (sp.at (wpAny_pure ?_)))
  show wpAny _ _ (operate _ (getItem _ _) >>= _) _ _ _
  refine wpAny_bind (wpAny_operating ?_)
  unfold getItem sequenceKey
  refine wpAny_holding (wpAny_bind (wpAny_bind (tx.at ?_)))
  refine wpAny_bind ((anyM_none (C := 58) B.K (by kernel_rfl)).at ?_)
  rw [if_pos (show (!false) = true from rfl)]
  refine wpAny_pure ?_
  unfold callSpecial?
  refine wpAny_bind (wpAny_bind (sp.at ?_))
  refine wpAny_holding (wpAny_bind (bs.at ?_))
  refine wpAny_bind (wpAny_call ?_)
  refine codeAny_call_builtin (by decide +kernel) dg_entry (@kfo_check (model PW w) _ _ _ "dict.__getitem__" "dict" "__getitem__" (.ref (b + 1)) [.str (T [c]) tk] [] _ (by decide +kernel) (by decide +kernel) (tx.andThen (sub58 B _)) (args_dict_getitem _ _) ?_)
  unfold Builtin.«dict.__getitem__»
  show wpAny _ _ (dictGet (b + 1) (.str (T [c]) tk) >>= _) _ _ _
  refine wpAny_bind ((w_dictGet hx rfl E fun t' => ?_ : W w _ _ _ _).run)
  cases hf : l.find? fun p => c == p.1 with
  | some p =>
    refine wpAny_pure ?_
    refine wpAny_pure ?_
    refine wpAny_bind (wpAny_pure (wpAny_pure ?_))
    show wpAny _ _ (pure () >>= fun _ => pure _) _ _ _
    exact wpAny_bind (wpAny_pure (wpAny_pure (hit p t' hf)))
  | none =>
    show wpAny _ _ (Dict.missed (b + 1) _ >>= _) _ _ _
    refine wpAny_bind (wpAny_missed_other (beq_eq_false_iff_ne.mpr (Nat.ne_of_gt (Nat.lt_of_lt_of_le sys_small (Nat.le_trans hb (Nat.le_succ b))))) ?_)
    show wpAny _ _ (typeOf (.ref (b + 1)) >>= _) _ _ _
    have sp2 : Looks (model PW w) h (specialOf (.ref (b + 1)) "__missing__") (some (.ref 48)) := tx.andThen (looks_findIn B.K (by kernel_rfl))
    refine wpAny_bind (tx.at ?_)
    rw [if_pos (by rfl)]
    unfold callSpecial?
    refine wpAny_bind (wpAny_bind (sp2.at ?_))
    refine wpAny_holding (wpAny_bind ((bind_fn B.K _ (by kernel_rfl)).at ?_))
    refine wpAny_bind ((miss hf t').toE fun v s' q => ?_)
    refine wpAny_pure ?_
    refine wpAny_bind (wpAny_rule (wpAny_pure ?_))
    refine wpAny_pure ?_
    refine wpAny_bind (wpAny_pure (wpAny_pure ?_))
    show wpAny _ _ (pure () >>= fun _ => pure _) _ _ _
    exact wpAny_bind (wpAny_pure (wpAny_pure q))
end
end Mine
end

/- part M6 -/
section
open PySem PySem.Calls PySem.Spec PyProof.Rows PySem.W Builtin Builtin.ObjectAttr Builtin.Getset_descriptor
namespace Mine

abbrev bmObj (id : String) (x : Addr) : Obj := { cls := .type "builtin_function_or_method", data := .fields #[.builtin id, .ref x] }
theorem mdget_slot : Slot "method_descriptor" "__get__" "method_descriptor.__get__" := .of (owner := "method_descriptor") (n := "__get__") (by rw [typeLookup_type, builtinLookup_eq_fast]; kernel_rfl) (by decide +kernel) (by decide +kernel) (by decide +kernel)
  (by first | exact .inl (by decide +kernel) | exact .inr (by decide +kernel)) (by rw [isSubtype_type]; kernel_rfl)
theorem mdget_entry : entryFor table "method_descriptor.__get__" = some Builtin.«method_descriptor.__get__» := entryFor_of_tree (by kernel_rfl)
theorem ddm_type : typeOf (.builtin "collections.defaultdict.__missing__") = pure (.type "method_descriptor") := by show builtinType _ = _; rw [builtinType_eq_fast]; kernel_rfl
theorem told_no : Manifest.toldItsClass.contains "collections.defaultdict.__missing__" = false := by decide +kernel

section
variable {w : World} {A : Around} {h : Heap} {g : Array GenState} {d : Drawn} {t : Nat} {os : OsState} {s : Shared} {env : Env}

theorem md_get (B : Base w h) {gr b n : Nat} {es : Array DictEntry} (hx : h.get? (b + 1) = some (bobj es n b gr)) {Q : Value → Shared → Prop}
    (q : Q (.ref h.objs.size) (St (h.push (bmObj "collections.defaultdict.__missing__" (b + 1))) g d t os)) :
    wpAny (model PW w) A (call (.builtin "method_descriptor.__get__") [.builtin "collections.defaultdict.__missing__", .ref (b + 1), .ref 58]) Q NoE (St h g d t os) := by
  refine wpAny_call_entry mdget_slot ddm_type mdget_entry ?_ (by unfold argsOk; kernel_rfl)
  unfold Builtin.«method_descriptor.__get__»
  refine wpAny_bind (wpAny_of_eq (a := (.builtin "collections.defaultdict.__missing__", some (.ref (b + 1)), some (.ref 58))) rfl ?_)
  dsimp only
  rw [if_neg (by rw [told_no]; exact Bool.false_ne_true)]
  have tx : Looks (model PW w) h (typeOf (.ref (b + 1))) (.ref 58) := type_bk hx
  have inst : Looks (model PW w) h (isInstance (.ref (b + 1)) (.type "collections.defaultdict")) true := tx.andThen (sub58 B _)
  refine wpAny_bind ?_
  refine wpAny_bind (wpAny_of_eq (a := (("__missing__" : Str), .type "collections.defaultdict")) (by kernel_rfl) ?_)
  dsimp only
  refine wpAny_bind (inst.at ?_)
  rw [if_neg (by simp)]
  refine wpAny_pure ?_
  refine wpAny_bind (wpAny_newObj_type (wpAny_pure ⟨_, rfl, q⟩) (by size_fits))

abbrev soObj (x : Addr) : Obj := { cls := .type "super", dict := none, data := .fields #[.ref 58, .ref x, .ref 58], slots := #[] }
theorem super_ga (B : Base w h) {so gr b n : Nat} {es : Array DictEntry} {tk : Tok} (hx : h.get? (b + 1) = some (bobj es n b gr)) (hso : h.get? so = some (soObj (b + 1))) (h8 : 108 ≤ b) {Q : Value → Shared → Prop}
    (q : Q (.ref h.objs.size) (St (h.push (bmObj "collections.defaultdict.__missing__" (b + 1))) g d t os)) :
    wpAny (model PW w) A (Builtin.«super.__getattribute__» ⟨[.ref so, .str "__missing__" tk], []⟩) (fun fin s' => ∃ v, fin = .done (.ret v) ∧ Q v s') NoE (St h g d t os) := by
  obtain ⟨cd, sl, hC, hc, hm, e1, e2, e3, e4⟩ := c58 B
  have hno : Looks (model PW w) h (opaqueClassAbove (.ref 58)) none := looks_opaque B.K (by kernel_rfl)
  have hmro : Looks (model PW w) h (mroOf (.ref 58)) cd.mro := (looks_clsIn B.K hc).andThen .now
  have hne : (Value.ref (b + 1) == Value.ref 58) = false := by
    have : b + 1 ≠ 58 := by omega
    simp [this]
  have hdt : (soObj (b + 1)).data = .fields #[.ref 58, .ref (b + 1), .ref 58] := rfl
  unfold Builtin.«super.__getattribute__»
  refine wpAny_bind (wpAny_of_eq (a := some ("__missing__" : Str)) rfl ?_)
  refine wpAny_bind (wpAny_of_eq (a := some ("__missing__" : Str)) rfl ?_)
  dsimp only
  have f0 : (#[.ref 58, .ref (b + 1), .ref 58] : Array Value)[0]? = some (.ref 58) := rfl
  have f1 : (#[.ref 58, .ref (b + 1), .ref 58] : Array Value)[1]? = some (.ref (b + 1)) := rfl
  have f2 : (#[.ref 58, .ref (b + 1), .ref 58] : Array Value)[2]? = some (.ref 58) := rfl
  refine wpAny_bind (wpAny_field hso hdt f0 ?_)
  refine wpAny_bind (wpAny_field hso hdt f1 ?_)
  refine wpAny_bind (wpAny_field hso hdt f2 ?_)
  rw [if_neg (by decide +kernel)]
  refine wpAny_bind (ks_wpAny_notOpaque hno ?_)
  rw [if_neg (by decide +kernel)]
  refine wpAny_bind (hmro.at ?_)
  rw [hm]
  show wpAny _ _ (forIn [Value.type "collections.defaultdict", .type "dict", .type "object"] _ _ >>= _) _ _ _
  rw [List.forIn_cons]
  have own : Looks (model PW w) h (classOwn (.type "collections.defaultdict") "__missing__") (some (.builtin "collections.defaultdict.__missing__")) := looks_ownIn B.K (by kernel_rfl)
  refine wpAny_bind (wpAny_bind (wpAny_bind (own.at ?_)))
  dsimp only
  refine wpAny_bind (wpAny_of_eq ddm_type ?_)
  refine wpAny_bind (wpAny_of_eq mdget_slot.lookup ?_)
  dsimp only
  rw [hne, if_neg (by simp)]
  refine wpAny_bind (wpAny_holding (md_get B hx ?_))
  refine wpAny_bind (wpAny_pure (wpAny_pure ?_))
  refine wpAny_pure ?_
  refine wpAny_pure ?_
  exact ⟨_, rfl, q⟩

theorem super_get (B : Base w h) {so gr b n : Nat} {es : Array DictEntry} (hx : h.get? (b + 1) = some (bobj es n b gr)) (hso : h.get? so = some (soObj (b + 1))) (h8 : 108 ≤ b) {Q : Value → Shared → Prop}
    (q : ∀ v h' t', Up [] h h' → v < h'.objs.size → h'.get? v = some (bmObj "collections.defaultdict.__missing__" (b + 1)) → Q (.ref v) (St h' g d t' os)) :
    wpAny (model PW w) A (getAttr (.ref so) "__missing__" true) Q NoE (St h g d t os) := by
  have hlk := F.ks_slot_super_ga.lookup
  have hT : ∀ t', (St h g d t' os).TypeIs (.ref so) "super" := fun _ => ⟨_, hso, rfl⟩
  unfold getAttr getAttrBy
  refine wpAny_bind (wpAny_mkText (wpAny_holding (wpAny_bind (wpAny_typeOf (hT _) (wpAny_bind (wpAny_of_eq hlk ?_))))))
  show wpAny _ _ (getAttrByItsOwn (.ref so) (.str "__missing__" t) (.type "super") (.builtin "super.__getattribute__") true true) _ _ _
  unfold getAttrByItsOwn hookBefore callGetattribute boundAndCalled
  refine wpAny_bind (wpAny_of_eq (show (if onTheHeap (.type "super") then typeLookup (.type "super") "__getattr__" else pure none) = pure none from rfl) ?_)
  refine wpAny_bind (wpAny_attempt (wpAny_holding ?_))
  show wpAny _ _ (bindSpecial (.builtin "super.__getattribute__") (.ref so) >>= _) _ _ _
  refine wpAny_bind (wpAny_of_eq (F.ks_slot_super_ga.bind _) ?_)
  refine wpAny_mono (Q := fun v s' => v = .ref h.objs.size ∧ s' = St (h.push (bmObj "collections.defaultdict.__missing__" (b + 1))) g d (t + 1) os) (E := fun _ _ => False)
    (wpAny_call_entry F.ks_slot_super_ga (hT _) F.ks_entry_super_ga (super_ga B hx hso h8 ⟨rfl, rfl⟩) (F.ks_gaArgs_super _ _)) (fun v s' hv => ?_) fun _ _ z => z.elim
  obtain ⟨rfl, rfl⟩ := hv
  have e := Heap.get?_push_size h (o := bmObj "collections.defaultdict.__missing__" (b + 1)) rfl
  exact wpAny_pure (q _ _ _ (Up.push _ _) (Heap.lt_size e) e)

/-- the calls inside a frame whose code is known -/
structure WA {α : Type} (w : World) (A : Around) (c : Code) (t : Sem α) (Q : α → Shared → Prop) (s : Shared) : Prop where
  run : _root_.PySem.wpAt (model PW w) A c t Q NoE s
theorem WA.of {α : Type} {c : Code} {m : Sem α} {Q : α → Shared → Prop} (x : W w A m Q s) : WA w A c m Q s := ⟨_root_.PySem.wpAt_of_wpAny x.run⟩
theorem WA.to {α : Type} {c : Code} {m : Sem α} {Q Q' : α → Shared → Prop} (x : WA w A c m Q s) (k : ∀ a s', Q a s' → Q' a s') : _root_.PySem.wpAt (model PW w) A c m Q' NoE s := ks_wpAt_mono x.run k fun _ _ e => e
theorem a_sp_cons {c : Code} {x : Sem Value} {rest : List (Bool × Sem Value)} {Q : List Value → Shared → Prop} (k : WA w A c x (fun v s₁ => WA w A c (spliced rest) (fun vs s₂ => Q (v :: vs) s₂) s₁) s) : WA w A c (spliced ((false, x) :: rest)) Q s := by
  refine ⟨?_⟩
  rw [spliced]
  refine _root_.PySem.wpAt_bind (k.to (fun v s₁ h₁ => ?_))
  simp only [Bool.false_eq_true, if_false]
  exact _root_.PySem.wpAt_bind (_root_.PySem.wpAt_of_wpAny (wpAny_pure (_root_.PySem.wpAt_bind (ks_wpAt_holding (h₁.to (fun vs s₂ h₂ => _root_.PySem.wpAt_of_wpAny (wpAny_pure h₂)))))))
theorem a_sp_nil {c : Code} {Q : List Value → Shared → Prop} (q : Q [] s) : WA w A c (spliced []) Q s := ⟨_root_.PySem.wpAt_of_wpAny (spliced_nil q)⟩
theorem a_cw {c : Code} {pos : Pos} {id : String} {x : Sem Value} {rest : List (Bool × Sem Value)} {first : List Value} {Q : Value → Shared → Prop} (hp : ((false, x) :: rest).any (·.1) = false)
    (k : WA w A c (spliced ((false, x) :: rest)) (fun vs s₁ => W w A (call (.builtin id) (first ++ vs)) Q s₁) s) : WA w A c (callWith pos (.builtin id) first ((false, x) :: rest) []) Q s := by
  refine ⟨?_⟩
  unfold callWith
  refine _root_.PySem.wpAt_bind (ks_wpAt_holding (ks_wpAt_mono (Q := fun a s₁ => W w A (call (.builtin id) (first ++ a.pos) a.kw) Q s₁) (E := NoE) ?_ (fun a s₁ h₁ => ?_) fun _ _ x => x))
  · unfold evalArgs
    show _root_.PySem.wpAt _ _ _ (spliced ((false, x) :: rest) >>= _) _ _ _
    refine _root_.PySem.wpAt_bind (k.to (fun vs s' h' => ?_))
    refine ks_wpAt_holding ?_
    exact _root_.PySem.wpAt_bind (_root_.PySem.wpAt_of_wpAny (wpAny_pure (_root_.PySem.wpAt_bind (_root_.PySem.wpAt_of_wpAny (wpAny_pure (_root_.PySem.wpAt_of_wpAny (wpAny_pure h')))))))
  · refine _root_.PySem.wpAt_of_wpAny (wpAny_bind (wpAny_standAt ?_))
    simp only [hp, List.any_nil, Bool.or_false]
    refine wpAny_bind (wpAny_pure ?_)
    exact wpAny_bind (wpAny_mono h₁.run (fun r s₂ hr => wpAny_bind (wpAny_holding (wpAny_point (wpAny_pure hr)))) fun _ _ x => x)
theorem a_call {c : Code} {f : Expr} {pos : Pos} {args : List Expr} {trees : List (Bool × Sem Value)} {Q : Value → Shared → Prop} (ht : backTo pos (starEach args env) = trees) (hc : eval (.Call f args [] pos) env = (do callWith pos (← eval f env) [] (backTo pos (starEach args env)) (backToKw pos (keywordEach [] env))))
    (k : WA w A c (eval f env) (fun v s₁ => WA w A c (callWith pos v [] trees []) Q s₁) s) : WA w A c (eval (.Call f args [] pos) env) Q s := by
  subst ht
  refine ⟨?_⟩
  rw [hc]
  exact _root_.PySem.wpAt_bind (k.to fun _ _ k => k.run)
end
end Mine
end

/- part M7 -/
section
open PySem PySem.Calls PySem.Spec PyProof.Rows PySem.W Builtin Builtin.ObjectAttr Builtin.Getset_descriptor
namespace Mine

def fnAt (K : Frag) (a : Addr) : FuncData := match K.lookup a with
  | some ⟨_, _, .func fd, _⟩ => fd
  | _ => default

section
variable {w : World} {A : Around} {h : Heap} {g : Array GenState} {d : Drawn} {t : Nat} {os : OsState} {s : Shared} {env : Env}

theorem n_super {Q : Value → Shared → Prop} (B : Base w s.heap) (hk : env.scope.kind = .function) (hl : env.kindOf "super" = some .globalImplicit) (hg : env.globals = mainGlobals) (hb : env.builtins = builtinsNs) (k : Q (.type "super") s) :
    wpAny (model PW w) A (loadName env "super") Q NoE s := by
  obtain ⟨mb, n, _, _, _, _, _, e⟩ := B.b
  refine ks_loadName_global hk hl ?_
  unfold loadGlobal
  rw [hg, hb]
  refine wpAny_bind ((looks_nsIn (r := none) B.K (by kernel_rfl)).here ?_)
  refine wpAny_bind (wpAny_nsGet n ?_)
  rw [e]; exact wpAny_pure k

def KeepOk (w : World) (f : Value) (h : Heap) : Prop := ∃ k, (k = Keeper.frame ∨ k = Keeper.machine ∨ k = Keeper.boundFrame) ∧ Looks (model PW w) h (keeperOf f) k
theorem keep_bm {id : String} {x v : Addr} (e : h.get? v = some (bmObj id x)) : KeepOk w (.ref v) h := by
  refine ⟨.machine, .inr (.inl rfl), ?_⟩
  unfold keeperOf
  exact (Looks.ld (part := none) e).andThen .now
theorem keep_fn {o : Obj} {fd : FuncData} {v : Addr} (e : h.get? v = some o) (hd : o.data = .func fd) : KeepOk w (.ref v) h := by
  refine ⟨.frame, .inl rfl, ?_⟩
  obtain ⟨a, b, c, dd⟩ := o
  cases hd
  unfold keeperOf
  exact (Looks.ld (part := none) e).andThen .now
theorem cw_keep {pos : Pos} {f : Value} {x : Sem Value} {rest : List (Bool × Sem Value)} {first : List Value} {Q : Value → Shared → Prop} (hp : ((false, x) :: rest).any (·.1) = false)
    (k : W w A (spliced ((false, x) :: rest)) (fun vs s₁ => KeepOk w f s₁.heap ∧ W w A (call f (first ++ vs)) Q s₁) s) : W w A (callWith pos f first ((false, x) :: rest) []) Q s :=
  ⟨callWith_of (by rw [hp]; rfl) (fun h' (y : KeepOk w f h') => y) (evalArgs_plain (k.to fun _ _ k => ⟨k.1, k.2.run⟩))⟩

theorem missing_walk (B : Base w h) {gr b n : Nat} {es : Array DictEntry} (hx : h.get? (b + 1) = some (bobj es n b gr)) (h8 : 108 ≤ b) (hA : A.depth < recursionLimit) {key : Value} {Q : Value → Shared → Prop}
    (q : ∀ A' v h' t' tk, A'.depth = A.depth + 1 → A'.handled = A.handled → Up [] h h' → h'.get? v = some (bmObj "collections.defaultdict.__missing__" (b + 1)) →
      W w A' (call (.builtin "getattr") [.ref (b + 1), .str "_frozen" tk, .ref v]) (fun f s' => Up [] h' s'.heap ∧ KeepOk w f s'.heap ∧ W w A' (call f [key]) Q s') (St h' g d t' os)) :
    W w A (call (.ref 48) [.ref (b + 1), key]) Q (St h g d t os) := by
  obtain ⟨fd, od, osl, eK, hcd, hbody, hclo, hcode, hglob, hbu, hcell, hpar, hscope, hbind⟩ : ∃ fd od osl, (KK w.params).lookup 48 = some ⟨.type "function", od, .func fd, osl⟩ ∧ codeIn (KK w.params) fd.code fd.qualname = true ∧
      fd.body = .stmts (bodyAt (bodyAt PW.main.body 2) 0) ∧
      fd.closure = [(Str.ofString "__class__", 36)] ∧ fd.code = .ref 47 ∧ fd.globals = mainGlobals ∧ fd.builtins = builtinsNs ∧ (fd.scope.names.all (fun x => decide (x.2 ≠ .cell)) = true) ∧ (fd.params.posonlyargs ++ fd.params.args).head?.map (·.arg) = some (Str.ofString "self") ∧
      (fd.scope.isCoroutine = false ∧ fd.scope.isGenerator = false ∧ fd.scope.kind = .function ∧ fd.scope.names.lookup (Str.ofString "self") = some .local ∧ fd.scope.names.lookup (Str.ofString "key") = some .local ∧ fd.scope.names.lookup (Str.ofString "__class__") = some .free ∧ fd.scope.names.lookup (Str.ofString "getattr") = some .globalImplicit ∧ fd.scope.names.lookup (Str.ofString "super") = some .globalImplicit) ∧
      (∀ x y, bindArgs fd ⟨[x, y], []⟩ = pure ([("self", x), ("key", y)] : List (Str × Value))) :=
    ⟨_, _, _, rfl, by kernel_rfl, rfl, rfl, rfl, rfl, rfl, rfl, rfl, ⟨rfl, rfl, rfl, rfl, rfl, rfl, rfl, rfl⟩, fun _ _ => rfl⟩
  obtain ⟨s1, s2, s3, s4, s5, s6, s7, s8⟩ := hscope
  refine ⟨wpAny_call (ks_codeAny_call_defAt hA (B.K _ _ eK) rfl B.lim (codeRec_of B.K hcd) hbody (BindsTo.of_eq (hbind _ _)) (fun x hx => of_decide_eq_true (List.all_eq_true.mp hcell x hx)) ?_ (fun h₁ hn hk => ?_) s1 s2 s3)⟩
  · intro x hx
    rcases List.mem_cons.mp hx with rfl | hx
    · exact s4
    · rcases List.mem_cons.mp hx with rfl | hx
      · exact s5
      · cases hx
  have u := Up.of_keep (Nat.le_of_lt hn.lt) hk
  have B1 := B.keep u
  have N : h₁.Ns (callEnv fd h.objs.size 48).locals (upd (upd (fun _ => none) "self" (.ref (b + 1))) "key" key) := by
    have : (fun x => [((Str.ofString "self"), Value.ref (b + 1)), (Str.ofString "key", key)].reverse.lookup x) = upd (upd (fun _ => none) "self" (.ref (b + 1))) "key" key := by
      funext x
      show List.lookup x [(Str.ofString "key", key), (Str.ofString "self", Value.ref (b + 1))] = _
      rw [List.lookup_cons, List.lookup_cons, List.lookup_nil]
      unfold upd
      by_cases q1 : x = "key"
      · rw [if_pos q1, beq_iff_eq.mpr q1]
      · rw [if_neg q1, beq_eq_false_iff_ne.mpr q1]
        by_cases q2 : x = "self"
        · rw [if_pos q2, beq_iff_eq.mpr q2]
        · rw [if_neg q2, beq_eq_false_iff_ne.mpr q2]
    rw [← this]; exact hn
  have hx1 := u.keep _ _ hx
  generalize henv : callEnv fd h.objs.size 48 = env at *
  have k0 : env.scope.kind = .function := by rw [← henv]; exact s3
  have k1 : env.kindOf "self" = some .local := by rw [← henv]; exact s4
  have k2 : env.kindOf "key" = some .local := by rw [← henv]; exact s5
  have k3 : env.kindOf "__class__" = some .free := by rw [← henv]; exact s6
  have k4 : env.kindOf "getattr" = some .globalImplicit := by rw [← henv]; exact s7
  have k5 : env.kindOf "super" = some .globalImplicit := by rw [← henv]; exact s8
  have k6 : env.cells.lookup (Str.ofString "__class__") = some 36 := by rw [← henv]; show fd.closure.lookup _ = _; rw [hclo]; rfl
  have k7 : env.globals = mainGlobals := by rw [← henv]; exact hglob
  have k8 : env.builtins = builtinsNs := by rw [← henv]; exact hbu
  have k9 : env.func = some 48 := by rw [← henv]; rfl
  have k10 : env.code = .ref 47 := by rw [← henv]; exact hcode
  clear henv
  obtain ⟨o47, vs, file, tk47, e47, d47, v47, f47⟩ : ∃ o vs file tk, (KK w.params).lookup 47 = some o ∧ o.data = .fields vs ∧ vs[2]? = some (.str file tk) ∧ (PW.main.file == file) = true :=
    ⟨_, _, _, _, rfl, rfl, rfl, by kernel_rfl⟩
  obtain ⟨ar, harg, hself⟩ : ∃ ar, (fd.params.posonlyargs ++ fd.params.args).head? = some ar ∧ ar.arg = "self" := by
    cases z : (fd.params.posonlyargs ++ fd.params.args).head? with
    | none => rw [z] at hpar; cases hpar
    | some ar => rw [z] at hpar; exact ⟨ar, rfl, Option.some.inj hpar⟩
  generalize hA' : A.deeper env = A'
  have dA : A'.depth = A.depth + 1 := by rw [← hA']; rfl
  have dH : A'.handled = A.handled := by rw [← hA']; rfl
  refine ks_wpAt_mono (Q := RetQ Q) (E := NoE) ?_ (fun f s' z => z) (fun _ _ z => z.elim)
  refine ks_wpAt_execs_cons (ks_wpAt_Return_some ?_)
  refine WA.run (a_call rfl rfl (a_call rfl rfl ?_))
  refine .of (n_getattr B1 k0 k4 k7 k8 ?_)
  refine a_cw rfl (a_sp_cons (.of (n_loc N k0 k1 (skip (by decide +kernel) here) ?_)))
  refine a_sp_cons (.of (c_str (k := 0) (pos := ⟨6, 29, 6, 38⟩) ?_))
  refine a_sp_cons ⟨?_⟩
  rw [arm_eval_Attribute]
  refine _root_.PySem.wpAt_bind (ks_wpAt_super_base k5 k3 (by decide +kernel) k9 (B1.K _ _ eK) rfl harg k10 (B1.K _ _ e47) d47 v47 f47 (by kernel_rfl) ?_)
  refine n_super B1 k0 k5 k7 k8 ⟨rfl, ?_⟩
  obtain ⟨cd, sl, hC, hc, hm, c1, c2, c3, c4⟩ := c58 B1
  refine wpAny_loadName_free (v := .ref 58) k0 k3 k6 ?_ ?_ (by decide +kernel)
  · have : ∃ o, (KK w.params).lookup 36 = some o ∧ o.data = .cell (some (.ref 58)) := ⟨_, rfl, rfl⟩
    obtain ⟨o, e, dd⟩ := this
    exact ⟨o, B1.K _ _ e, dd⟩
  rw [hself]
  refine wpAny_loadName_local k0 k1 N (skip (by decide +kernel) here) ?_
  refine ks_wpAny_isType_cls hC rfl ⟨rfl, ?_⟩
  refine ks_wpAny_call_super hC rfl hx1 rfl (fun c => by simp) (sub58 B1 _) fun h₂ e2 kp2 => ?_
  have u2 : Up [] h₁ h₂ := Up.of_keep (Nat.le_of_lt (Heap.lt_size e2)) kp2
  have B2 := B1.keep u2
  refine _root_.PySem.wpAt_bind (_root_.PySem.wpAt_of_wpAny (wpAny_standAt ?_))
  refine _root_.PySem.wpAt_bind (_root_.PySem.wpAt_of_wpAny (wpAny_holding (super_get B2 (u2.keep _ _ hx1) e2 h8 fun v h₃ t3 u3 lv e3 => ?_)))
  refine _root_.PySem.wpAt_of_wpAny (wpAny_bind (wpAny_letTemporaryGo (wpAny_pure ?_)))
  refine a_sp_nil ?_
  have U := (u.step0 u2).step0 u3
  refine (q A' v h₃ t3 _ dA dH U e3).mono fun f s' z => ?_
  obtain ⟨u4, kf, wq⟩ := z
  refine .of (cw_keep rfl (sp_cons (n_loc (u4.ns (by simp) (u3.ns (by simp) (u2.ns (by simp) N))) k0 k2 here (sp_nil ⟨kf, ?_⟩))))
  exact wq
end
end Mine
end

/- part M8 -/
section
open PySem PySem.Calls PySem.Spec PyProof.Rows PySem.W Builtin Builtin.ObjectAttr Builtin.Getset_descriptor
namespace Mine

theorem ddga_entry : entryFor table "collections.defaultdict.__getattribute__" = some Builtin.«object.__getattribute__» :=
  entryFor_alias (id' := "object.__getattribute__") (by kernel_rfl) (by decide +kernel) (by decide +kernel) (by kernel_rfl)
theorem ddga_slot : Slot "collections.defaultdict" "__getattribute__" "collections.defaultdict.__getattribute__" :=
  .of (owner := "collections.defaultdict") (n := "__getattribute__") (by rw [typeLookup_type, builtinLookup_eq_fast]; kernel_rfl) (by decide +kernel) (by decide +kernel) (by decide +kernel)
    (by first | exact .inl (by decide +kernel) | exact .inr (by decide +kernel)) (by rw [isSubtype_type]; kernel_rfl)
theorem getattr_entry : entryFor table "getattr" = some Builtin.«getattr» := entryFor_of_tree (by kernel_rfl)
theorem getattr_check (a b c : Value) : checkBuiltinCall "getattr" ⟨[a, b, c], []⟩ = pure () := by kernel_rfl

theorem lookIn_ns {h : Heap} {b : Addr} {o : Obj} {m : Str → Option Value} (n : h.Ns b m) (e : h.get? b = some o) (x : Str) : lookIn x o = some (m x) := by
  obtain ⟨o', es, ep, e', dd, sk, f⟩ := n
  rw [e] at e'; cases e'
  unfold lookIn
  rw [dd]
  dsimp only
  have f' := f x
  unfold nsFind findBy at f'
  rw [← Array.find?_toList] at f'
  cases z : es.toList.find? (fun e => e.key.isStr x) with
  | some e => rw [z] at f'; rw [← f']; rfl
  | none =>
    rw [z] at f'; rw [← f']
    rw [if_neg]
    · rfl
    · simp only [List.any_eq_true, not_exists, not_and, Bool.not_eq_true]
      intro e he
      obtain ⟨nm, t, hk⟩ := sk e (by simpa using he)
      unfold DictEntry.refKey
      rw [hk]

theorem find_frozen (P : Params) (od : Obj) : findObj (KK P) 58 (some od) "_frozen" = ((lookIn "_frozen" od).bind fun own => match own with | some v => some (Found.value v) | none => some .missing) := by kernel_rfl

section
variable {w : World} {A : Around} {h : Heap} {g : Array GenState} {d : Drawn} {t : Nat} {os : OsState} {s : Shared} {env : Env}

theorem raise_attr {α : Type} {o : Value} {name : Str} {msg : Str} {Q : α → Shared → Prop} {E : Value → Shared → Prop} (hh : A.handled = none)
    (k : ∀ h' tk e, Up [] h h' → (∃ ob, h'.get? e = some ob ∧ ob.cls = .type "AttributeError") → E (.ref e) (St h' g d tk os)) (hm : msg.length ≤ sizeLine) :
    wpAny (model PW w) A (raiseAttrError o name msg : Sem α) Q E (St h g d t os) := by
  unfold raiseAttrError
  refine wpAny_bind (wpAny_mkStr (wpAny_bind ?_) hm)
  unfold newExc newTuple
  refine wpAny_bind (wpAny_newObj_type ?_ (by size_fits))
  refine wpAny_bind (m := firstArgMember _ _) (wpAny_of_eq (a := Value.none) (by simp only [firstArgMember, attrError_no_first]; rfl) ?_)
  rw [ownMembersOf_AttributeError]
  refine wpAny_newObj_type ?_ (by size_fits)
  have f1 := sub_AttributeError
  repeat (any_goals (first | assumption | wp_step))
  unfold raiseNew
  refine wpAny_bind (wpAny_handled ?_)
  rw [hh]
  first
    | refine wpAny_throw ?_
    | refine wpAny_bind (wpAny_pure (wpAny_throw ?_))
  dsimp only
  refine k _ _ _ (((Up.push _ _).push' _).step1 (Up.update _ _ _) ?_) ⟨_, Heap.get?_update_self _ (Heap.get?_push_size _ rfl) rfl, rfl⟩
  simp only [Heap.size_push]; omega

theorem dd_ga (B : Base w h) {gr b n : Nat} {es : Array DictEntry} {m : Str → Option Value} (hx : h.get? (b + 1) = some (bobj es n b gr)) (hN : h.Ns b m) (hh : A.handled = none) {tk : Tok} :
    wpAny (model PW w) A (call (.builtin "collections.defaultdict.__getattribute__") [.ref (b + 1), .str "_frozen" tk]) (fun v s' => m "_frozen" = some v ∧ s' = St h g d t os)
      (fun e s' => m "_frozen" = none ∧ ∃ h' t' a ob, s' = St h' g d t' os ∧ Up [] h h' ∧ e = .ref a ∧ h'.get? a = some ob ∧ ob.cls = .type "AttributeError") (St h g d t os) := by
  obtain ⟨od, es', ep', hod, r⟩ := id hN
  have I : InstAt h (b + 1) (bobj es n b gr) 58 (some od) := ⟨hx, rfl, rfl, hod⟩
  have tx : Looks (model PW w) h (typeOf (.ref (b + 1))) (.ref 58) := type_bk hx
  have L := looks_find (M := model PW w) B.K (name := "_frozen") I (r := match m "_frozen" with | some v => .value v | none => .missing) (by
    rw [find_frozen, lookIn_ns hN hod]
    cases m "_frozen" <;> rfl)
  refine wpAny_call (codeAny_call_builtin (by decide +kernel) ddga_entry (@check_slot (model PW w) _ _ _ "collections.defaultdict.__getattribute__" "collections.defaultdict" "__getattribute__" (.ref (b + 1)) [.str "_frozen" tk] [] _ (by decide +kernel) (by decide +kernel) (tx.andThen (sub58 B _)) (by unfold argsOk; kernel_rfl) ?_))
  unfold Builtin.«object.__getattribute__»
  refine wpAny_bind (wpAny_of_eq (a := (Value.ref (b + 1), [Value.str "_frozen" tk])) (by kernel_rfl) ?_)
  dsimp only
  refine wpAny_bind (wpAny_of_eq (a := (Str.ofString "_frozen")) (by kernel_rfl) ?_)
  refine wpAny_bind (tx.at ?_)
  refine wpAny_bind (L.at ?_)
  cases hm : m "_frozen" with
  | some v => exact wpAny_pure ⟨rfl, rfl⟩
  | none =>
    dsimp only
    rw [if_neg (by simp), if_neg (by simp)]
    unfold noSuchAttribute
    have nm : ∃ cd, clsIn (KK w.params) 58 = some cd ∧ cd.name = "FreezableDefaultDict" := ⟨_, rfl, rfl⟩
    obtain ⟨cd', hcd', hnm⟩ := nm
    have LC : Looks (model PW w) h (classData 58) cd' := looks_clsIn B.K hcd'
    have LN : Looks (model PW w) h (typeNameOfCut 100 (.ref (b + 1))) "FreezableDefaultDict" := by
      unfold typeNameOfCut
      have LT : Looks (model PW w) h (shownTypeOf (.ref (b + 1))) (.ref 58) := tx.andThen (by rw [if_neg (by decide)]; exact .now)
      refine LT.andThen ?_
      show Looks _ _ (classData 58 >>= _) _
      refine LC.andThen ?_
      rw [hnm]
      rw [if_pos (by decide +kernel)]
      exact Looks.of_pure (by kernel_rfl)
    refine wpAny_bind (LN.at ?_)
    refine raise_attr hh (fun h' t' a u e => ?_) (by decide +kernel)
    obtain ⟨ob, e1, e2⟩ := e
    exact ⟨rfl, h', t', a, ob, rfl, u, rfl, e1, e2⟩

theorem getattr_spec (B : Base w h) {gr b n : Nat} {es : Array DictEntry} {m : Str → Option Value} (hx : h.get? (b + 1) = some (bobj es n b gr)) (hN : h.Ns b m) (hh : A.handled = none) (hH : ∀ v, m "_frozen" = some v → handedIn v = true) {tk : Tok} {dflt : Value} {Q : Value → Shared → Prop}
    (q : ∀ h' t', Up [] h h' → Q ((m "_frozen").getD dflt) (St h' g d t' os)) :
    W w A (call (.builtin "getattr") [.ref (b + 1), .str "_frozen" tk, dflt]) Q (St h g d t os) := by
  obtain ⟨od, es', ep', hod, r⟩ := id hN
  have I : InstAt h (b + 1) (bobj es n b gr) 58 (some od) := ⟨hx, rfl, rfl, hod⟩
  have tx : Looks (model PW w) h (typeOf (.ref (b + 1))) (.ref 58) := type_bk hx
  have ga : Looks (model PW w) h (typeLookup (.ref 58) "__getattribute__") (some (.builtin "collections.defaultdict.__getattribute__")) := looks_findIn B.K (by kernel_rfl)
  have nomod : Looks (model PW w) h (isInstance (.ref (b + 1)) (.type "module")) false := tx.andThen (sub58 B _)
  refine ⟨wpAny_call ?_⟩
  refine codeAny_call_builtin (by decide +kernel) getattr_entry (wpAny_of_eq (getattr_check _ _ _) ?_)
  unfold Builtin.«getattr»
  refine wpAny_bind (wpAny_of_eq (a := [.ref (b + 1), .str "_frozen" tk, dflt]) (by kernel_rfl) ?_)
  dsimp only
  refine wpAny_bind (wpAny_of_eq (a := ()) (by kernel_rfl) ?_)
  refine wpAny_bind (wpAny_of_eq (a := (none : Option Value)) (by with_unfolding_all rfl) ?_)
  dsimp only
  refine wpAny_bind ?_
  refine wpAny_bind (wpAny_of_eq (a := (some "_frozen" : Option Str)) (by kernel_rfl) ?_)
  dsimp only
  refine wpAny_bind (nomod.at ?_)
  rw [if_pos (show (!false) = true from rfl)]
  refine wpAny_pure ?_
  rw [if_neg (by decide)]
  have hook : Looks (model PW w) h (hookBefore (.ref 58)) none := looks_hook B.K (by kernel_rfl)
  refine wpAny_bind ?_
  unfold getAttrBy?
  refine wpAny_bind (wpAny_attempt ?_)
  unfold getAttrBy
  refine wpAny_holding (wpAny_bind (tx.at (wpAny_bind (ga.at ?_))))
  show wpAny _ _ (getAttrByItsOwn _ _ _ _ _ _) _ _ _
  unfold getAttrByItsOwn callGetattribute boundAndCalled
  refine wpAny_bind (hook.at ?_)
  refine wpAny_bind (wpAny_attempt (wpAny_holding ?_))
  show wpAny _ _ (bindSpecial (.builtin "collections.defaultdict.__getattribute__") (.ref (b + 1)) >>= _) _ _ _
  refine wpAny_bind (wpAny_of_eq (ddga_slot.bind _) ?_)
  show wpAny _ _ (call (.builtin "collections.defaultdict.__getattribute__") [.ref (b + 1), .str "_frozen" tk]) _ _ _
  refine wpAny_mono (dd_ga (A := A.in1) B hx hN hh) (fun v s' hv => ?_) (fun e s' he => ?_)
  · obtain ⟨hm, rfl⟩ := hv
    rw [hm] at q
    show wpAny _ _ (handedOut v) _ _ _
    rw [handedOut_of (hH v hm)]
    refine wpAny_pure ?_
    refine wpAny_pure ?_
    exact wpAny_pure (q _ _ (Up.refl _ _))
  · obtain ⟨hm, h', t', a, ob, rfl, u, rfl, e1, e2⟩ := he
    rw [hm] at q
    have ie : Looks (model PW w) h' (isInstance (.ref a) (.type "AttributeError")) true := by
      refine Looks.andThen (a := .type "AttributeError") (e2 ▸ (Looks.ld e1).andThen .now) ?_
      exact Looks.of_pure sub_AttributeError
    show wpAny _ _ (getattributeRaised _ _ _ _ _ _ _) _ _ _
    unfold getattributeRaised
    refine wpAny_bind (ie.at ?_)
    rw [if_pos rfl]
    refine wpAny_bind (wpAny_of_eq (a := (none : Option Value)) rfl ?_)
    unfold hookOrError
    dsimp only
    unfold attributeErrorLeaves
    rw [if_pos (by rfl)]
    refine wpAny_throw ?_
    refine wpAny_bind (ie.at ?_)
    rw [if_pos rfl]
    refine wpAny_pure ?_
    exact wpAny_pure (q _ _ u)
end
end Mine
end

/- part M9 -/
section
open PySem PySem.Calls PySem.Spec PyProof.Rows PySem.W Builtin Builtin.ObjectAttr Builtin.Getset_descriptor
namespace Mine

theorem ddm_entry : entryFor table "collections.defaultdict.__missing__" = some Builtin.«collections.defaultdict.__missing__» := entryFor_of_tree (by kernel_rfl)
theorem ddm_sig : ∃ sig, Manifest.signature? "collections.defaultdict.__missing__" = some sig ∧ ∀ a b, Bind.checkArgs "collections.defaultdict.__missing__" { sig with full := "FreezableDefaultDict.__missing__" } ⟨[a, b], []⟩ = pure () :=
  ⟨_, rfl, fun _ _ => by kernel_rfl⟩

section
variable {w : World} {A : Around} {h : Heap} {g : Array GenState} {d : Drawn} {t : Nat} {os : OsState} {s : Shared} {env : Env}

theorem callBorrowed_eq (f : Value) (pos : List Value) : callBorrowed f pos = (call f pos).keep [borrowed] := by
  unfold callBorrowed call runValue run
  show Sem.call _ _ _ _ _ = Sem.call _ _ _ _ _
  congr 1
  funext r
  rcases r with e | f
  · rfl
  · cases f <;> rfl
theorem wpAny_of_tree_eq {α : Type} {M : Model} {m m' : Sem α} {Q : α → Shared → Prop} {E : Value → Shared → Prop} (e : m = m') (k : wpAny M A m' Q E s) : wpAny M A m Q E s := e ▸ k
theorem call_borrowed {f : Value} {pos : List Value} {Q : Value → Shared → Prop} {E : Value → Shared → Prop} {M : Model} (k : wpAny M A (call f pos) Q E s) : wpAny M A (callBorrowed f pos) Q E s :=
  wpAny_of_tree_eq (callBorrowed_eq f pos) (wpAny_keep k)

theorem bound_check (B : Base w h) {gr b n : Nat} {es : Array DictEntry} (hx : h.get? (b + 1) = some (bobj es n b gr)) {key : Value} {Q : Unit → Shared → Prop} {E : Value → Shared → Prop} (q : Q () (St h g d t os)) :
    wpAny (model PW w) A (checkBoundCall "collections.defaultdict.__missing__" ⟨[.ref (b + 1), key], []⟩) Q E (St h g d t os) := by
  obtain ⟨sig, e1, e2⟩ := ddm_sig
  have tx : Looks (model PW w) h (typeOf (.ref (b + 1))) (.ref 58) := type_bk hx
  have nomod : Looks (model PW w) h (isInstance (.ref (b + 1)) (.type "module")) false := tx.andThen (sub58 B _)
  have ek : builtinKind "collections.defaultdict.__missing__" = some .method := by decide +kernel
  have nm : ∃ cd, clsIn (KK w.params) 58 = some cd ∧ cd.qualname = "FreezableDefaultDict" := ⟨_, rfl, rfl⟩
  obtain ⟨cd', hcd', hnm⟩ := nm
  have LC : Looks (model PW w) h (classData 58) cd' := looks_clsIn B.K hcd'
  have t58 : Looks (model PW w) h (typeOf (.ref 58)) (.type "type") := looks_typeIn B.K (by kernel_rfl)
  have ist : Looks (model PW w) h (isType (.ref (b + 1))) false := by
    unfold isType
    exact (Looks.ld hx).andThen .now
  unfold checkBoundCall
  simp only [e1, ek]
  rw [if_neg (by decide)]
  refine wpAny_bind (nomod.at ?_)
  rw [if_neg (by decide +kernel)]
  refine wpAny_bind (ist.at ?_)
  rw [if_neg (by simp)]
  refine wpAny_bind (tx.at ?_)
  dsimp only
  refine wpAny_bind (LC.at ?_)
  refine wpAny_bind (t58.at ?_)
  rw [if_pos (by decide), hnm]
  exact wpAny_of_eq (e2 _ _) q

theorem setdefault_spec (B : Base w h) {gr b n c v : Nat} {es : Array DictEntry} {l : List (Nat × Nat)} {tk : Tok} (h8 : 108 ≤ b) (hx : h.get? (b + 1) = some (bobj es n b gr)) (E : Ents es.toList l) (hz : l.length < 1000)
    (hno : (l.find? fun p => c == p.1) = none) {R : Result → Shared → Prop}
    (q : ∀ h' t', Bk h' gr b (l ++ [(c, v)]) → Up [b + 1] h h' → R (.ok (.ret (.ref (v + 1)))) (St h' g d t' os)) :
    codeAny (model PW w) A (.builtin "dict.setdefault" ⟨[.ref (b + 1), .str (T [c]) tk, .ref (v + 1)], []⟩) R (St h g d t os) := by
  have tx : Looks (model PW w) h (typeOf (.ref (b + 1))) (.ref 58) := type_bk hx
  have noord : Looks (model PW w) h (isInstance (.ref (b + 1)) (.type "collections.OrderedDict")) false := tx.andThen (sub58 B _)
  refine codeAny_builtin F.entry_dict_setdefault ?_
  unfold Builtin.«dict.setdefault» Dict.keyAndDefault Dict.notOrdered
  refine wpAny_bind (wpAny_bind ?_)
  rw [if_pos (by decide +kernel)]
  show wpAny _ _ (typeOf (.ref (b + 1)) >>= _) _ _ _
  refine wpAny_bind (tx.at ?_)
  rw [if_pos (by rfl)]
  refine wpAny_bind (noord.at ?_)
  rw [if_neg (by simp)]
  refine wpAny_pure ?_
  show wpAny _ _ (pure (b + 1, Value.str (T [c]) tk, some (Value.ref (v + 1)))) _ _ _
  refine wpAny_pure ?_
  dsimp only
  rw [if_neg (by rw [beq_eq_false_iff_ne.mpr (Nat.ne_of_gt (Nat.lt_of_lt_of_le sys_small (Nat.le_trans h8 (Nat.le_succ b))))]; exact Bool.false_ne_true)]
  refine wpAny_bind ?_
  unfold dictSetDefault
  refine wpAny_holding (wpAny_bind (wpAny_pyHash_str ?_))
  have hall : (es.all fun e => isExactStrKey e.key) = true := by rw [← Array.all_toList]; exact E.exact
  refine wpAny_bind (KTD.kt_dictFind_strs (s := { St h g d t os with toks := t + 1 }) hx rfl hall ?_)
  have hnone : (es.findIdx? fun e => e.key.isStr (T [c])) = none := by
    have e1 : (es.findIdx? fun e => e.key.isStr (T [c])) = l.findIdx? fun p => c == p.1 := by rw [← E.find c]; cases es; simp
    rw [e1, List.findIdx?_eq_none_iff]
    intro p hp
    rw [List.find?_eq_none] at hno
    simpa using hno p hp
  rw [hnone]
  dsimp only
  have hsz : es.size ≤ sizeLine := by
    have := E.length
    rw [Array.length_toList] at this
    unfold sizeLine; omega
  refine wpAny_bind (wpAny_rule (wpAny_bind (wpAny_updateDictKeys (es := es) (ep := n) hx rfl ?_ hsz (by simp))))
  refine wpAny_pure (wpAny_pure ?_)
  refine q _ _ ⟨es.push ⟨hashStr w (T [c]), .str (T [c]) tk, .ref (v + 1)⟩, n + 1, Heap.get?_update_self _ hx rfl, ?_⟩ (Up.update _ _ _)
  rw [Array.toList_push]
  exact E.push ⟨_, rfl⟩ rfl

theorem ddm_spec {D : AD} {N : Nat} (B : Base w h) (G : Gro w D N h) (hN : N < 10000) {b n c bm : Nat} {es : Array DictEntry} {l : List (Nat × Nat)} {tk : Tok} (h8 : 108 ≤ b) (hx : h.get? (b + 1) = some (bobj es n b D.gr)) (E : Ents es.toList l) (hz : l.length < 1000)
    (hno : (l.find? fun p => c == p.1) = none) (hbm : h.get? bm = some (bmObj "collections.defaultdict.__missing__" (b + 1))) (hA : A.depth < recursionLimit) {Q : Value → Shared → Prop}
    (q : ∀ v h' t', h'.get? (v + 1) = some (bobj #[] 0 v D.gr) → h'.get? v = some emptyDict → h.objs.size ≤ v → Bk h' D.gr b (l ++ [(c, v)]) → Up [D.lr, b + 1] h h' → (∃ xs k, h'.get? D.lr = some (lobj xs k) ∧ xs.size = N + 1) → Q (.ref (v + 1)) (St h' g d t' os)) :
    W w A (call (.ref bm) [.str (T [c]) tk]) Q (St h g d t os) := by
  obtain ⟨⟨doc, pm, cc, ctv, f1, f2⟩, f3, f4, ⟨xs0, kk0, er, ers⟩, bb1, bb2⟩ := id G
  have lrb : b + 1 ≠ D.lr := fun z => by rw [z, er] at hx; simp at hx
  refine ⟨wpAny_call (codeAny_of_tree ?_)⟩
  show wpAny _ A.in1 (callAny (.ref bm) _) _ _ _
  unfold callAny
  refine wpAny_bind (wpAny_load hbm ?_)
  dsimp only
  rw [if_pos (by decide)]
  show wpAny _ _ (if (Value.type "builtin_function_or_method" != Value.type "method") = true then _ else _) _ _ _
  rw [if_pos (by decide)]
  refine wpAny_bind (bound_check B hx ?_)
  refine wpAny_pure (And.intro (Code.quiet_builtin _ (by decide +kernel)) ?_)
  refine codeAny_builtin ddm_entry ?_
  unfold Builtin.«collections.defaultdict.__missing__»
  refine wpAny_bind (wpAny_of_eq (a := (Value.ref (b + 1), Value.str (T [c]) tk)) (by kernel_rfl) ?_)
  dsimp only
  refine wpAny_bind ?_
  unfold Collections_defaultdict.factory? slotAt
  refine wpAny_bind (wpAny_bind (wpAny_loadPart hx (wpAny_pure ?_)))
  show wpAny _ _ (pure (some (Value.ref D.gr))) _ _ _
  refine wpAny_pure ?_
  dsimp only
  refine wpAny_bind ?_
  unfold callOutOfASlot
  refine wpAny_bind ?_
  unfold borrowsExactly
  refine wpAny_bind (wpAny_load f1 ?_)
  refine wpAny_pure ?_
  rw [if_pos rfl]
  refine call_borrowed ?_
  refine (grow_spec (A := A.in1) (Q := fun r s' => ∃ b₁ h' t', r = .ref (b₁ + 1) ∧ s' = St h' g d t' os ∧ h'.get? (b₁ + 1) = some (bobj #[] 0 b₁ D.gr) ∧ h'.get? b₁ = some emptyDict ∧ h.objs.size ≤ b₁ ∧ Up [D.lr] h h' ∧ ∃ xs k, h'.get? D.lr = some (lobj xs k) ∧ xs.size = N + 1)
    B G hN hA (fun b₁ h' t' a1 a2 a3 a4 a5 => ⟨b₁, h', t', rfl, rfl, a1, a2, a3, a4, a5⟩)).toE ?_
  rintro r s' ⟨b₁, h', t', rfl, rfl, a1, a2, a3, a4, xs, k, a5, a6⟩
  refine wpAny_pure ⟨Code.quiet_builtin _ (by decide +kernel), ?_⟩
  have B' := B.high a4 (by intro a ha; rw [List.mem_singleton.mp ha]; exact bb1.1)
  refine setdefault_spec B' h8 (a4.get (by simpa using lrb) hx) E hz hno fun h2 t2 K2 u2 => ?_
  have hb : b + 1 < h.objs.size := Heap.lt_size hx
  have n2 : b₁ ≠ b + 1 := Nat.ne_of_gt (Nat.lt_of_lt_of_le hb a3)
  have n1 : b₁ + 1 ≠ b + 1 := Nat.ne_of_gt (Nat.lt_succ_of_lt (Nat.lt_of_lt_of_le hb a3))
  exact q b₁ h2 t2 (u2.get (by simpa using n1) a1) (u2.get (by simpa using n2) a2) a3 K2 ((Up.mono a4 (by simp)).trans u2 (fun a ha => .inl ha) (fun a ha => .inl (by simp at ha; simp [ha]))) ⟨xs, k, u2.get (by simpa using fun z => lrb z.symm) a5, a6⟩
end
end Mine
end

/- part M10 -/
section
open PySem PySem.Calls PySem.Spec PyProof.Rows PySem.W Builtin Builtin.ObjectAttr Builtin.Getset_descriptor
namespace Mine

theorem find_factory (P : Params) (od : Obj) : findObj (KK P) 58 (some od) "default_factory" = some (.bind (.builtin "member_descriptor.__get__") (.builtin "collections.defaultdict.default_factory")) := by kernel_rfl
theorem fac_type : typeOf (.builtin "collections.defaultdict.default_factory") = pure (.type "member_descriptor") := by show builtinType _ = _; rw [builtinType_eq_fast]; kernel_rfl
theorem md_entry : entryFor table "member_descriptor.__get__" = some Builtin.«member_descriptor.__get__» := entryFor_of_tree (by kernel_rfl)
theorem fac_entry : entryFor table "collections.defaultdict.default_factory" = some Builtin.«collections.defaultdict.default_factory» := entryFor_of_tree (by kernel_rfl)

section
variable {w : World} {A : Around} {h : Heap} {g : Array GenState} {d : Drawn} {t : Nat} {os : OsState} {s : Shared} {env : Env}

theorem fac_get (B : Base w h) {gr b n : Nat} {es : Array DictEntry} {R : Result → Shared → Prop} (hx : h.get? (b + 1) = some (bobj es n b gr))
    (q : R (.ok (.ret (.ref gr))) (St h g d t os)) :
    codeAny (model PW w) A (.call (.builtin "member_descriptor.__get__") ⟨[.builtin "collections.defaultdict.default_factory", .ref (b + 1), .ref 58], []⟩) R (St h g d t os) := by
  have tx : Looks (model PW w) h (typeOf (.ref (b + 1))) (.ref 58) := type_bk hx
  have inst : Looks (model PW w) h (isInstance (.ref (b + 1)) (.type "collections.defaultdict")) true := tx.andThen (sub58 B _)
  have ta : Looks (model PW w) h (isInstance (.builtin "collections.defaultdict.default_factory") (.type "member_descriptor")) true := (Looks.of_pure fac_type).andThen (Looks.of_pure (by rw [isSubtype_type]; kernel_rfl))
  refine codeAny_call_builtin (by decide +kernel) md_entry (@check_slot (model PW w) _ _ _ "member_descriptor.__get__" "member_descriptor" "__get__" (.builtin "collections.defaultdict.default_factory") [.ref (b + 1), .ref 58] [] _ (by decide +kernel) (by decide +kernel) ta (by unfold argsOk; kernel_rfl) ?_)
  unfold Builtin.«member_descriptor.__get__» descrGet
  refine wpAny_bind (wpAny_of_eq (a := (.builtin "collections.defaultdict.default_factory", some (.ref (b + 1)), some (.ref 58))) rfl ?_)
  dsimp only
  unfold descrGetter descrCheckInstance
  dsimp only
  refine wpAny_bind (wpAny_bind (wpAny_of_eq (a := (("default_factory" : Str), .type "collections.defaultdict")) (by kernel_rfl) ?_))
  dsimp only
  refine wpAny_bind (inst.at ?_)
  rw [if_neg (by simp)]
  refine wpAny_pure ?_
  refine wpAny_pure (And.intro (Code.quiet_builtin _ (by decide +kernel)) ?_)
  refine codeAny_builtin fac_entry ?_
  unfold Builtin.«collections.defaultdict.default_factory»
  dsimp only
  refine wpAny_bind ?_
  unfold Collections_defaultdict.factory? slotAt
  refine wpAny_bind (wpAny_bind (wpAny_loadPart hx (wpAny_pure ?_)))
  show wpAny _ _ (pure (some (Value.ref gr))) _ _ _
  exact wpAny_pure (wpAny_pure q)

theorem factory_attr (B : Base w h) {gr b n : Nat} {es : Array DictEntry} {m : Str → Option Value} (hx : h.get? (b + 1) = some (bobj es n b gr)) (hN : h.Ns b m) {e : Bool} {Q : Value → Shared → Prop}
    (q : ∀ t', Q (.ref gr) (St h g d t' os)) :
    wpAny (model PW w) A (getAttr (.ref (b + 1)) "default_factory" e) Q NoE (St h g d t os) := by
  obtain ⟨od, es', ep', hod, r⟩ := id hN
  have I : InstAt h (b + 1) (bobj es n b gr) 58 (some od) := ⟨hx, rfl, rfl, hod⟩
  have tx : Looks (model PW w) h (typeOf (.ref (b + 1))) (.ref 58) := type_bk hx
  have L := looks_find (M := model PW w) B.K I (find_factory _ od)
  have ga : Looks (model PW w) h (typeLookup (.ref 58) "__getattribute__") (some (.builtin "collections.defaultdict.__getattribute__")) := looks_findIn B.K (by kernel_rfl)
  have hook : Looks (model PW w) h (hookBefore (.ref 58)) none := looks_hook B.K (by kernel_rfl)
  unfold getAttr
  refine wpAny_bind (wpAny_mkText ?_)
  unfold getAttrBy
  refine wpAny_holding (wpAny_bind (tx.at (wpAny_bind (ga.at ?_))))
  show wpAny _ _ (getAttrByItsOwn _ _ _ _ _ _) _ _ _
  unfold getAttrByItsOwn callGetattribute
  refine wpAny_bind (hook.at ?_)
  refine wpAny_bind (wpAny_attempt (wpAny_holding ?_))
  rw [if_neg (by simp [onTheHeap])]
  unfold boundAndCalled
  refine wpAny_bind (wpAny_of_eq (ddga_slot.bind _) ?_)
  show wpAny _ _ (call (.builtin "collections.defaultdict.__getattribute__") [.ref (b + 1), .str "default_factory" t]) _ _ _
  refine wpAny_call (codeAny_call_builtin (by decide +kernel) ddga_entry (@check_slot (model PW w) _ _ _ "collections.defaultdict.__getattribute__" "collections.defaultdict" "__getattribute__" (.ref (b + 1)) [.str "default_factory" t] [] _ (by decide +kernel) (by decide +kernel) (tx.andThen (sub58 B _)) (by unfold argsOk; kernel_rfl) ?_))
  unfold Builtin.«object.__getattribute__»
  refine wpAny_bind (wpAny_of_eq (a := (Value.ref (b + 1), [Value.str "default_factory" t])) (by kernel_rfl) ?_)
  dsimp only
  refine wpAny_bind (wpAny_of_eq (a := (Str.ofString "default_factory")) (by kernel_rfl) ?_)
  refine wpAny_bind (tx.at ?_)
  refine wpAny_bind (L.at ?_)
  dsimp only
  unfold bindTo
  dsimp only
  refine wpAny_bind (wpAny_holding (wpAny_call (fac_get B hx ?_)))
  refine wpAny_pure ?_
  show wpAny _ _ (handedOut (.ref gr)) _ _ _
  rw [handedOut_of rfl]
  exact wpAny_pure (q _)

theorem bk_getMethod (B : Base w h) {gr b n : Nat} {es : Array DictEntry} {m : Str → Option Value} (hx : h.get? (b + 1) = some (bobj es n b gr)) (hN : h.Ns b m) {name : Str} {f tf : Value} {pl : Sem Bool} {Q : Value × List Value → Shared → Prop}
    (hf : findIn (KK w.params) (.ref 58) name = some (some f)) (htf : typeIn (KK w.params) f = some tf) (hok : (tf != .type "function" && tf != .type "method_descriptor" && tf != .type "wrapper_descriptor") = false) (hm : m name = none)
    (q : Q (f, [.ref (b + 1)]) (St h g d t os)) : wpAny (model PW w) A (getMethod (.ref (b + 1)) name pl) Q NoE (St h g d t os) := by
  have tx : Looks (model PW w) h (typeOf (.ref (b + 1))) (.ref 58) := type_bk hx
  have ga : Looks (model PW w) h (specialOf (.ref (b + 1)) "__getattribute__") (some (.builtin "collections.defaultdict.__getattribute__")) := tx.andThen (looks_findIn B.K (by kernel_rfl))
  have nga : Looks (model PW w) h (specialOf (.ref (b + 1)) "__getattr__") none := tx.andThen (looks_findIn B.K (by kernel_rfl))
  have lf : Looks (model PW w) h (specialOf (.ref (b + 1)) name) (some f) := tx.andThen (looks_findIn B.K hf)
  have lt : Looks (model PW w) h (typeOf f) tf := looks_typeIn B.K htf
  unfold getMethod
  refine wpAny_bind (ga.at ?_)
  dsimp only
  rw [if_neg (by decide +kernel)]
  refine wpAny_bind (nga.at ?_)
  rw [if_neg (by simp)]
  refine wpAny_bind (lf.at ?_)
  dsimp only
  refine wpAny_bind (lt.at ?_)
  rw [hok]
  rw [if_neg (by simp)]
  refine wpAny_bind (wpAny_loadPart hx ?_)
  dsimp only
  refine wpAny_bind (wpAny_nsGet hN ?_)
  rw [hm]
  rw [if_neg (by simp)]
  exact wpAny_bind (wpAny_rule (wpAny_pure q))
theorem factory_getMethod (B : Base w h) {gr b n : Nat} {es : Array DictEntry} {m : Str → Option Value} (hx : h.get? (b + 1) = some (bobj es n b gr)) (hN : h.Ns b m) {pl : Sem Bool} {Q : Value × List Value → Shared → Prop}
    (q : ∀ t', Q (.ref gr, []) (St h g d t' os)) : wpAny (model PW w) A (getMethod (.ref (b + 1)) "default_factory" pl) Q NoE (St h g d t os) := by
  have tx : Looks (model PW w) h (typeOf (.ref (b + 1))) (.ref 58) := type_bk hx
  have ga : Looks (model PW w) h (specialOf (.ref (b + 1)) "__getattribute__") (some (.builtin "collections.defaultdict.__getattribute__")) := tx.andThen (looks_findIn B.K (by kernel_rfl))
  have nga : Looks (model PW w) h (specialOf (.ref (b + 1)) "__getattr__") none := tx.andThen (looks_findIn B.K (by kernel_rfl))
  have lf : Looks (model PW w) h (specialOf (.ref (b + 1)) "default_factory") (some (.builtin "collections.defaultdict.default_factory")) := tx.andThen (looks_findIn B.K (by kernel_rfl))
  have lt : Looks (model PW w) h (typeOf (.builtin "collections.defaultdict.default_factory")) (.type "member_descriptor") := Looks.of_pure fac_type
  unfold getMethod
  refine wpAny_bind (ga.at ?_)
  dsimp only
  rw [if_neg (by decide +kernel)]
  refine wpAny_bind (nga.at ?_)
  rw [if_neg (by simp)]
  refine wpAny_bind (lf.at ?_)
  dsimp only
  refine wpAny_bind (lt.at ?_)
  rw [if_pos (by decide)]
  refine wpAny_bind (factory_attr B hx hN fun t' => ?_)
  exact wpAny_pure (q _)
end
end Mine
end

/- part M11 -/
section
open PySem PySem.Calls PySem.Spec PyProof.Rows PySem.W Builtin Builtin.ObjectAttr Builtin.Getset_descriptor
namespace Mine

def lamBody : Expr := match bodyAt (bodyAt PW.main.body 2) 1 with
  | .Assign _ (.Lambda _ e _ _) _ :: _ => e
  | _ => .Constant .none 0 ⟨0, 0, 0, 0⟩
abbrev lamParams : Arguments := { posonlyargs := [], args := [{ arg := "key", annotation := none, pos := ⟨9, 30, 9, 33⟩ : PySem.Arg }], vararg := none, kwonlyargs := [], kw_defaults := [], kwarg := none, defaults := [] }
abbrev lamScope : Scope := { kind := .function, names := [(Str.ofString "key", .local), (Str.ofString "self", .free)], isGenerator := false, isCoroutine := false, more := [] }
abbrev lamQual : Str := "FreezableDefaultDict.freeze.<locals>.<lambda>"
abbrev lamObj (cell : Addr) (pm : Value) (cc : Addr) (ctv : Value) : Obj := kla_obj "<lambda>" lamQual lamParams lamBody lamScope [(Str.ofString "self", cell)] pm cc ctv

section
variable {w : World} {A : Around} {h : Heap} {g : Array GenState} {d : Drawn} {t : Nat} {os : OsState} {s : Shared} {env : Env}

theorem cw_keep0 {pos : Pos} {f : Value} {first : List Value} {Q : Value → Shared → Prop} (kf : KeepOk w f s.heap)
    (k : W w A (call f (first ++ [])) Q s) : W w A (callWith pos f first [] []) Q s :=
  ⟨callWith_of rfl (fun h' (y : KeepOk w f h') => y) (evalArgs_nil3 ⟨kf, k.run⟩)⟩

/-- o.name(args), o any object: the method form -/
theorem e_meth {o : Expr} {args : List Expr} {trees : List (Bool × Sem Value)} {name : Str} {apos pos : Pos} {Q : Value → Shared → Prop}
    (hbase : attributeBase o name env (eval o env) = eval o env) (hline : (apos.endLine == pos.line) = true) (htrees : backTo pos (starEach args env) = trees) (hform : methodCallForm (args.length + 0) trees [] = true)
    (k : W w A (eval o env) (fun ov s₁ => wpAny (model PW w) A (getMethod ov name (do return (← importBound o env).getD true)) (fun fx s₂ => W w A (callWith pos fx.1 fx.2 trees []) Q s₂) NoE s₁) s) :
    W w A (eval (.Call (.Attribute o name apos) args [] pos) env) Q s := by
  subst htrees
  refine ⟨?_⟩
  rw [arm_eval_Call, hbase]
  refine wpAny_bind (k.to fun ov s₁ k => wpAny_bind (wpAny_standAt ?_))
  unfold methodCall
  refine wpAny_bind (wpAny_holding ?_)
  show wpAny _ _ (calleeOf (methodCallForm (args.length + 0) (backTo pos (starEach args env)) []) o env ov name) _ _ _
  rw [hform]
  unfold calleeOf
  rw [if_pos rfl]
  refine wpAny_mono k (fun fx s₂ k => ?_) (fun _ _ e => e)
  obtain ⟨f, first⟩ := fx
  show wpAny _ _ (methodCallPos (methodCallForm (args.length + 0) (backTo pos (starEach args env)) []) o env apos pos >>= _) _ _ _
  rw [hform]
  unfold methodCallPos
  rw [if_pos (by rw [hline]; rfl)]
  exact wpAny_bind (wpAny_pure k.run)

/-- what the lambda stands on -/
structure Lam (lo lam b : Nat) (h : Heap) : Prop where
  fn : ∃ cell pm cc ctv, h.get? lam = some (lamObj cell pm cc ctv) ∧ h.IsCell cell (some (.ref (b + 1))) ∧ h.CodeRec (.ref cc) lamQual ∧ lo ≤ cell

theorem lam_call {D : AD} {N lam b n : Nat} {es : Array DictEntry} {m : Str → Option Value} (B : Base w h) (G : Gro w D N h) (hN : N < 10000) (L : Lam D.lo lam b h) (hx : h.get? (b + 1) = some (bobj es n b D.gr)) (hNs : h.Ns b m) (hA : A.depth + 1 < recursionLimit) {key : Value} {Q : Value → Shared → Prop}
    (q : ∀ v h' t', h'.get? (v + 1) = some (bobj #[] 0 v D.gr) → h'.get? v = some emptyDict → h.objs.size ≤ v → Up [D.lr] h h' → (∃ xs k, h'.get? D.lr = some (lobj xs k) ∧ xs.size = N + 1) → Q (.ref (v + 1)) (St h' g d t' os)) :
    W w A (call (.ref lam) [key]) Q (St h g d t os) := by
  obtain ⟨cell, pm, cc, ctv, e1, e2, e3, e4⟩ := L.fn
  obtain ⟨⟨doc, pm', cc', ctv', f1, f2⟩, f3, f4, ⟨xs0, kk0, er, ers⟩, bb1, bb2⟩ := id G
  have hA1 : A.depth < recursionLimit := Nat.lt_of_succ_lt hA
  have hbind : bindArgs (kla_fn "<lambda>" lamQual lamParams lamBody lamScope [(Str.ofString "self", cell)] pm (.ref cc) ctv) ⟨[key], []⟩ = pure ([("key", key)] : List (Str × Value)) := rfl
  refine ⟨wpAny_call (kla_callFunE hA1 e1 rfl rfl rfl rfl e3 ?_)⟩
  rw [hbind]
  refine wpAny_pure (wpAny_newFunctionEnv (show ∀ x ∈ lamScope.names, x.2 ≠ .cell by decide) (fun x hx => by rw [List.mem_singleton.mp hx]; rfl) (fun h₁ hns hsb => ⟨(B.lim).fresh _ hsb, ?_⟩) rfl)
  have hk₁ : ∀ b o, h.get? b = some o → h₁.get? b = some o := fun b o e => hsb.extBut b o (Nat.ne_of_lt (Heap.lt_size e)) (Heap.get?_push_of_some _ e)
  have u := Up.of_keep (Nat.le_of_lt hns.lt) hk₁
  refine kla_codeExpr (W.toE (w := w) (Q := Q) ?_ fun _ _ z => z)
  show W w (A.deeper (newEnv lamScope h.objs.size mainGlobals [(Str.ofString "self", cell)] (lamQual ++ ".<locals>.") (some lam) (.ref cc) none builtinsNs)) (eval lamBody (newEnv lamScope h.objs.size mainGlobals [(Str.ofString "self", cell)] (lamQual ++ ".<locals>.") (some lam) (.ref cc) none builtinsNs)) _ _
  generalize henv : newEnv lamScope h.objs.size mainGlobals [(Str.ofString "self", cell)] (lamQual ++ ".<locals>.") (some lam) (.ref cc) none builtinsNs = env
  have k0 : env.scope.kind = .function := by rw [← henv]; rfl
  have k1 : env.kindOf "self" = some .free := by rw [← henv]; kernel_rfl
  have k2 : env.cells.lookup (Str.ofString "self") = some cell := by rw [← henv]; rfl
  have dA : (A.deeper env).depth = A.depth + 1 := rfl
  clear henv
  generalize A.deeper env = A' at dA
  have B1 := B.keep u
  have hx1 := u.keep _ _ hx
  refine e_meth (name := "default_factory") (args := []) (trees := []) (apos := ⟨9, 35, 9, 55⟩) rfl rfl rfl rfl (n_free (u.cell (by simp) e2) k0 k1 k2 ?_)
  refine factory_getMethod B1 hx1 (u.ns (by simp) hNs) fun t' => ?_
  have G1 : Gro w D N h₁ := G.wr u .nil (by simp)
  refine cw_keep0 (keep_fn (u.keep _ _ f1) rfl) ?_
  refine grow_spec B1 G1 hN (by rw [dA]; exact hA) fun v h' t'' a1 a2 a3 a4 a5 => ?_
  exact q v h' t'' a1 a2 (Nat.le_trans u.1 a3) ((Up.mono u (by simp)).step a4 (fun a ha => .inl ha)) a5
end
end Mine
end

/- part M12 -/
section
open PySem PySem.Calls PySem.Spec PyProof.Rows PySem.W Builtin Builtin.ObjectAttr Builtin.Getset_descriptor
namespace Mine

def globEs (K : Frag) : Array DictEntry := match K.lookup mainGlobals with
  | some ⟨_, _, .dict es _, _⟩ => es
  | _ => #[]
theorem glob_keys (P : Params) : ((globEs (KK P)).all fun e => isExactStrKey e.key) = true := by kernel_rfl
theorem glob_at (P : Params) : ∃ o ep, (KK P).lookup mainGlobals = some o ∧ o.data = .dict (globEs (KK P)) ep := ⟨_, _, rfl, rfl⟩
theorem glob_bu (P : Params) : nsFind (globEs (KK P)) "__builtins__" = some (.ref 4) := by kernel_rfl
theorem glob_ns {w : World} {h : Heap} (B : Base w h) : ∃ mg, h.Ns mainGlobals mg ∧ mg "__builtins__" = some (.ref 4) := by
  obtain ⟨o, ep, e, dd⟩ := glob_at w.params
  refine ⟨nsFind (globEs (KK w.params)), ⟨o, _, ep, B.K _ _ e, dd, ?_, fun _ => rfl⟩, glob_bu _⟩
  intro en hen
  have := (Array.all_eq_true_iff_forall_mem.mp (glob_keys w.params)) en hen
  cases hk : en.key with
  | str n t => exact ⟨n, t, rfl⟩
  | _ => rw [hk] at this; simp [isExactStrKey] at this
theorem glob_built {w : World} {h : Heap} (B : Base w h) {P : Addr} (hP : 4 ≠ P) {mg : Str → Option Value} (e : mg "__builtins__" = some (.ref 4)) : h.BuiltinsAt mg P := by
  obtain ⟨ob, e1, e2, e3, e4⟩ := B.m
  exact ⟨4, ob, e, by decide, by decide, hP, e1, e2, e3, e4⟩

section
variable {w : World} {A : Around} {h : Heap} {g : Array GenState} {d : Drawn} {t : Nat} {os : OsState} {s : Shared} {env : Env}

/-- a call of a top def with cells of its own -/
theorem fn_cells (f : Nat) (binds : List (Str × Value)) {o : Obj} {fd : FuncData} {body : List Stmt} {args : List Value} {Q : Value → Shared → Prop} (B : Base w h) (hA : A.depth < recursionLimit)
    (ho : (KK w.params).lookup f = some o) (hd : o.data = .func fd) (hcd : codeIn (KK w.params) fd.code fd.qualname = true) (hbody : fd.body = .stmts body) (hbind : bindArgs fd ⟨args, []⟩ = pure binds) (hclo : fd.closure = [])
    (hkind : ∀ n, (binds.all fun x => decide (fd.scope.names.lookup x.1 = some .local) || (decide (fd.scope.names.lookup x.1 = some .cell) && ((cellsFrom n fd.scope.names []).lookup x.1).isSome)) = true)
    (hco : fd.scope.isCoroutine = false) (hgen : fd.scope.isGenerator = false) (hk : fd.scope.kind = .function)
    (k : ∀ env h₁ t₁, env = callEnvC fd h.objs.size f → InCallC (St h g d t os) env.locals (bindL env.kindOf binds fun _ => none) env.cells (bindC env.kindOf binds fun _ => none) (St h₁ g d t₁ os) → Up [] h h₁ → env.locals = h.objs.size → h.objs.size < h₁.objs.size →
      W w (A.deeper env) (execs body env) (RetQ Q) (St h₁ g d t₁ os)) :
    W w A (call (.ref f) args) Q (St h g d t os) := by
  refine ⟨wpAny_call (codeAny_call_cells hA (B.K _ _ ho) hd B.lim (codeRec_of B.K hcd) hbody hbind hclo (fun x hx => ?_) (fun s₁ I => ?_) hco hgen hk)⟩
  · have := List.all_eq_true.mp (hkind (h.objs.size + 1)) x hx
    simp only [Bool.or_eq_true, Bool.and_eq_true, decide_eq_true_eq] at this
    exact this
  · obtain ⟨h₁, t₁, rfl⟩ := I.toInCall.same
    have lt := I.toInCall.ns.lt
    refine (k _ h₁ t₁ rfl I (Up.of_keep (Nat.le_of_lt (show h.objs.size < h₁.objs.size from lt)) I.toInCall.keep) rfl lt).toE (fun fl s' q => ?_)
    exact q

/-- the lambda's code table -/
def Tab (h : Heap) : Prop := ∃ ps, h.get? 50 = some (tabObj ps) ∧ TriplesOk ps.toList ∧ (codeAmong ⟨9, 23, 9, 57⟩ ps.toList = none ∨ ∃ c, codeAmong ⟨9, 23, 9, 57⟩ ps.toList = some (.ref c) ∧ h.CodeRec (.ref c) lamQual)

theorem mk_lam {lo b cell : Nat} (B : Base w h) (Tb : Tab h) (hcl : closureFor lamScope env = pure [(Str.ofString "self", cell)]) (hg : env.globals = mainGlobals) (hc : env.code = .ref 54) (hq : env.qual ++ Str.ofString "<lambda>" = lamQual)
    (hcell : h.IsCell cell (some (.ref (b + 1)))) (hlo : lo ≤ cell) {Q : Value → Shared → Prop}
    (q : ∀ lam h' t', Lam lo lam b h' → Up [50] h h' → Tab h' → Q (.ref lam) (St h' g d t' os)) :
    W w A (eval (.Lambda lamParams lamBody lamScope ⟨9, 23, 9, 57⟩) env) Q (St h g d t os) := by
  obtain ⟨ps, e1, e2, e3⟩ := Tb
  obtain ⟨mg, hgs, hbu⟩ := glob_ns B
  have C : CodeHd h 54 50 := codeHd_of_K B.K (by kernel_rfl)
  refine ⟨kla_eval rfl ?_⟩
  rw [hq]
  rcases e3 with e3 | ⟨c, e3, e4⟩
  · refine kla_makeFunction hcl hg hgs hc C e1 e2 e3 (by decide) (glob_built B (by decide) hbu) fun c' ctv h' tk hx hge hlt hrec htb => ?_
    have u : Up [50] h h' := ⟨Nat.le_of_lt (Nat.lt_of_le_of_lt hge hlt), fun b o hb e => hx b o (by simpa using hb) e⟩
    have hl := Heap.get?_push_size h' (o := lamObj cell ((mg "__name__").getD .none) c' ctv) rfl
    have n50 : cell ≠ 50 := fun z => by
      obtain ⟨o, e, dd⟩ := hcell
      rw [z, e1] at e; cases e; cases dd
    refine q _ _ _ ⟨⟨cell, _, c', ctv, hl, ((u.cell (by simpa using n50) hcell).keeps fun b o e => Heap.get?_push_of_some _ e), hrec.push _, hlo⟩⟩ (u.push' _) ?_
    refine ⟨_, Heap.get?_push_of_some _ htb, ?_, .inr ⟨c', ?_, hrec.push _⟩⟩
    · rw [Array.toList_append]
      exact TriplesOk_snoc _ _ _ _ e2
    · rw [Array.toList_append]
      exact codeAmong_snoc _ e2 e3
  · refine kla_makeFunctionHit hcl hg hgs hc C e1 e2 e3 (glob_built B (by decide) hbu) fun ctv h' tk hx hge => ?_
    have u : Up [] h h' := Up.of_keep hge hx
    have hl := Heap.get?_push_size h' (o := lamObj cell ((mg "__name__").getD .none) c ctv) rfl
    exact q _ _ _ ⟨⟨cell, _, c, ctv, hl, ((u.cell (by simp) hcell).keeps fun b o e => Heap.get?_push_of_some _ e), (e4.keeps hx).push _, hlo⟩⟩ ((Up.mono u (by simp)).push' _) ⟨_, Heap.get?_push_of_some _ (hx _ _ e1), e2, .inr ⟨c, e3, (e4.keeps hx).push _⟩⟩
end
end Mine
end

/- part M13 -/
section
open PySem PySem.Calls PySem.Spec PyProof.Rows PySem.W Builtin Builtin.ObjectAttr Builtin.Getset_descriptor
namespace Mine

section
variable {w : World} {A : Around} {h : Heap} {g : Array GenState} {d : Drawn} {t : Nat} {os : OsState} {s : Shared} {env : Env}

/-- StopIteration raised inside __next__ and caught behind it -/
theorem stop_tail {it : Addr} {Q : Option Value → Shared → Prop} {E : Value → Shared → Prop} {f : Obj → Obj} (hh : A.handled = none)
    (q : ∀ h', Up [it] h h' → Q none (St h' g d t os)) :
    wpAny (model PW w) A.in1 (newExc (.type "StopIteration") [] >>= raiseNew (α := Fin)) (fun _ _ => False) (fun e s' => ∃ b, e = .ref b ∧ (∃ o, s'.heap.get? b = some o ∧ o.cls = .type "StopIteration") ∧ ∃ h', s' = St h' g d t os ∧ Up [it] h h') (St (h.update it f) g d t os) := by
  refine wpAny_bind ?_
  simp only [newExc, newTuple]
  refine wpAny_bind (wpAny_newObj_type ?_ (by size_fits))
  refine wpAny_bind (m := firstArgMember _ _) (wpAny_of_eq (a := Value.none) (by first | rfl | (simp only [firstArgMember]; rfl)) ?_)
  refine wpAny_newObj_type ?_ (by size_fits)
  simp only [raiseNew]
  refine wpAny_bind (wpAny_handled ?_)
  rw [show A.in1.handled = none from hh]
  refine wpAny_bind (wpAny_pure (wpAny_throw ?_))
  exact ⟨_, rfl, ⟨_, Heap.get?_push_size _ rfl, rfl⟩, _, rfl, ((Up.update _ _ _).push' _).push' _⟩

theorem list_end {it l : Addr} {i : Nat} {items : Array Value} {Q : Option Value → Shared → Prop} {E : Value → Shared → Prop} (hh : A.handled = none)
    (hit : h.IsListIter it l i) (hl : h.IsList l items) (hx : items[i]? = none)
    (hQ : ∀ h', Up [it] h h' → Q none (St h' g d t os)) : wpAny (model PW w) A (pyNext (.ref it)) Q E (St h g d t os) := by
  obtain ⟨o, ho, hc, hd⟩ := id hit
  obtain ⟨ol, hol, _, nl, hdl⟩ := hl
  have ht : (St h g d t os).TypeIs (.ref it) "list_iterator" := ⟨o, ho, hc⟩
  unfold pyNext
  refine wpAny_bind (wpAny_attempt (wpAny_callSpecial?_slot (name := Str.ofString "__next__") ht slot_listiter_next
    (wpAny_call_entry slot_listiter_next ht entry_listiter_next ?_ (args_listiter_next _))))
  show wpAny _ _ (field (.ref it) 0 >>= _) _ _ _
  refine wpAny_bind (wpAny_field ho hd (x := .ref l) rfl ?_)
  show wpAny _ _ (if (Value.ref l == Value.none) = true then _ else _) _ _ _
  rw [if_neg (show ¬ ((Value.ref l == Value.none) = true) from Bool.false_ne_true)]
  show wpAny _ _ (field (.ref it) 1 >>= _) _ _ _
  refine wpAny_bind (wpAny_field ho hd (x := .int i 0) rfl ?_)
  show wpAny _ _ (seqItems? (.ref l) >>= _) _ _ _
  refine wpAny_bind (wpAny_seqItems hol hdl ?_)
  simp only [Int.toNat_natCast, hx]
  refine wpAny_bind (wpAny_rule (wpAny_bind (wpAny_setField ho hd (by simp) ?_)))
  refine wpAny_mono (stop_tail (it := it) (Q := Q) (E := E) hh hQ) (fun _ _ z => z.elim) (fun e s' z => ?_)
  obtain ⟨b, rfl, ⟨oe, e1, e2⟩, h', rfl, u⟩ := z
  refine wpAny_bind (wpAny_isInstance (T := "StopIteration") (b := true) ⟨_, e1, e2⟩ isSubtype_stop ?_)
  exact wpAny_pure (hQ _ u)
theorem str_end {it : Addr} {x : Str} {tk : Tok} {i : Nat} {Q : Option Value → Shared → Prop} {E : Value → Shared → Prop} (hh : A.handled = none)
    (hit : h.IsStrIter it "str_ascii_iterator" x tk i) (hx : x.cps[i]? = none)
    (hQ : ∀ h', Up [it] h h' → Q none (St h' g d t os)) : wpAny (model PW w) A (pyNext (.ref it)) Q E (St h g d t os) := by
  obtain ⟨o, ho, hc, hd⟩ := id hit
  have ht : (St h g d t os).TypeIs (.ref it) "str_ascii_iterator" := ⟨o, ho, hc⟩
  unfold pyNext
  refine wpAny_bind (wpAny_attempt (wpAny_callSpecial?_slot (name := Str.ofString "__next__") ht F.slot_str_ascii_iterator_next
    (wpAny_call_entry F.slot_str_ascii_iterator_next ht F.entry_str_ascii_iterator_next ?_ (F.args_str_ascii_iterator_next_1 _))))
  show wpAny _ _ (field (.ref it) 0 >>= _) _ _ _
  refine wpAny_bind (wpAny_field ho hd (x := .str x tk) rfl ?_)
  show wpAny _ _ (field (.ref it) 1 >>= _) _ _ _
  refine wpAny_bind (wpAny_field ho hd (x := .int i 0) rfl ?_)
  simp only [Int.toNat_natCast, hx]
  refine wpAny_bind (wpAny_rule (wpAny_bind (wpAny_setField ho hd (by simp) (wpAny_bind (wpAny_letGo ?_)))))
  refine wpAny_mono (stop_tail (it := it) (Q := Q) (E := E) hh hQ) (fun _ _ z => z.elim) (fun e s' z => ?_)
  obtain ⟨b, rfl, ⟨oe, e1, e2⟩, h', rfl, u⟩ := z
  refine wpAny_bind (wpAny_isInstance (T := "StopIteration") (b := true) ⟨_, e1, e2⟩ isSubtype_stop ?_)
  exact wpAny_pure (hQ _ u)

/-- the for loop over an iterator: J it i holds in front of the i-th turn -/
theorem for_core {x : Str} {px : Pos} {body : List Stmt} {it : Addr} {n : Nat} {R : Result → Shared → Prop} (It : Nat → Heap → Prop) (J : Nat → Shared → Prop)
    (turn : ∀ i s, i < n → It i s.heap → J i s → wpAny (model PW w) A (pyNext (.ref it)) (fun r s₁ => ∃ v, r = some v ∧ W w A (storeName env x v) (fun _ s₂ => W w A (execs body env) (fun f s₃ => f = .next ∧ It (i + 1) s₃.heap ∧ J (i + 1) s₃) s₂) s₁) NoE s)
    (stop : ∀ s, It n s.heap → J n s → wpAny (model PW w) A (pyNext (.ref it)) (fun r s₁ => r = none ∧ R (.ok .next) s₁) NoE s)
    (h0 : It 0 s.heap) (j0 : J 0 s) : codeAny (model PW w) A (.forLoop (.Name x px) (.ref it) body [] env) R s := by
  refine codeAny_forLoop (fun m s' => ∃ i, i ≤ n ∧ m = n - i ∧ It i s'.heap ∧ J i s') ?_ n ⟨0, Nat.zero_le _, by simp, h0, j0⟩
  rintro m s' ⟨i, hi, rfl, hI, hJ⟩
  by_cases q : i = n
  · subst q
    refine wpAny_mono (stop s' hI hJ) (fun r s₁ z => ?_) (fun _ _ z => z.elim)
    obtain ⟨rfl, z⟩ := z
    exact wpAny_execs_nil z
  · have lt : i < n := by omega
    refine wpAny_mono (turn i s' lt hI hJ) (fun r s₁ z => ?_) (fun _ _ z => z.elim)
    obtain ⟨v, rfl, z⟩ := z
    refine wpAny_assign_Name (z.toE fun _ s₂ z => z.toE fun f s₃ z => ?_)
    obtain ⟨rfl, z1, z2⟩ := z
    exact ⟨n - (i + 1), by omega, i + 1, lt, rfl, z1, z2⟩

/-- for x in list: the list and the iterator stand off what the body writes -/
theorem x_for_list {x : Str} {px pos : Pos} {iter : Expr} {body rest : List Stmt} {a : Addr} {xs : Array Value} {n : Nat} {Q : Flow → Shared → Prop} (hh : A.handled = none) (J : Nat → Nat → Shared → Prop)
    (hs : ∀ y, foldedSetIterable iter env y = pure y)
    (k : W w A (eval iter env) (fun v s₁ => v = .ref a ∧ s₁.heap.get? a = some (lobj xs n) ∧
      (∀ it h', s₁.heap.objs.size ≤ it → Up [] s₁.heap h' → it < h'.objs.size → J it 0 { s₁ with heap := h' }) ) s)
    (turn : ∀ it i v s' h', xs[i]? = some v → J it i s' → (∃ o vs, s'.heap.get? it = some o ∧ o.data = .fields vs ∧ vs[1]? = some (.int i 0)) → s'.heap.get? a = some (lobj xs n) → Up [it] s'.heap h' → (∃ o, h'.get? it = some o) →
      W w A (storeName env x v) (fun _ s₂ => W w A (execs body env) (fun f s₃ => f = .next ∧ J it (i + 1) s₃ ∧ s₃.heap.get? a = h'.get? a ∧ s₃.heap.get? it = h'.get? it) s₂) { s' with heap := h' })
    (fin : ∀ it s' h', J it xs.size s' → (∃ o vs, s'.heap.get? it = some o ∧ o.data = .fields vs ∧ vs[1]? = some (.int xs.size 0)) → s'.heap.get? a = some (lobj xs n) → Up [it] s'.heap h' → W w A (execs rest env) Q { s' with heap := h' }) :
    W w A (execs (.For (.Name x px) iter body [] pos :: rest) env) Q s := by
  refine x_seq ⟨wpAny_For (k.to fun v s₁ z => ?_) hs⟩
  obtain ⟨rfl, ha, z⟩ := z
  refine wpAny_pyIter_list (lobj_list ha) ?_
  have lt : s₁.heap.objs.size < (s₁.heap.push { cls := .type "list_iterator", data := .fields #[.ref a, .int 0 0] }).objs.size := by rw [Heap.size_push]; exact Nat.lt_succ_self _
  refine for_core (n := xs.size) (It := fun i h => h.IsListIter s₁.heap.objs.size a i ∧ h.get? a = some (lobj xs n) ∧ s₁.heap.objs.size < h.objs.size) (J := J s₁.heap.objs.size) (fun i s hi hI hJ => ?_) (fun s hI hJ => ?_)
    ⟨⟨_, Heap.get?_push_size _ rfl, rfl, rfl⟩, Heap.get?_push_of_some _ ha, lt⟩ (z _ _ (Nat.le_refl _) (Up.push _ _) lt)
  · obtain ⟨h1, h2, h3⟩ := hI
    have hx : xs[i]? = some xs[i] := Array.getElem?_eq_getElem hi
    refine wpAny_pyNext_list_item h1 (lobj_list h2) hx fun h' i' sb => ⟨_, rfl, ?_⟩
    have u := Up.same sb
    obtain ⟨o, q1, q2, q3⟩ := id h1
    have hne : a ≠ s₁.heap.objs.size := fun z => by rw [z, q1] at h2; cases h2; cases q3
    refine (turn _ i _ s h' hx hJ ⟨o, _, q1, q3, rfl⟩ h2 u (let ⟨o, e, _⟩ := i'; ⟨o, e⟩)).mono fun _ s₂ z => z.mono fun f s₃ z => ?_
    obtain ⟨z1, z2, z3, z4⟩ := z
    refine ⟨z1, ⟨?_, ?_, ?_⟩, z2⟩
    · obtain ⟨o', e1, e2⟩ := i'; exact ⟨o', z4.trans e1, e2⟩
    · exact z3.trans (u.get (by simpa using hne) h2)
    · obtain ⟨o', e1, e2⟩ := i'; exact Heap.lt_size (z4.trans e1)
  · obtain ⟨h1, h2, h3⟩ := hI
    obtain ⟨h', g', d', t', os'⟩ := s
    obtain ⟨o, q1, q2, q3⟩ := id h1
    refine list_end hh h1 (lobj_list h2) (by simp) fun h'' u => ⟨rfl, ?_⟩
    exact fin _ _ h'' hJ ⟨o, _, q1, q3, rfl⟩ h2 u

structure ForL (w : World) (A : Around) (env : Env) (x : Str) (body rest : List Stmt) (Q : Flow → Shared → Prop) (a : Nat) (xs : Array Value) (n : Nat) (J : Nat → Nat → Shared → Prop) (s₁ : Shared) : Prop where
  at_ : s₁.heap.get? a = some (lobj xs n)
  start : ∀ it h', s₁.heap.objs.size ≤ it → Up [] s₁.heap h' → it < h'.objs.size → J it 0 { s₁ with heap := h' }
  turn : ∀ it i v s' h', xs[i]? = some v → J it i s' → (∃ o vs, s'.heap.get? it = some o ∧ o.data = .fields vs ∧ vs[1]? = some (.int i 0)) → s'.heap.get? a = some (lobj xs n) → Up [it] s'.heap h' → (∃ o, h'.get? it = some o) →
      W w A (storeName env x v) (fun _ s₂ => W w A (execs body env) (fun f s₃ => f = .next ∧ J it (i + 1) s₃ ∧ s₃.heap.get? a = h'.get? a ∧ s₃.heap.get? it = h'.get? it) s₂) { s' with heap := h' }
  fin : ∀ it s' h', J it xs.size s' → (∃ o vs, s'.heap.get? it = some o ∧ o.data = .fields vs ∧ vs[1]? = some (.int xs.size 0)) → s'.heap.get? a = some (lobj xs n) → Up [it] s'.heap h' → W w A (execs rest env) Q { s' with heap := h' }
theorem x_for_list2 {x : Str} {px pos : Pos} {iter : Expr} {body rest : List Stmt} {Q : Flow → Shared → Prop} (hh : A.handled = none) (hs : ∀ y, foldedSetIterable iter env y = pure y)
    (k : W w A (eval iter env) (fun v s₁ => ∃ a xs n J, v = .ref a ∧ ForL w A env x body rest Q a xs n J s₁) s) :
    W w A (execs (.For (.Name x px) iter body [] pos :: rest) env) Q s := by
  refine x_seq ⟨wpAny_For (k.to fun v s₁ z => ?_) hs⟩
  obtain ⟨a, xs, n, J, rfl, ha, z, turn, fin⟩ := z
  refine wpAny_pyIter_list (lobj_list ha) ?_
  have lt : s₁.heap.objs.size < (s₁.heap.push { cls := .type "list_iterator", data := .fields #[.ref a, .int 0 0] }).objs.size := by rw [Heap.size_push]; exact Nat.lt_succ_self _
  refine for_core (n := xs.size) (It := fun i h => h.IsListIter s₁.heap.objs.size a i ∧ h.get? a = some (lobj xs n) ∧ s₁.heap.objs.size < h.objs.size) (J := J s₁.heap.objs.size) (fun i s hi hI hJ => ?_) (fun s hI hJ => ?_)
    ⟨⟨_, Heap.get?_push_size _ rfl, rfl, rfl⟩, Heap.get?_push_of_some _ ha, lt⟩ (z _ _ (Nat.le_refl _) (Up.push _ _) lt)
  · obtain ⟨h1, h2, h3⟩ := hI
    have hx : xs[i]? = some xs[i] := Array.getElem?_eq_getElem hi
    refine wpAny_pyNext_list_item h1 (lobj_list h2) hx fun h' i' sb => ⟨_, rfl, ?_⟩
    have u := Up.same sb
    obtain ⟨o, q1, q2, q3⟩ := id h1
    have hne : a ≠ s₁.heap.objs.size := fun z => by rw [z, q1] at h2; cases h2; cases q3
    refine (turn _ i _ s h' hx hJ ⟨o, _, q1, q3, rfl⟩ h2 u (let ⟨o, e, _⟩ := i'; ⟨o, e⟩)).mono fun _ s₂ z => z.mono fun f s₃ z => ?_
    obtain ⟨z1, z2, z3, z4⟩ := z
    refine ⟨z1, ⟨?_, ?_, ?_⟩, z2⟩
    · obtain ⟨o', e1, e2⟩ := i'; exact ⟨o', z4.trans e1, e2⟩
    · exact z3.trans (u.get (by simpa using hne) h2)
    · obtain ⟨o', e1, e2⟩ := i'; exact Heap.lt_size (z4.trans e1)
  · obtain ⟨h1, h2, h3⟩ := hI
    obtain ⟨h', g', d', t', os'⟩ := s
    obtain ⟨o, q1, q2, q3⟩ := id h1
    refine list_end hh h1 (lobj_list h2) (by simp) fun h'' u => ⟨rfl, ?_⟩
    exact fin _ _ h'' hJ ⟨o, _, q1, q3, rfl⟩ h2 u

theorem x_for_str {x : Str} {px pos : Pos} {iter : Expr} {body rest : List Stmt} {y : Str} {tk : Tok} {Q : Flow → Shared → Prop} (hh : A.handled = none) (hy : y.cps.all (· < 128) = true) (J : Nat → Nat → Shared → Prop)
    (hs : ∀ y, foldedSetIterable iter env y = pure y)
    (k : W w A (eval iter env) (fun v s₁ => v = .str y tk ∧
      (∀ it h', s₁.heap.objs.size ≤ it → Up [] s₁.heap h' → it < h'.objs.size → J it 0 { s₁ with heap := h' }) ) s)
    (turn : ∀ it i c tk' s' h' t', y.cps[i]? = some c → J it i s' → (∃ o vs, s'.heap.get? it = some o ∧ o.data = .fields vs ∧ vs[1]? = some (.int i 0)) → Up [it] s'.heap h' → (∃ o, h'.get? it = some o) →
      W w A (storeName env x (.str ⟨#[c]⟩ tk')) (fun _ s₂ => W w A (execs body env) (fun f s₃ => f = .next ∧ J it (i + 1) s₃ ∧ s₃.heap.get? it = h'.get? it) s₂) { s' with heap := h', toks := t' })
    (fin : ∀ it s' h', J it y.cps.size s' → (∃ o vs, s'.heap.get? it = some o ∧ o.data = .fields vs ∧ vs[1]? = some (.int y.cps.size 0)) → Up [it] s'.heap h' → W w A (execs rest env) Q { s' with heap := h' }) :
    W w A (execs (.For (.Name x px) iter body [] pos :: rest) env) Q s := by
  refine x_seq ⟨wpAny_For (k.to fun v s₁ z => ?_) hs⟩
  obtain ⟨rfl, z⟩ := z
  refine wpAny_pyIter_ascii hy ?_
  have lt : s₁.heap.objs.size < (s₁.heap.push { cls := .type "str_ascii_iterator", data := .fields #[.str y tk, .int 0 0] }).objs.size := by rw [Heap.size_push]; exact Nat.lt_succ_self _
  refine for_core (n := y.cps.size) (It := fun i h => h.IsStrIter s₁.heap.objs.size "str_ascii_iterator" y tk i ∧ s₁.heap.objs.size < h.objs.size) (J := J s₁.heap.objs.size) (fun i s hi hI hJ => ?_) (fun s hI hJ => ?_)
    ⟨⟨_, Heap.get?_push_size _ rfl, rfl, rfl⟩, lt⟩ (z _ _ (Nat.le_refl _) (Up.push _ _) lt)
  · obtain ⟨h1, h3⟩ := hI
    have hx : y.cps[i]? = some y.cps[i] := Array.getElem?_eq_getElem hi
    refine wpAny_pyNext_ascii_item h1 hx fun h' i' sb => ⟨_, rfl, ?_⟩
    have u := Up.same sb
    obtain ⟨o, q1, q2, q3⟩ := id h1
    refine (turn _ i _ _ s h' _ hx hJ ⟨o, _, q1, q3, rfl⟩ u (let ⟨o, e, _⟩ := i'; ⟨o, e⟩)).mono fun _ s₂ z => z.mono fun f s₃ z => ?_
    obtain ⟨z1, z2, z4⟩ := z
    refine ⟨z1, ⟨?_, ?_⟩, z2⟩
    · obtain ⟨o', e1, e2⟩ := i'; exact ⟨o', z4.trans e1, e2⟩
    · obtain ⟨o', e1, e2⟩ := i'; exact Heap.lt_size (z4.trans e1)
  · obtain ⟨h1, h3⟩ := hI
    obtain ⟨h', g', d', t', os'⟩ := s
    obtain ⟨o, q1, q2, q3⟩ := id h1
    refine str_end hh h1 (by simp) fun h'' u => ⟨rfl, ?_⟩
    exact fin _ _ h'' hJ ⟨o, _, q1, q3, rfl⟩ u
end
end Mine
end

/- part M14 -/
section
open PySem PySem.Calls PySem.Spec PyProof.Rows PySem.W Builtin Builtin.ObjectAttr Builtin.Getset_descriptor
namespace Mine

theorem ns1_empty {h : Heap} {b : Addr} (e : h.get? b = some emptyDict) : h.Ns1 b (fun _ => none) :=
  Heap.Ns1.of_empty ⟨_, #[], 0, e, rfl, fun e he => absurd he (by simp), fun _ => rfl⟩

structure Book (h : Heap) (lo gr b : Nat) (l : List (Nat × Nat)) (fz : Bool) : Prop where
  bk : Bk h gr b l
  dict : ∃ m, h.Ns1 b m ∧ (∀ y : Str, y ≠ "_frozen" → m y = none) ∧ (if fz = true then ∃ lam, m "_frozen" = some (.ref lam) ∧ Lam lo lam b h else m "_frozen" = none)
  lob : lo ≤ b

section
variable {w : World} {A : Around} {h : Heap} {g : Array GenState} {d : Drawn} {t : Nat} {os : OsState} {s : Shared} {env : Env}

theorem Tab.wr {D : AD} {X : List Nat} {h' : Heap} (Tb : Tab h) (u : Up X h h') (wr : Wr D X h) (n : 50 ∉ X) : Tab h' := by
  obtain ⟨ps, e, ok, c⟩ := Tb
  refine ⟨ps, u.get n e, ok, ?_⟩
  rcases c with c | ⟨c, e1, e2⟩
  · exact .inl c
  · exact .inr ⟨c, e1, code_wr e2 u wr⟩
theorem Wr.tab {D : AD} {n : Nat} (G : Gro w D n h) (Tb : Tab h) : Wr D [50] h := fun b q => by
  rw [List.mem_singleton.mp q]
  obtain ⟨ps, e, ok, c⟩ := Tb
  obtain ⟨q1, q2, q3⟩ := G.obj e (by simp) (by simp)
  have key : ∀ q t, ps[1]? ≠ some (Value.str q t) := fun q t => by
    have := triples_no_str ok q t
    rwa [Array.getElem?_toList] at this
  exact ⟨.inr rfl, q1, q2, q3, fun o e' => by rw [e] at e'; cases e'; exact key⟩
theorem Lam.wr {D : AD} {X : List Nat} {h' : Heap} {lam b : Nat} (L : Lam D.lo lam b h) (u : Up X h h') (wr : Wr D X h) : Lam D.lo lam b h' := by
  obtain ⟨cell, pm, cc, ctv, e1, e2, e3, e4⟩ := L.fn
  refine ⟨cell, pm, cc, ctv, u.get (fun z => (wr _ z).2.2.2.2 _ e1) e1, u.cell (fun z => ?_) e2, code_wr e3 u wr, e4⟩
  obtain ⟨o, q1, q2⟩ := e2
  have := (wr _ z).2.2.2.2 _ q1
  rw [q2] at this
  exact absurd this (Nat.not_lt.mpr e4)
theorem Bk.up {X : List Nat} {h' : Heap} {gr b : Nat} {l : List (Nat × Nat)} (K : Bk h gr b l) (u : Up X h h') (n : b + 1 ∉ X) : Bk h' gr b l := let ⟨es, k, e, E⟩ := K; ⟨es, k, u.get n e, E⟩
theorem Book.wr {D : AD} {X : List Nat} {h' : Heap} {b : Nat} {l : List (Nat × Nat)} {fz : Bool} (K : Book h D.lo D.gr b l fz) (u : Up X h h') (wr : Wr D X h) (n1 : b ∉ X) (n2 : b + 1 ∉ X) : Book h' D.lo D.gr b l fz := by
  obtain ⟨m, e1, e2, e3⟩ := K.dict
  refine ⟨K.bk.up u n2, ⟨m, e1.at fun o e => u.get n1 e, e2, ?_⟩, K.lob⟩
  cases fz with
  | false => exact e3
  | true =>
    obtain ⟨lam, f1, f2⟩ := e3
    exact ⟨lam, f1, f2.wr u wr⟩
theorem Book.bk' {D : AD} {X : List Nat} {h' : Heap} {b : Nat} {l l' : List (Nat × Nat)} {fz : Bool} (K : Book h D.lo D.gr b l fz) (u : Up X h h') (wr : Wr D X h) (n1 : b ∉ X) (k : Bk h' D.gr b l') : Book h' D.lo D.gr b l' fz := by
  obtain ⟨m, e1, e2, e3⟩ := K.dict
  refine ⟨k, ⟨m, e1.at fun o e => u.get n1 e, e2, ?_⟩, K.lob⟩
  cases fz with
  | false => exact e3
  | true =>
    obtain ⟨lam, f1, f2⟩ := e3
    exact ⟨lam, f1, f2.wr u wr⟩
theorem Book.new {lo gr b : Nat} (e1 : h.get? (b + 1) = some (bobj #[] 0 b gr)) (e2 : h.get? b = some emptyDict) (l : lo ≤ b) : Book h lo gr b [] false :=
  ⟨⟨_, _, e1, trivial⟩, ⟨_, ns1_empty e2, fun _ _ => rfl, rfl⟩, l⟩
theorem Book.wrb {D : AD} {n b : Nat} {l : List (Nat × Nat)} {fz : Bool} (G : Gro w D n h) (B : Base w h) (K : Book h D.lo D.gr b l fz) : Wr D [b + 1] h := by
  obtain ⟨es, k, e, E⟩ := K.bk
  refine Wr.dict G e rfl ?_
  have := G.bd.1; have := K.lob; omega
theorem Book.wrd {D : AD} {n b : Nat} {l : List (Nat × Nat)} {fz : Bool} (G : Gro w D n h) (K : Book h D.lo D.gr b l fz) : Wr D [b] h := by
  obtain ⟨m, e1, e2, e3⟩ := K.dict
  refine Wr.ns G e1.ns ?_
  have := G.bd.1; have := K.lob; omega

/-- book[letter] -/
theorem sub_spec {D : AD} {N b c : Nat} {l : List (Nat × Nat)} {fz : Bool} {tk : Tok} {x y : Str} {p q : Pos} {Q : Value → Shared → Prop} (B : Base w h) (G : Gro w D N h) (hN : N < 10000) (K : Book h D.lo D.gr b l fz) (hz : l.length < 1000) (hA : A.depth + 2 < recursionLimit) (hh : A.handled = none)
    (hit : ∀ p t', (l.find? fun p => c == p.1) = some p → Q (.ref (p.2 + 1)) (St h g d t' os))
    (miss : (l.find? fun p => c == p.1) = none → fz = false → ∀ v h' t', Book h' D.lo D.gr v [] false → Book h' D.lo D.gr b (l ++ [(c, v)]) false → h.objs.size ≤ v → Up [D.lr, b + 1] h h' → Gro w D (N + 1) h' → Q (.ref (v + 1)) (St h' g d t' os))
    (frz : (l.find? fun p => c == p.1) = none → fz = true → ∀ v h' t', Book h' D.lo D.gr v [] false → h.objs.size ≤ v → Up [D.lr] h h' → Gro w D (N + 1) h' → Q (.ref (v + 1)) (St h' g d t' os)) :
    W w A (subscriptTail (.Name x p) (.Name y q) (.ref (b + 1)) (.str (T [c]) tk)) Q (St h g d t os) := by
  have h8 : 108 ≤ b := by have := G.bd.1; have := K.lob; omega
  refine bk_sub B h8 K.bk hit fun hno t' => ?_
  obtain ⟨es, n, hx, E⟩ := id K.bk
  obtain ⟨m, e1, e2, e3⟩ := id K.dict
  have hlo : D.lo ≤ h.objs.size := by have := K.lob; have := Heap.lt_size hx; exact Nat.le_trans K.lob (Nat.le_of_lt (Nat.lt_of_succ_lt this))
  refine missing_walk (A := A.in1) B hx h8 (show A.depth < recursionLimit by omega) fun A' bm h1 t1 tk1 dA dH u1 eb => ?_
  have B1 := B.keep u1
  have G1 := G.wr u1 .nil (by simp)
  have K1 : Book h1 D.lo D.gr b l fz := K.wr u1 .nil (by simp) (by simp)
  have dA' : A'.depth = A.depth + 1 := dA
  have dH' : A'.handled = none := dH.trans hh
  have hx1 := u1.keep _ _ hx
  refine getattr_spec B1 hx1 (u1.ns (by simp) e1.ns) dH' (fun v hv => ?_) fun h2 t2 u2 => ?_
  · cases fz with
    | false => rw [if_neg (by simp)] at e3; rw [e3] at hv; cases hv
    | true =>
      rw [if_pos rfl] at e3
      obtain ⟨lam, f1, _⟩ := e3
      rw [f1] at hv; cases hv; rfl
  · have B2 := B1.keep u2
    have G2 := G1.wr u2 .nil (by simp)
    have K2 : Book h2 D.lo D.gr b l fz := K1.wr u2 .nil (by simp) (by simp)
    have U2 := u1.step0 u2
    have hx2 := u2.keep _ _ hx1
    refine ⟨u2, ?_⟩
    cases fz with
    | false =>
      rw [if_neg (by simp)] at e3
      rw [e3]
      refine ⟨keep_bm (u2.keep _ _ eb), ?_⟩
      refine ddm_spec B2 G2 hN h8 hx2 E hz hno (u2.keep _ _ eb) (by omega) fun v h3 t3 a1 a2 a3 a4 a5 a6 => ?_
      have wr : Wr D [D.lr, b + 1] h2 := Wr.cons G2.lrw (K2.wrb G2 B2)
      have nb : b ∉ [D.lr, b + 1] := by
        intro z
        rcases List.mem_cons.mp z with z | z
        · obtain ⟨xs, k, er, _⟩ := G.runs
          obtain ⟨o, es', ep', eo, dd, _⟩ := e1
          rw [← z, eo] at er; cases er; cases dd
        · simp at z
      have sz := Nat.le_trans U2.1 a3
      exact miss hno rfl v h3 t3 (.new a1 a2 (Nat.le_trans hlo sz)) (K2.bk' a5 wr nb a4) sz ((Up.mono U2 (by simp)).step a5 (fun a ha => .inl ha)) (G2.wr' a5 wr a6)
    | true =>
      rw [if_pos rfl] at e3
      obtain ⟨lam, f1, f2⟩ := e3
      rw [f1]
      have L2 : Lam D.lo lam b h2 := f2.wr U2 .nil
      obtain ⟨cell, pm, cc, ctv, q1, _⟩ := id L2.fn
      refine ⟨keep_fn q1 rfl, ?_⟩
      refine lam_call B2 G2 hN L2 hx2 (u2.ns (by simp) (u1.ns (by simp) e1.ns)) (by omega) fun v h3 t3 a1 a2 a3 a4 a5 => ?_
      have sz := Nat.le_trans U2.1 a3
      exact frz hno rfl v h3 t3 (.new a1 a2 (Nat.le_trans hlo sz)) sz ((Up.mono U2 (by simp)).step a4 (fun a ha => .inl ha)) (G2.wr' a4 G2.lrw a5)
end
end Mine
end

/- part M15 -/
section
open PySem PySem.Calls PySem.Spec PyProof.Rows PySem.W Builtin Builtin.ObjectAttr Builtin.Getset_descriptor
namespace Mine

theorem ref_loop (self : Value) : refuseLoop self "__setattr__" [.type "collections.defaultdict", .type "dict", .type "object"] = pure () := by kernel_rfl

section
variable {w : World} {A : Around} {h : Heap} {g : Array GenState} {d : Drawn} {t : Nat} {os : OsState} {s : Shared} {env : Env}

theorem set_frozen (B : Base w h) {gr b n : Nat} {es : Array DictEntry} {m : Str → Option Value} (hx : h.get? (b + 1) = some (bobj es n b gr)) (hN : h.Ns1 b m) (hm : ∀ y : Str, y ≠ "_frozen" → m y = none) {v : Value} {Q : Unit → Shared → Prop}
    (q : ∀ h' t', h'.Ns1 b (fun y => if y = "_frozen" then some v else m y) → Up [b] h h' → Q () (St h' g d t' os)) :
    wpAny (model PW w) A (setAttr (.ref (b + 1)) "_frozen" v) Q NoE (St h g d t os) := by
  obtain ⟨od, es', ep', hod, r⟩ := id hN
  have I : InstAt h (b + 1) (bobj es n b gr) 58 (some od) := ⟨hx, rfl, rfl, hod⟩
  have tx : Looks (model PW w) h (typeOf (.ref (b + 1))) (.ref 58) := type_bk hx
  obtain ⟨cd, sl, hC, hc, hmro, c1, c2, c3, c4⟩ := c58 B
  have SF := PySem.F.store_object
  have hM : Looks (model PW w) h (mroOf (.ref 58)) cd.mro := (looks_clsIn B.K hc).andThen .now
  have lt : Looks (model PW w) h (typeLookup (.ref 58) "_frozen") none := looks_findIn B.K (by kernel_rfl)
  refine set_plain (s := St h g d t os) B.K I (by kernel_rfl) ?_
  refine codeAny_call_builtin SF.slot.plain SF.entry (@check_slot (model PW w) _ _ _ "object.__setattr__" "object" "__setattr__" (.ref (b + 1)) [.str "_frozen" t, v] [] _ SF.kind SF.split (tx.andThen (sub58 B _)) (SF.args (.ref (b + 1)) (.str "_frozen" t) v) ?_)
  rw [osa_eq, refuse_eq]
  refine wpAny_bind (wpAny_bind (tx.at (wpAny_bind (hM.at ?_))))
  rw [hmro, refuseLoop_ref, ref_loop]
  refine wpAny_pure (wpAny_bind (tx.at (wpAny_bind (lt.at ?_))))
  refine wpAny_bind (wpAny_of_eq (a := (none : Option Value)) rfl ?_)
  dsimp only
  unfold storeInOwnDict
  refine wpAny_bind (wpAny_of_eq (a := ()) rfl ?_)
  rw [if_neg (by simp)]
  refine wpAny_bind ?_
  unfold ownDictForStores
  dsimp only
  unfold instanceDict
  refine wpAny_bind (wpAny_loadPart hx ?_)
  dsimp only
  refine wpAny_bind (((looks_clsIn (M := model PW w) B.K hc)).at ?_)
  rw [c3]
  rw [if_neg (by simp)]
  refine wpAny_pure ?_
  dsimp only
  unfold storeInDict newKeyGuard
  refine wpAny_bind (wpAny_pure (wpAny_bind (wpAny_nsSet1 hN fun h' hn' hs => ?_)))
  obtain ⟨oD, esD, epD, hoD, hdD, hcD⟩ := hn'.count (ns := ["_frozen"]) (fun y hy => by
    by_cases z : y = "_frozen"
    · simp [z]
    · rw [if_neg z, hm y z] at hy; exact absurd rfl hy)
  refine wpAny_bind (wpAny_lookBehind hoD (by rw [hdD]; exact pastItsLine_dict (Nat.le_trans hcD (by rw [sizeLine_eq]; decide))) ?_)
  exact wpAny_pure (q h' _ hn' (Up.same hs))

theorem freeze_spec {D : AD} {N b : Nat} {l : List (Nat × Nat)} {fz : Bool} (B : Base w h) (G : Gro w D N h) (Tb : Tab h) (K : Book h D.lo D.gr b l fz) (hA : A.depth < recursionLimit) {Q : Value → Shared → Prop}
    (q : ∀ h' t', Book h' D.lo D.gr b l true → Tab h' → Up [b, 50] h h' → Gro w D N h' → Q .none (St h' g d t' os)) :
    W w A (call (.ref 55) [.ref (b + 1)]) Q (St h g d t os) := by
  refine fn_cells 55 [("self", .ref (b + 1))] B hA rfl rfl (by kernel_rfl) rfl rfl rfl (fun n => rfl) rfl rfl rfl fun env h₁ t₁ he I u eL lt => ?_
  have k0 : env.scope.kind = .function := by rw [he]; rfl
  have k1 : env.kindOf "self" = some .cell := by rw [he]; kernel_rfl
  have k2 : env.cells.lookup (Str.ofString "self") = some (h.objs.size + 1) := by rw [he]; rfl
  have k3 : closureFor lamScope env = pure [(Str.ofString "self", h.objs.size + 1)] := by rw [he]; rfl
  have k4 : env.globals = mainGlobals := by rw [he]; rfl
  have k5 : env.code = .ref 54 := by rw [he]; rfl
  have k6 : env.qual ++ Str.ofString "<lambda>" = lamQual := by rw [he]; kernel_rfl
  have k7 : swapsWith (.Lambda lamParams lamBody lamScope ⟨9, 23, 9, 57⟩) (some (.Attribute (.Name "self" ⟨9, 8, 9, 12⟩) "_frozen" ⟨9, 8, 9, 20⟩)) 9 env = pure false := by rfl
  have c1 : h₁.IsCell (h.objs.size + 1) (some (.ref (b + 1))) := by
    have := I.cell "self" _ k2
    have e : bindC env.kindOf [(Str.ofString "self", Value.ref (b + 1))] (fun _ => none) "self" = some (.ref (b + 1)) := by
      show (if env.kindOf (Str.ofString "self") = some .local then (fun _ => none) else upd (fun _ => none) (Str.ofString "self") (Value.ref (b + 1))) (Str.ofString "self") = _
      rw [k1, if_neg (by simp)]
      exact here
    rw [e] at this
    exact this
  clear he I
  generalize A.deeper env = A'
  have B1 := B.keep u
  have G1 := G.wr u .nil (by simp)
  have T1 := Tb.wr u (Wr.nil (D := D)) (by simp)
  have K1 : Book h₁ D.lo D.gr b l fz := K.wr u .nil (by simp) (by simp)
  have hlo : D.lo ≤ h.objs.size + 1 := by
    obtain ⟨es, n, e, E⟩ := K.bk
    exact Nat.le_trans K.lob (Nat.le_succ_of_le (Nat.le_of_lt (Nat.lt_of_succ_lt (Heap.lt_size e))))
  refine x_seq ⟨plainObj_wpAny_Assign_Attribute ?_ k7⟩
  refine (mk_lam B1 T1 k3 k4 k5 k6 c1 hlo fun lam h2 t2 L2 u2 T2 => ?_ : W w A' _ _ _).run
  have wr2 : Wr D [50] h₁ := Wr.tab G1 T1
  have n50 : D.lr ∉ [50] := by have := G.bd.1; simp; omega
  have B2 := B1.wr u2 wr2
  have G2 := G1.wr u2 wr2 n50
  have lob := K.lob
  have lb := G.bd.1
  have K2 : Book h2 D.lo D.gr b l fz := K1.wr u2 wr2 (by simp; omega) (by simp; omega)
  have c2 := u2.cell (by have := B.size; simp; omega) c1
  refine (n_cell c2 k0 k1 k2 ?_ : W w A' _ _ _).run
  obtain ⟨es, n, hx, E⟩ := id K2.bk
  obtain ⟨m, e1, e2, e3⟩ := id K2.dict
  refine set_frozen B2 hx e1 e2 fun h3 t3 n3 u3 => ?_
  refine x_nil ?_
  have wr3 : Wr D [b] h2 := K2.wrd G2
  have hb3 : b + 1 ∉ [b] := by simp
  have nlr : D.lr ∉ [b] := by simp; omega
  refine q h3 t3 ⟨K2.bk.up u3 hb3, ⟨_, n3, fun y hy => by rw [if_neg hy]; exact e2 y hy, ?_⟩, lob⟩ (T2.wr u3 wr3 (by simp; omega)) ?_ (G2.wr u3 wr3 nlr)
  · rw [if_pos rfl]
    exact ⟨lam, if_pos rfl, L2.wr u3 wr3⟩
  · exact ((Up.mono u (by simp)).step (Up.mono u2 (by simp)) (fun a ha => .inl ha)).step (Up.mono u3 (by simp)) (fun a ha => .inl ha)
end
end Mine
end

/- part M16 -/
section
open PySem PySem.Calls PySem.Spec PyProof.Rows PySem.W Builtin Builtin.ObjectAttr Builtin.Getset_descriptor
namespace Mine

abbrev Wd := List Nat
def kids (kp : List Wd) (p : Wd) : List Nat := (kp.filter fun q => q.dropLast == p).map fun q => q.getLastD 0
def Inn (kp : List Wd) (p : Wd) : Prop := p = [] ∨ p ∈ kp
structure Okw (kp fz : List Wd) : Prop where
  nd : kp.Nodup
  ne : ∀ p ∈ kp, p ≠ []
  pre : ∀ p ∈ kp, Inn kp p.dropLast
  len : ∀ p ∈ kp, p.length ≤ 4
  fz : ∀ p ∈ fz, Inn kp p

theorem snoc_of {p : Wd} (h : p ≠ []) : p.dropLast ++ [p.getLastD 0] = p := by
  rcases List.eq_nil_or_concat p with rfl | ⟨a, b, rfl⟩
  · exact absurd rfl h
  · simp
theorem kids_mem {kp fz : List Wd} (ok : Okw kp fz) {p : Wd} {c : Nat} : c ∈ kids kp p ↔ p ++ [c] ∈ kp := by
  unfold kids
  rw [List.mem_map]
  constructor
  · rintro ⟨q, hq, rfl⟩
    rw [List.mem_filter] at hq
    rw [← beq_iff_eq.mp hq.2, snoc_of (ok.ne _ hq.1)]
    exact hq.1
  · intro h
    exact ⟨p ++ [c], List.mem_filter.mpr ⟨h, by simp⟩, by simp⟩
theorem kids_push (kp : List Wd) (p q : Wd) (c : Nat) : kids (kp ++ [p ++ [c]]) q = if q = p then kids kp p ++ [c] else kids kp q := by
  unfold kids
  rw [List.filter_append, List.map_append]
  by_cases h : q = p
  · subst h; simp
  · rw [if_neg h]
    have : ((p ++ [c]).dropLast == q) = false := by simp [beq_eq_false_iff_ne]; exact fun z => h z.symm
    rw [List.filter_cons, this]
    simp
theorem kids_len (kp : List Wd) (p : Wd) : (kids kp p).length ≤ kp.length := by
  unfold kids
  rw [List.length_map]
  exact List.length_filter_le _ _
theorem find_map (adr : Wd → Nat) (p : Wd) (c : Nat) : ∀ l : List Nat, ((l.map fun c => (c, adr (p ++ [c]))).find? fun q => c == q.1) = if c ∈ l then some (c, adr (p ++ [c])) else none
  | [] => by simp
  | a :: l => by
    rw [List.map_cons, List.find?_cons]
    by_cases h : c = a
    · subst h; simp
    · have : (c == (a, adr (p ++ [a])).1) = false := beq_eq_false_iff_ne.mpr h
      rw [this, find_map adr p c l]
      simp [h]
theorem find_kids {kp fz : List Wd} (ok : Okw kp fz) (adr : Wd → Nat) (p : Wd) (c : Nat) :
    (((kids kp p).map fun c => (c, adr (p ++ [c]))).find? fun q => c == q.1) = if p ++ [c] ∈ kp then some (c, adr (p ++ [c])) else none := by
  rw [find_map]
  by_cases h : p ++ [c] ∈ kp
  · rw [if_pos h, if_pos ((kids_mem ok).mpr h)]
  · rw [if_neg h, if_neg (fun z => h ((kids_mem ok).mp z))]

structure Tree (h : Heap) (D : AD) (kp fz : List Wd) (adr : Wd → Nat) : Prop where
  book : ∀ p, Inn kp p → Book h D.lo D.gr (adr p) ((kids kp p).map fun c => (c, adr (p ++ [c]))) (decide (p ∈ fz))
  inj : ∀ p q, Inn kp p → Inn kp q → adr p = adr q → p = q
  gap : ∀ p q, Inn kp p → Inn kp q → adr p ≠ adr q + 1

theorem Inn.push {kp : List Wd} {p q : Wd} (h : Inn kp p) : Inn (kp ++ [q]) p := h.imp id (fun z => List.mem_append_left _ z)
theorem Okw.push {kp fz : List Wd} (ok : Okw kp fz) {p : Wd} {c : Nat} (hp : Inn kp p) (hn : p ++ [c] ∉ kp) (hl : p.length < 4) : Okw (kp ++ [p ++ [c]]) fz where
  nd := List.nodup_append.mpr ⟨ok.nd, by simp, fun a ha b hb => by rw [List.mem_singleton.mp hb]; exact fun z => hn (z ▸ ha)⟩
  ne := fun q hq => by
    rcases List.mem_append.mp hq with hq | hq
    · exact ok.ne q hq
    · rw [List.mem_singleton.mp hq]; simp
  pre := fun q hq => by
    rcases List.mem_append.mp hq with hq | hq
    · exact (ok.pre q hq).push
    · rw [List.mem_singleton.mp hq, List.dropLast_concat]; exact hp.push
  len := fun q hq => by
    rcases List.mem_append.mp hq with hq | hq
    · exact ok.len q hq
    · rw [List.mem_singleton.mp hq]; simp; omega
  fz := fun q hq => (ok.fz q hq).push

section
variable {w : World} {A : Around} {h : Heap} {g : Array GenState} {d : Drawn} {t : Nat} {os : OsState} {s : Shared} {env : Env}

theorem Tree.lt {D : AD} {kp fz : List Wd} {adr : Wd → Nat} (T : Tree h D kp fz adr) {p : Wd} (hp : Inn kp p) : adr p + 1 < h.objs.size :=
  let ⟨_, _, e, _⟩ := (T.book p hp).bk; Heap.lt_size e
theorem Tree.wr {D : AD} {X : List Nat} {h' : Heap} {kp fz : List Wd} {adr : Wd → Nat} (T : Tree h D kp fz adr) (u : Up X h h') (wr : Wr D X h) (n : ∀ p, Inn kp p → adr p ∉ X ∧ adr p + 1 ∉ X) : Tree h' D kp fz adr :=
  ⟨fun p hp => (T.book p hp).wr u wr (n p hp).1 (n p hp).2, T.inj, T.gap⟩
theorem Tree.lo {D : AD} {kp fz : List Wd} {adr : Wd → Nat} (T : Tree h D kp fz adr) {p : Wd} (hp : Inn kp p) : D.lo ≤ adr p := (T.book p hp).lob

theorem tree_step {D : AD} {N c : Nat} {kp fz : List Wd} {adr : Wd → Nat} {p : Wd} {tk : Tok} {x y : Str} {p1 p2 : Pos} {Q : Value → Shared → Prop} (B : Base w h) (G : Gro w D N h) (hN : N < 10000) (T : Tree h D kp fz adr) (ok : Okw kp fz) (hp : Inn kp p) (hz : kp.length < 1000) (hA : A.depth + 2 < recursionLimit) (hh : A.handled = none)
    (old : p ++ [c] ∈ kp → ∀ t', Q (.ref (adr (p ++ [c]) + 1)) (St h g d t' os))
    (new : p ++ [c] ∉ kp → p ∉ fz → ∀ v h' t', Tree h' D (kp ++ [p ++ [c]]) fz (fun q => if q = p ++ [c] then v else adr q) → Gro w D (N + 1) h' → h.objs.size ≤ v → Up [D.lr, adr p + 1] h h' → Q (.ref (v + 1)) (St h' g d t' os))
    (det : p ++ [c] ∉ kp → p ∈ fz → ∀ v h' t', Tree h' D kp fz adr → Book h' D.lo D.gr v [] false → Gro w D (N + 1) h' → h.objs.size ≤ v → Up [D.lr] h h' → Q (.ref (v + 1)) (St h' g d t' os)) :
    W w A (subscriptTail (.Name x p1) (.Name y p2) (.ref (adr p + 1)) (.str (Mine.T [c]) tk)) Q (St h g d t os) := by
  have lb := G.bd.1
  have fk := find_kids ok adr p c
  refine sub_spec B G hN (T.book p hp) (by rw [List.length_map]; exact Nat.lt_of_le_of_lt (kids_len kp p) hz) hA hh (fun q t' hq => ?_) (fun hno hf v h' t' K1 K2 sz u G' => ?_) (fun hno hf v h' t' K1 sz u G' => ?_)
  · rw [fk] at hq
    by_cases z : p ++ [c] ∈ kp
    · rw [if_pos z] at hq; cases hq; exact old z t'
    · rw [if_neg z] at hq; cases hq
  · have z : p ++ [c] ∉ kp := fun z => by rw [fk, if_pos z] at hno; cases hno
    have hf' : p ∉ fz := of_decide_eq_false hf
    have wr : Wr D [D.lr, adr p + 1] h := Wr.cons G.lrw ((T.book p hp).wrb G B)
    refine new z hf' v h' t' ⟨fun q hq => ?_, fun q r hq hr e => ?_, fun q r hq hr => ?_⟩ G' sz u
    · have hpc : Inn (kp ++ [p ++ [c]]) q → q ≠ p ++ [c] → Inn kp q := fun a b => a.imp id fun a => by
        rcases List.mem_append.mp a with a | a
        · exact a
        · exact absurd (List.mem_singleton.mp a) b
      have same : ∀ q, (kids kp q).map (fun e => (e, if q ++ [e] = p ++ [c] then v else adr (q ++ [e]))) = (kids kp q).map fun e => (e, adr (q ++ [e])) := fun q => List.map_congr_left fun e he => by
        rw [if_neg (fun (y : q ++ [e] = p ++ [c]) => z (y ▸ (kids_mem ok).mp he))]
      by_cases e1 : q = p ++ [c]
      · subst e1
        have nk : kids (kp ++ [p ++ [c]]) (p ++ [c]) = [] := by
          rw [kids_push, if_neg (by simp)]
          cases hk : kids kp (p ++ [c]) with
          | nil => rfl
          | cons e r =>
            have : e ∈ kids kp (p ++ [c]) := by rw [hk]; exact .head _
            have := ok.pre _ ((kids_mem ok).mp this)
            rw [List.dropLast_concat] at this
            rcases this with y | y
            · simp at y
            · exact absurd y z
        have nf : decide (p ++ [c] ∈ fz) = false := decide_eq_false fun y => by
          rcases ok.fz _ y with y | y
          · simp at y
          · exact z y
        rw [nk, nf, if_pos rfl]
        exact K1
      · rw [if_neg e1]
        have hq' := hpc hq e1
        rw [kids_push]
        by_cases e2 : q = p
        · subst e2
          rw [if_pos rfl, List.map_append, same]
          rw [hf]
          simpa using K2
        · rw [if_neg e2, same]
          refine (T.book q hq').wr u wr ?_ ?_
          · have := T.lo hq'; have := T.gap q p hq' hp; simp; omega
          · have := T.lo hq'; have ne : adr q ≠ adr p := fun y => e2 (T.inj q p hq' hp y); simp; omega
    · have cs : ∀ q, Inn (kp ++ [p ++ [c]]) q → q = p ++ [c] ∨ (q ≠ p ++ [c] ∧ Inn kp q) := fun q hq => by
        by_cases e1 : q = p ++ [c]
        · exact .inl e1
        · refine .inr ⟨e1, hq.imp id fun a => ?_⟩
          rcases List.mem_append.mp a with a | a
          · exact a
          · exact absurd (List.mem_singleton.mp a) e1
      rcases cs q hq with a | ⟨a, a'⟩ <;> rcases cs r hr with b | ⟨b, b'⟩
      · rw [a, b]
      · rw [if_pos a, if_neg b] at e
        have := T.lt b'; omega
      · rw [if_neg a, if_pos b] at e
        have := T.lt a'; omega
      · rw [if_neg a, if_neg b] at e
        exact T.inj q r a' b' e
    · have cs : ∀ q, Inn (kp ++ [p ++ [c]]) q → q = p ++ [c] ∨ (q ≠ p ++ [c] ∧ Inn kp q) := fun q hq => by
        by_cases e1 : q = p ++ [c]
        · exact .inl e1
        · refine .inr ⟨e1, hq.imp id fun a => ?_⟩
          rcases List.mem_append.mp a with a | a
          · exact a
          · exact absurd (List.mem_singleton.mp a) e1
      rcases cs q hq with a | ⟨a, a'⟩ <;> rcases cs r hr with b | ⟨b, b'⟩
      · rw [if_pos a, if_pos b]; omega
      · rw [if_pos a, if_neg b]
        have := T.lt b'; omega
      · rw [if_neg a, if_pos b]
        have := T.lt a'; omega
      · rw [if_neg a, if_neg b]
        exact T.gap q r a' b'
  · have z : p ++ [c] ∉ kp := fun z => by rw [fk, if_pos z] at hno; cases hno
    have hf' : p ∈ fz := of_decide_eq_true hf
    refine det z hf' v h' t' (T.wr u G.lrw fun q hq => ?_) K1 G' sz u
    have := T.lo hq
    simp; omega

/-- a book off the tree -/
structure Det (h : Heap) (D : AD) (kp : List Wd) (adr : Wd → Nat) (b : Nat) : Prop where
  book : Book h D.lo D.gr b [] false
  off : ∀ p, Inn kp p → b ≠ adr p ∧ b ≠ adr p + 1 ∧ b + 1 ≠ adr p
theorem det_step {D : AD} {N c b : Nat} {kp fz : List Wd} {adr : Wd → Nat} {tk : Tok} {x y : Str} {p1 p2 : Pos} {Q : Value → Shared → Prop} (B : Base w h) (G : Gro w D N h) (hN : N < 10000) (T : Tree h D kp fz adr) (K : Det h D kp adr b) (hA : A.depth + 2 < recursionLimit) (hh : A.handled = none)
    (q : ∀ v h' t', Tree h' D kp fz adr → Det h' D kp adr v → Gro w D (N + 1) h' → h.objs.size ≤ v → Up [D.lr, b + 1] h h' → Q (.ref (v + 1)) (St h' g d t' os)) :
    W w A (subscriptTail (.Name x p1) (.Name y p2) (.ref (b + 1)) (.str (Mine.T [c]) tk)) Q (St h g d t os) := by
  have lb := G.bd.1
  refine sub_spec B G hN K.book (by decide) hA hh (fun q t' hq => nomatch hq) (fun hno hf v h' t' K1 K2 sz u G' => ?_) (fun hno hf => nomatch hf)
  have wr : Wr D [D.lr, b + 1] h := Wr.cons G.lrw (K.book.wrb G B)
  refine q v h' t' (T.wr u wr fun p hp => ?_) ⟨K1, fun p hp => ?_⟩ G' sz u
  · have := T.lo hp; have := K.off p hp; simp; omega
  · have := T.lt hp; omega
end
end Mine
end

/- part M17 -/
section
open PySem PySem.Calls PySem.Spec PyProof.Rows PySem.W Builtin Builtin.ObjectAttr Builtin.Getset_descriptor
namespace Mine

/-- what a call below may write: the runs, the tables and dicts that are not the caller's -/
def Kp (D : AD) (h h' : Heap) : Prop := h.objs.size ≤ h'.objs.size ∧ ∀ a o, h.get? a = some o → a ≠ D.lr → a ≠ 50 → (a < D.lo ∨ ∀ es n, o.data ≠ .dict es n) → h'.get? a = some o
theorem Kp.refl {D : AD} {h : Heap} : Kp D h h := ⟨Nat.le_refl _, fun _ _ e _ _ _ => e⟩
theorem Kp.trans {D : AD} {h h' h'' : Heap} (x : Kp D h h') (y : Kp D h' h'') : Kp D h h'' := ⟨Nat.le_trans x.1 y.1, fun a o e n1 n2 k => y.2 a o (x.2 a o e n1 n2 k) n1 n2 k⟩
theorem Kp.step {D : AD} {X : List Nat} {h h' h'' : Heap} (x : Kp D h h') (u : Up X h' h'') (c : ∀ a ∈ X, a = D.lr ∨ a = 50 ∨ h.objs.size ≤ a ∨ (D.lo ≤ a ∧ ∃ o es n, h'.get? a = some o ∧ o.data = .dict es n)) : Kp D h h'' := by
  refine ⟨Nat.le_trans x.1 u.1, fun a o e n1 n2 k => ?_⟩
  have e' := x.2 a o e n1 n2 k
  refine u.get (fun z => ?_) e'
  rcases c a z with y | y | y | ⟨y, o', es, n, y1, y2⟩
  · exact n1 y
  · exact n2 y
  · exact absurd (Heap.lt_size e) (Nat.not_lt.mpr y)
  · rw [e'] at y1; cases y1
    rcases k with k | k
    · exact absurd k (Nat.not_lt.mpr y)
    · exact k _ _ y2
theorem Kp.up {D : AD} {h h' h'' : Heap} (x : Kp D h h') (u : Up [] h' h'') : Kp D h h'' := x.step u (by simp)

def ext (kp : List Wd) (wd : Wd) (k i : Nat) : List Wd := kp ++ (List.range (i - k)).map fun j => wd.take (k + 1 + j)
theorem ext_le {kp : List Wd} {wd : Wd} {k i : Nat} (h : i ≤ k) : ext kp wd k i = kp := by unfold ext; rw [Nat.sub_eq_zero_of_le h]; simp
theorem ext_succ {kp : List Wd} {wd : Wd} {k i : Nat} (h : k ≤ i) : ext kp wd k (i + 1) = ext kp wd k i ++ [wd.take (i + 1)] := by
  unfold ext
  rw [Nat.succ_sub h, List.range_succ, List.map_append, List.append_assoc]
  simp
  congr 1; omega
theorem ext_mem {kp : List Wd} {wd : Wd} {k i : Nat} {p : Wd} : p ∈ ext kp wd k i ↔ p ∈ kp ∨ ∃ j, k < j ∧ j ≤ i ∧ p = wd.take j := by
  unfold ext
  rw [List.mem_append, List.mem_map]
  refine or_congr Iff.rfl ⟨?_, ?_⟩
  · rintro ⟨j, hj, rfl⟩
    exact ⟨k + 1 + j, by omega, by have := List.mem_range.mp hj; omega, rfl⟩
  · rintro ⟨j, h1, h2, rfl⟩
    exact ⟨j - (k + 1), List.mem_range.mpr (by omega), by congr 1; omega⟩

theorem take_snoc {wd : Wd} {i c : Nat} (h : wd[i]? = some c) : wd.take (i + 1) = wd.take i ++ [c] := by
  rw [List.take_add_one, h]; rfl

/-- the walk down, i letters in -/
def DSt (h : Heap) (D : AD) (kp fz : List Wd) (r0 : Nat) (wd : Wd) (k L i b : Nat) : Prop := ∃ adr', adr' [] = r0 ∧
  (((i ≤ k ∨ wd.take k ∉ fz) ∧ Tree h D (ext kp wd k i) fz adr' ∧ b = adr' (wd.take i) ∧ Okw (ext kp wd k i) fz ∧ ∀ p, Inn (ext kp wd k i) p → adr' p ≠ L ∧ adr' p + 1 ≠ L)
  ∨ (k < i ∧ wd.take k ∈ fz ∧ Tree h D kp fz adr' ∧ Det h D kp adr' b ∧ (b ≠ L ∧ b + 1 ≠ L) ∧ ∀ p, Inn kp p → adr' p ≠ L ∧ adr' p + 1 ≠ L))
/-- behind the walk -/
def Down (h : Heap) (D : AD) (kp fz : List Wd) (r0 : Nat) (wd : Wd) (k b : Nat) : Prop := ∃ adr', adr' [] = r0 ∧
  (((wd.length = k ∨ wd.take k ∉ fz) ∧ Tree h D (ext kp wd k wd.length) fz adr' ∧ b = adr' wd ∧ Okw (ext kp wd k wd.length) fz)
  ∨ (k < wd.length ∧ wd.take k ∈ fz ∧ Tree h D kp fz adr' ∧ Det h D kp adr' b))

section
variable {w : World} {A : Around} {h : Heap} {g : Array GenState} {d : Drawn} {t : Nat} {os : OsState} {s : Shared} {env : Env}

theorem Book.ne {lo gr b a : Nat} {l : List (Nat × Nat)} {fz : Bool} {o : Obj} (K : Book h lo gr b l fz) (e : h.get? a = some o) (nd : ∀ es n, o.data ≠ .dict es n) : b ≠ a ∧ b + 1 ≠ a := by
  obtain ⟨es, k, e1, _⟩ := K.bk
  obtain ⟨m, ⟨o2, es2, ep2, e2, d2, _⟩, _⟩ := K.dict
  refine ⟨fun z => ?_, fun z => ?_⟩
  · rw [z, e] at e2; cases e2; exact nd _ _ d2
  · rw [z, e] at e1; cases e1; exact nd _ _ rfl
theorem Tree.step1 {D : AD} {a : Nat} {h' : Heap} {kp fz : List Wd} {adr : Wd → Nat} (T : Tree h D kp fz adr) (u : Up [a] h h') (wr : Wr D [a] h) (n : ∀ p, Inn kp p → adr p ≠ a ∧ adr p + 1 ≠ a) : Tree h' D kp fz adr :=
  T.wr u wr fun p hp => by have := n p hp; simp; exact this
theorem Tree.ne {D : AD} {a : Nat} {o : Obj} {kp fz : List Wd} {adr : Wd → Nat} (T : Tree h D kp fz adr) (e : h.get? a = some o) (nd : ∀ es n, o.data ≠ .dict es n) : ∀ p, Inn kp p → adr p ≠ a ∧ adr p + 1 ≠ a := fun p hp => (T.book p hp).ne e nd
theorem Det.step1 {D : AD} {a b : Nat} {h' : Heap} {kp : List Wd} {adr : Wd → Nat} (K : Det h D kp adr b) (u : Up [a] h h') (wr : Wr D [a] h) (n : b ≠ a ∧ b + 1 ≠ a) : Det h' D kp adr b :=
  ⟨K.book.wr u wr (by simpa using n.1) (by simpa using n.2), K.off⟩
theorem DSt.it {D : AD} {kp fz : List Wd} {r0 k L i b a : Nat} {wd : Wd} {o : Obj} {h' : Heap} (x : DSt h D kp fz r0 wd k L i b) (u : Up [a] h h') (wr : Wr D [a] h) (e : h.get? a = some o) (nd : ∀ es n, o.data ≠ .dict es n) : DSt h' D kp fz r0 wd k L i b := by
  obtain ⟨adr', h0, x | x⟩ := x
  · obtain ⟨x1, x2, x3, x4, x5⟩ := x
    exact ⟨adr', h0, .inl ⟨x1, x2.step1 u wr (x2.ne e nd), x3, x4, x5⟩⟩
  · obtain ⟨x1, x2, x3, x4, x5, x6⟩ := x
    exact ⟨adr', h0, .inr ⟨x1, x2, x3.step1 u wr (x3.ne e nd), x4.step1 u wr (x4.book.ne e nd), x5, x6⟩⟩
theorem DSt.loc {D : AD} {kp fz : List Wd} {r0 k L i b : Nat} {wd : Wd} {h' : Heap} (x : DSt h D kp fz r0 wd k L i b) (u : Up [L] h h') (wr : Wr D [L] h) : DSt h' D kp fz r0 wd k L i b := by
  obtain ⟨adr', h0, x | x⟩ := x
  · obtain ⟨x1, x2, x3, x4, x5⟩ := x
    exact ⟨adr', h0, .inl ⟨x1, x2.step1 u wr x5, x3, x4, x5⟩⟩
  · obtain ⟨x1, x2, x3, x4, x5, x6⟩ := x
    exact ⟨adr', h0, .inr ⟨x1, x2, x3.step1 u wr x6, x4.step1 u wr x5, x5, x6⟩⟩

/-- the records of the loop in _law_down -/
structure DJ (w : World) (D : AD) (N : Nat) (kp fz : List Wd) (r0 : Nat) (wd : Wd) (k L : Nat) (h0 : Heap) (i b : Nat) (h : Heap) : Prop where
  B : Base w h
  Tb : Tab h
  G : Gro w D (N + (i - k)) h
  kpp : Kp D h0 h
  lt : L < h.objs.size
  st : DSt h D kp fz r0 wd k L i b

theorem down_turn {D : AD} {N k L i b c r0 : Nat} {kp fz : List Wd} {wd : Wd} {h0 : Heap} {tk : Tok} {x y : Str} {p1 p2 : Pos} {Q : Value → Shared → Prop} (J : DJ w D N kp fz r0 wd k L h0 i b h) (hc : wd[i]? = some c) (hw : wd.length ≤ 4) (hN : N < 9000) (ok0 : Okw kp fz) (hkw : k ≤ wd.length)
    (hin : ∀ j, j ≤ k → Inn kp (wd.take j)) (hout : ∀ j, k < j → j ≤ wd.length → wd.take j ∉ kp) (hz : kp.length < 900) (hA : A.depth + 2 < recursionLimit) (hh : A.handled = none)
    (q : ∀ v h' t', DJ w D N kp fz r0 wd k L h0 (i + 1) v h' → Up [D.lr, b + 1] h h' → Q (.ref (v + 1)) (St h' g d t' os)) :
    W w A (subscriptTail (.Name x p1) (.Name y p2) (.ref (b + 1)) (.str (Mine.T [c]) tk)) Q (St h g d t os) := by
  obtain ⟨B, Tb, G, kpp, lt, adr, hr0, st⟩ := J
  have hi : i < wd.length := (List.getElem?_eq_some_iff.mp hc).1
  have ts := take_snoc hc
  have lb := G.bd.1
  have extl : (ext kp wd k i).length < 1000 := by unfold ext; rw [List.length_append, List.length_map, List.length_range]; omega
  have l50 : 50 ∉ [D.lr] := by simp; omega
  have dk : ∀ {b : Nat} {l : List (Nat × Nat)} {fz : Bool}, Book h D.lo D.gr b l fz → D.lo ≤ b + 1 ∧ ∃ o es n, h.get? (b + 1) = some o ∧ o.data = .dict es n := fun K => ⟨Nat.le_succ_of_le K.lob, let ⟨es, n, e, _⟩ := K.bk; ⟨_, es, n, e, rfl⟩⟩
  have kp2 : ∀ {b v : Nat} {l : List (Nat × Nat)} {fz : Bool} {h' : Heap}, Book h D.lo D.gr b l fz → Up [D.lr, b + 1] h h' → Kp D h0 h' := fun K u => kpp.step u fun a ha => by
    rcases List.mem_cons.mp ha with rfl | ha
    · exact .inl rfl
    · rw [List.mem_singleton.mp ha]; exact .inr (.inr (.inr (dk K)))
  rcases st with ⟨x1, T, rfl, ok, off⟩ | ⟨x1, x2, T, K, off, offs⟩
  · have hp : Inn (ext kp wd k i) (wd.take i) := by
      by_cases z : i ≤ k
      · rw [ext_le z]; exact hin i z
      · exact .inr (ext_mem.mpr (.inr ⟨i, by omega, Nat.le_refl _, rfl⟩))
    have hfr : wd.take i ∈ fz → i ≤ k := fun z => by
      by_cases y : i ≤ k
      · exact y
      · rcases ok0.fz _ z with e | e
        · have := congrArg List.length e; simp only [List.length_take, List.length_nil] at this; omega
        · exact absurd e (hout i (by omega) (by omega))
    have hne : wd.take i ++ [c] ∉ ext kp wd k i → k ≤ i := fun z => by
      by_cases y : k ≤ i
      · exact y
      · have := hin (i + 1) (by omega)
        rcases this with e | e
        · have := congrArg List.length e; simp only [List.length_take, List.length_nil] at this; omega
        · rw [ts] at e; exact absurd (ext_mem.mpr (.inl e)) z
    refine tree_step B G (by omega) T ok hp extl hA hh (fun z t' => ?_) (fun z hf v h' t' T' G' sz u => ?_) (fun z hf v h' t' T' K' G' sz u => ?_)
    · have hik : i + 1 ≤ k := by
        by_cases y : i + 1 ≤ k
        · exact y
        · rcases ext_mem.mp z with e | ⟨j, j1, j2, e⟩
          · rw [← ts] at e; exact absurd e (hout (i + 1) (by omega) (by omega))
          · have := congrArg List.length e; simp only [List.length_append, List.length_take, List.length_cons, List.length_nil] at this; omega
      have e1 : ext kp wd k (i + 1) = ext kp wd k i := by rw [ext_le hik, ext_le (by omega)]
      refine q _ h t' ⟨B, Tb, by rw [show N + (i + 1 - k) = N + (i - k) by omega]; exact G, kpp, lt, adr, hr0, .inl ⟨.inl hik, by rw [e1]; exact T, by rw [ts], by rw [e1]; exact ok, by rw [e1]; exact off⟩⟩ ((Up.refl [] h).mono (by simp))
    · have hk := hne z
      have e1 := ext_succ (kp := kp) (wd := wd) hk
      rw [ts] at e1
      have wr : Wr D [D.lr, adr (wd.take i) + 1] h := Wr.cons G.lrw ((T.book _ hp).wrb G B)
      have lo := T.lo hp
      refine q v h' t' ⟨B.wr u wr, Tb.wr u wr (by simp; omega), by rw [show N + (i + 1 - k) = N + (i - k) + 1 by omega]; exact G', kp2 (v := v) (T.book _ hp) u, Nat.lt_of_lt_of_le lt u.1, (fun q => if q = wd.take i ++ [c] then v else adr q), ?_, .inl ⟨?_, ?_, ?_, ?_, ?_⟩⟩ u
      · exact (if_neg (by simp)).trans hr0
      · by_cases y : i = k
        · subst y; exact .inr hf
        · exact .inr (x1.resolve_left (by omega))
      · rw [e1]; exact T'
      · rw [ts]; exact (if_pos rfl).symm
      · rw [e1]; exact ok.push hp z (by rw [List.length_take]; omega)
      · intro p hp'
        rw [e1] at hp'
        dsimp only
        by_cases y : p = wd.take i ++ [c]
        · rw [if_pos y]; omega
        · rw [if_neg y]
          refine off p (hp'.imp id fun a => ?_)
          rcases List.mem_append.mp a with a | a
          · exact a
          · exact absurd (List.mem_singleton.mp a) y
    · have hk := hne z
      have hik : i = k := by have := hfr hf; omega
      subst hik
      have wr : Wr D [D.lr] h := G.lrw
      rw [ext_le (Nat.le_refl _)] at T' off
      refine q v h' t' ⟨B.wr u wr, Tb.wr u wr l50, by rw [show N + (i + 1 - i) = N + (i - i) + 1 by omega]; exact G', kpp.step u (by simp), Nat.lt_of_lt_of_le lt u.1, adr, hr0, .inr ⟨by omega, hf, T', ⟨K', fun p hp => ?_⟩, by omega, off⟩⟩ (Up.mono u (by simp))
      rw [ext_le (Nat.le_refl _)] at T
      have := T.lt hp
      omega
  · have wr : Wr D [D.lr, b + 1] h := Wr.cons G.lrw (K.book.wrb G B)
    have lo := K.book.lob
    refine det_step B G (by omega) T K hA hh fun v h' t' T' K' G' sz u => ?_
    exact q v h' t' ⟨B.wr u wr, Tb.wr u wr (by simp; omega), by rw [show N + (i + 1 - k) = N + (i - k) + 1 by omega]; exact G', kp2 (v := v) K.book u, Nat.lt_of_lt_of_le lt u.1, adr, hr0, .inr ⟨by omega, x2, T', K', by omega, offs⟩⟩ u
end
end Mine
end

/- part M18 -/
section
open PySem PySem.Calls PySem.Spec PyProof.Rows PySem.W Builtin Builtin.ObjectAttr Builtin.Getset_descriptor
namespace Mine

section
variable {w : World} {A : Around} {h : Heap} {g : Array GenState} {d : Drawn} {t : Nat} {os : OsState} {s : Shared} {env : Env}

theorem nin {a b : Nat} (h : a ≠ b) : a ∉ [b] := fun z => h (List.mem_singleton.mp z)
theorem nin2 {a b c : Nat} (h : a ≠ b) (h' : a ≠ c) : a ∉ [b, c] := fun z => (List.mem_cons.mp z).elim h fun z => h' (List.mem_singleton.mp z)
theorem ascii_T {wd : Wd} (h : ∀ c ∈ wd, c < 128) : (Mine.T wd).cps.all (· < 128) = true := by
  simp only [List.all_toArray, List.all_eq_true, decide_eq_true_eq]
  exact h

theorem down_spec {D : AD} {N k : Nat} {kp fz : List Wd} {wd : Wd} {tk : Tok} {adr : Wd → Nat} {Q : Value → Shared → Prop} (B : Base w h) (Tb : Tab h) (G : Gro w D N h) (T : Tree h D kp fz adr) (ok : Okw kp fz)
    (has : ∀ c ∈ wd, c < 128) (hw : wd.length ≤ 4) (hN : N < 9000) (hkw : k ≤ wd.length)
    (hin : ∀ j, j ≤ k → Inn kp (wd.take j)) (hout : ∀ j, k < j → j ≤ wd.length → wd.take j ∉ kp) (hz : kp.length < 900) (hA : A.depth + 3 < recursionLimit) (hh : A.handled = none)
    (q : ∀ b h' t', Down h' D kp fz (adr []) wd k b → Base w h' → Tab h' → Gro w D (N + (wd.length - k)) h' → Kp D h h' → Q (.ref (b + 1)) (St h' g d t' os)) :
    W w A (call (.ref 76) [.ref (adr [] + 1), .str (Mine.T wd) tk]) Q (St h g d t os) := by
  refine fn_call 76 [("book", .ref (adr [] + 1)), ("word", .str (Mine.T wd) tk)] B (by omega) rfl rfl (by kernel_rfl) rfl rfl rfl rfl rfl rfl rfl fun env h₁ he N1 u eL lt => ?_
  have k0 : env.scope.kind = .function := by rw [he]; rfl
  have k1 : env.kindOf "book" = some .local := by rw [he]; kernel_rfl
  have k2 : env.kindOf "word" = some .local := by rw [he]; kernel_rfl
  have k3 : env.kindOf "letter" = some .local := by rw [he]; kernel_rfl
  have dA : (A.deeper env).depth = A.depth + 1 := rfl
  have dH : (A.deeper env).handled = none := hh
  clear he
  generalize A.deeper env = A' at dA dH
  dsimp only [List.foldl] at N1
  have hi0 : Inn kp [] := .inl rfl
  have B1 := B.keep u
  have G1 := G.wr u .nil (by simp)
  have T1 := Tb.wr u (Wr.nil (D := D)) (by simp)
  have Tr1 := T.wr u .nil (by simp)
  have lL : @LT.lt Nat _ env.locals h₁.objs.size := by rw [eL]; exact lt
  have hL8 : @LE.le Nat _ 108 env.locals := by rw [eL]; exact B.size
  have hloL : @LE.le Nat _ D.lo env.locals := by rw [eL]; exact Nat.le_trans (T.lo hi0) (Nat.le_of_lt (Nat.lt_of_succ_lt (T.lt hi0)))
  have off0 : ∀ p, Inn kp p → adr p ≠ env.locals ∧ adr p + 1 ≠ env.locals := fun p hp => by have := T.lt hp; rw [eL]; have e : (St h g d t os).heap.objs.size = h.objs.size := rfl; omega
  have lbd := G.bd.1
  have nlrL : D.lr ∉ [env.locals] := by simp; omega
  refine x_for_str (y := Mine.T wd) (tk := tk) dH (ascii_T has) (fun it i s => ∃ h' t' b m, s = St h' g d t' os ∧ DJ w D N kp fz (adr []) wd k env.locals h i b h' ∧ h'.Ns env.locals m ∧ m "book" = some (.ref (b + 1)) ∧ @LT.lt Nat _ env.locals it ∧ @LE.le Nat _ h.objs.size it) (fun _ => rfl)
    (n_loc N1 k0 k2 here ⟨rfl, fun it h2 hit u2 lt2 => ?_⟩) (fun it i c tk' s' h2 t2 hc J hit u2 lt2 => ?_) (fun it s' h2 J hit u2 => ?_)
  · have U := u.step0 u2
    refine ⟨h2, _, adr [], _, rfl, ⟨B1.keep u2, T1.wr u2 (Wr.nil (D := D)) (by simp), by rw [Nat.zero_sub]; exact G1.wr u2 .nil (by simp), Kp.refl.up U, Nat.lt_of_lt_of_le lL u2.1, adr, rfl, .inl ⟨.inl (Nat.zero_le _), ?_, rfl, ?_, ?_⟩⟩, u2.ns (by simp) N1, skip (by decide +kernel) here, Nat.lt_of_lt_of_le lL hit, Nat.le_trans u.1 hit⟩
    · rw [ext_le (Nat.zero_le _)]; exact Tr1.wr u2 .nil (by simp)
    · rw [ext_le (Nat.zero_le _)]; exact ok
    · rw [ext_le (Nat.zero_le _)]; exact off0
  · obtain ⟨h3, t3, b, m, rfl, J, NL, mb, l1, l2⟩ := J
    obtain ⟨o, vs, e1, e2, e3⟩ := hit
    have hc' : wd[i]? = some c := by simpa using hc
    have wri : Wr D [it] h3 := Wr.it J.G e1 e2 e3 (by omega)
    have n50 : 50 ∉ [it] := by simp; omega
    have nlr : D.lr ∉ [it] := by simp; omega
    have nL : env.locals ∉ [it] := nin (Nat.ne_of_lt l1)
    have J2 : DJ w D N kp fz (adr []) wd k env.locals h i b h2 := ⟨J.B.wr u2 wri, J.Tb.wr u2 wri n50, J.G.wr u2 wri nlr, J.kpp.step u2 (fun a ha => .inr (.inr (.inl (by rw [List.mem_singleton.mp ha]; exact l2)))), Nat.lt_of_lt_of_le J.lt u2.1, J.st.it u2 wri e1 (by simp [e2])⟩
    refine s_loc (u2.ns nL NL) k0 k3 fun h4 N4 u4 => ?_
    have wr4 : Wr D [env.locals] h2 := Wr.ns J2.G (u2.ns nL NL) hL8
    have J4 : DJ w D N kp fz (adr []) wd k env.locals h i b h4 := ⟨J2.B.wr u4 wr4, J2.Tb.wr u4 wr4 (by simp; omega), J2.G.wr u4 wr4 nlrL, J2.kpp.step u4 (by simp [eL]), Nat.lt_of_lt_of_le J2.lt u4.1, J2.st.loc u4 wr4⟩
    refine x_assign rfl (e_sub (n_loc N4 k0 k1 (skip (by decide +kernel) mb) (n_loc N4 k0 k3 here ?_)))
    refine down_turn J4 hc' hw hN ok hkw hin hout hz (by omega) dH fun v h5 t5 J5 u5 => ?_
    have bL : b + 1 ≠ env.locals ∧ D.lr ≠ env.locals := by
      refine ⟨?_, by omega⟩
      obtain ⟨adr', q0, q | q⟩ := J4.st
      · have hp : Inn (ext kp wd k i) (wd.take i) := by
          by_cases z : i ≤ k
          · rw [ext_le z]; exact hin i z
          · exact .inr (ext_mem.mpr (.inr ⟨i, by omega, Nat.le_refl _, rfl⟩))
        rw [q.2.2.1]; exact (q.2.2.2.2 _ hp).2
      · exact q.2.2.2.2.1.2
    have N5 := u5.ns (nin2 bL.2.symm bL.1.symm) N4
    refine s_loc N5 k0 k1 fun h6 N6 u6 => ?_
    have wr6 : Wr D [env.locals] h5 := Wr.ns J5.G N5 hL8
    refine x_nil ⟨rfl, ⟨h6, _, v, _, rfl, ⟨J5.B.wr u6 wr6, J5.Tb.wr u6 wr6 (by simp; omega), J5.G.wr u6 wr6 nlrL, J5.kpp.step u6 (by simp [eL]), Nat.lt_of_lt_of_le J5.lt u6.1, J5.st.loc u6 wr6⟩, N6, here, l1, l2⟩, ?_⟩
    have bi : b + 1 ≠ it := by
      obtain ⟨adr', q0, q | q⟩ := J.st
      · have hp : Inn (ext kp wd k i) (wd.take i) := by
          by_cases z : i ≤ k
          · rw [ext_le z]; exact hin i z
          · exact .inr (ext_mem.mpr (.inr ⟨i, by omega, Nat.le_refl _, rfl⟩))
        rw [q.2.2.1]; exact (q.2.1.ne e1 (by simp [e2]) _ hp).2
      · exact (q.2.2.2.1.book.ne e1 (by simp [e2])).2
    obtain ⟨oi, ei⟩ := lt2
    have e4 := u4.get (nin (Nat.ne_of_gt l1)) ei
    have e5 := u5.get (nin2 (by omega) bi.symm) e4
    have e6 := u6.get (nin (Nat.ne_of_gt l1)) e5
    exact e6.trans ei.symm
  · obtain ⟨h3, t3, b, m, rfl, J, NL, mb, l1, l2⟩ := J
    obtain ⟨o, vs, e1, e2, e3⟩ := hit
    have wri : Wr D [it] h3 := Wr.it J.G e1 e2 e3 (by omega)
    have sz : (Mine.T wd).cps.size = wd.length := by simp
    rw [sz] at J
    refine x_ret (n_loc (u2.ns (nin (Nat.ne_of_lt l1)) NL) k0 k1 mb ?_)
    refine q b h2 _ ?_ (J.B.wr u2 wri) (J.Tb.wr u2 wri (by simp; omega)) (J.G.wr u2 wri (by simp; omega)) (J.kpp.step u2 (fun a ha => .inr (.inr (.inl (by rw [List.mem_singleton.mp ha]; exact l2)))))
    obtain ⟨adr', q0, q | q⟩ := J.st.it u2 wri e1 (by simp [e2])
    · refine ⟨adr', q0, .inl ⟨q.1.imp (fun z => by omega) id, q.2.1, ?_, q.2.2.2.1⟩⟩
      rw [q.2.2.1, List.take_length]
    · exact ⟨adr', q0, .inr ⟨q.1, q.2.1, q.2.2.1, q.2.2.2.1⟩⟩
end
end Mine
end

/- part M19 -/
section
open PySem PySem.Calls PySem.Spec PyProof.Rows PySem.W Builtin Builtin.ObjectAttr Builtin.Getset_descriptor
namespace Mine

theorem range_pick (w : List Nat) : ∀ m, m ≤ w.length → (List.range m).filterMap (w[·]?) = w.take m
  | 0, _ => by simp
  | m + 1, h => by
    rw [List.range_succ, List.filterMap_append, range_pick w m (by omega), List.take_add_one]
    congr 1
theorem slice_core (w : List Nat) (u : Int) (m : Nat) (hm : m ≤ w.length) (h : Builtin.Str.strSliceIndices none (some u) 1 w.length = List.range m) : Txt.slice (Mine.T w) none (some u) = Mine.T (w.take m) := by
  unfold Txt.slice
  have e : (Mine.T w).length = w.length := by show w.toArray.size = _; simp
  rw [e, h, List.length_range]
  by_cases q : m = w.length
  · rw [if_pos (by simp [q]), q, List.take_length]
  · rw [if_neg (by simp [q])]
    show (⟨((List.range m).filterMap (w.toArray[·]?)).toArray⟩ : Str) = _
    have : ((List.range m).filterMap (w.toArray[·]?)) = w.take m := by
      rw [← range_pick w m hm]
      congr 1
      funext i; simp
    rw [this]
theorem sliceRange_one (a : Int) (h : 0 ≤ a) : sliceRange 0 a 1 = List.range a.toNat := by
  unfold sliceRange
  simp only [show (1 : Int) > 0 by decide, if_true]
  by_cases q : (0 : Int) < a
  · rw [if_pos q]
    have : ((a - 0 + 1 - 1) / 1).toNat = a.toNat := by rw [Int.ediv_one]; congr 1; omega
    rw [this]
    conv => rhs; rw [← List.map_id (List.range a.toNat)]
    apply List.map_congr_left
    intro k _
    simp
  · rw [if_neg q]
    have : a = 0 := by omega
    subst this
    rfl
theorem slice_take (w : List Nat) (j : Nat) : Txt.slice (Mine.T w) none (some (j : Int)) = Mine.T (w.take j) := by
  by_cases q : j ≤ w.length
  · refine slice_core w j j q ?_
    unfold Builtin.Str.strSliceIndices
    simp only [show (1 : Int) > 0 by decide, if_true]
    rw [if_neg (by omega), sliceRange_one _ (by omega)]
    congr 1; omega
  · rw [slice_core w j w.length (Nat.le_refl _) ?_, List.take_length, List.take_of_length_le (by omega)]
    unfold Builtin.Str.strSliceIndices
    simp only [show (1 : Int) > 0 by decide, if_true]
    rw [if_neg (by omega), sliceRange_one _ (by omega)]
    congr 1; omega
theorem slice_neg (w : List Nat) : Txt.slice (Mine.T w) none (some (-1)) = Mine.T w.dropLast := by
  rw [List.dropLast_eq_take]
  refine slice_core w (-1) (w.length - 1) (by omega) ?_
  unfold Builtin.Str.strSliceIndices
  simp only [show (1 : Int) > 0 by decide, if_true]
  rw [if_pos (by decide), sliceRange_one _ (by omega)]
  congr 1; omega

def stemK (kp : List Wd) (wd : Wd) : Nat → Nat
  | 0 => 0
  | n + 1 => if wd.take (n + 1) ∈ kp then n + 1 else stemK kp wd n
theorem stemK_le (kp : List Wd) (wd : Wd) : ∀ n, stemK kp wd n ≤ n
  | 0 => Nat.le_refl _
  | n + 1 => by
    unfold stemK
    by_cases q : wd.take (n + 1) ∈ kp
    · rw [if_pos q]; exact Nat.le_refl _
    · rw [if_neg q]; exact Nat.le_succ_of_le (stemK_le kp wd n)
theorem stemK_in (kp : List Wd) (wd : Wd) : ∀ n, Inn kp (wd.take (stemK kp wd n))
  | 0 => .inl (by simp [stemK])
  | n + 1 => by
    unfold stemK
    by_cases q : wd.take (n + 1) ∈ kp
    · rw [if_pos q]; exact .inr q
    · rw [if_neg q]; exact stemK_in kp wd n
theorem stemK_out (kp : List Wd) (wd : Wd) : ∀ n j, stemK kp wd n < j → j ≤ n → wd.take j ∉ kp
  | 0, j, h, h' => by omega
  | n + 1, j, h, h' => by
    unfold stemK at h
    by_cases q : wd.take (n + 1) ∈ kp
    · rw [if_pos q] at h; omega
    · rw [if_neg q] at h
      by_cases e : j = n + 1
      · subst e; exact q
      · exact stemK_out kp wd n j h (by omega)
theorem inn_take {kp fz : List Wd} (ok : Okw kp fz) {p : Wd} : ∀ n, Inn kp (p.take (p.length - n)) ∨ ¬ Inn kp p
  | 0 => by by_cases q : Inn kp p; exact .inl (by rwa [Nat.sub_zero, List.take_length]); exact .inr q
  | n + 1 => by
    rcases inn_take ok (p := p) n with h | h
    · refine .inl ?_
      rcases h with h | h
      · refine .inl ?_
        have := congrArg List.length h
        simp only [List.length_take, List.length_nil] at this
        have : p.length - (n + 1) = 0 := by omega
        rw [this]; simp
      · have := ok.pre _ h
        rw [List.dropLast_eq_take, List.take_take, List.length_take] at this
        have e : min (min (p.length - n) p.length - 1) (p.length - n) = p.length - (n + 1) := by omega
        rwa [e] at this
    · exact .inr h
theorem inn_pre {kp fz : List Wd} (ok : Okw kp fz) {p : Wd} (h : Inn kp p) (j : Nat) : Inn kp (p.take j) := by
  by_cases q : j ≤ p.length
  · rcases inn_take ok (p := p) (p.length - j) with z | z
    · rwa [show p.length - (p.length - j) = j by omega] at z
    · exact absurd h z
  · rw [List.take_of_length_le (by omega)]; exact h
theorem stemK_all {kp fz : List Wd} (ok : Okw kp fz) (wd : Wd) {j : Nat} (h : j ≤ stemK kp wd wd.length) : Inn kp (wd.take j) := by
  have := inn_pre ok (stemK_in kp wd wd.length) j
  rwa [List.take_take, Nat.min_eq_left h] at this
end Mine
end

/- part M20 -/
section
open PySem PySem.Calls PySem.Spec PyProof.Rows PySem.W Builtin Builtin.ObjectAttr Builtin.Getset_descriptor
namespace Mine

/-- a list of words -/
def Strs (h : Heap) (a : Addr) (ws : List Wd) : Prop := ∃ vs n, h.get? a = some (lobj vs.toArray n) ∧ StrsAre vs (ws.map Mine.T)
theorem Strs.up {X : List Nat} {h h' : Heap} {a : Nat} {ws : List Wd} (x : Strs h a ws) (u : Up X h h') (n : a ∉ X) : Strs h' a ws := let ⟨vs, k, e, z⟩ := x; ⟨vs, k, u.get n e, z⟩
theorem Strs.kp {D : AD} {h h' : Heap} {a : Nat} {ws : List Wd} (x : Strs h a ws) (u : Kp D h h') (n : a ≠ D.lr) (n5 : a ≠ 50) : Strs h' a ws := let ⟨vs, k, e, z⟩ := x; ⟨vs, k, u.2 _ _ e n n5 (.inr (by simp)), z⟩

section
variable {w : World} {A : Around} {h : Heap} {g : Array GenState} {d : Drawn} {t : Nat} {os : OsState} {s : Shared} {env : Env}

theorem e_neg {e : Expr} {pos : Pos} {Q : Value → Shared → Prop} (k : W w A (eval e env) (fun v s₁ => W w A (unaryOp .USub v) Q s₁) s) : W w A (eval (.UnaryOp .USub e pos) env) Q s := ⟨wpAny_UnaryOp (k.to fun _ _ k => k.run)⟩
theorem i_neg {a : Int} {ta : Tok} {Q : Value → Shared → Prop} (k : Q (.int (-a) t) (St h g d (t + 1) os)) : W w A (unaryOp .USub (.int a ta)) Q (St h g d t os) := ⟨neg_int k⟩
theorem x_while {test : Expr} {body rest : List Stmt} {pos : Pos} {Q : Flow → Shared → Prop} (I : Nat → Shared → Prop) (n : Nat) (h0 : I n s)
    (turn : ∀ n s, I n s → W w A (isTrue test env (eval test env)) (fun b s₂ => if b = true then W w A (execs body env) (fun f s₃ => f = .next ∧ ∃ m, m < n ∧ I m s₃) s₂ else W w A (execs rest env) Q s₂) s) :
    W w A (execs (.While test body [] pos :: rest) env) Q s := by
  refine x_seq ⟨wpAny_While (codeAny_whileLoop I (fun n s hI => (turn n s hI).toE fun b s₂ z => ?_) n h0)⟩
  cases b with
  | true =>
    rw [if_pos rfl] at z ⊢
    refine z.toE fun f s₃ y => ?_
    obtain ⟨rfl, y⟩ := y
    exact y
  | false =>
    rw [if_neg (by simp)] at z ⊢
    exact wpAny_execs_nil z
theorem c_ne {x y : Str} {tx ty : Tok} {Q : Value → Shared → Prop} (k : Q (.bool (x.cps.toList != y.cps.toList)) s) : W w A (compareOp .NotEq (.str x tx) (.str y ty)) Q s := ⟨P.ne_str k⟩
theorem c_notin {a : Addr} {ws : List Wd} {p : Wd} {tk : Tok} {Q : Value → Shared → Prop} (S : Strs s.heap a ws) (k : Q (.bool (decide (p ∉ ws))) s) : W w A (compareOp .NotIn (.str (Mine.T p) tk) (.ref a)) Q s := by
  obtain ⟨vs, n, e, z⟩ := S
  refine ⟨notin_list_strs (lobj_list e) z ?_⟩
  have : ((ws.map Mine.T).any (· == Mine.T p)) = decide (p ∈ ws) := by
    rw [Bool.eq_iff_iff, List.any_eq_true, decide_eq_true_iff]
    constructor
    · rintro ⟨x, hx, hp⟩
      obtain ⟨q, hq, rfl⟩ := List.mem_map.mp hx
      have : q = p := by
        have := congrArg (fun s : Str => s.cps.toList) (beq_iff_eq.mp hp)
        simpa using this
      exact this ▸ hq
    · intro hp
      exact ⟨_, List.mem_map_of_mem hp, by simp⟩
  rw [this]
  by_cases q : p ∈ ws <;> simpa [q] using k

theorem stem_spec {a : Nat} {kp : List Wd} {wd : Wd} {tk : Tok} {Q : Value → Shared → Prop} (B : Base w h) (S : Strs h a kp) (hw : wd.length ≤ 4) (hA : A.depth < recursionLimit) (hh : A.handled = none)
    (q : ∀ tk' h' t', Up [] h h' → Q (.str (Mine.T (wd.take (stemK kp wd wd.length))) tk') (St h' g d t' os)) :
    W w A (call (.ref 83) [.ref a, .str (Mine.T wd) tk]) Q (St h g d t os) := by
  refine fn_call 83 [("kept", .ref a), ("word", .str (Mine.T wd) tk)] B hA rfl rfl (by kernel_rfl) rfl rfl rfl rfl rfl rfl rfl fun env h₁ he N1 u eL lt => ?_
  have k0 : env.scope.kind = .function := by rw [he]; rfl
  have k1 : env.kindOf "kept" = some .local := by rw [he]; kernel_rfl
  have k2 : env.kindOf "word" = some .local := by rw [he]; kernel_rfl
  have k3 : env.kindOf "stem" = some .local := by rw [he]; kernel_rfl
  clear he
  generalize A.deeper env = A'
  dsimp only [List.foldl] at N1
  obtain ⟨vs, n, ea, za⟩ := id S
  have lL : @LT.lt Nat _ env.locals h₁.objs.size := by rw [eL]; exact lt
  have aL : a ≠ env.locals := by rw [eL]; exact Nat.ne_of_lt (Heap.lt_size ea)
  refine x_assign rfl (n_loc N1 k0 k2 here ?_)
  refine s_loc N1 k0 k3 fun h2 N2 u2 => ?_
  have U2 := u.step1 u2 (Nat.le_of_eq eL.symm)
  refine x_while (fun i s => ∃ h' t' tk' m, s = St h' g d t' os ∧ h'.Ns env.locals m ∧ m "stem" = some (.str (Mine.T (wd.take i)) tk') ∧ m "kept" = some (.ref a) ∧ i ≤ wd.length ∧ (∀ j, i < j → j ≤ wd.length → wd.take j ∉ kp) ∧ Up [] h h') wd.length
    ⟨h2, _, tk, _, rfl, N2, by rw [List.take_length]; exact here, skip (by decide +kernel) (skip (by decide +kernel) here), Nat.le_refl _, fun j h1 h2 => by omega, U2⟩ (fun i s' J => ?_)
  obtain ⟨h3, t3, tk3, m, rfl, N3, m1, m2, hi, hout, U3⟩ := J
  have S3 := S.up U3 (by simp)
  have fin : (wd.take i = [] ∨ wd.take i ∈ kp) → wd.take i = wd.take (stemK kp wd wd.length) := by
    intro z
    have e1 := stemK_in kp wd wd.length
    have e2 := stemK_out kp wd wd.length
    have e3 := stemK_le kp wd wd.length
    by_cases y : stemK kp wd wd.length = i
    · rw [y]
    · rcases z with z | z
      · have := congrArg List.length z
        simp only [List.length_take, List.length_nil] at this
        have hi0 : i = 0 := by omega
        rcases e1 with e1 | e1
        · rw [z, e1]
        · exact absurd e1 (hout _ (by omega) e3)
      · by_cases y2 : stemK kp wd wd.length < i
        · exact absurd z (e2 i y2 hi)
        · rcases e1 with e1 | e1
          · have := congrArg List.length e1
            simp only [List.length_take, List.length_nil] at this
            omega
          · exact absurd e1 (hout _ (by omega) e3)
  refine t_and (t_cmp rfl (n_loc N3 k0 k3 m1 (c_str (c_ne (tr_bool ?_)))))
  by_cases z : wd.take i = []
  · have : ((Mine.T (wd.take i)).cps.toList != (Str.ofString "").cps.toList) = false := by rw [z]; rfl
    rw [this, if_neg (by simp), if_neg (by simp)]
    refine x_ret (n_loc N3 k0 k3 m1 ?_)
    rw [fin (.inl z)]
    exact q _ _ _ U3
  · have : ((Mine.T (wd.take i)).cps.toList != (Str.ofString "").cps.toList) = true := by
      rw [bne_iff_ne]
      intro y
      exact z (y.trans (show (Str.ofString "").cps.toList = [] by rfl))
    rw [this, if_pos rfl]
    refine t_and (t_cmp rfl (n_loc N3 k0 k3 m1 (n_loc N3 k0 k1 m2 (c_notin S3 (tr_bool ?_)))))
    by_cases y : wd.take i ∈ kp
    · rw [decide_eq_false (fun x => x y), if_neg (by simp), if_neg (by simp)]
      refine x_ret (n_loc N3 k0 k3 m1 ?_)
      rw [fin (.inr y)]
      exact q _ _ _ U3
    · rw [decide_eq_true y, if_pos rfl]
      refine t_and_nil ?_
      rw [if_pos rfl]
      have hl : (wd.take i).length = i := by rw [List.length_take]; omega
      have hi0 : 0 < i := by
        rcases Nat.eq_zero_or_pos i with rfl | p
        · simp at z
        · exact p
      refine x_assign rfl (to_str (n_loc N3 k0 k3 m1 (e_neg (c_int (i_neg ?_)))))
      refine ⟨_, _, _, _, rfl, rfl, by show (wd.take i).toArray.size ≤ _; unfold sizeLine; simp; omega, fun t5 k5 h5 u5 => ?_⟩
      refine s_loc (u5.ns (by simp) N3) k0 k3 fun h6 N6 u6 => ?_
      refine x_nil ⟨rfl, i - 1, by omega, h6, _, t5, _, rfl, N6, ?_, skip (by decide +kernel) m2, by omega, fun j h1 h2 => ?_, (U3.step0 u5).step1 u6 (Nat.le_of_eq eL.symm)⟩
      · rw [show (-1 : Int) = -1 from rfl, slice_neg, List.dropLast_eq_take, List.take_take, hl, Nat.min_eq_left (by omega)]
        exact here
      · by_cases e : j = i
        · subst e; exact y
        · exact hout j (by omega) h2
end
end Mine
end

/- part M21 -/
section
open PySem PySem.Calls PySem.Spec PyProof.Rows PySem.W Builtin Builtin.ObjectAttr Builtin.Getset_descriptor
namespace Mine

def testsOf (ifs : List Expr) (cenv : Env) : Sem Bool := forIn ifs true fun c r => if r = true then do let ok ← isTrue c cenv (eval c cenv); pure (ForInStep.yield ok) else pure (ForInStep.yield r)

section
variable {w : World} {A : Around} {h : Heap} {g : Array GenState} {d : Drawn} {t : Nat} {os : OsState} {s : Shared} {env : Env}

theorem tests0 {cenv : Env} {Q : Bool → Shared → Prop} (k : Q true s) : W w A (testsOf [] cenv) Q s := ⟨wpAny_tests_nil k⟩
theorem tests1 {cenv : Env} {c : Expr} {Q : Bool → Shared → Prop} (k : W w A (isTrue c cenv (eval c cenv)) Q s) : W w A (testsOf [c] cenv) Q s := ⟨wpAny_tests_one k.run⟩

abbrev CTurn (w : World) (A : Around) (cenv : Env) (x : Str) (ifs : List Expr) (elt : Expr) (It : Nat → Nat → Heap → Prop) (J : Nat → Nat → Nat → Nat → List Value → Shared → Prop) (C D it i : Nat) (ys : List Value) (v : Value) (s₁ : Shared) : Prop :=
  W w A (storeName cenv x v) (fun _ s₂ => W w A (testsOf ifs cenv) (fun ok s₃ =>
    if ok = true then W w A (eval elt cenv) (fun y s₄ => (∃ k, s₄.heap.get? D = some (lobj ys.toArray k)) ∧ ys.length < 1000 ∧ ∀ h5, Up [D] s₄.heap h5 → h5.objs.size = s₄.heap.objs.size → It it (i + 1) h5 ∧ J C D it (i + 1) (ys ++ [y]) { s₄ with heap := h5 }) s₃
    else (∃ k, s₃.heap.get? D = some (lobj ys.toArray k)) ∧ It it (i + 1) s₃.heap ∧ J C D it (i + 1) ys s₃) s₂) s₁

theorem comp_block {elt iter : Expr} {x : Str} {px : Pos} {ifs : List Expr} {scope : Scope} {cl : List (Str × Addr)} {pos : Pos} {s₂ : Shared} {it n : Nat} (It : Nat → Nat → Heap → Prop) (J : Nat → Nat → Nat → Nat → List Value → Shared → Prop) {RR : Value → Addr → Result → Shared → Prop}
    (hcell : ∀ y ∈ scope.names, y.2 ≠ .cell) (hkind : scope.kind = .function) (hn : n < 1000)
    (start : ∀ D C h' t', h'.get? D = some (lobj #[] 0) → h'.Ns C (fun _ => none) → Up [] s₂.heap h' → s₂.heap.objs.size ≤ D → D < C → C < h'.objs.size → It it 0 h' ∧ J C D it 0 [] { s₂ with heap := h', toks := t' })
    (self : ∀ s, It it 0 s.heap → wpAny (model PW w) A (pyIter (.ref it)) (fun v s' => v = .ref it ∧ s' = s) NoE s)
    (turn : ∀ C D i ys s', i < n → It it i s'.heap → J C D it i ys s' → (∃ k, s'.heap.get? D = some (lobj ys.toArray k)) → wpAny (model PW w) A (pyNext (.ref it)) (fun r s₁ => ∃ v, r = some v ∧ CTurn w A (compEnvC scope cl C env) x ifs elt It J C D it i ys v s₁) NoE s')
    (stop : ∀ C D ys s', It it n s'.heap → J C D it n ys s' → (∃ k, s'.heap.get? D = some (lobj ys.toArray k)) → wpAny (model PW w) A (pyNext (.ref it)) (fun r s₁ => r = none ∧ RR (.ref D) C (.ok .next) s₁) NoE s') :
    wpAny (model PW w) A (newList []) (fun acc s₃ => wpAny (model PW w) A (newFunctionEnv scope env.globals cl [] env.qual none .none (some env)) (fun cenv s₄ =>
      codeAny (model PW w) A (.compStart (.ListComp elt [⟨.Name x px, iter, ifs, 0⟩] scope pos) 0 (.ref it) acc { cenv with scope := relabel scope env }) (RR acc cenv.locals) s₄) NoE s₃) NoE s₂ := by
  obtain ⟨h2, g2, d2, t2, os2⟩ := s₂
  refine wpAny_newObj_type (wpAny_newFunctionEnv hcell (by intro y hy; simp at hy) (fun h₁ hns₁ hsb₁ => ?_) hkind)
  dsimp only at hns₁ hsb₁ ⊢
  have u0 : Up [] h2 (h2.push { cls := .type "list", dict := none, data := .seq ([] : List Value).toArray }) := Up.push _ _
  have hsz : (h2.push { cls := .type "list", dict := none, data := .seq ([] : List Value).toArray }).objs.size = h2.objs.size + 1 := Heap.size_push _ _
  have e0 : (h2.push { cls := .type "list", dict := none, data := .seq ([] : List Value).toArray }).get? h2.objs.size = some (lobj #[] 0) := Heap.get?_push_size _ rfl
  generalize (h2.push { cls := .type "list", dict := none, data := .seq ([] : List Value).toArray }) = H2 at hns₁ hsb₁ u0 hsz e0 ⊢
  have u1 : Up [] H2 h₁ := by
    refine ⟨?_, fun b o _ e => hsb₁.extBut b o (Nat.ne_of_lt (Heap.lt_size e)) (Heap.get?_push_of_some _ e)⟩
    have := hns₁.lt
    exact Nat.le_of_lt this
  have st := start h2.objs.size H2.objs.size h₁ (t2 + ([] : List (Str × Value)).length) (u1.keep _ _ e0) hns₁ (u0.step0 u1) (Nat.le_refl _) (by rw [hsz]; exact Nat.lt_succ_self _) hns₁.lt
  have loop : codeAny (model PW w) A (.compLoop (.ListComp elt [⟨.Name x px, iter, ifs, 0⟩] scope pos) 0 (.ref it) (.ref h2.objs.size) (compEnvC scope cl H2.objs.size env)) (RR (.ref h2.objs.size) H2.objs.size) ⟨h₁, g2, d2, t2 + ([] : List (Str × Value)).length, os2⟩ := by
    refine codeAny_compLoop_tests (fun m s' => ∃ i ys, i ≤ n ∧ m = n - i ∧ It it i s'.heap ∧ J H2.objs.size h2.objs.size it i ys s' ∧ ∃ k, s'.heap.get? h2.objs.size = some (lobj ys.toArray k)) ?_ n ⟨0, [], Nat.zero_le _, by simp, st.1, st.2, 0, u1.keep _ _ e0⟩
    rintro m s' ⟨i, ys, hi, rfl, hI, hJ, hD⟩
    by_cases q : i = n
    · subst q
      refine wpAny_mono (stop _ _ _ s' hI hJ hD) (fun r s₁ z => ?_) (fun _ _ z => z.elim)
      obtain ⟨rfl, z⟩ := z
      exact z
    · have lt : i < n := by omega
      refine wpAny_mono (turn _ _ i ys s' lt hI hJ hD) (fun r s₁ z => ?_) (fun _ _ z => z.elim)
      obtain ⟨v, rfl, z⟩ := z
      refine wpAny_assign_Name (z.toE fun _ s₂ z => z.toE fun ok s₃ z => ?_)
      cases ok with
      | false =>
        rw [if_neg (by simp)] at z ⊢
        exact ⟨n - (i + 1), by omega, i + 1, ys, lt, rfl, z.2.1, z.2.2, z.1⟩
      | true =>
        rw [if_pos rfl] at z ⊢
        refine z.toE fun y s₄ z => ?_
        obtain ⟨⟨k, e4⟩, hl, z⟩ := z
        refine append_at e4 (fun h5 sb e5 => ?_) (by unfold sizeLine; simp; omega)
        have z := z h5 (Up.same sb) sb.1
        refine ⟨n - (i + 1), by omega, i + 1, ys ++ [y], lt, rfl, z.1, z.2, k + 1, ?_⟩
        rw [e5]; simp
  refine codeAny_compStart_list loop ?_
  refine wpAny_mono (self _ st.1) (fun v s' z => ?_) (fun _ _ z => z.elim)
  obtain ⟨rfl, rfl⟩ := z
  exact loop

theorem w_comp {elt iter : Expr} {x : Str} {px : Pos} {ifs : List Expr} {scope : Scope} {cl : List (Str × Addr)} {pos : Pos} {n : Nat} {Q : Value → Shared → Prop} (It : Nat → Nat → Heap → Prop) (J : Nat → Nat → Nat → Nat → List Value → Shared → Prop)
    (hclos : closureFor scope env = pure cl) (hcell : ∀ y ∈ scope.names, y.2 ≠ .cell) (hkind : scope.kind = .function) (hnames : ∀ y ∈ scope.names, y.2 = .local → scope.names.lookup y.1 = some .local) (hs : ∀ x, foldedSetIterable iter env x = pure x) (hn : n < 1000)
    (k : W w A (eval iter env) (fun xv s₁ => wpAny (model PW w) A (pyIter xv) (fun itv s₂ => ∃ it, itv = .ref it ∧ (∀ D C h' t', h'.get? D = some (lobj #[] 0) → h'.Ns C (fun _ => none) → Up [] s₂.heap h' → s₂.heap.objs.size ≤ D → D < C → C < h'.objs.size → It it 0 h' ∧ J C D it 0 [] { s₂ with heap := h', toks := t' })) NoE s₁) s)
    (self : ∀ it s, It it 0 s.heap → wpAny (model PW w) A (pyIter (.ref it)) (fun v s' => v = .ref it ∧ s' = s) NoE s)
    (turn : ∀ C D it i ys s', i < n → It it i s'.heap → J C D it i ys s' → (∃ k, s'.heap.get? D = some (lobj ys.toArray k)) → wpAny (model PW w) A (pyNext (.ref it)) (fun r s₁ => ∃ v, r = some v ∧ CTurn w A (compEnvC scope cl C env) x ifs elt It J C D it i ys v s₁) NoE s')
    (stop : ∀ C D it ys s', It it n s'.heap → J C D it n ys s' → (∃ k, s'.heap.get? D = some (lobj ys.toArray k)) → wpAny (model PW w) A (pyNext (.ref it)) (fun r s₁ => r = none ∧ (∃ m, s₁.heap.Ns C m) ∧ ∀ h', Up [C] s₁.heap h' → Q (.ref D) { s₁ with heap := h' }) NoE s') :
    W w A (eval (.ListComp elt [⟨.Name x px, iter, ifs, 0⟩] scope pos) env) Q s := by
  refine ⟨?_⟩
  rw [eval_ListComp]
  refine wpAny_comprehension_free (use := none) rfl hs hclos hkind hnames (k.to fun xv s₁ h₁ => wpAny_mono h₁ (fun itv s₂ h₂ => ?_) fun _ _ e => e)
  obtain ⟨it, rfl, st⟩ := h₂
  refine comp_block (RR := fun acc C => compPost (model PW w) A NoE none Q acc C) It J hcell hkind hn st (self it) (fun C D i ys s' => turn C D it i ys s') fun C D ys s' hI hJ hD => ?_
  refine wpAny_mono (stop C D it ys s' hI hJ hD) (fun r s₁ z => ?_) (fun _ _ z => z.elim)
  obtain ⟨rfl, ⟨m, hm⟩, z⟩ := z
  exact ⟨rfl, m, hm, fun h' sb => z h' (Up.same sb)⟩

/-- x = [..], where the value is used before the comprehension's names go -/
theorem x_comp {elt iter : Expr} {x y : Str} {px py : Pos} {ifs : List Expr} {scope : Scope} {cl : List (Str × Addr)} {pos spos : Pos} {rest : List Stmt} {n : Nat} {Q : Flow → Shared → Prop} (It : Nat → Nat → Heap → Prop) (J : Nat → Nat → Nat → Nat → List Value → Shared → Prop)
    (hsw : swapsWith (.ListComp elt [⟨.Name x px, iter, ifs, 0⟩] scope pos) (some (.Name y py)) spos.line env = pure true)
    (hclos : closureFor scope env = pure cl) (hcell : ∀ y ∈ scope.names, y.2 ≠ .cell) (hkind : scope.kind = .function) (hnames : ∀ y ∈ scope.names, y.2 = .local → scope.names.lookup y.1 = some .local) (hs : ∀ x, foldedSetIterable iter env x = pure x) (hn : n < 1000)
    (k : W w A (eval iter env) (fun xv s₁ => wpAny (model PW w) A (pyIter xv) (fun itv s₂ => ∃ it, itv = .ref it ∧ (∀ D C h' t', h'.get? D = some (lobj #[] 0) → h'.Ns C (fun _ => none) → Up [] s₂.heap h' → s₂.heap.objs.size ≤ D → D < C → C < h'.objs.size → It it 0 h' ∧ J C D it 0 [] { s₂ with heap := h', toks := t' })) NoE s₁) s)
    (self : ∀ it s, It it 0 s.heap → wpAny (model PW w) A (pyIter (.ref it)) (fun v s' => v = .ref it ∧ s' = s) NoE s)
    (turn : ∀ C D it i ys s', i < n → It it i s'.heap → J C D it i ys s' → (∃ k, s'.heap.get? D = some (lobj ys.toArray k)) → wpAny (model PW w) A (pyNext (.ref it)) (fun r s₁ => ∃ v, r = some v ∧ CTurn w A (compEnvC scope cl C env) x ifs elt It J C D it i ys v s₁) NoE s')
    (stop : ∀ C D it ys s', It it n s'.heap → J C D it n ys s' → (∃ k, s'.heap.get? D = some (lobj ys.toArray k)) → wpAny (model PW w) A (pyNext (.ref it)) (fun r s₁ => r = none ∧
      W w A (storeName env y (.ref D)) (fun _ s₂ => (∃ m, s₂.heap.Ns C m) ∧ ∀ h', Up [C] s₂.heap h' → W w A (execs rest env) Q { s₂ with heap := h' }) s₁) NoE s') :
    W w A (execs (.Assign [.Name y py] (.ListComp elt [⟨.Name x px, iter, ifs, 0⟩] scope pos) spos :: rest) env) Q s := by
  refine x_seq ⟨?_⟩
  rw [exec_Assign_Name_used _ _ _ _ hsw]
  refine wpAny_bind (wpAny_standAt (wpAny_bind ?_))
  show wpAny _ A (do let _ ← comprehension (.ListComp elt [⟨.Name x px, iter, ifs, 0⟩] scope pos) scope env _ (newList []) false (eval iter env) (some (assign (.Name y py) env))) _ _ s
  refine wpAny_bind (wpAny_mono (wpAny_comprehension_free (use := some (assign (.Name y py) env)) (Q := fun _ s' => W w A (execs rest env) Q s') rfl hs hclos hkind hnames
    (k.to fun xv s₁ h₁ => wpAny_mono h₁ (fun itv s₂ h₂ => ?_) fun _ _ e => e)) (fun _ s' hq => wpAny_pure (wpAny_pure hq)) fun _ _ e => e)
  obtain ⟨it, rfl, st⟩ := h₂
  refine comp_block (RR := fun acc C => compPost (model PW w) A NoE (some (assign (.Name y py) env)) (fun _ s' => W w A (execs rest env) Q s') acc C) It J hcell hkind hn st (self it) (fun C D i ys s' => turn C D it i ys s') fun C D ys s' hI hJ hD => ?_
  refine wpAny_mono (stop C D it ys s' hI hJ hD) (fun r s₁ z => ?_) (fun _ _ z => z.elim)
  obtain ⟨rfl, z⟩ := z
  refine ⟨rfl, ?_⟩
  show wpAny _ A (assign (.Name y py) env (.ref D)) _ _ _
  refine wpAny_assign_Name (z.to fun _ s₂ z => ?_)
  obtain ⟨⟨m, hm⟩, z⟩ := z
  exact ⟨m, hm, fun h' sb => z h' (Up.same sb)⟩
end
end Mine
end

/- part M22 -/
section
open PySem PySem.Calls PySem.Spec PyProof.Rows PySem.W Builtin Builtin.ObjectAttr Builtin.Getset_descriptor
namespace Mine

theorem kids_take {kp : List Wd} {p q : Wd} {i : Nat} (h : kp[i]? = some q) : kids (kp.take (i + 1)) p = kids (kp.take i) p ++ (if q.dropLast = p then [q.getLastD 0] else []) := by
  unfold kids
  rw [List.take_add_one, h, List.filter_append, List.map_append]
  congr 1
  by_cases e : q.dropLast = p
  · simp [e]
  · have : (q.dropLast == p) = false := beq_eq_false_iff_ne.mpr e
    simp [this, e]
theorem item_last {q : Wd} (h : q ≠ []) : Txt.item (Mine.T q) (-1) = Mine.T [q.getLastD 0] := by
  rcases List.eq_nil_or_concat q with rfl | ⟨a, b, rfl⟩
  · exact absurd rfl h
  · have e : (Mine.T (a ++ [b])).length = a.length + 1 := by show (a ++ [b]).toArray.size = _; simp
    have e2 : Txt.charAt (Mine.T (a ++ [b])) (-1) = some b := by
      unfold Txt.charAt seqIndex?
      rw [e]
      have e3 : ((-1 : Int) + ((a.length + 1 : Nat) : Int)) = (a.length : Int) := by omega
      simp only [show ((-1 : Int) < 0) = True by simp, if_true, e3]
      have e4 : ((a.length : Int) < ((a.length + 1 : Nat) : Int)) := by omega
      simp [e4]
      rw [if_pos (by omega)]
      simp
    rw [List.concat_eq_append]
    unfold Txt.item
    rw [e2]
    simp
theorem T_eq {p q : Wd} : ((Mine.T p).cps.toList == (Mine.T q).cps.toList) = decide (p = q) := by
  show (p.toArray.toList == q.toArray.toList) = _
  rw [Bool.eq_iff_iff]; simp
theorem at_strs {vs : List Value} {ws : List Wd} (h : StrsAre vs (ws.map Mine.T)) {i : Nat} {v : Value} (e : vs[i]? = some v) : ∃ q t, ws[i]? = some q ∧ v = .str (Mine.T q) t := by
  obtain ⟨y, t, rfl, e2⟩ := StrsAre.item h i v e
  rw [List.getElem?_map] at e2
  cases z : ws[i]? with
  | none => rw [z] at e2; cases e2
  | some q => rw [z] at e2; cases e2; exact ⟨q, t, rfl, rfl⟩
theorem strs_len {vs : List Value} {ws : List Wd} (h : StrsAre vs (ws.map Mine.T)) : vs.length = ws.length := by have := StrsAre.length h; simpa using this
theorem strs_snoc {vs : List Value} {ws : List Str} (h : StrsAre vs ws) (x : Str) (t : Tok) : StrsAre (vs ++ [.str x t]) (ws ++ [x]) := strsAre_append h (.cons x t .nil)

section
variable {w : World} {A : Around} {h : Heap} {g : Array GenState} {d : Drawn} {t : Nat} {os : OsState} {s : Shared} {env : Env}

theorem c_eq {x y : Str} {tx ty : Tok} {Q : Value → Shared → Prop} (k : Q (.bool (x.cps.toList == y.cps.toList)) s) : W w A (compareOp .Eq (.str x tx) (.str y ty)) Q s := ⟨P.eq_str k⟩

/-- a list's iterator -/
def LIt (a : Nat) (xs : Array Value) (n : Nat) (it i : Nat) (h : Heap) : Prop := h.IsListIter it a i ∧ h.get? a = some (lobj xs n)
theorem LIt.fields {a : Nat} {xs : Array Value} {n it i : Nat} (x : LIt a xs n it i h) : ∃ o vs, h.get? it = some o ∧ o.data = .fields vs ∧ vs[1]? = some (.int i 0) := let ⟨⟨o, e, _, dd⟩, _⟩ := x; ⟨o, _, e, dd, rfl⟩
theorem LIt.ne {a : Nat} {xs : Array Value} {n it i : Nat} (x : LIt a xs n it i h) : a ≠ it := fun z => by
  obtain ⟨⟨o, e, _, dd⟩, e2⟩ := x
  rw [z, e] at e2; cases e2; cases dd
theorem LIt.self {a : Nat} {xs : Array Value} {n it : Nat} (s : Shared) (x : LIt a xs n it 0 s.heap) : wpAny (model PW w) A (pyIter (.ref it)) (fun v s' => v = .ref it ∧ s' = s) NoE s := wpAny_pyIter_listiter x.1 ⟨rfl, rfl⟩
theorem LIt.item {a : Nat} {xs : Array Value} {n it i : Nat} {v : Value} {P : Option Value → Shared → Prop} (x : LIt a xs n it i h) (e : xs[i]? = some v) (k : ∀ h', LIt a xs n it (i + 1) h' → Up [it] h h' → P (some v) (St h' g d t os)) :
    wpAny (model PW w) A (pyNext (.ref it)) P NoE (St h g d t os) :=
  wpAny_pyNext_list_item x.1 (lobj_list x.2) e fun h' i' sb => k h' ⟨i', (Up.same sb).get (nin x.ne) x.2⟩ (Up.same sb)
theorem LIt.stop {a : Nat} {xs : Array Value} {n it : Nat} {P : Option Value → Shared → Prop} (hh : A.handled = none) (x : LIt a xs n it xs.size h) (k : ∀ h', Up [it] h h' → P none (St h' g d t os)) :
    wpAny (model PW w) A (pyNext (.ref it)) P NoE (St h g d t os) := list_end hh x.1 (lobj_list x.2) (by simp) k
theorem LIt.new {a : Nat} {xs : Array Value} {n : Nat} {Q : Value → Shared → Prop} (e : h.get? a = some (lobj xs n)) (k : ∀ it h', LIt a xs n it 0 h' → h.objs.size ≤ it → Up [] h h' → it < h'.objs.size → Q (.ref it) (St h' g d t os)) :
    wpAny (model PW w) A (pyIter (.ref a)) Q NoE (St h g d t os) := by
  refine wpAny_pyIter_list (lobj_list e) ?_
  refine k _ _ ⟨⟨_, Heap.get?_push_size _ rfl, rfl, rfl⟩, Heap.get?_push_of_some _ e⟩ (Nat.le_refl _) (Up.push _ _) ?_
  show h.objs.size < (h.push _).objs.size
  rw [Heap.size_push]; exact Nat.lt_succ_self _
theorem LIt.up {a : Nat} {xs : Array Value} {n it i : Nat} {X : List Nat} {h' : Heap} (x : LIt a xs n it i h) (u : Up X h h') (n1 : a ∉ X) (n2 : it ∉ X) : LIt a xs n it i h' :=
  let ⟨⟨o, e, r⟩, e2⟩ := x; ⟨⟨o, u.get n2 e, r⟩, u.get n1 e2⟩

theorem letters_spec {a : Nat} {kp : List Wd} {p : Wd} {tk : Tok} {Q : Value → Shared → Prop} (B : Base w h) (S : Strs h a kp) (hne : ∀ q ∈ kp, q ≠ []) (hl4 : ∀ q ∈ kp, q.length ≤ 4) (hz : kp.length < 900) (hA : A.depth < recursionLimit) (hh : A.handled = none)
    (q : ∀ D h' t', Strs h' D ((kids kp p).map fun c => [c]) → Up [] h h' → h.objs.size ≤ D → D < h'.objs.size → Q (.ref D) (St h' g d t' os)) :
    W w A (call (.ref 95) [.ref a, .str (Mine.T p) tk]) Q (St h g d t os) := by
  refine fn_cells 95 [("kept", .ref a), ("part", .str (Mine.T p) tk)] B hA rfl rfl (by kernel_rfl) rfl rfl rfl (fun n => rfl) rfl rfl rfl fun env h₁ t₁ he I u eL lt => ?_
  have k0 : env.scope.kind = .function := by rw [he]; rfl
  have k1 : env.kindOf "kept" = some .local := by rw [he]; kernel_rfl
  have k2 : env.kindOf "part" = some .cell := by rw [he]; kernel_rfl
  have k3 : env.cells.lookup (Str.ofString "part") = some (h.objs.size + 1) := by rw [he]; rfl
  have nsL : h₁.Ns env.locals (upd (fun _ => none) "kept" (.ref a)) := by
    have := I.toInCall.ns
    have e : bindL env.kindOf [(Str.ofString "kept", Value.ref a), (Str.ofString "part", .str (Mine.T p) tk)] (fun _ => none) = upd (fun _ => none) "kept" (.ref a) := by
      show (if env.kindOf (Str.ofString "part") = some .local then _ else (if env.kindOf (Str.ofString "kept") = some .local then _ else _)) = _
      rw [k2, if_neg (by simp), k1, if_pos rfl]
    rw [e] at this; exact this
  have c1 : h₁.IsCell (h.objs.size + 1) (some (.str (Mine.T p) tk)) := by
    have := I.cell "part" _ k3
    have e : bindC env.kindOf [(Str.ofString "kept", Value.ref a), (Str.ofString "part", .str (Mine.T p) tk)] (fun _ => none) "part" = some (.str (Mine.T p) tk) := by
      show (if env.kindOf (Str.ofString "part") = some .local then _ else upd _ (Str.ofString "part") (Value.str (Mine.T p) tk)) (Str.ofString "part") = _
      rw [k2, if_neg (by simp)]
      exact here
    rw [e] at this
    exact this
  have k6 : closureFor { kind := .function, names := [(Str.ofString ".0", .local), (Str.ofString "one", .local), (Str.ofString "part", .free)], isGenerator := false, isCoroutine := false, more := [] } env = pure [(Str.ofString "part", h.objs.size + 1)] := by rw [he]; rfl
  have kr : ∀ C, (compEnvC { kind := .function, names := [(Str.ofString ".0", .local), (Str.ofString "one", .local), (Str.ofString "part", .free)], isGenerator := false, isCoroutine := false, more := [] } [(Str.ofString "part", h.objs.size + 1)] C env).kindOf "part" = some .cell := fun C => by rw [he]; kernel_rfl
  have ko : ∀ C, (compEnvC { kind := .function, names := [(Str.ofString ".0", .local), (Str.ofString "one", .local), (Str.ofString "part", .free)], isGenerator := false, isCoroutine := false, more := [] } [(Str.ofString "part", h.objs.size + 1)] C env).kindOf "one" = some .local := fun C => by rw [he]; kernel_rfl
  have dH : (A.deeper env).handled = none := hh
  clear he I
  generalize A.deeper env = A' at dH
  obtain ⟨vs, n, ea, za⟩ := id S
  have ea1 := u.keep _ _ ea
  have lh : @LT.lt Nat _ h.objs.size h₁.objs.size := lt
  have lenv : vs.toArray.size = kp.length := by rw [List.size_toArray]; exact strs_len za
  have lts : ∀ {a : Nat} {o : Obj}, h.get? a = some o → a < h.objs.size := fun e => Heap.lt_size e
  refine x_ret (w_comp (n := vs.toArray.size) (It := LIt a vs.toArray n) (fun C D it i ys s' => ∃ h' t', s' = St h' g d t' os ∧ StrsAre ys ((kids (kp.take i) p).map fun c => Mine.T [c]) ∧ (∃ m, h'.Ns C m) ∧ Up [] h h' ∧ h'.IsCell (h.objs.size + 1) (some (.str (Mine.T p) tk)) ∧ (h.objs.size ≤ D ∧ D < C ∧ C < h'.objs.size ∧ h.objs.size ≤ it ∧ it < D ∧ h.objs.size + 1 < it))
    k6 (by decide) rfl (by decide) (fun _ => rfl) (by rw [lenv]; omega) (n_loc nsL k0 k1 here ?_) (fun it s x => x.self s) (fun C D it i ys s' hi hI J hD => ?_) (fun C D it ys s' hI J hD => ?_))
  · refine LIt.new ea1 fun it h2 i2 l2 u2 lt2 => ⟨it, rfl, fun D C h3 t3 e3 n3 u3 l3 l4 l5 => ⟨i2.up u3 (by simp) (by simp), h3, t3, rfl, by simpa [kids] using StrsAre.nil, ⟨_, n3⟩, (u.step0 u2).step0 u3, u3.cell (by simp) (u2.cell (by simp) c1), ?_⟩⟩
    have c1l : @LT.lt Nat _ (h.objs.size + 1) h₁.objs.size := c1.lt
    have l2' : @LE.le Nat _ h₁.objs.size it := l2
    have l3' : @LE.le Nat _ h2.objs.size D := l3
    have lt2' : @LT.lt Nat _ it h2.objs.size := lt2
    have l4' : @LT.lt Nat _ D C := l4
    refine ⟨?_, l4, l5, ?_, ?_, ?_⟩ <;> omega
  · obtain ⟨h2, t2, rfl, sy, ⟨m, nC⟩, u2, cp, b1, b2, b3, b4, b5, b6⟩ := J
    obtain ⟨kD, eD⟩ := hD
    have hx : vs.toArray[i]? = some vs.toArray[i] := Array.getElem?_eq_getElem hi
    have hx' : vs[i]? = some vs.toArray[i] := by simpa using hx
    obtain ⟨one, tk1, h1, ev⟩ := at_strs za hx'
    have hm1 : one ∈ kp := List.mem_of_getElem? h1
    refine LIt.item hI hx fun h3 i3 u3 => ⟨_, rfl, ?_⟩
    rw [ev]
    have kt := kids_take (p := p) h1
    have aI := lts ea
    refine s_loc (u3.ns (nin (show C ≠ it by omega)) nC) rfl (ko C) fun h4 n4 u4 => ?_
    have U4 : Up [] h h4 := (u2.step1 u3 b4).step1 u4 (show h.objs.size ≤ C by omega)
    have c4 := u4.cell (nin (show h.objs.size + 1 ≠ C by omega)) (u3.cell (nin (show h.objs.size + 1 ≠ it by omega)) cp)
    have i4 : LIt a vs.toArray n it (i + 1) h4 := i3.up u4 (nin (show a ≠ C by omega)) (nin (show it ≠ C by omega))
    have eD4 := u4.get (nin (show D ≠ C by omega)) (u3.get (nin (show D ≠ it by omega)) eD)
    refine tests1 (t_cmp rfl (to_str (n_loc n4 rfl (ko C) here (e_neg (c_int (i_neg ?_))))))
    refine ⟨_, _, _, _, rfl, rfl, by show one.toArray.size ≤ _; unfold sizeLine; have := hl4 _ hm1; simp; omega, fun t5 k5 h5 u5 => ?_⟩
    rw [show (-1 : Int) = -1 from rfl, slice_neg]
    refine n_cell (u5.cell (by simp) c4) rfl (kr C) rfl (c_eq (tr_bool ?_))
    rw [T_eq]
    have b3' : C < h5.objs.size := Nat.lt_of_lt_of_le (Nat.lt_of_lt_of_le (Nat.lt_of_lt_of_le b3 u3.1) u4.1) u5.1
    by_cases e : one.dropLast = p
    · rw [decide_eq_true e, if_pos rfl]
      refine e_sub (n_loc (u5.ns (by simp) n4) rfl (ko C) here (e_neg (c_int (i_neg ?_))))
      have hne1 := hne _ hm1
      have hpos : 0 < one.length := List.length_pos_iff.mpr hne1
      have elen : (Mine.T one).length = one.length := by show one.toArray.size = _; simp
      refine i_str (by decide) (by decide) (by rw [elen]; omega) (by rw [elen]; omega) (by with_unfolding_all rfl) (fun _ => rfl) ?_
      rw [show (-1 : Int) = -1 from rfl, item_last hne1]
      have ylen := StrsAre.length sy
      refine ⟨⟨kD, u5.keep _ _ eD4⟩, ?_, fun h6 u6 _ => ⟨(i4.up u5 (by simp) (by simp)).up u6 (nin (show a ≠ D by omega)) (nin (show it ≠ D by omega)), h6, _, rfl, ?_, ⟨_, u6.ns (nin (show C ≠ D by omega)) (u5.ns (by simp) n4)⟩, (U4.step0 u5).step1 u6 b1, u6.cell (nin (show h.objs.size + 1 ≠ D by omega)) (u5.cell (by simp) c4), b1, b2, Nat.lt_of_lt_of_le b3' u6.1, b4, b5, b6⟩⟩
      · rw [ylen, List.length_map]
        have := kids_len (kp.take i) p
        rw [List.length_take] at this
        omega
      · rw [kt, if_pos e, List.map_append]
        exact strs_snoc sy _ _
    · rw [decide_eq_false e, if_neg (by simp)]
      refine ⟨⟨kD, u5.keep _ _ eD4⟩, i4.up u5 (by simp) (by simp), h5, _, rfl, ?_, ⟨_, u5.ns (by simp) n4⟩, U4.step0 u5, u5.cell (by simp) c4, b1, b2, b3', b4, b5, b6⟩
      rw [kt, if_neg e, List.append_nil]
      exact sy
  · obtain ⟨h2, t2, rfl, sy, ⟨m, nC⟩, u2, cp, b1, b2, b3, b4, b5, b6⟩ := J
    obtain ⟨kD, eD⟩ := hD
    refine LIt.stop dH hI fun h3 u3 => ⟨rfl, ⟨_, u3.ns (nin (show C ≠ it by omega)) nC⟩, fun h4 u4 => ?_⟩
    have eD4 := u4.get (nin (show D ≠ C by omega)) (u3.get (nin (show D ≠ it by omega)) eD)
    refine q D h4 _ ⟨ys, kD, eD4, ?_⟩ ((u2.step1 u3 b4).step1 u4 (show h.objs.size ≤ C by omega)) b1 (Heap.lt_size eD4)
    rw [lenv, List.take_length] at sy
    rw [List.map_map]
    exact sy
end
end Mine
end

/- part M23 -/
section
open PySem PySem.Calls PySem.Spec PyProof.Rows PySem.W Builtin Builtin.ObjectAttr Builtin.Getset_descriptor
namespace Mine

/-- a book's keys, walked -/
def KIt (x m n it i : Nat) (h : Heap) : Prop := h.IsKeyIter it x i m n

section
variable {w : World} {A : Around} {h : Heap} {g : Array GenState} {d : Drawn} {t : Nat} {os : OsState} {s : Shared} {env : Env}

theorem bk_iter (B : Base w h) {gr b n : Nat} {es : Array DictEntry} (h8 : 108 ≤ b) (hx : h.get? (b + 1) = some (bobj es n b gr)) {Q : Value → Shared → Prop} {E : Value → Shared → Prop}
    (q : Q (.ref h.objs.size) (St (h.push { cls := .type "dict_keyiterator", data := .fields #[.ref (b + 1), .int 0 0, .int es.size 0, .int n 0] }) g d t os)) :
    wpAny (model PW w) A (pyIter (.ref (b + 1))) Q E (St h g d t os) := by
  have tx : Looks (model PW w) h (typeOf (.ref (b + 1))) (.ref 58) := type_bk hx
  have sp : Looks (model PW w) h (specialOf (.ref (b + 1)) "__iter__") (some (.builtin "dict.__iter__")) := tx.andThen (looks_findIn B.K (by kernel_rfl))
  have noord : Looks (model PW w) h (isInstance (.ref (b + 1)) (.type "collections.OrderedDict")) false := tx.andThen (sub58 B _)
  have hcall : wpAny (model PW w) A (call (.builtin "dict.__iter__") [.ref (b + 1)]) (fun v s' => v = .ref h.objs.size ∧ s' = St (h.push { cls := .type "dict_keyiterator", data := .fields #[.ref (b + 1), .int 0 0, .int es.size 0, .int n 0] }) g d t os) E (St h g d t os) := by
    refine wpAny_call (codeAny_call_builtin (by decide +kernel) F.entry_dict_iter (@check_slot (model PW w) _ _ _ "dict.__iter__" "dict" "__iter__" (.ref (b + 1)) [] [] _ (by decide +kernel) (by decide +kernel) (tx.andThen (sub58 B _)) (F.args_dict_iter_1 _) ?_))
    unfold Builtin.«dict.__iter__»
    refine wpAny_bind ?_
    unfold Dict.dictSlotNone
    refine wpAny_bind ?_
    unfold Dict.notOrdered
    rw [if_pos (by decide +kernel)]
    show wpAny _ _ (typeOf (.ref (b + 1)) >>= _) _ _ _
    refine wpAny_bind (tx.at ?_)
    rw [if_pos (by rfl)]
    refine wpAny_bind (noord.at ?_)
    rw [if_neg (by simp)]
    refine wpAny_pure ?_
    show wpAny _ _ (pure (Value.ref (b + 1))) _ _ _
    refine wpAny_pure ?_
    refine wpAny_bind (wpAny_pure ?_)
    refine wpAny_bind ?_
    unfold Dict.showsAll
    rw [if_neg (by rw [beq_eq_false_iff_ne.mpr (Nat.ne_of_gt (Nat.lt_of_lt_of_le sys_small (Nat.le_trans h8 (Nat.le_succ b))))]; exact Bool.false_ne_true)]
    refine wpAny_pure ?_
    refine wpAny_bind (wpAny_dictEntries hx rfl ?_)
    refine wpAny_bind (wpAny_dictEpoch hx rfl ?_)
    refine wpAny_bind (wpAny_newObj_type (wpAny_pure ⟨rfl, rfl⟩))
  unfold pyIter
  refine wpAny_bind (sp.at ?_)
  dsimp only
  refine wpAny_bind ?_
  simp only [callSpecialIfBoundUnlessNone?, bindSpecialIfBound?]
  refine wpAny_holding (wpAny_bind (wpAny_bind (sp.at ?_)))
  refine wpAny_bind (wpAny_askSetting (wpAny_ite ?_))
  have bs : Looks (model PW w) h (bindSpecial (.builtin "dict.__iter__") (.ref (b + 1))) (.builtin "dict.__iter__", [.ref (b + 1)]) := Looks.of_pure (F.slot_dict_iter.bind _)
  have e2 := Heap.get?_push_size h (o := { cls := .type "dict_keyiterator", data := .fields #[.ref (b + 1), .int 0 0, .int es.size 0, .int n 0] }) rfl
  have e3 : (St (h.push { cls := .type "dict_keyiterator", data := .fields #[.ref (b + 1), .int 0 0, .int es.size 0, .int n 0] }) g d t os).TypeIs (.ref h.objs.size) "dict_keyiterator" := ⟨_, e2, rfl⟩
  split
  · refine wpAny_bind (bs.at (wpAny_pure ?_))
    show wpAny _ _ (if (Value.builtin "dict.__iter__" == Value.none) = true then _ else (call _ _ >>= fun v => pure (some v))) _ _ _
    rw [if_neg (by simp)]
    refine wpAny_bind (wpAny_mono hcall (fun v s' z => ?_) fun _ _ e => e)
    obtain ⟨rfl, rfl⟩ := z
    exact wpAny_pure (wpAny_bind (wpAny_specialOf e3 F.slot_dict_keyiterator_next.lookup (wpAny_pure q)))
  · refine wpAny_tryCatch (wpAny_bind (bs.at (wpAny_pure ?_)))
    show wpAny _ _ (if (Value.builtin "dict.__iter__" == Value.none) = true then _ else (call _ _ >>= fun v => pure (some v))) _ _ _
    rw [if_neg (by simp)]
    refine wpAny_bind (wpAny_mono hcall (fun v s' z => ?_) fun _ _ e => e)
    obtain ⟨rfl, rfl⟩ := z
    exact wpAny_pure (wpAny_bind (wpAny_specialOf e3 F.slot_dict_keyiterator_next.lookup (wpAny_pure q)))

theorem Ents.strs : ∀ {el : List DictEntry} {l : List (Nat × Nat)}, Ents el l → StrsAre (el.map (·.key)) ((l.map fun p => [p.1]).map Mine.T)
  | [], [], _ => .nil
  | a :: r, p :: l, h => by
    obtain ⟨⟨⟨tk, ek⟩, _⟩, h'⟩ := h
    rw [List.map_cons, List.map_cons, List.map_cons, ek]
    exact .cons _ _ h'.strs
theorem key_item {x it i n : Nat} {o : Obj} {es : Array DictEntry} {e : DictEntry} {Q : Option Value → Shared → Prop} {E : Value → Shared → Prop} (hit : h.IsKeyIter it x i es.size n) (ho' : h.get? x = some o) (hdd : o.data = .dict es n) (hx : es[i]? = some e)
    (hQ : ∀ h', h'.IsKeyIter it x (i + 1) es.size n → Up [it] h h' → Q (some e.key) (St h' g d t os)) : wpAny (model PW w) A (pyNext (.ref it)) Q E (St h g d t os) := by
  obtain ⟨oi, ho, hc, hd⟩ := id hit
  have hT : (St h g d t os).TypeIs (.ref it) "dict_keyiterator" := ⟨oi, ho, hc⟩
  have hlt : i < es.size := (Array.getElem?_eq_some_iff.mp hx).1
  unfold pyNext
  refine wpAny_bind (wpAny_attempt (wpAny_callSpecial?_slot (name := Str.ofString "__next__") hT F.slot_dict_keyiterator_next
    (wpAny_call_entry F.slot_dict_keyiterator_next hT F.entry_dict_keyiterator_next ?_ (F.args_dict_keyiterator_next_1 _))))
  refine wpAny_bind (wpAny_pure ?_)
  refine wpAny_bind ?_
  refine wpAny_bind ?_
  refine wpAny_bind (wpAny_typeNameOfWhole_keyiter hT (wpAny_pure ?_))
  refine wpAny_bind (wpAny_fieldsOf ho hd ?_)
  have hown : Builtin.Dict_items.ownsTuple "dict_keyiterator" = false := by decide
  simp only [hown, Bool.false_eq_true, if_false]
  show wpAny _ _ (if (Value.ref x == Value.none) = true then _ else _) _ _ _
  rw [if_neg (show ¬ ((Value.ref x == Value.none) = true) from Bool.false_ne_true)]
  refine wpAny_bind (wpAny_pure ?_)
  refine wpAny_bind (wpAny_dictEntries ho' hdd ?_)
  rw [if_neg (by simp)]
  refine wpAny_bind (wpAny_pure ?_)
  refine wpAny_bind (wpAny_dictEpoch ho' hdd ?_)
  rw [if_neg (by simp)]
  refine wpAny_pure ?_
  simp only [show ¬ ((i : Int) < 0) from by omega, if_false, Int.toNat_natCast, hx]
  refine wpAny_bind ?_
  refine wpAny_bind (wpAny_typeNameOfWhole_keyiter hT (wpAny_pure ?_))
  refine wpAny_bind (wpAny_isOneOf_keyiter hT ?_)
  show wpAny _ _ (setField (.ref it) 1 (rawInt ((i : Int) + 1)) >>= _) _ _ _
  refine wpAny_bind (wpAny_setField ho hd (by simp) ?_)
  have hit' : (h.update it (Obj.mapFields (·.setIfInBounds 1 (rawInt ((i : Int) + 1))))).IsKeyIter it x (i + 1) es.size n :=
    ⟨_, Heap.get?_update_self _ ho (Obj.isFreed_of_fields (Obj.data_mapFields hd _)), (Obj.cls_mapFields ..).trans hc, by rw [Obj.data_mapFields hd]; simp [rawInt]⟩
  refine wpAny_bind (wpAny_holding ?_)
  refine wpAny_bind (wpAny_isOneOf_keyiter (s := St (h.update it (Obj.mapFields (·.setIfInBounds 1 (rawInt ((i : Int) + 1))))) g d t os) hit'.typeIs ?_)
  show wpAny _ _ (pure e.key) _ _ _
  exact wpAny_pure (wpAny_pure ⟨_, rfl, wpAny_pure (hQ _ hit' (Up.update _ _ _))⟩)
theorem key_end {x it n : Nat} {o : Obj} {es : Array DictEntry} {Q : Option Value → Shared → Prop} {E : Value → Shared → Prop} (hh : A.handled = none) (hit : h.IsKeyIter it x es.size es.size n) (ho' : h.get? x = some o) (hdd : o.data = .dict es n)
    (hQ : ∀ h', Up [it] h h' → Q none (St h' g d t os)) : wpAny (model PW w) A (pyNext (.ref it)) Q E (St h g d t os) := by
  obtain ⟨oi, ho, hc, hd⟩ := id hit
  have hT : (St h g d t os).TypeIs (.ref it) "dict_keyiterator" := ⟨oi, ho, hc⟩
  unfold pyNext
  refine wpAny_bind (wpAny_attempt (wpAny_callSpecial?_slot (name := Str.ofString "__next__") hT F.slot_dict_keyiterator_next
    (wpAny_call_entry F.slot_dict_keyiterator_next hT F.entry_dict_keyiterator_next ?_ (F.args_dict_keyiterator_next_1 _))))
  refine wpAny_bind (wpAny_pure ?_)
  refine wpAny_bind ?_
  refine wpAny_bind ?_
  refine wpAny_bind (wpAny_typeNameOfWhole_keyiter hT (wpAny_pure ?_))
  refine wpAny_bind (wpAny_fieldsOf ho hd ?_)
  have hown : Builtin.Dict_items.ownsTuple "dict_keyiterator" = false := by decide
  simp only [hown, Bool.false_eq_true, if_false]
  show wpAny _ _ (if (Value.ref x == Value.none) = true then _ else _) _ _ _
  rw [if_neg (show ¬ ((Value.ref x == Value.none) = true) from Bool.false_ne_true)]
  refine wpAny_bind (wpAny_pure ?_)
  refine wpAny_bind (wpAny_dictEntries ho' hdd ?_)
  rw [if_neg (by simp)]
  refine wpAny_bind (wpAny_pure ?_)
  refine wpAny_bind (wpAny_dictEpoch ho' hdd ?_)
  rw [if_neg (by simp)]
  refine wpAny_pure ?_
  have hx : es[es.size]? = none := by simp
  simp only [show ¬ ((es.size : Int) < 0) from by omega, if_false, Int.toNat_natCast, hx]
  refine wpAny_bind ?_
  refine wpAny_bind (wpAny_typeNameOfWhole_keyiter hT (wpAny_pure ?_))
  show wpAny _ _ (setField (.ref it) 0 .none >>= _) _ _ _
  refine wpAny_bind (wpAny_setField ho hd (by simp) ?_)
  refine wpAny_mono (stop_tail (it := it) (Q := Q) (E := E) hh hQ) (fun _ _ z => z.elim) (fun e s' z => ?_)
  obtain ⟨b, rfl, ⟨oe, e1, e2⟩, h', rfl, u⟩ := z
  refine wpAny_bind (wpAny_isInstance (T := "StopIteration") (b := true) ⟨_, e1, e2⟩ isSubtype_stop ?_)
  exact wpAny_pure (hQ _ u)

/-- list.extend's loop over a book's keys -/
theorem key_loop {x it n S : Nat} {o : Obj} {es : Array DictEntry} {res : Value} {R : Result → Shared → Prop} (hh : A.handled = none) (hsz : es.size < 1000) (hdd : o.data = .dict es n) (nS : S ≠ it) (nx : x ≠ it) (nSx : S ≠ x) :
    ∀ (k i : Nat) (h : Heap) (acc : Array Value) (c : Nat), es.size - i = k → i ≤ es.size → h.IsKeyIter it x i es.size n → h.get? x = some o → h.get? S = some (lobj acc c) → acc.toList = (es.toList.take i).map (·.key) →
    (∀ h' acc' c', Up [S, it] h h' → h'.get? S = some (lobj acc' c') → acc'.toList = es.toList.map (·.key) → R (.ok (.ret res)) (St h' g d t os)) →
    codeAny (model PW w) A (.builtin "list.extend.loop" ⟨[.ref S, .ref it, res], []⟩) R (St h g d t os) := by
  intro k
  induction k with
  | zero =>
    intro i h acc c hk hi hit hx hS hacc hR
    have hin : i = es.size := by omega
    subst hin
    refine codeAny_builtin F.entry_extend_loop ?_
    rw [Around.under_plainId F.plain_extend_loop _]
    show wpAny _ A.in1 (pyNext (.ref it) >>= _) _ _ _
    refine wpAny_bind (key_end hh hit hx hdd fun h' u => ?_)
    refine wpAny_pure (hR h' acc c (Up.mono u (by simp)) (u.get (nin nS) hS) ?_)
    rw [hacc, List.take_of_length_le (by simp)]
  | succ k ih =>
    intro i h acc c hk hi hit hx hS hacc hR
    have hlt : i < es.size := by omega
    have he : es[i]? = some es[i] := Array.getElem?_eq_getElem hlt
    refine codeAny_builtin F.entry_extend_loop ?_
    rw [Around.under_plainId F.plain_extend_loop _]
    show wpAny _ A.in1 (pyNext (.ref it) >>= _) _ _ _
    refine wpAny_bind (key_item hit hx hdd he fun h' hit' u => ?_)
    have hS' := u.get (nin nS) hS
    show wpAny _ A.in1 (updateSeq S (·.push es[i].key) >>= _) _ _ _
    have hal : acc.size ≤ 1000 := by
      have := congrArg List.length hacc
      rw [List.length_map, List.length_take, Array.length_toList, Array.length_toList] at this
      omega
    refine wpAny_bind ?_
    refine wpAny_updateSeq hS' rfl (wpAny_pure ⟨plainId_quiet F.plain_extend_loop _, ?_⟩) (by unfold sizeLine; omega) (by show (acc.push _).size ≤ sizeLine + 1; rw [Array.size_push]; unfold sizeLine; omega)
    have u2 : Up [S] h' (h'.update S (Obj.mapSeq (·.push es[i].key))) := Up.update _ _ _
    have e2 : (h'.update S (Obj.mapSeq (·.push es[i].key))).get? S = some (lobj (acc.push es[i].key) (c + 1)) := by rw [Heap.get?_update_self _ hS' (by rw [mapSeq_push]; rfl), mapSeq_push]
    have i2 : (h'.update S (Obj.mapSeq (·.push es[i].key))).IsKeyIter it x (i + 1) es.size n := let ⟨o', q1, q2⟩ := hit'; ⟨o', u2.get (nin (fun z => nS z.symm)) q1, q2⟩
    refine ih (i + 1) _ (acc.push es[i].key) _ (by omega) hlt i2 (u2.get (nin (fun z => nSx z.symm)) (u.get (nin nx) hx)) e2 ?_ fun h3 acc' c' u3 e3 q3 => hR h3 acc' c' ?_ e3 q3
    · rw [Array.toList_push, hacc, List.take_add_one, List.map_append]
      congr 1
      rw [List.getElem?_eq_getElem (by simpa using hlt)]
      simp
    · exact ((Up.mono u (by simp)).trans (Up.mono u2 (by simp)) (fun a ha => .inl ha) (fun a ha => .inl ha)).trans u3 (fun a ha => .inl ha) (fun a ha => .inl ha)

theorem bk_len (B : Base w h) {gr b n : Nat} {es : Array DictEntry} (hx : h.get? (b + 1) = some (bobj es n b gr)) (hz : es.size < 1000) (h8 : 108 ≤ b) {Q : Value → Shared → Prop}
    (q : ∀ t1 t2, Q (.int es.size t1) (St h g d t2 os)) : W w A (call (.builtin "len") [.ref (b + 1)]) Q (St h g d t os) := by
  have tx : Looks (model PW w) h (typeOf (.ref (b + 1))) (.ref 58) := type_bk hx
  have sp : Looks (model PW w) h (specialOf (.ref (b + 1)) "__len__") (some (.builtin "dict.__len__")) := tx.andThen (looks_findIn B.K (by kernel_rfl))
  have noord : Looks (model PW w) h (isInstance (.ref (b + 1)) (.type "collections.OrderedDict")) false := tx.andThen (sub58 B _)
  have bs : Looks (model PW w) h (bindSpecial (.builtin "dict.__len__") (.ref (b + 1))) (.builtin "dict.__len__", [.ref (b + 1)]) := Looks.of_pure (F.slot_dict_len.bind _)
  refine ⟨Calls.call_function_entry kind_len plain_len entry_len (args_len1 _) ?_⟩
  unfold Builtin.«len»
  refine wpAny_bind (m := oneArg "len" _) (wpAny_pure ?_)
  refine wpAny_bind ?_
  unfold callSpecial?
  refine wpAny_bind (sp.at (wpAny_holding (wpAny_bind (bs.at ?_))))
  refine wpAny_bind (wpAny_call (codeAny_call_builtin (by decide +kernel) F.entry_dict_len (@check_slot (model PW w) _ _ _ "dict.__len__" "dict" "__len__" (.ref (b + 1)) [] [] _ (by decide +kernel) (by decide +kernel) (tx.andThen (sub58 B _)) (F.args_dict_len_1 _) ?_)))
  unfold Builtin.«dict.__len__»
  refine wpAny_bind (wpAny_of_eq (a := Value.ref (b + 1)) (by kernel_rfl) ?_)
  refine wpAny_bind (wpAny_pure ?_)
  refine wpAny_bind ?_
  unfold dictSize
  refine wpAny_bind (wpAny_dictEntries hx rfl (wpAny_pure ?_))
  refine wpAny_bind ?_
  unfold Dict.pendingCount
  rw [if_neg (by rw [beq_eq_false_iff_ne.mpr (Nat.ne_of_gt (Nat.lt_of_lt_of_le sys_small (Nat.le_trans h8 (Nat.le_succ b))))]; exact Bool.false_ne_true)]
  refine wpAny_pure ?_
  refine wpAny_bind (wpAny_mkInt (wpAny_pure ?_))
  refine wpAny_pure ?_
  dsimp only
  refine wpAny_bind (wpAny_holding (wpAny_pure ?_))
  refine wpAny_bind (wpAny_letGo ?_)
  have e0 : ((es.size : Int) + ((0 : Nat) : Int)) = (es.size : Int) := by omega
  rw [e0]
  rw [if_neg (by omega), if_neg (by omega)]
  exact wpAny_bind (wpAny_mkInt (wpAny_pure ⟨_, rfl, q _ _⟩))

theorem list_book (B : Base w h) {gr b : Nat} {l : List (Nat × Nat)} (K : Bk h gr b l) (hz : l.length < 900) (h8 : 108 ≤ b) (hh : A.handled = none) {Q : Value → Shared → Prop}
    (q : ∀ D h' t', Strs h' D (l.map fun p => [p.1]) → Up [] h h' → h.objs.size ≤ D → Q (.ref D) (St h' g d t' os)) : W w A (call (.type "list") [.ref (b + 1)]) Q (St h g d t os) := by
  obtain ⟨es, n, hx, E⟩ := K
  have tx : Looks (model PW w) h (typeOf (.ref (b + 1))) (.ref 58) := type_bk hx
  have hsz : es.size < 1000 := by have := E.length; rw [Array.length_toList] at this; omega
  refine ⟨callType_codes (Q₁ := fun obj s₁ => obj = .ref h.objs.size ∧ s₁ = St (h.push (lobj #[] 0)) g d t os) F.called_list (F.typeCall_list_1 _) F.entry_list_init (code_list_new _ ⟨rfl, rfl⟩) fun obj s₁ h₁ => ?_⟩
  obtain ⟨rfl, rfl⟩ := h₁
  have hS : (h.push (lobj #[] 0)).get? h.objs.size = some (lobj #[] 0) := Heap.get?_push_size _ rfl
  have u0 : Up [] h (h.push (lobj #[] 0)) := Up.push _ _
  refine ⟨⟨_, hS, rfl⟩, F.args_list_init_2 _ _, ?_⟩
  show wpAny _ _ (do let old ← Builtin.List.listItems (.ref h.objs.size); Builtin.List.listUpdate (.ref h.objs.size) (fun _ => #[]); letGo old.toList.reverse; Builtin.List.listExtendWith (.ref h.objs.size) (.ref (b + 1)) .none) _ _ _
  refine wpAny_bind ?_
  unfold Builtin.List.listItems
  refine wpAny_bind (wpAny_seqItems hS rfl (wpAny_pure ?_))
  show wpAny _ _ (updateSeq h.objs.size (fun _ => #[]) >>= fun _ => letGo (#[] : Array Value).toList.reverse >>= fun _ => Builtin.List.listExtendWith (.ref h.objs.size) (.ref (b + 1)) .none) _ _ _
  refine wpAny_bind (wpAny_updateSeq hS rfl ?_)
  have u1 := Up.update (h.push (lobj #[] 0)) h.objs.size (Obj.mapSeq (fun _ => (#[] : Array Value)))
  have hS1 : ∃ c, ((h.push (lobj #[] 0)).update h.objs.size (Obj.mapSeq (fun _ => (#[] : Array Value)))).get? h.objs.size = some (lobj #[] c) := ⟨_, Heap.get?_update_self _ hS rfl⟩
  have lt1 : h.objs.size < ((h.push (lobj #[] 0)).update h.objs.size (Obj.mapSeq (fun _ => (#[] : Array Value)))).objs.size := let ⟨_, e⟩ := hS1; Heap.lt_size e
  generalize (h.push (lobj #[] 0)).update h.objs.size (Obj.mapSeq (fun _ => (#[] : Array Value))) = H1 at u1 hS1 lt1
  have U1 : Up [] h H1 := u0.step1 u1 (Nat.le_refl _)
  obtain ⟨c, hS1⟩ := hS1
  have B1 := B.keep U1
  have hx1 := U1.keep _ _ hx
  have tx1 : Looks (model PW w) H1 (typeOf (.ref (b + 1))) (.ref 58) := type_bk hx1
  have bS : b + 1 < h.objs.size := Heap.lt_size hx
  refine wpAny_bind (wpAny_letGo ?_)
  unfold Builtin.List.listExtendWith
  refine wpAny_bind (tx1.at ?_)
  have e1 : Builtin.List.listSameRef (.ref h.objs.size) (.ref (b + 1)) = false := by
    have : h.objs.size ≠ b + 1 := Nat.ne_of_gt bS
    simp [Builtin.List.listSameRef, this]
  rw [e1]
  rw [if_neg (by simp)]
  refine wpAny_bind (bk_iter B1 h8 hx1 ?_)
  have u2 : Up [] H1 (H1.push { cls := .type "dict_keyiterator", data := .fields #[.ref (b + 1), .int 0 0, .int es.size 0, .int n 0] }) := Up.push _ _
  have hI : (H1.push { cls := .type "dict_keyiterator", data := .fields #[.ref (b + 1), .int 0 0, .int es.size 0, .int n 0] }).IsKeyIter H1.objs.size (b + 1) 0 es.size n := ⟨_, Heap.get?_push_size _ rfl, rfl, rfl⟩
  generalize H1.push { cls := .type "dict_keyiterator", data := .fields #[.ref (b + 1), .int 0 0, .int es.size 0, .int n 0] } = H2 at u2 hI
  have B2 := B1.keep u2
  have hx2 := u2.keep _ _ hx1
  have hS2 := u2.keep _ _ hS1
  have tx2 : Looks (model PW w) H2 (typeOf (.ref (b + 1))) (.ref 58) := type_bk hx2
  have sp2 : Looks (model PW w) H2 (specialOf (.ref (b + 1)) "__len__") (some (.builtin "dict.__len__")) := tx2.andThen (looks_findIn B2.K (by kernel_rfl))
  have inst : Looks (model PW w) H2 (isInstance (.ref (b + 1)) (.type "dict")) true := tx2.andThen (sub58 B2 _)
  have fin : ∀ (H3 : Heap) (t3 : Nat) (c3 : Nat), Up [h.objs.size] H2 H3 → H3.get? h.objs.size = some (lobj #[] c3) → codeAny (model PW w) A.in1 (.builtin "list.extend.loop" ⟨[.ref h.objs.size, .ref H1.objs.size, .none], []⟩) (wants (fun r s₂ => r = .none ∧ Q (.ref h.objs.size) s₂) NoE) (St H3 g d t3 os) := by
    intro H3 t3 c3 u3 e3
    have I3 : H3.IsKeyIter H1.objs.size (b + 1) 0 es.size n := let ⟨o', q1, q2⟩ := hI; ⟨o', u3.get (nin (Nat.ne_of_gt lt1)) q1, q2⟩
    refine key_loop (A := A.in1) hh hsz rfl (Nat.ne_of_lt lt1) (Nat.ne_of_lt (Nat.lt_trans bS lt1)) (Nat.ne_of_gt bS) es.size 0 H3 #[] c3 (by omega) (Nat.zero_le _) I3 (u3.get (nin (Nat.ne_of_lt bS)) hx2) e3 (by simp) fun h4 acc' c' u4 e4 q4 => ?_
    refine ⟨rfl, q h.objs.size h4 _ ⟨acc'.toList, c', by rw [Array.toArray_toList]; exact e4, ?_⟩ ?_ (Nat.le_refl _)⟩
    · rw [q4]; exact E.strs
    · refine (U1.step0 u2).trans (u3.trans (Z := [h.objs.size, H1.objs.size]) u4 (fun a ha => .inl (by simp at ha; simp [ha])) (fun a ha => .inl ha)) (fun a ha => .inl ha) (fun a ha => .inr ?_)
      rcases List.mem_cons.mp ha with rfl | ha
      · exact Nat.le_refl _
      · rw [List.mem_singleton.mp ha]; exact Nat.le_of_lt lt1
  refine wpAny_bind (wpAny_holding ?_)
  unfold Builtin.List.listLengthHint
  refine wpAny_bind (sp2.at ?_)
  have spl : splitId "dict.__len__" = some ("dict", "__len__") := by decide +kernel
  dsimp only
  rw [spl]
  dsimp only
  refine wpAny_bind (inst.at ?_)
  rw [if_neg (by simp)]
  rw [if_pos (by decide +kernel)]
  refine wpAny_bind (tx2.at ?_)
  dsimp only
  have B2' := B2
  refine wpAny_bind ((bk_len (A := A.in1.in1) (Q := fun v s' => ∃ t1 t2, v = .int es.size t1 ∧ s' = St H2 g d t2 os) B2 hx2 hsz h8 (fun t1 t2 => ⟨t1, t2, rfl, rfl⟩)).toE ?_)
  rintro v s' ⟨t1, t2, rfl, rfl⟩
  refine wpAny_bind (wpAny_of_eq (a := some (es.size : Int)) rfl ?_)
  dsimp only
  refine wpAny_pure ?_
  split
  · refine wpAny_bind (wpAny_rule (wpAny_bind ?_))
    show wpAny _ _ (updateSeq h.objs.size (·.push .none) >>= fun _ => updateSeq h.objs.size (·.pop)) _ _ _
    refine wpAny_bind (wpAny_updateSeq hS2 rfl ?_)
    have hS3 := Heap.get?_update_self (Obj.mapSeq (·.push Value.none)) hS2 (by rw [mapSeq_push]; rfl)
    rw [mapSeq_push] at hS3
    refine wpAny_updateSeq (hz := by seq_fits) hS3 rfl ?_
    have hS4 := Heap.get?_update_self (Obj.mapSeq (·.pop)) hS3 rfl
    refine wpAny_pure ⟨plainId_quiet F.plain_extend_loop _, fin _ _ _ ((Up.update _ _ _).trans (Up.update _ _ _) (fun a ha => .inl ha) (fun a ha => .inl ha)) hS4⟩
  · exact wpAny_pure ⟨plainId_quiet F.plain_extend_loop _, fin H2 _ _ ((Up.refl [] H2).mono (by simp)) hS2⟩
end
end Mine
end

/- part M24 -/
section
open PySem PySem.Calls PySem.Spec PyProof.Rows PySem.W Builtin Builtin.ObjectAttr Builtin.Getset_descriptor
namespace Mine

section
variable {w : World} {A : Around} {h : Heap} {g : Array GenState} {d : Drawn} {t : Nat} {os : OsState} {s : Shared} {env : Env}

theorem s_add {p q : Wd} {t1 t2 : Tok} {Q : Value → Shared → Prop} (hl : p.length + q.length ≤ 100) (k : ∀ t' k, Q (.str (Mine.T (p ++ q)) t') (St h g d k os)) : W w A (binaryOp .Add (.str (Mine.T p) t1) (.str (Mine.T q) t2)) Q (St h g d t os) := by
  refine ⟨P.add_str ?_⟩
  have e1 : (Mine.T p).length = p.length := by show p.toArray.size = _; simp
  have e2 : (Mine.T q).length = q.length := by show q.toArray.size = _; simp
  rw [e1, e2]
  by_cases z1 : p.length = 0
  · rw [if_pos (by simp [z1])]
    have : p = [] := List.length_eq_zero_iff.mp z1
    subst this
    exact k _ _
  · rw [if_neg (by simpa using z1)]
    by_cases z2 : q.length = 0
    · rw [if_pos (by simp [z2])]
      have : q = [] := List.length_eq_zero_iff.mp z2
      subst this
      rw [List.append_nil] at k
      exact k _ _
    · rw [if_neg (by simpa using z2)]
      have e3 : Mine.T p ++ Mine.T q = Mine.T (p ++ q) := by
        show (⟨p.toArray ++ q.toArray⟩ : Str) = _
        simp
      rw [e3]
      refine ⟨?_, k _ _⟩
      show (p ++ q).toArray.size ≤ sizeLine
      unfold sizeLine; simp; omega
theorem l_extend {a b : Nat} {xs ys : Array Value} {n m : Nat} {Q : Value → Shared → Prop} (ea : h.get? a = some (lobj xs n)) (eb : h.get? b = some (lobj ys m)) (hz : xs.size + ys.size < 2000)
    (k : ∀ h' n', h'.get? a = some (lobj (xs ++ ys) n') → Up [a] h h' → Q .none (St h' g d t os)) : W w A (call (.builtin "list.extend") [.ref a, .ref b]) Q (St h g d t os) := by
  refine ⟨call_meets PySem.F.slot_list_extend ⟨_, ea, rfl⟩ PySem.F.entry_list_extend (PySem.F.args_list_extend_2 _ _) (AutoSeq1.list_extend_list_list_0 a xs n b ys m ?_ (by unfold sizeLine; omega) (by unfold sizeLine; omega)) ⟨ea, eb, ?_⟩⟩
  · have : Builtin.List.listTooLong (xs.size + ys.size) = false := by unfold Builtin.List.listTooLong; simp [sizeLine]; omega
    rw [this]; simp
  · exact k _ _ (Heap.get?_update_self _ ea rfl) (Up.update _ _ _)
theorem keep_type (T : String) : KeepOk w (.type T) h := ⟨.machine, .inr (.inl rfl), Looks.of_pure rfl⟩
theorem keep_K {f : Value} (B : Base w h) (e : keepIn (KK w.params) f = true) : KeepOk w f h := keeps_K e h B.K
theorem bin_add' {l r : Expr} {pos : Pos} : True := trivial
end

def dfs (kp : List Wd) : Nat → Wd → List Wd
  | 0, p => []
  | f + 1, p => p :: (kids kp p).flatMap fun c => dfs kp f (p ++ [c])

/-- a part: the word and its letters -/
def PrO (h : Heap) (kp : List Wd) (R : Nat → Prop) (v : Value) (q : Wd) : Prop := ∃ r tk l, v = .ref r ∧ h.get? r = some (tobj #[.str (Mine.T q) tk, .ref l]) ∧ Strs h l ((kids kp q).map fun c => [c]) ∧ R l
def PrA (h : Heap) (kp : List Wd) (R : Nat → Prop) : List Value → List Wd → Prop
  | [], [] => True
  | v :: vs, q :: qs => PrO h kp R v q ∧ PrA h kp R vs qs
  | _, _ => False
theorem PrA.app {h : Heap} {kp : List Wd} {R : Nat → Prop} : ∀ {vs ws : List Value} {qs rs : List Wd}, PrA h kp R vs qs → PrA h kp R ws rs → PrA h kp R (vs ++ ws) (qs ++ rs)
  | [], _, [], _, _, y => y
  | _ :: _, _, _ :: _, _, x, y => ⟨x.1, x.2.app y⟩
theorem PrA.len {h : Heap} {kp : List Wd} {R : Nat → Prop} : ∀ {vs : List Value} {qs : List Wd}, PrA h kp R vs qs → vs.length = qs.length
  | [], [], _ => rfl
  | _ :: _, _ :: _, x => congrArg (· + 1) x.2.len
theorem PrA.all {h h' : Heap} {kp : List Wd} {R R' : Nat → Prop} (k : ∀ v q, PrO h kp R v q → PrO h' kp R' v q) : ∀ {vs : List Value} {qs : List Wd}, PrA h kp R vs qs → PrA h' kp R' vs qs
  | [], [], _ => trivial
  | _ :: _, _ :: _, x => ⟨k _ _ x.1, x.2.all k⟩
theorem PrA.up {h h' : Heap} {kp : List Wd} {R R' : Nat → Prop} {X : List Nat} {vs : List Value} {qs : List Wd} (x : PrA h kp R vs qs) (u : Up X h h') (n : ∀ a ∈ X, ∀ o, h.get? a = some o → (∀ xs, o ≠ tobj xs) ∧ ((∀ xs n, o ≠ lobj xs n) ∨ ∀ l, R l → l ≠ a)) (n2 : ∀ l, R l → R' l) : PrA h' kp R' vs qs :=
  x.all fun v q ⟨r, tk, l, e1, e2, e3, e4⟩ => ⟨r, tk, l, e1, u.get (fun z => (n r z _ e2).1 _ rfl) e2, e3.up u (fun z => by
    obtain ⟨ys, k, e, _⟩ := e3
    rcases (n l z _ e).2 with y | y
    · exact y _ _ rfl
    · exact y l e4 rfl), n2 l e4⟩
/-- a list of parts -/
def Prs (h : Heap) (kp : List Wd) (R : Nat → Prop) (D : Nat) (qs : List Wd) : Prop := ∃ vs n, h.get? D = some (lobj vs.toArray n) ∧ PrA h kp R vs qs

theorem kids_nodup {kp fz : List Wd} (ok : Okw kp fz) (p : Wd) : (kids kp p).Nodup := by
  unfold kids List.Nodup
  rw [List.pairwise_map]
  have h1 : (kp.filter fun q => q.dropLast == p).Pairwise (· ≠ ·) := List.Pairwise.filter _ ok.nd
  refine List.Pairwise.imp_of_mem (fun {a b} ha hb hne e => ?_) h1
  rw [List.mem_filter] at ha hb
  apply hne
  rw [← snoc_of (ok.ne _ ha.1), ← snoc_of (ok.ne _ hb.1), beq_iff_eq.mp ha.2, beq_iff_eq.mp hb.2, e]

theorem dfs_mem {kp fz : List Wd} (ok : Okw kp fz) : ∀ (f : Nat) (p : Wd), p.length + f = 5 → Inn kp p → ∀ q, q ∈ dfs kp f p ↔ Inn kp q ∧ p <+: q
  | 0, p, hl, hp, q => by
    rcases hp with rfl | hp
    · simp at hl
    · have := ok.len p hp; omega
  | f + 1, p, hl, hp, q => by
    unfold dfs
    rw [List.mem_cons, List.mem_flatMap]
    constructor
    · rintro (rfl | ⟨c, hc, hq⟩)
      · exact ⟨hp, List.prefix_refl _⟩
      · have hpc := (kids_mem ok).mp hc
        have := (dfs_mem ok f (p ++ [c]) (by simp; omega) (.inr hpc) q).mp hq
        exact ⟨this.1, (List.prefix_append p [c]).trans this.2⟩
    · rintro ⟨hq, r, rfl⟩
      cases r with
      | nil => simp
      | cons c r =>
        refine .inr ⟨c, ?_, ?_⟩
        · rw [kids_mem ok]
          have := inn_pre ok hq (p.length + 1)
          rw [show (p ++ c :: r).take (p.length + 1) = p ++ [c] by rw [List.take_append]; simp [List.take_of_length_le]] at this
          rcases this with e | e
          · simp at e
          · exact e
        · have hpc : Inn kp (p ++ [c]) := by
            have := inn_pre ok hq (p.length + 1)
            rwa [show (p ++ c :: r).take (p.length + 1) = p ++ [c] by rw [List.take_append]; simp [List.take_of_length_le]] at this
          rw [dfs_mem ok f (p ++ [c]) (by simp; omega) hpc]
          exact ⟨hq, r, by simp⟩

theorem dfs_nodup {kp fz : List Wd} (ok : Okw kp fz) : ∀ (f : Nat) (p : Wd), p.length + f = 5 → Inn kp p → (dfs kp f p).Nodup
  | 0, p, hl, hp => by unfold dfs; exact List.nodup_nil
  | f + 1, p, hl, hp => by
    unfold dfs
    have hk : ∀ c ∈ kids kp p, p ++ [c] ∈ kp := fun c hc => (kids_mem ok).mp hc
    have hn := kids_nodup ok p
    have pre : ∀ c ∈ kids kp p, ∀ q ∈ dfs kp f (p ++ [c]), p ++ [c] <+: q := fun c hc q hq => ((dfs_mem ok f (p ++ [c]) (by simp; omega) (.inr (hk c hc)) q).mp hq).2
    rw [List.nodup_cons]
    refine ⟨fun z => ?_, ?_⟩
    · obtain ⟨c, hc, hq⟩ := List.mem_flatMap.mp z
      have := (pre c hc p hq).length_le
      simp at this
      omega
    · generalize kids kp p = ks at hk hn pre
      induction ks with
      | nil => simp
      | cons c ks ih =>
        rw [List.flatMap_cons, List.nodup_append]
        rw [List.nodup_cons] at hn
        refine ⟨dfs_nodup ok f (p ++ [c]) (by simp; omega) (.inr (hk c (.head _))), ih (fun c hc => hk c (.tail _ hc)) hn.2 (fun c hc => pre c (.tail _ hc)), fun a ha b hb e => ?_⟩
        subst e
        obtain ⟨c', hc', hq⟩ := List.mem_flatMap.mp hb
        obtain ⟨r1, e1⟩ := pre c (.head _) a ha
        obtain ⟨r2, e2⟩ := pre c' (.tail _ hc') a hq
        rw [← e2] at e1
        simp only [List.append_assoc, List.append_cancel_left_eq, List.cons_append, List.nil_append] at e1
        injection e1 with e1 _
        exact hn.1 (e1 ▸ hc')

theorem nodup_len {α : Type} [DecidableEq α] : ∀ (l l' : List α), l.Nodup → (∀ a ∈ l, a ∈ l') → l.length ≤ l'.length
  | [], _, _, _ => Nat.zero_le _
  | a :: l, l', hn, hs => by
    rw [List.nodup_cons] at hn
    have h1 := nodup_len l (l'.erase a) hn.2 fun b hb => (List.mem_erase_of_ne (fun (e : b = a) => hn.1 (e ▸ hb))).mpr (hs b (.tail _ hb))
    have h2 := List.length_erase_of_mem (hs a (.head _))
    have h3 : 0 < l'.length := List.length_pos_of_mem (hs a (.head _))
    rw [List.length_cons]; omega
theorem dfs_len {kp fz : List Wd} (ok : Okw kp fz) {f : Nat} {p : Wd} (hl : p.length + f = 5) (hp : Inn kp p) : (dfs kp f p).length ≤ kp.length + 1 := by
  have := nodup_len (dfs kp f p) ([] :: kp) (dfs_nodup ok f p hl hp) fun q hq => by
    rcases ((dfs_mem ok f p hl hp q).mp hq).1 with e | e
    · rw [e]; exact .head _
    · exact .tail _ e
  simpa using this

section
variable {w : World} {A : Around} {h : Heap} {g : Array GenState} {d : Drawn} {t : Nat} {os : OsState} {s : Shared} {env : Env}

theorem parts_spec {D : AD} {N : Nat} {kp fz : List Wd} {adr : Wd → Nat} (ok : Okw kp fz) (hz : kp.length < 60) (has : ∀ q ∈ kp, ∀ c ∈ q, c < 128) : ∀ (f : Nat) (p : Wd) (A : Around) (h : Heap) (t : Nat) (tk : Tok) (Q : Value → Shared → Prop),
    Base w h → Gro w D N h → N < 9000 → Tree h D kp fz adr → Inn kp p → p.length + f = 5 → A.depth + f + 4 < recursionLimit → A.handled = none →
    (∀ P h' t', Prs h' kp (fun l => h.objs.size ≤ l) P (dfs kp f p) → Up [] h h' → h.objs.size ≤ P → Q (.ref P) (St h' g d t' os)) →
    W w A (call (.ref 90) [.ref (adr p + 1), .str (Mine.T p) tk]) Q (St h g d t os) := by
  intro f
  induction f with
  | zero =>
    intro p A h t tk Q B G hN Tr hp hpl hA hh q
    rcases hp with rfl | hp
    · simp at hpl
    · have := ok.len p hp; omega
  | succ f ih =>
    intro p A h t tk Q B G hN Tr hp hpl hA hh q
    refine fn_call 90 [("book", .ref (adr p + 1)), ("part", .str (Mine.T p) tk)] B (by omega) rfl rfl (by kernel_rfl) rfl rfl rfl rfl rfl rfl rfl fun env h₁ he N1 u eL lt => ?_
    have k0 : env.scope.kind = .function := by rw [he]; rfl
    have k1 : env.kindOf "book" = some .local := by rw [he]; kernel_rfl
    have k2 : env.kindOf "part" = some .local := by rw [he]; kernel_rfl
    have k3 : env.kindOf "parts" = some .local := by rw [he]; kernel_rfl
    have k4 : env.kindOf "letter" = some .local := by rw [he]; kernel_rfl
    have k5 : env.kindOf "list" = some .globalImplicit := by rw [he]; kernel_rfl
    have k6 : env.kindOf "_law_parts" = some .globalImplicit := by rw [he]; kernel_rfl
    have k7 : env.globals = mainGlobals := by rw [he]; rfl
    have k8 : env.builtins = builtinsNs := by rw [he]; rfl
    have k9 : interactive env = false := by rw [he]; rfl
    have dA : (A.deeper env).depth = A.depth + 1 := rfl
    have dH : (A.deeper env).handled = none := hh
    clear he
    generalize A.deeper env = A' at dA dH
    dsimp only [List.foldl] at N1
    have B1 := B.keep u
    have G1 := G.wr u .nil (by simp)
    have Tr1 := Tr.wr u .nil (by simp)
    have lL : @LT.lt Nat _ env.locals h₁.objs.size := by rw [eL]; exact lt
    have hL : @LE.le Nat _ h.objs.size env.locals := Nat.le_of_eq eL.symm
    have h8 : 108 ≤ adr p := by have := G.bd.1; have := Tr.lo hp; omega
    have kl : ((kids kp p).map fun c => (c, adr (p ++ [c]))).length < 900 := by rw [List.length_map]; exact Nat.lt_of_le_of_lt (kids_len kp p) (by omega)
    have km : (((kids kp p).map fun c => (c, adr (p ++ [c]))).map fun q => [q.1]) = (kids kp p).map fun c => [c] := by rw [List.map_map]; rfl
    refine x_assign rfl (e_list rfl (sp_cons (e_tuple (n := 0) rfl (sp_cons (n_loc N1 k0 k2 here ?_)))))
    refine sp_cons (e_call rfl (n_list B1 k0 k5 k7 k8 (cw_keep rfl (sp_cons (n_loc N1 k0 k1 (skip (by decide +kernel) here) (sp_nil ⟨keep_type _, ?_⟩))))))
    refine list_book B1 (Tr1.book p hp).bk kl h8 dH fun l0 h2 t2 S2 u2 l0g => ?_
    rw [km] at S2
    refine sp_nil (mk_tuple (by show 2 ≤ sizeLine; decide) fun r0 h3 er0 e3 u3 lt3 => ?_)
    refine sp_nil (mk_list (by show 1 ≤ sizeLine; decide) fun P h4 eP e4 u4 lt4 => ?_)
    have l0l : l0 < h2.objs.size := let ⟨_, _, e, _⟩ := S2; Heap.lt_size e
    have U4 : Up [] h₁ h4 := (u2.step0 u3).step0 u4
    have P3 : @LE.le Nat _ h2.objs.size P := by rw [eP]; exact u3.1
    have Pg : @LE.le Nat _ h₁.objs.size P := Nat.le_trans u2.1 P3
    have l0P : l0 ≠ P := Nat.ne_of_lt (Nat.lt_of_lt_of_le l0l P3)
    refine s_loc (U4.ns (by simp) N1) k0 k3 fun h5 N5 u5 => ?_
    have U5 : Up [] h h5 := (u.step0 U4).step1 u5 hL
    have B5 := B.keep U5
    have Tr5 := Tr.wr U5 .nil (by simp)
    have G5 := G.wr U5 .nil (by simp)
    have pL : P ≠ env.locals := Nat.ne_of_gt (Nat.lt_of_lt_of_le lL Pg)
    have lg : @LE.le Nat _ h.objs.size l0 := Nat.le_trans u.1 l0g
    have Pr0 : PrO h5 kp (fun l => h.objs.size ≤ l ∧ l ≠ P) (.ref r0) p := by
      refine ⟨r0, tk, l0, rfl, ?_, ?_, lg, l0P⟩
      · refine u5.get (nin ?_) (u4.keep _ _ e3)
        exact Nat.ne_of_gt (Nat.lt_of_lt_of_le lL (by rw [er0]; exact u2.1))
      · exact ((S2.up u3 (by simp)).up u4 (by simp)).up u5 (nin (Nat.ne_of_gt (Nat.lt_of_lt_of_le lL l0g)))
    have e5 := u5.get (nin pL) e4
    refine x_for_list2 dH (fun _ => rfl) (e_call rfl (n_list B5 k0 k5 k7 k8 (cw_keep rfl (sp_cons (n_loc N5 k0 k1 (skip (by decide +kernel) (skip (by decide +kernel) here)) (sp_nil ⟨keep_type _, ?_⟩))))))
    refine list_book B5 (Tr5.book p hp).bk kl h8 dH fun D6 h6 t6 S6 u6 D6g => ?_
    rw [km] at S6
    obtain ⟨ls, nl, e6, zl⟩ := S6
    refine ⟨D6, ls.toArray, nl, fun it i s => ∃ h' t' m vs n, s = St h' g d t' os ∧ h'.Ns env.locals m ∧ m "book" = some (.ref (adr p + 1)) ∧ m "part" = some (.str (Mine.T p) tk) ∧ m "parts" = some (.ref P) ∧ h'.get? P = some (lobj vs.toArray n) ∧ PrA h' kp (fun l => h.objs.size ≤ l ∧ l ≠ P) vs (p :: ((kids kp p).take i).flatMap fun c => dfs kp f (p ++ [c])) ∧ Up [] h h' ∧ P ≠ it ∧ @LT.lt Nat _ env.locals it, rfl, e6, ?_, ?_, ?_⟩
    · intro it h7 hit u7 lt7
      have lt7' : @LE.le Nat _ h6.objs.size it := hit
      refine ⟨h7, _, _, [.ref r0], 0, rfl, u7.ns (by simp) (u6.ns (by simp) N5), skip (by decide +kernel) (skip (by decide +kernel) here), skip (by decide +kernel) here, here, u7.keep _ _ (u6.keep _ _ e5), ?_, (U5.step0 u6).step0 u7, ?_, ?_⟩
      · have : PrA h5 kp (fun l => h.objs.size ≤ l ∧ l ≠ P) [.ref r0] (p :: ((kids kp p).take 0).flatMap fun c => dfs kp f (p ++ [c])) := ⟨Pr0, trivial⟩
        exact (this.up u6 (by simp) (fun _ z => z)).up u7 (by simp) (fun _ z => z)
      · have := Heap.lt_size e5; exact Nat.ne_of_lt (Nat.lt_of_lt_of_le (Nat.lt_of_lt_of_le this u6.1) lt7')
      · exact Nat.lt_of_lt_of_le (Nat.lt_of_lt_of_le lL (Nat.le_trans (Nat.le_trans U4.1 u5.1) u6.1)) lt7'
    · rintro it i v s' h9 hx ⟨h8', t8, m, vs, n, rfl, N8, m1, m2, m3, eP8, pr8, U8, Pit, Lit⟩ hit hD6 u9 ei
      obtain ⟨oi, vi, f1, f2, f3⟩ := hit
      have hx' : ls[i]? = some v := by simpa using hx
      obtain ⟨q, tkq, q1, rfl⟩ := at_strs zl hx'
      rw [List.getElem?_map] at q1
      obtain ⟨c, q2, rfl⟩ := Option.map_eq_some_iff.mp q1
      have hck : c ∈ kids kp p := List.mem_of_getElem? q2
      have hpc : p ++ [c] ∈ kp := (kids_mem ok).mp hck
      have i9 : @LE.le Nat _ h.objs.size it := Nat.le_of_lt (Nat.lt_of_le_of_lt hL Lit)
      have U9 := U8.step1 u9 i9
      refine s_loc (u9.ns (nin (Nat.ne_of_lt Lit)) N8) k0 k4 fun h10 N10 u10 => ?_
      have U10 := U9.step1 u10 hL
      have B10 := B.keep U10
      have G10 := G.wr U10 .nil (by simp)
      have Tr10 := Tr.wr U10 .nil (by simp)
      have eP10 := u10.get (nin pL) (u9.get (nin Pit) eP8)
      have D6L : D6 ≠ env.locals := Nat.ne_of_gt (Nat.lt_of_lt_of_le lL (Nat.le_trans (Nat.le_trans U4.1 u5.1) D6g))
      have D6i : D6 ≠ it := fun z => by rw [z, f1] at hD6; cases hD6; cases f2
      have eD9 := u9.get (nin D6i) hD6
      have eD10 := u10.get (nin D6L) eD9
      obtain ⟨oi9, ei9⟩ := ei
      have ei10 := u10.get (nin (Nat.ne_of_gt Lit)) ei9
      refine x_expr ?_ k9 rfl
      refine meth1 "list" "list.extend" F.plainAttrs_list PySem.F.slot_list_extend F.type_list_extend rfl rfl rfl ?_
      refine n_loc N10 k0 k3 (skip (by decide +kernel) m3) ?_
      refine ⟨⟨_, eP10, rfl⟩, (fun a q => by cases q; exact ⟨_, eP10, rfl⟩), ?_⟩
      refine e_call rfl (n_glob (.ref 90) B10 k0 k6 k7 (cw_keep rfl (sp_cons (e_sub (n_loc N10 k0 k1 (skip (by decide +kernel) m1) (n_loc N10 k0 k4 here ?_))))))
      refine tree_step B10 G10 (by omega) Tr10 ok hp (by omega) (by omega) dH (fun z t' => ?_) (fun z => absurd hpc z) (fun z => absurd hpc z)
      refine sp_cons (e_bin (n_loc N10 k0 k2 (skip (by decide +kernel) m2) (n_loc N10 k0 k4 here (s_add (by simp; omega) fun t1 t2 => sp_nil ⟨keep_K B10 (by kernel_rfl), ?_⟩))))
      refine ih (p ++ [c]) A' h10 t2 t1 _ B10 G10 hN Tr10 (.inr hpc) (by simp; omega) (by omega) dH fun P2 h11 t11 pr11 u11 P2g => ?_
      obtain ⟨vs2, n2, eP2, pr2⟩ := pr11
      have eP11 := u11.keep _ _ eP10
      have szs : vs.length + vs2.length < 2000 := by
        have h1 := pr8.len
        have h2 := pr2.len
        have h3 := dfs_len ok (f := f) (p := p ++ [c]) (by simp; omega) (.inr hpc)
        have h4 := dfs_len ok (f := f + 1) (p := p) (by omega) hp
        have h5 : (p :: ((kids kp p).take i).flatMap fun c => dfs kp f (p ++ [c])).length ≤ (dfs kp (f + 1) p).length := by
          show _ ≤ (p :: (kids kp p).flatMap fun c => dfs kp f (p ++ [c])).length
          have e : (kids kp p).flatMap (fun c => dfs kp f (p ++ [c])) = ((kids kp p).take i).flatMap (fun c => dfs kp f (p ++ [c])) ++ ((kids kp p).drop i).flatMap (fun c => dfs kp f (p ++ [c])) := by rw [← List.flatMap_append, List.take_append_drop]
          rw [e, List.length_cons, List.length_cons, List.length_append]
          omega
        omega
      refine l_extend eP11 eP2 (by simpa using szs) fun h12 n12 e12 u12 => ?_
      refine x_nil ⟨rfl, ⟨h12, _, _, vs ++ vs2, n12, rfl, u12.ns (nin (Ne.symm pL)) (u11.ns (by simp) N10), skip (by decide +kernel) m1, skip (by decide +kernel) m2, skip (by decide +kernel) m3, by rw [e12]; simp, ?_, (U10.step0 u11).step1 u12 ?_, Pit, Lit⟩, ?_, ?_⟩
      · have f : ∀ l, h10.objs.size ≤ l → l ≠ P := fun l hl => Nat.ne_of_gt (Nat.lt_of_lt_of_le (Heap.lt_size eP10) hl)
        have a1 := (pr8.up (R' := fun l => h.objs.size ≤ l ∧ l ≠ P) u9 (fun a ha o e => by rw [List.mem_singleton.mp ha, f1] at e; cases e; exact ⟨fun xs z => (by rw [z] at f2; cases f2), .inl fun xs n z => by rw [z] at f2; cases f2⟩) (fun _ z => z))
        have a2 := a1.up (R' := fun l => h.objs.size ≤ l ∧ l ≠ P) u10 (fun a ha o e => by
          obtain ⟨oL, esL, epL, eL', dL, _⟩ := u9.ns (nin (Nat.ne_of_lt Lit)) N8
          rw [List.mem_singleton.mp ha, eL'] at e; cases e
          exact ⟨fun xs z => (by rw [z] at dL; cases dL), .inl fun xs n z => by rw [z] at dL; cases dL⟩) (fun _ z => z)
        have a3 := a2.up (R' := fun l => h.objs.size ≤ l ∧ l ≠ P) u11 (by simp) (fun _ z => z)
        have onP : ∀ a ∈ [P], ∀ o, h11.get? a = some o → (∀ xs, o ≠ tobj xs) ∧ ((∀ xs n, o ≠ lobj xs n) ∨ ∀ l, (h.objs.size ≤ l ∧ l ≠ P) → l ≠ a) := fun a ha o e => by
          rw [List.mem_singleton.mp ha, eP11] at e; cases e
          exact ⟨fun xs z => by simp at z, .inr fun l hl => by rw [List.mem_singleton.mp ha]; exact hl.2⟩
        have a4 := a3.up (R' := fun l => h.objs.size ≤ l ∧ l ≠ P) u12 onP (fun _ z => z)
        have b1 := (pr2.up (R' := fun l => h.objs.size ≤ l ∧ l ≠ P) (Up.refl [] h11) (by simp) (fun l hl => ⟨Nat.le_trans U10.1 hl, f l hl⟩)).up (R' := fun l => h.objs.size ≤ l ∧ l ≠ P) u12 onP (fun _ z => z)
        have := a4.app b1
        rw [List.take_add_one, q2, List.flatMap_append]
        simpa using this
      · exact Nat.le_trans u.1 Pg
      · have dp : D6 ≠ P := Nat.ne_of_gt (Nat.lt_of_lt_of_le (Heap.lt_size e5) D6g)
        rw [u12.get (nin dp) (u11.keep _ _ eD10), eD9]
      · rw [u12.get (nin (Ne.symm Pit)) (u11.keep _ _ ei10), ei9]
    · rintro it s' h9 ⟨h8', t8, m, vs, n, rfl, N8, m1, m2, m3, eP8, pr8, U8, Pit, Lit⟩ hit hD6 u9
      obtain ⟨oi, vi, f1, f2, f3⟩ := hit
      have i9 : @LE.le Nat _ h.objs.size it := Nat.le_of_lt (Nat.lt_of_le_of_lt hL Lit)
      have lsz : ls.toArray.size = (kids kp p).length := by rw [List.size_toArray]; have := strs_len zl; simpa using this
      refine x_ret (n_loc (u9.ns (nin (Nat.ne_of_lt Lit)) N8) k0 k3 m3 ?_)
      refine q P h9 _ ⟨vs, n, u9.get (nin Pit) eP8, ?_⟩ (U8.step1 u9 i9) (Nat.le_trans u.1 Pg)
      rw [lsz, List.take_length] at pr8
      exact pr8.up u9 (fun a ha o e => by rw [List.mem_singleton.mp ha, f1] at e; cases e; exact ⟨fun xs z => (by rw [z] at f2; cases f2), .inl fun xs n z => by rw [z] at f2; cases f2⟩) (fun _ z => z.1)
end
end Mine
end

/- part M25 -/
section
open PySem PySem.Calls PySem.Spec PyProof.Rows PySem.W Builtin Builtin.ObjectAttr Builtin.Getset_descriptor
namespace Mine

def SmallW (w : Wd) : Prop := ∀ c ∈ w, c < 128
theorem strOk_T {p : Wd} (h : SmallW p) : PyData.strOk (Mine.T p) = true := by
  unfold PyData.strOk
  simp only [List.all_toArray, List.all_eq_true, decide_eq_true_eq]
  intro c hc
  have := h c hc
  omega
theorem dat_strs : ∀ {ws : List Wd}, (∀ p ∈ ws, SmallW p) → PyData.canLayAll0 (ws.map fun p => PyData.str (Mine.T p)) = true
  | [], _ => by simp [PyData.canLayAll0]
  | p :: ws, h => by
    rw [List.map_cons]
    simp only [PyData.canLayAll0, PyData.canLay0, strOk_T (h p (.head _)), dat_strs (fun q hq => h q (.tail _ hq)), Bool.and_self]
theorem eqv_strs : ∀ (ws : List Wd), PyData.eqvAll (ws.map fun p => PyData.str (Mine.T p)) (ws.map fun p => PyData.str (Mine.T p)) = true
  | [] => by simp [PyData.eqvAll]
  | p :: ws => by
    rw [List.map_cons]
    simp only [PyData.eqvAll, PyData.eqv, eqv_strs ws, beq_self_eq_true, Bool.and_self]
theorem depth_strs : ∀ (ws : List Wd), (PyData.list (ws.map fun p => PyData.str (Mine.T p))).depth ≤ 50 := by
  intro ws
  have : ∀ ws : List Wd, PyData.depthAll (ws.map fun p => PyData.str (Mine.T p)) = 0 := by
    intro ws
    induction ws with
    | nil => simp [PyData.depthAll]
    | cons p ws ih => rw [List.map_cons]; simp only [PyData.depthAll, PyData.depth, ih]; rfl
  simp only [PyData.depth, this]; omega

section
variable {w : World} {A : Around} {h : Heap} {g : Array GenState} {d : Drawn} {t : Nat} {os : OsState} {s : Shared} {env : Env}

theorem Strs.reads {a : Nat} {ws : List Wd} (S : Strs h a ws) : ∃ as, Reads h (.ref a) (.list (ws.map fun p => PyData.str (Mine.T p))) as := by
  obtain ⟨vs, n, e, z⟩ := S
  have r := strs_readAll h z
  rw [List.map_map] at r
  exact ⟨_, .list e rfl rfl r⟩
theorem c_listne {a b : Nat} {ws : List Wd} {Q : Value → Shared → Prop} (S1 : Strs h a ws) (S2 : Strs h b ws) (hs : ∀ p ∈ ws, SmallW p) (hu : A.units + 60 < cLine) (q : Q (.bool false) (St h g d t os)) :
    W w A (compareOp .NotEq (.ref a) (.ref b)) Q (St h g d t os) := by
  obtain ⟨as, r1⟩ := S1.reads
  obtain ⟨bs, r2⟩ := S2.reads
  have c : (PyData.list (ws.map fun p => PyData.str (Mine.T p))).canLay0 = true := by simp only [PyData.canLay0]; exact dat_strs hs
  refine ⟨SeqAt.compareNe_reads r1 r2 c c ?_ ?_⟩
  · have := depth_strs ws
    rw [Nat.min_self]; omega
  · have : PyData.eqv (.list (ws.map fun p => PyData.str (Mine.T p))) (.list (ws.map fun p => PyData.str (Mine.T p))) = true := by simp only [PyData.eqv]; exact eqv_strs ws
    rw [this]; exact q
theorem c_isnot {Q : Value → Shared → Prop} (q : Q (.bool false) s) : W w A (compareOp .IsNot .none .none) Q s := ⟨wpAny_of_eq (a := .bool false) (by kernel_rfl) q⟩
theorem b_slen {p : Wd} {tk : Tok} {Q : Value → Shared → Prop} (hl : p.length ≤ 100) (q : ∀ t1 t2, Q (.int p.length t1) (St h g d t2 os)) : W w A (call (.builtin "len") [.str (Mine.T p) tk]) Q (St h g d t os) := by
  have e : (Mine.T p).length = p.length := by show p.toArray.size = _; simp
  refine ⟨P.len_str (by rw [e]; omega) ?_⟩
  rw [e]
  exact q _ _
end
end Mine
end

/- part M26 -/
section
open PySem PySem.Calls PySem.Spec PyProof.Rows PySem.W Builtin Builtin.ObjectAttr Builtin.Getset_descriptor
namespace Mine

abbrev sc1 : Scope := { kind := .function, names := [(Str.ofString ".0", .local), (Str.ofString "k", .local), (Str.ofString "word", .free)], isGenerator := false, isCoroutine := false, more := [] }
abbrev sc2 : Scope := { kind := .function, names := [(Str.ofString ".0", .local), (Str.ofString "part", .local), (Str.ofString "len", .globalImplicit), (Str.ofString "stem", .free)], isGenerator := false, isCoroutine := false, more := [] }
abbrev sc3 : Scope := { kind := .function, names := [(Str.ofString ".0", .local), (Str.ofString "part", .local), (Str.ofString "_law_letters", .globalImplicit), (Str.ofString "kept", .free)], isGenerator := false, isCoroutine := false, more := [] }

/-- the frame of _law_run -/
structure REnv (env : Env) (L : Nat) : Prop where
  loc : env.locals = L
  k0 : env.scope.kind = .function
  numbers : env.kindOf "numbers" = some .local
  root : env.kindOf "root" = some .local
  frozen : env.kindOf "frozen" = some .local
  made : env.kindOf "made" = some .local
  x : env.kindOf "x" = some .local
  reached : env.kindOf "reached" = some .local
  due : env.kindOf "due" = some .local
  kept : env.kindOf "kept" = some .cell ∧ env.cells.lookup (Str.ofString "kept") = some (L + 1)
  word : env.kindOf "word" = some .cell ∧ env.cells.lookup (Str.ofString "word") = some (L + 2)
  stem : env.kindOf "stem" = some .cell ∧ env.cells.lookup (Str.ofString "stem") = some (L + 3)
  grow : env.kindOf "grow" = some .cell ∧ env.cells.lookup (Str.ofString "grow") = some (L + 4)
  runs : env.kindOf "runs" = some .cell ∧ env.cells.lookup (Str.ofString "runs") = some (L + 5)
  gl : ∀ x ∈ [Str.ofString "FreezableDefaultDict", "_law_word", "_law_stem", "_law_down", "_law_letters", "_law_parts", "len", "range", "list", "sorted"], env.kindOf x = some .globalImplicit
  gb : env.globals = mainGlobals
  bu : env.builtins = builtinsNs
  code : env.code = .ref 99
  qual : env.qual = "_law_run.<locals>."
  inter : interactive env = false
  cl1 : closureFor sc1 env = pure [(Str.ofString "word", L + 2)]
  cl2 : closureFor sc2 env = pure [(Str.ofString "stem", L + 3)]
  cl3 : closureFor sc3 env = pure [(Str.ofString "kept", L + 1)]
  w1 : ∀ C, (compEnvC sc1 [(Str.ofString "word", L + 2)] C env).kindOf "word" = some .cell ∧ (compEnvC sc1 [(Str.ofString "word", L + 2)] C env).kindOf "k" = some .local
  w2 : ∀ C, (compEnvC sc2 [(Str.ofString "stem", L + 3)] C env).kindOf "stem" = some .cell ∧ (compEnvC sc2 [(Str.ofString "stem", L + 3)] C env).kindOf "part" = some .local ∧ (compEnvC sc2 [(Str.ofString "stem", L + 3)] C env).kindOf "len" = some .globalImplicit
  w3 : ∀ C, (compEnvC sc3 [(Str.ofString "kept", L + 1)] C env).kindOf "kept" = some .cell ∧ (compEnvC sc3 [(Str.ofString "kept", L + 1)] C env).kindOf "part" = some .local ∧ (compEnvC sc3 [(Str.ofString "kept", L + 1)] C env).kindOf "_law_letters" = some .globalImplicit

theorem renv_of (P : Params) (L : Nat) : REnv (callEnvC (fnAt (KK P) 100) L 100) L where
  loc := rfl
  k0 := rfl
  numbers := by kernel_rfl
  root := by kernel_rfl
  frozen := by kernel_rfl
  made := by kernel_rfl
  x := by kernel_rfl
  reached := by kernel_rfl
  due := by kernel_rfl
  kept := ⟨by kernel_rfl, rfl⟩
  word := ⟨by kernel_rfl, rfl⟩
  stem := ⟨by kernel_rfl, rfl⟩
  grow := ⟨by kernel_rfl, rfl⟩
  runs := ⟨by kernel_rfl, rfl⟩
  gl := by
    intro x hx
    simp only [List.mem_cons, List.not_mem_nil, or_false] at hx
    rcases hx with rfl | rfl | rfl | rfl | rfl | rfl | rfl | rfl | rfl | rfl <;> kernel_rfl
  gb := rfl
  bu := rfl
  code := rfl
  qual := by kernel_rfl
  inter := rfl
  cl1 := rfl
  cl2 := rfl
  cl3 := rfl
  w1 := fun C => ⟨by kernel_rfl, by kernel_rfl⟩
  w2 := fun C => ⟨by kernel_rfl, by kernel_rfl, by kernel_rfl⟩
  w3 := fun C => ⟨by kernel_rfl, by kernel_rfl, by kernel_rfl⟩

section
variable {w : World} {A : Around} {h : Heap} {g : Array GenState} {d : Drawn} {t : Nat} {os : OsState} {s : Shared} {env : Env}

theorem range_stop {it : Addr} {x : Int} {P : Option Value → Shared → Prop} (hh : A.handled = none) (hit : IsRangeIter h it x 0 1) (k : ∀ h', Up [] h h' → P none (St h' g d t os)) :
    wpAny (model PW w) A (pyNext (.ref it)) P NoE (St h g d t os) := by
  have hT : (St h g d t os).TypeIs (.ref it) "range_iterator" := ⟨_, hit, rfl⟩
  unfold pyNext
  refine wpAny_bind (wpAny_attempt (wpAny_callSpecial?_slot (name := Str.ofString "__next__") hT F.slot_range_iterator_next
    (wpAny_call_entry F.slot_range_iterator_next hT F.entry_range_iterator_next ?_ (F.args_range_iterator_next_1 _))))
  show wpAny _ _ (field (.ref it) 0 >>= _) _ _ _
  refine wpAny_bind (wpAny_field hit rfl (x := rawInt x) rfl ?_)
  show wpAny _ _ (field (.ref it) 1 >>= _) _ _ _
  refine wpAny_bind (wpAny_field hit rfl (x := rawInt 0) rfl ?_)
  show wpAny _ _ (field (.ref it) 2 >>= _) _ _ _
  refine wpAny_bind (wpAny_field hit rfl (x := rawInt 1) rfl ?_)
  show wpAny _ _ (if (0 : Int) ≤ 0 then _ else _) _ _ _
  rw [if_pos (Int.le_refl _)]
  refine wpAny_bind (wpAny_rule ?_)
  refine wpAny_bind ?_
  show wpAny _ _ (newExc (.type "StopIteration") [] >>= _) _ _ _
  refine wpAny_bind ?_
  simp only [newExc, newTuple]
  refine wpAny_bind (wpAny_newObj_type ?_ (by size_fits))
  refine wpAny_bind (m := firstArgMember _ _) (wpAny_of_eq (a := Value.none) (by first | rfl | (simp only [firstArgMember]; rfl)) ?_)
  refine wpAny_newObj_type ?_ (by size_fits)
  simp only [raiseNew]
  refine wpAny_bind (wpAny_handled ?_)
  rw [show A.in1.handled = none from hh]
  refine wpAny_bind (wpAny_pure (wpAny_throw ?_))
  refine wpAny_bind (wpAny_isInstance (T := "StopIteration") (b := true) ⟨_, Heap.get?_push_size _ rfl, rfl⟩ isSubtype_stop ?_)
  exact wpAny_pure (k _ ((Up.push _ _).push' _))

def RIt (k n : Nat) (it i : Nat) (h : Heap) : Prop := i ≤ n ∧ IsRangeIter h it ((k + 1 + i : Nat) : Int) ((n - i : Nat) : Int) 1

theorem words_comp {L k : Nat} {wd : Wd} {tw ts : Tok} {Q : Value → Shared → Prop} (R : REnv env L) (B : Base w h) (hh : A.handled = none) (cw : h.IsCell (L + 2) (some (.str (Mine.T wd) tw))) (cs : h.IsCell (L + 3) (some (.str (Mine.T (wd.take k)) ts))) (hk : k ≤ wd.length) (hw : wd.length ≤ 4)
    (q : ∀ D h' t', Strs h' D ((List.range (wd.length - k)).map fun j => wd.take (k + 1 + j)) → Up [] h h' → h.objs.size ≤ D → Q (.ref D) (St h' g d t' os)) :
    W w A (eval (.ListComp (.Subscript (.Name "word" ⟨51, 29, 51, 33⟩) (.Slice none (some (.Name "k" ⟨51, 35, 51, 36⟩)) none ⟨51, 34, 51, 36⟩) ⟨51, 29, 51, 37⟩)
      [⟨.Name "k" ⟨51, 42, 51, 43⟩, .Call (.Name "range" ⟨51, 47, 51, 52⟩) [.BinOp (.Call (.Name "len" ⟨51, 53, 51, 56⟩) [.Name "stem" ⟨51, 57, 51, 61⟩] [] ⟨51, 53, 51, 62⟩) .Add (.Constant (.int 1) 0 ⟨51, 65, 51, 66⟩) ⟨51, 53, 51, 66⟩,
        .BinOp (.Call (.Name "len" ⟨51, 68, 51, 71⟩) [.Name "word" ⟨51, 72, 51, 76⟩] [] ⟨51, 68, 51, 77⟩) .Add (.Constant (.int 1) 0 ⟨51, 80, 51, 81⟩) ⟨51, 68, 51, 81⟩] [] ⟨51, 47, 51, 82⟩, [], 0⟩] sc1 ⟨51, 28, 51, 83⟩) env) Q (St h g d t os) := by
  have gl := R.gl
  have sl : (wd.take k).length = k := by rw [List.length_take]; omega
  refine w_comp (n := wd.length - k) (It := RIt k (wd.length - k)) (fun C D it i ys s' => ∃ h' t', s' = St h' g d t' os ∧ StrsAre ys (((List.range i).map fun j => wd.take (k + 1 + j)).map Mine.T) ∧ (∃ m, h'.Ns C m) ∧ Up [] h h' ∧ (h.objs.size ≤ D ∧ D < C ∧ C < h'.objs.size ∧ h.objs.size ≤ it ∧ it < D))
    R.cl1 (by decide) rfl (by decide) (fun _ => rfl) (by omega) ?_ ?_ ?_ ?_
  · refine e_call rfl (n_range B R.k0 (gl _ (by simp)) R.gb R.bu (cw_keep rfl (sp_cons (e_bin (e_call rfl (n_len B R.k0 (gl _ (by simp)) R.gb R.bu (cw_builtin rfl (sp_cons (n_cell cs R.k0 R.stem.1 R.stem.2 (sp_nil (b_slen (by rw [sl]; omega) fun t1 t2 => ?_)))))))))))
    refine c_int (i_add ?_)
    refine sp_cons (e_bin (e_call rfl (n_len B R.k0 (gl _ (by simp)) R.gb R.bu (cw_builtin rfl (sp_cons (n_cell cw R.k0 R.word.1 R.word.2 (sp_nil (b_slen (by omega) fun t3 t4 => ?_))))))))
    refine c_int (i_add (sp_nil ⟨keep_type _, ⟨call_range_2 ?_⟩⟩))
    rw [sl]
    have hsm : Builtin.Range.small ((k : Int) + 1) ((wd.length : Int) + 1) 1 = true := by
      have : ∀ a b : Fin 5, Builtin.Range.small ((a.val : Int) + 1) ((b.val : Int) + 1) 1 = true := by decide +kernel
      exact this ⟨k, by omega⟩ ⟨wd.length, by omega⟩
    refine wpAny_pyIter_range (Heap.get?_push_size _ rfl) hsm ?_
    have hrs : Builtin.Range.rangeSize ((k : Int) + 1) ((wd.length : Int) + 1) 1 = ((wd.length - k : Nat) : Int) := by
      rw [rangeSize_one]
      split <;> omega
    rw [hrs]
    refine ⟨_, rfl, fun D C h' t' e n u l1 l2 l3 => ?_⟩
    have u1 : Up [] h (h.push { cls := .type "range", data := .fields #[.int ((k : Int) + 1) t2, .int ((wd.length : Int) + 1) t4, .int 1 (t4 + 1)] }) := Up.push _ _
    refine ⟨⟨Nat.zero_le _, u.keep _ _ (Heap.get?_push_size _ rfl)⟩, h', t', rfl, .nil, ⟨_, n⟩, ?_, ?_, l2, l3, ?_, ?_⟩
    · exact ((Up.push h _).step0 (Up.push _ _)).step0 u
    · exact Nat.le_trans ((Up.push h _).step0 (Up.push _ _)).1 l1
    · exact (Up.push h _).1
    · refine Nat.lt_of_lt_of_le ?_ l1
      simp only [Heap.size_push]; exact Nat.lt_succ_self _
  · intro it s x
    exact wpAny_pyIter_rangeiter x.2 ⟨rfl, rfl⟩
  · rintro C D it i ys s' hi ⟨hin, hI⟩ ⟨h2, t2, rfl, sy, ⟨m, nC⟩, u2, b1, b2, b3, b4, b5⟩ ⟨kD, eD⟩
    refine wpAny_pyNext_range_item hI (by omega) fun h3 i3 sb => ⟨_, rfl, ?_⟩
    have u3 := Up.same sb
    refine s_loc (u3.ns (nin (show C ≠ it by omega)) nC) rfl (R.w1 C).2 fun h4 n4 u4 => ?_
    have U4 : Up [] h h4 := (u2.step1 u3 b4).step1 u4 (show h.objs.size ≤ C by omega)
    have cw4 := U4.cell (by simp) cw
    have eD4 := u4.get (nin (show D ≠ C by omega)) (u3.get (nin (show D ≠ it by omega)) eD)
    have i4 := u4.get (nin (show it ≠ C by omega)) i3
    refine tests0 ?_
    rw [if_pos rfl]
    refine to_str (n_cell cw4 rfl (R.w1 C).1 rfl (n_loc n4 rfl (R.w1 C).2 here ?_))
    refine ⟨_, _, _, _, rfl, rfl, by show wd.toArray.size ≤ _; unfold sizeLine; simp; omega, fun t5 k5 h5 u5 => ?_⟩
    rw [slice_take]
    have ylen := StrsAre.length sy
    have b3' : C < h5.objs.size := Nat.lt_of_lt_of_le (Nat.lt_of_lt_of_le (Nat.lt_of_lt_of_le b3 u3.1) u4.1) u5.1
    refine ⟨⟨kD, u5.keep _ _ eD4⟩, ?_, fun h6 u6 _ => ⟨⟨by omega, ?_⟩, h6, _, rfl, ?_, ⟨_, u6.ns (nin (show C ≠ D by omega)) (u5.ns (by simp) n4)⟩, (U4.step0 u5).step1 u6 b1, b1, b2, Nat.lt_of_lt_of_le b3' u6.1, b4, b5⟩⟩
    · rw [ylen]; simp; omega
    · have := u6.get (nin (show it ≠ D by omega)) (u5.keep _ _ i4)
      rw [show ((k + 1 + i : Nat) : Int) + 1 = ((k + 1 + (i + 1) : Nat) : Int) by omega, show ((wd.length - k - i : Nat) : Int) - 1 = ((wd.length - k - (i + 1) : Nat) : Int) by omega] at this
      exact this
    · rw [List.range_succ, List.map_append, List.map_append]
      exact strs_snoc sy _ _
  · rintro C D it ys s' ⟨hin, hI⟩ ⟨h2, t2, rfl, sy, ⟨m, nC⟩, u2, b1, b2, b3, b4, b5⟩ ⟨kD, eD⟩
    rw [Nat.sub_self] at hI
    refine range_stop hh hI fun h3 u3 => ⟨rfl, ⟨_, u3.ns (by simp) nC⟩, fun h4 u4 => ?_⟩
    have eD4 := u4.get (nin (show D ≠ C by omega)) (u3.keep _ _ eD)
    exact q D h4 _ ⟨ys, kD, eD4, sy⟩ ((u2.step0 u3).step1 u4 (show h.objs.size ≤ C by omega)) b1
end
end Mine
end

/- part M27 -/
section
open PySem PySem.Calls PySem.Spec PyProof.Rows PySem.W Builtin Builtin.ObjectAttr Builtin.Getset_descriptor
namespace Mine

abbrev offS (st p : Wd) : Bool := p.take st.length != st
theorem filter_take {ws : List Wd} {st q : Wd} {i : Nat} (h : ws[i]? = some q) : (ws.take (i + 1)).filter (offS st) = (ws.take i).filter (offS st) ++ (if q.take st.length = st then [] else [q]) := by
  rw [List.take_add_one, h, List.filter_append]
  congr 1
  by_cases e : q.take st.length = st
  · simp [offS, e]
  · have : (q.take st.length != st) = true := bne_iff_ne.mpr e
    simp [offS, this, e]

section
variable {w : World} {A : Around} {h : Heap} {g : Array GenState} {d : Drawn} {t : Nat} {os : OsState} {s : Shared} {env : Env}

/-- what the walk over a list of words keeps, with the words that go on -/
def FJ (h : Heap) (g : Array GenState) (d : Drawn) (os : OsState) (ws : List Wd) (st : Wd) (C D it i : Nat) (ys : List Value) (s' : Shared) : Prop :=
  ∃ h' t', s' = St h' g d t' os ∧ StrsAre ys (((ws.take i).filter (offS st)).map Mine.T) ∧ (∃ m, h'.Ns C m) ∧ Up [] h h' ∧ (h.objs.size ≤ D ∧ D < C ∧ C < h'.objs.size ∧ h.objs.size ≤ it ∧ it < D)

theorem filt_start {a n D C it : Nat} {vs : List Value} {ws : List Wd} {st : Wd} {h2 h' : Heap} {t' : Nat} (i2 : LIt a vs.toArray n it 0 h2) (l2 : h.objs.size ≤ it) (u2 : Up [] h h2) (lt2 : it < h2.objs.size)
    (n3 : h'.Ns C (fun _ => none)) (u3 : Up [] h2 h') (l3 : h2.objs.size ≤ D) (l4 : D < C) (l5 : C < h'.objs.size) : LIt a vs.toArray n it 0 h' ∧ FJ h g d os ws st C D it 0 [] (St h' g d t' os) :=
  ⟨i2.up u3 (by simp) (by simp), h', t', rfl, .nil, ⟨_, n3⟩, u2.step0 u3, Nat.le_trans u2.1 l3, l4, l5, l2, Nat.lt_of_lt_of_le lt2 l3⟩

theorem filt_turn {L a n C D it i : Nat} {vs : List Value} {ws : List Wd} {st : Wd} {ts : Tok} {ys : List Value} {s' : Shared} {p1 p2 p3 p4 p5 p6 p7 p8 p9 : Pos} (R : REnv env L) (B : Base w h) (za : StrsAre vs (ws.map Mine.T)) (ea : h.get? a = some (lobj vs.toArray n)) (cs : h.IsCell (L + 3) (some (.str (Mine.T st) ts)))
    (hst : st.length ≤ 4) (hws : ∀ q ∈ ws, q.length ≤ 4) (hz : ws.length < 900) (hi : i < vs.toArray.size) (hI : LIt a vs.toArray n it i s'.heap) (J : FJ h g d os ws st C D it i ys s') (hD : ∃ k, s'.heap.get? D = some (lobj ys.toArray k)) :
    wpAny (model PW w) A (pyNext (.ref it)) (fun r s₁ => ∃ v, r = some v ∧ CTurn w A (compEnvC sc2 [(Str.ofString "stem", L + 3)] C env) "part"
      [.Compare (.Subscript (.Name "part" p2) (.Slice none (some (.Call (.Name "len" p3) [.Name "stem" p4] [] p5)) none p6) p7) [.NotEq] [.Name "stem" p8] p9] (.Name "part" p1) (LIt a vs.toArray n) (FJ h g d os ws st) C D it i ys v s₁) NoE s' := by
  obtain ⟨h2, t2, rfl, sy, ⟨m, nC⟩, u2, b1, b2, b3, b4, b5⟩ := J
  obtain ⟨kD, eD⟩ := hD
  have hx : vs.toArray[i]? = some vs.toArray[i] := Array.getElem?_eq_getElem hi
  have hx' : vs[i]? = some vs.toArray[i] := by simpa using hx
  obtain ⟨q, tk1, h1, ev⟩ := at_strs za hx'
  have hm1 : q ∈ ws := List.mem_of_getElem? h1
  refine LIt.item hI hx fun h3 i3 u3 => ⟨_, rfl, ?_⟩
  rw [ev]
  have kt := filter_take (st := st) h1
  have aI : a < h.objs.size := Heap.lt_size ea
  refine s_loc (u3.ns (nin (show C ≠ it by omega)) nC) rfl (R.w2 C).2.1 fun h4 n4 u4 => ?_
  have U4 : Up [] h h4 := (u2.step1 u3 b4).step1 u4 (show h.objs.size ≤ C by omega)
  have B4 := B.keep U4
  have c4 := U4.cell (by simp) cs
  have i4 : LIt a vs.toArray n it (i + 1) h4 := i3.up u4 (nin (show a ≠ C by omega)) (nin (show it ≠ C by omega))
  have eD4 := u4.get (nin (show D ≠ C by omega)) (u3.get (nin (show D ≠ it by omega)) eD)
  have b3' : C < h4.objs.size := Nat.lt_of_lt_of_le (Nat.lt_of_lt_of_le b3 u3.1) u4.1
  refine tests1 (t_cmp rfl (to_str (n_loc n4 rfl (R.w2 C).2.1 here (e_call rfl (n_len B4 rfl (R.w2 C).2.2 R.gb R.bu (cw_builtin rfl (sp_cons (n_cell c4 rfl (R.w2 C).1 rfl (sp_nil (b_slen (by omega) fun t1 t2 => ?_))))))))))
  refine ⟨_, _, _, _, rfl, rfl, by show q.toArray.size ≤ _; unfold sizeLine; have := hws _ hm1; simp; omega, fun t5 k5 h5 u5 => ?_⟩
  rw [slice_take]
  refine n_cell (u5.cell (by simp) c4) rfl (R.w2 C).1 rfl (c_ne (tr_bool ?_))
  have e1 : ((Mine.T (q.take st.length)).cps.toList != (Mine.T st).cps.toList) = decide (q.take st.length ≠ st) := by
    have : ((Mine.T (q.take st.length)).cps.toList == (Mine.T st).cps.toList) = decide (q.take st.length = st) := T_eq
    rw [bne, this]; simp
  rw [e1]
  have b3'' : C < h5.objs.size := Nat.lt_of_lt_of_le b3' u5.1
  by_cases e : q.take st.length = st
  · rw [decide_eq_false (by simpa using e), if_neg (by simp)]
    refine ⟨⟨kD, u5.keep _ _ eD4⟩, i4.up u5 (by simp) (by simp), h5, _, rfl, ?_, ⟨_, u5.ns (by simp) n4⟩, U4.step0 u5, b1, b2, b3'', b4, b5⟩
    rw [kt, if_pos e, List.append_nil]
    exact sy
  · rw [decide_eq_true e, if_pos rfl]
    refine n_loc (u5.ns (by simp) n4) rfl (R.w2 C).2.1 here ?_
    refine ⟨⟨kD, u5.keep _ _ eD4⟩, ?_, fun h6 u6 _ => ⟨(i4.up u5 (by simp) (by simp)).up u6 (nin (show a ≠ D by omega)) (nin (show it ≠ D by omega)), h6, _, rfl, ?_, ⟨_, u6.ns (nin (show C ≠ D by omega)) (u5.ns (by simp) n4)⟩, (U4.step0 u5).step1 u6 b1, b1, b2, Nat.lt_of_lt_of_le b3'' u6.1, b4, b5⟩⟩
    · have ylen := StrsAre.length sy
      rw [ylen, List.length_map]
      have h1 := List.length_filter_le (offS st) (ws.take i)
      rw [List.length_take] at h1
      omega
    · rw [kt, if_neg e, List.map_append]
      exact strs_snoc sy _ _
end
end Mine
end

/- part M28 -/
section
open PySem PySem.Calls PySem.Spec PyProof.Rows PySem.W Builtin Builtin.ObjectAttr Builtin.Getset_descriptor
namespace Mine
section
variable {w : World} {A : Around} {h : Heap} {g : Array GenState} {d : Drawn} {t : Nat} {os : OsState} {s : Shared} {env : Env}

theorem kept_comp {L a : Nat} {ws : List Wd} {st : Wd} {ts : Tok} {Q : Value → Shared → Prop} {p0 p1 p2 p3 p4 p5 p6 p7 p8 p9 pk ps : Pos} (R : REnv env L) (B : Base w h) (hh : A.handled = none) (ck : h.IsCell (L + 1) (some (.ref a))) (S : Strs h a ws) (cs : h.IsCell (L + 3) (some (.str (Mine.T st) ts)))
    (hst : st.length ≤ 4) (hws : ∀ q ∈ ws, q.length ≤ 4) (hz : ws.length < 900)
    (q : ∀ D h' t', Strs h' D (ws.filter (offS st)) → Up [] h h' → h.objs.size ≤ D → Q (.ref D) (St h' g d t' os)) :
    W w A (eval (.ListComp (.Name "part" p1) [⟨.Name "part" p0, .Name "kept" pk,
      [.Compare (.Subscript (.Name "part" p2) (.Slice none (some (.Call (.Name "len" p3) [.Name "stem" p4] [] p5)) none p6) p7) [.NotEq] [.Name "stem" p8] p9], 0⟩] sc2 ps) env) Q (St h g d t os) := by
  obtain ⟨vs, n, ea, za⟩ := id S
  have lenv : vs.toArray.size = ws.length := by rw [List.size_toArray]; exact strs_len za
  refine w_comp (n := vs.toArray.size) (It := LIt a vs.toArray n) (FJ h g d os ws st) R.cl2 (by decide) rfl (by decide) (fun _ => rfl) (by rw [lenv]; omega) (n_cell ck R.k0 R.kept.1 R.kept.2 ?_) (fun it s x => x.self s)
    (fun C D it i ys s' hi hI J hD => filt_turn R B za ea cs hst hws hz hi hI J hD) (fun C D it ys s' hI J hD => ?_)
  · exact LIt.new ea fun it h2 i2 l2 u2 lt2 => ⟨it, rfl, fun D C h3 t3 e3 n3 u3 l3 l4 l5 => filt_start i2 l2 u2 lt2 n3 u3 l3 l4 l5⟩
  · obtain ⟨h2, t2, rfl, sy, ⟨m, nC⟩, u2, b1, b2, b3, b4, b5⟩ := J
    obtain ⟨kD, eD⟩ := hD
    refine LIt.stop hh hI fun h3 u3 => ⟨rfl, ⟨_, u3.ns (nin (show C ≠ it by omega)) nC⟩, fun h4 u4 => ?_⟩
    have eD4 := u4.get (nin (show D ≠ C by omega)) (u3.get (nin (show D ≠ it by omega)) eD)
    rw [lenv, List.take_length] at sy
    exact q D h4 _ ⟨ys, kD, eD4, sy⟩ ((u2.step1 u3 b4).step1 u4 (show h.objs.size ≤ C by omega)) b1

theorem frozen_comp (hb : env.blockKind = .function) {L a : Nat} {ws : List Wd} {st : Wd} {ts : Tok} {m : Str → Option Value} {Q : Flow → Shared → Prop} {rest : List Stmt} {p0 p1 p2 p3 p4 p5 p6 p7 p8 p9 pk ps : Pos} (R : REnv env L) (B : Base w h) (hh : A.handled = none) (nL : h.Ns L m) (em : m "frozen" = some (.ref a)) (S : Strs h a ws) (cs : h.IsCell (L + 3) (some (.str (Mine.T st) ts)))
    (hst : st.length ≤ 4) (hws : ∀ q ∈ ws, q.length ≤ 4) (hz : ws.length < 900)
    (q : ∀ D h' t', Strs h' D (ws.filter (offS st)) → h'.Ns L (upd m "frozen" (.ref D)) → Up [L] h h' → h.objs.size ≤ D → W w A (execs rest env) Q (St h' g d t' os)) :
    W w A (execs (.Assign [.Name "frozen" ⟨57, 12, 57, 18⟩] (.ListComp (.Name "part" ⟨57, 22, 57, 26⟩) [⟨.Name "part" p0, .Name "frozen" pk,
      [.Compare (.Subscript (.Name "part" p2) (.Slice none (some (.Call (.Name "len" p3) [.Name "stem" p4] [] p5)) none p6) p7) [.NotEq] [.Name "stem" p8] p9], 0⟩] sc2 ⟨57, 21, 57, 74⟩) ⟨57, 12, 57, 74⟩ :: rest) env) Q (St h g d t os) := by
  obtain ⟨vs, n, ea, za⟩ := id S
  have lenv : vs.toArray.size = ws.length := by rw [List.size_toArray]; exact strs_len za
  have aL : a ≠ L := fun z => by
    rw [z] at ea
    obtain ⟨o, es, ep, e1, e2, _⟩ := nL
    rw [ea] at e1; cases e1; cases e2
  refine x_comp (n := vs.toArray.size) (It := LIt a vs.toArray n) (FJ h g d os ws st) (by
    show (pure (env.blockKind == .function && env.kindOf "frozen" == some .local && true && true) : Sem Bool) = pure true
    rw [hb, R.frozen]; rfl) R.cl2 (by decide) rfl (by decide) (fun _ => rfl) (by rw [lenv]; omega) (n_loc (R.loc ▸ nL) R.k0 R.frozen em ?_) (fun it s x => x.self s)
    (fun C D it i ys s' hi hI J hD => filt_turn R B za ea cs hst hws hz hi hI J hD) (fun C D it ys s' hI J hD => ?_)
  · exact LIt.new ea fun it h2 i2 l2 u2 lt2 => ⟨it, rfl, fun D C h3 t3 e3 n3 u3 l3 l4 l5 => filt_start i2 l2 u2 lt2 n3 u3 l3 l4 l5⟩
  · obtain ⟨h2, t2, rfl, sy, ⟨m', nC⟩, u2, b1, b2, b3, b4, b5⟩ := J
    obtain ⟨kD, eD⟩ := hD
    have lL : L < h.objs.size := nL.lt
    refine LIt.stop hh hI fun h3 u3 => ⟨rfl, ?_⟩
    have U3 := u2.step1 u3 b4
    refine s_loc (R.loc ▸ U3.ns (by simp) nL) R.k0 R.frozen fun h4 n4 u4 => ⟨⟨_, u4.ns (nin (by rw [R.loc]; show C ≠ L; omega)) (u3.ns (nin (show C ≠ it by omega)) nC)⟩, fun h5 u5 => ?_⟩
    rw [R.loc] at n4 u4
    have eD5 := u5.get (nin (show D ≠ C by omega)) (u4.get (nin (show D ≠ L by omega)) (u3.get (nin (show D ≠ it by omega)) eD))
    rw [lenv, List.take_length] at sy
    exact q D h5 _ ⟨ys, kD, eD5, sy⟩ (u5.ns (nin (show L ≠ C by omega)) n4) (((U3.mono (Y := [L]) (by simp)).step u4 (fun b q => .inl q)).step1 u5 (show h.objs.size ≤ C by omega)) b1
end
end Mine
end

/- part S1 -/
section
open PySem PySem.Calls PySem.Spec PyProof.Rows PySem.W
namespace Mine

def Post (n : Nat) (f : Nat → Nat) {α : Type} : KasT α → (α → Prop) → Prop
  | .ret a, P => P a
  | .ask i j k, P => i < n ∧ j < n ∧ i ≠ j ∧ Post n f (k (decide (f i < f j))) P
theorem Post.bind {n : Nat} {f : Nat → Nat} {α β : Type} {F : α → KasT β} {P : β → Prop} : ∀ {t : KasT α}, Post n f t (fun a => Post n f (F a) P) → Post n f (t.bind F) P
  | .ret _, h => h
  | .ask i j k, ⟨h1, h2, h3, h⟩ => ⟨h1, h2, h3, Post.bind (t := k _) h⟩
theorem Post.mono {n : Nat} {f : Nat → Nat} {α : Type} {P P' : α → Prop} (hp : ∀ a, P a → P' a) : ∀ {t : KasT α}, Post n f t P → Post n f t P'
  | .ret _, h => hp _ h
  | .ask i j k, ⟨h1, h2, h3, h⟩ => ⟨h1, h2, h3, Post.mono hp (t := k _) h⟩

/-- an order of 0 .. n-1 -/
def Good (n : Nat) (p : Array Nat) : Prop := p.toList.Perm (List.range n)
theorem Good.size {n : Nat} {p : Array Nat} (g : Good n p) : p.size = n := by have := List.Perm.length_eq g; simpa using this
theorem getD_eq {p : Array Nat} {i : Nat} (h : i < p.size) : p.getD i 0 = p[i] := by simp [Array.getD, h]
theorem getD_of {p : Array Nat} {i : Nat} : p.getD i 0 = (p[i]?).getD 0 := by
  by_cases h : i < p.size
  · simp [Array.getD, h]
  · simp [Array.getD, h]
theorem Good.lt {n : Nat} {p : Array Nat} (g : Good n p) {i : Nat} (h : i < n) : p.getD i 0 < n := by
  have hi : i < p.size := by rw [g.size]; exact h
  rw [getD_eq hi]
  have : p[i] ∈ p.toList := by simp
  exact List.mem_range.mp ((List.Perm.mem_iff g).mp this)
theorem Good.inj {n : Nat} {p : Array Nat} (g : Good n p) {i j : Nat} (hi : i < n) (hj : j < n) (h : p.getD i 0 = p.getD j 0) : i = j := by
  have h1 : i < p.size := by rw [g.size]; exact hi
  have h2 : j < p.size := by rw [g.size]; exact hj
  rw [getD_eq h1, getD_eq h2] at h
  have nd : p.toList.Nodup := (List.Perm.nodup_iff g).mpr List.nodup_range
  rcases Nat.lt_trichotomy i j with e | e | e
  · exact absurd (show p.toList[i]'(by simpa using h1) = p.toList[j]'(by simpa using h2) from h) (List.pairwise_iff_getElem.mp nd i j (by simpa using h1) (by simpa using h2) e)
  · exact e
  · exact absurd (show p.toList[j]'(by simpa using h2) = p.toList[i]'(by simpa using h1) from h.symm) (List.pairwise_iff_getElem.mp nd j i (by simpa using h2) (by simpa using h1) e)
theorem Good.of_perm {n : Nat} {p q : Array Nat} (g : Good n p) (h : q.Perm p) : Good n q := (Array.perm_iff_toList_perm.mp h).trans g

def Asc (f : Nat → Nat) (p : Array Nat) (m : Nat) : Prop := ∀ i j, i < j → j < m → f (p.getD i 0) < f (p.getD j 0)
def Dsc (f : Nat → Nat) (p : Array Nat) (m : Nat) : Prop := ∀ i j, i < j → j < m → f (p.getD j 0) < f (p.getD i 0)

section
variable {n : Nat} {f : Nat → Nat}
def Inj (n : Nat) (f : Nat → Nat) : Prop := ∀ i j, i < n → j < n → f i = f j → i = j
theorem Good.ne {p : Array Nat} (g : Good n p) (hf : Inj n f) {i j : Nat} (hi : i < n) (hj : j < n) (h : i ≠ j) : f (p.getD i 0) ≠ f (p.getD j 0) :=
  fun e => h (g.inj hi hj (hf _ _ (g.lt hi) (g.lt hj) e))
theorem Asc.succ {p : Array Nat} {m : Nat} (a : Asc f p m) (h : ∀ i, i < m → f (p.getD i 0) < f (p.getD m 0)) : Asc f p (m + 1) := fun i j hij hj => by
  by_cases e : j = m
  · subst e; exact h i hij
  · exact a i j hij (by omega)
theorem Asc.next {p : Array Nat} {m : Nat} (a : Asc f p m) (h1 : 1 ≤ m) (h : f (p.getD (m - 1) 0) < f (p.getD m 0)) : Asc f p (m + 1) := a.succ fun i hi => by
  by_cases e : i = m - 1
  · subst e; exact h
  · exact Nat.lt_trans (a i (m - 1) (by omega) (by omega)) h
theorem Dsc.next {p : Array Nat} {m : Nat} (a : Dsc f p m) (h1 : 1 ≤ m) (h : f (p.getD m 0) < f (p.getD (m - 1) 0)) : Dsc f p (m + 1) := fun i j hij hj => by
  by_cases e : j = m
  · subst e
    by_cases e : i = j - 1
    · subst e; exact h
    · exact Nat.lt_trans h (a i (j - 1) (by omega) (by omega))
  · exact a i j hij (by omega)

theorem post_asc (hf : Inj n f) {p : Array Nat} (g : Good n p) : ∀ (k a : Nat), 1 ≤ a → a + k ≤ n → Asc f p a → Post n f (kas_asc p k a) fun m => Asc f p m ∧ a ≤ m ∧ m ≤ a + k ∧ (m < a + k → f (p.getD m 0) < f (p.getD (m - 1) 0))
  | 0, a, h1, h2, h3 => ⟨h3, Nat.le_refl _, Nat.le_refl _, fun h => absurd h (Nat.lt_irrefl _)⟩
  | k + 1, a, h1, h2, h3 => by
    refine ⟨g.lt (by omega), g.lt (by omega), fun z => absurd (g.inj (by omega) (by omega) z) (by omega), ?_⟩
    by_cases c : f (p.getD a 0) < f (p.getD (a - 1) 0)
    · rw [decide_eq_true c]; simp only [↓reduceIte]
      exact ⟨h3, Nat.le_refl _, Nat.le_add_right _ _, fun _ => c⟩
    · rw [decide_eq_false c]; simp only [Bool.false_eq_true, ↓reduceIte]
      have hne := g.ne hf (i := a) (j := a - 1) (by omega) (by omega) (by omega)
      exact (post_asc hf g k (a + 1) (by omega) (by omega) (h3.next h1 (by omega))).mono fun m ⟨q1, q2, q3, q4⟩ => ⟨q1, by omega, by omega, fun z => q4 (by omega)⟩

theorem post_desc (hf : Inj n f) {p : Array Nat} (g : Good n p) : ∀ (k a : Nat), 1 ≤ a → a + k ≤ n → Dsc f p a → Post n f (kas_desc k p a 0) fun r => r.1 = p ∧ r.2.2 = 0 ∧ Dsc f p r.2.1 ∧ a ≤ r.2.1 ∧ r.2.1 ≤ a + k
  | 0, a, h1, h2, h3 => ⟨rfl, rfl, h3, Nat.le_refl _, Nat.le_refl _⟩
  | k + 1, a, h1, h2, h3 => by
    refine ⟨g.lt (by omega), g.lt (by omega), fun z => absurd (g.inj (by omega) (by omega) z) (by omega), ?_⟩
    by_cases c : f (p.getD a 0) < f (p.getD (a - 1) 0)
    · rw [decide_eq_true c]; simp only [↓reduceIte]; rw [if_neg (by omega)]
      exact (post_desc hf g k (a + 1) (by omega) (by omega) (h3.next h1 c)).mono fun m ⟨q1, q2, q3, q4, q5⟩ => ⟨q1, q2, q3, by omega, by omega⟩
    · rw [decide_eq_false c]; simp only [Bool.false_eq_true, ↓reduceIte]
      have hne := g.ne hf (i := a) (j := a - 1) (by omega) (by omega) (by omega)
      refine ⟨g.lt (by omega), g.lt (by omega), fun z => absurd (g.inj (by omega) (by omega) z) (by omega), ?_⟩
      rw [decide_eq_true (show f (p.getD (a - 1) 0) < f (p.getD a 0) by omega)]; simp only [↓reduceIte]
      exact ⟨rfl, rfl, h3, Nat.le_refl _, by show a ≤ a + (k + 1); omega⟩

theorem rev_at {p : Array Nat} {m : Nat} (h : m ≤ p.size) (k : Nat) : (kas_rev p 0 m).getD k 0 = if k < m then p.getD (m - 1 - k) 0 else p.getD k 0 := by
  unfold kas_rev
  rw [getD_of, getElem?_mirror_all h]
  by_cases e : k < m
  · rw [if_pos ⟨Nat.zero_le _, e⟩, if_pos e, Nat.zero_add, getD_of]
  · rw [if_neg (fun z => e z.2), if_neg e, getD_of]
theorem Good.rev {p : Array Nat} (g : Good n p) (i j : Nat) : Good n (kas_rev p i j) := g.of_perm (mirror_perm _ _ _ _)
theorem Dsc.rev {p : Array Nat} {m : Nat} (h : m ≤ p.size) (a : Dsc f p m) : Asc f (kas_rev p 0 m) m := fun i j hij hj => by
  rw [rev_at h, rev_at h, if_pos (by omega), if_pos hj]
  exact a _ _ (by omega) (by omega)

theorem post_count (hf : Inj n f) (hn : 2 ≤ n) {p : Array Nat} (g : Good n p) : Post n f (kas_count n p) fun r => Good n r.2 ∧ Asc f r.2 r.1 ∧ 1 ≤ r.1 ∧ r.1 ≤ n := by
  unfold kas_count
  refine Post.bind ((post_asc hf g (n - 1) 1 (Nat.le_refl _) (by omega) (fun i j hij hj => absurd hj (by omega))).mono fun m ⟨q1, q2, q3, q4⟩ => ?_)
  by_cases e1 : m = n
  · rw [if_pos (beq_iff_eq.mpr e1)]
    exact ⟨g, q1, q2, by show m ≤ n; omega⟩
  · rw [if_neg (fun z => e1 (beq_iff_eq.mp z))]
    by_cases e2 : m > 1
    · rw [if_pos e2]
      refine ⟨g.lt (by omega), g.lt (by omega), fun z => absurd (g.inj (by omega) (by omega) z) (by omega), ?_⟩
      rw [decide_eq_true (q1 0 (m - 1) (by omega) (by omega))]; simp only [↓reduceIte]
      exact ⟨g, q1, q2, by show m ≤ n; omega⟩
    · rw [if_neg e2]
      have em : m = 1 := by omega
      subst em
      have lt01 := q4 (by omega)
      unfold kas_descPart
      have d2 : Dsc f p (1 + 1) := Dsc.next (m := 1) (fun i j hij hj => absurd hj (by omega)) (Nat.le_refl _) lt01
      refine Post.bind ((post_desc hf g (n - (1 + 1)) (1 + 1) (by omega) (by omega) d2).mono fun r ⟨r1, r2, r3, r4, r5⟩ => ?_)
      obtain ⟨p', m', q'⟩ := r
      simp only at r1 r2 r3 r4 r5
      subst r1 r2
      show Post n f (if 0 > 0 then _ else kas_tail3 m' n p') _
      rw [if_neg (by omega)]
      unfold kas_tail3
      have gs := g.size
      refine Post.bind ((post_asc hf (g.rev 0 m') (n - m') m' (by omega) (by omega) (r3.rev (by omega))).mono fun m2 ⟨s1, s2, s3, s4⟩ => ?_)
      exact ⟨g.rev 0 m', s1, by show 1 ≤ m2; omega, by show m2 ≤ n; omega⟩

theorem post_place (hf : Inj n f) {p : Array Nat} (g : Good n p) {k : Nat} (hk : k < n) (a : Asc f p k) : ∀ (fu l r : Nat), l ≤ r → r ≤ k → r - l ≤ fu → (∀ i, i < l → f (p.getD i 0) < f (p.getD k 0)) → (∀ i, r ≤ i → i < k → f (p.getD k 0) < f (p.getD i 0)) →
    Post n f (kas_place p k fu l r) fun m => m ≤ k ∧ (∀ i, i < m → f (p.getD i 0) < f (p.getD k 0)) ∧ (∀ i, m ≤ i → i < k → f (p.getD k 0) < f (p.getD i 0))
  | 0, l, r, h1, h2, h3, h4, h5 => ⟨by omega, h4, fun i hi hk => h5 i (by omega) hk⟩
  | fu + 1, l, r, h1, h2, h3, h4, h5 => by
    unfold kas_place
    by_cases e : l ≥ r
    · rw [if_pos e]
      exact ⟨by omega, h4, fun i hi hk => h5 i (by omega) hk⟩
    · rw [if_neg e]
      refine ⟨g.lt hk, g.lt (by omega), fun z => absurd (g.inj (by omega) (by omega) z) (by omega), ?_⟩
      by_cases c : f (p.getD k 0) < f (p.getD ((l + r) / 2) 0)
      · rw [decide_eq_true c]; simp only [↓reduceIte]
        refine post_place hf g hk a fu l ((l + r) / 2) (by omega) (by omega) (by omega) h4 fun i hi hik => ?_
        by_cases e : i = (l + r) / 2
        · subst e; exact c
        · exact Nat.lt_trans c (a _ _ (by omega) hik)
      · rw [decide_eq_false c]; simp only [Bool.false_eq_true, ↓reduceIte]
        have hne := g.ne hf (i := k) (j := (l + r) / 2) (by omega) (by omega) (by omega)
        refine post_place hf g hk a fu ((l + r) / 2 + 1) r (by omega) h2 (by omega) (fun i hi => ?_) h5
        by_cases e : i = (l + r) / 2
        · subst e; omega
        · have := a i ((l + r) / 2) (by omega) (by omega); omega

theorem bub_at {p : Array Nat} {s d : Nat} (hs : s < p.size) (hd : d ≤ s) (k : Nat) : (bubble p s d).getD k 0 = if k = s - d then p.getD s 0 else if s - d < k ∧ k ≤ s then p.getD (k - 1) 0 else p.getD k 0 := by
  rw [getD_of, getElem?_bubble hs d hd]
  by_cases e : k = s - d
  · rw [if_pos e, if_pos e, getD_of]
  · rw [if_neg e, if_neg e]
    by_cases e2 : s - d < k ∧ k ≤ s
    · rw [if_pos e2, if_pos e2, getD_of]
    · rw [if_neg e2, if_neg e2, getD_of]

theorem post_bin (hf : Inj n f) : ∀ (fu : Nat) (p : Array Nat) (k : Nat), Good n p → 1 ≤ k → k + fu = n → Asc f p k → Post n f (kas_bin fu p k) fun p' => Good n p' ∧ Asc f p' n
  | 0, p, k, g, h1, h2, a => ⟨g, by rw [← h2]; exact a⟩
  | fu + 1, p, k, g, h1, h2, a => by
    unfold kas_bin
    have hk : k < n := by omega
    have gs := g.size
    refine Post.bind ((post_place hf g hk a k 0 k (Nat.zero_le _) (Nat.le_refl _) (by omega) (fun i hi => absurd hi (by omega)) (fun i h1 h2 => absurd h1 (by omega))).mono fun l ⟨l1, l2, l3⟩ => ?_)
    refine post_bin hf fu _ (k + 1) (g.of_perm (bubble_perm _ _ _)) (by omega) (by omega) fun i j hij hj => ?_
    have hd : k - (k - l) = l := by omega
    rw [bub_at (by omega) (by omega), bub_at (by omega) (by omega), hd]
    by_cases i1 : i = l
    · rw [if_pos i1, if_neg (by omega), if_pos (by omega)]
      exact l3 _ (by omega) (by omega)
    · rw [if_neg i1]
      by_cases i2 : l < i ∧ i ≤ k
      · rw [if_pos i2, if_neg (by omega), if_pos (by omega)]
        exact a _ _ (by omega) (by omega)
      · rw [if_neg i2]
        by_cases j1 : j = l
        · rw [if_pos j1]
          exact l2 i (by omega)
        · rw [if_neg j1]
          by_cases j2 : l < j ∧ j ≤ k
          · rw [if_pos j2]
            by_cases e : i < j - 1
            · exact a _ _ e (by omega)
            · omega
          · rw [if_neg j2]
            exact a _ _ hij (by omega)

theorem post_sort (hf : Inj n f) (hn : 2 ≤ n) : Post n f (kas_sort n) fun p => Good n p ∧ Asc f p n := by
  unfold kas_sort
  have g0 : Good n (List.toArray (List.range n)) := by unfold Good; simp
  refine Post.bind ((post_count hf hn g0).mono fun r ⟨r1, r2, r3, r4⟩ => ?_)
  by_cases e : r.1 < n
  · rw [if_pos e]
    rw [show max r.1 1 = r.1 by omega]
    exact post_bin hf _ _ _ r1 r3 (by omega) r2
  · rw [if_neg e]
    have : r.1 = n := by omega
    rw [this] at r2
    exact ⟨r1, r2⟩
end

theorem post_wp {n : Nat} {f : Nat → Nat} {α : Type} {cmp : Nat → Nat → (Bool → Shared → Prop) → Shared → Prop} {I : Shared → Prop} {Q : α → Shared → Prop} {P : α → Prop}
    (hc : ∀ i j C s, i < n → j < n → i ≠ j → I s → (∀ s', I s' → C (decide (f i < f j)) s') → cmp i j C s) (hq : ∀ a s, P a → I s → Q a s) : ∀ (t : KasT α) (s : Shared), Post n f t P → I s → t.kasWp cmp Q s
  | .ret a, s, h, i => hq a s h i
  | .ask i j k, s, ⟨h1, h2, h3, h⟩, hi => hc _ _ _ _ h1 h2 h3 hi fun s' hs => post_wp hc hq (k _) s' h hs

/-- two orders of the same keys, both rising, read the same -/
theorem asc_unique {α : Type} (r : α → Nat) : ∀ (a b : List α), a.Perm b → a.Pairwise (fun x y => r x < r y) → b.Pairwise (fun x y => r x < r y) → a = b := by
  intro a b h p q
  refine List.Perm.eq_of_pairwise (le := fun x y => r x < r y) (fun x y _ _ h1 h2 => by omega) p q h
end Mine
end

/- part M29 -/
section
open PySem PySem.Calls PySem.Spec PyProof.Rows PySem.W Builtin Builtin.ObjectAttr Builtin.Getset_descriptor
namespace Mine
section
variable {w : World} {A : Around} {h : Heap} {g : Array GenState} {d : Drawn} {t : Nat} {os : OsState} {s : Shared} {env : Env}

/-- book.pop(letter), where the letter stands in the book -/
theorem pop_spec {gr b c : Nat} {tk : Tok} {l : List (Nat × Nat)} {Q : Value → Shared → Prop} (B : Base w h) (h8 : 108 ≤ b) (K : Bk h gr b l) (hz : l.length < 1000) {p : Nat × Nat} (hp : (l.find? fun p => c == p.1) = some p)
    (q : ∀ h' t', Bk h' gr b (l.eraseP fun p => c == p.1) → Up [b + 1] h h' → Q (.ref (p.2 + 1)) (St h' g d t' os)) :
    W w A (call (.builtin "dict.pop") [.ref (b + 1), .str (T [c]) tk]) Q (St h g d t os) := by
  obtain ⟨es, n, hx, E⟩ := K
  have tx : Looks (model PW w) h (typeOf (.ref (b + 1))) (.ref 58) := type_bk hx
  have noord : Looks (model PW w) h (isInstance (.ref (b + 1)) (.type "collections.OrderedDict")) false := tx.andThen (sub58 B _)
  refine ⟨wpAny_call ?_⟩
  refine codeAny_call_builtin (by decide +kernel) F.entry_dict_pop (@kfo_check (model PW w) _ _ _ "dict.pop" "dict" "pop" (.ref (b + 1)) [.str (T [c]) tk] [] _ (by decide +kernel) (by decide +kernel) (tx.andThen (sub58 B _)) (F.args_dict_pop_2 _ _) ?_)
  unfold Builtin.«dict.pop» Dict.keyAndDefault Dict.notOrdered
  refine wpAny_bind (wpAny_bind ?_)
  rw [if_pos (by decide +kernel)]
  show wpAny _ _ (typeOf (.ref (b + 1)) >>= _) _ _ _
  refine wpAny_bind (tx.at ?_)
  rw [if_pos (by rfl)]
  refine wpAny_bind (noord.at ?_)
  rw [if_neg (by simp)]
  refine wpAny_pure ?_
  show wpAny _ _ (pure (b + 1, Value.str (T [c]) tk, none)) _ _ _
  refine wpAny_pure ?_
  dsimp only
  refine wpAny_bind ?_
  refine wpAny_pure ?_
  rw [if_neg (by simp)]
  refine wpAny_bind ?_
  unfold Builtin.Dict.takeOut
  refine wpAny_holding (wpAny_bind (wpAny_pyHash_str ?_))
  have hall : (es.all fun e => isExactStrKey e.key) = true := by rw [← Array.all_toList]; exact E.exact
  refine wpAny_bind (KTD.kt_dictFind_strs (s := { St h g d t os with toks := t + 1 }) hx rfl hall ?_)
  rw [show (es.findIdx? fun e => e.key.isStr (T [c])) = l.findIdx? fun p => c == p.1 by rw [← E.find c]; cases es; simp]
  have hsz : es.size ≤ sizeLine := by
    have := E.length
    rw [Array.length_toList] at this
    unfold sizeLine; omega
  cases hi : l.findIdx? fun p => c == p.1 with
  | none =>
    rw [List.findIdx?_eq_none_iff] at hi
    have hm := List.mem_of_find?_eq_some hp
    have h1 := List.find?_some hp
    have h2 := hi p hm
    rw [h1] at h2; cases h2
  | some i =>
    refine wpAny_bind (wpAny_dictEntries hx rfl ?_)
    obtain ⟨hlt, h1, h2⟩ := List.findIdx?_eq_some_iff_getElem.mp hi
    have hp' : (l.find? fun p => c == p.1) = some l[i] := by
      rw [List.find?_eq_some_iff_getElem]
      exact ⟨h1, i, hlt, rfl, fun j hj => by simpa using h2 j hj⟩
    rw [hp] at hp'
    obtain ⟨e, he, hv⟩ := E.at' (List.getElem?_eq_getElem hlt)
    have he' : es[i]? = some e := by rw [← Array.getElem?_toList]; exact he
    rw [he']
    refine wpAny_bind (wpAny_updateDictKeys (es := es) (ep := n) hx rfl (wpAny_pure ?_) hsz ?_)
    · rw [if_neg (by simp)]
      dsimp only
      refine wpAny_bind (wpAny_letGo (wpAny_pure ?_))
      rw [hv]
      have ep : p = l[i] := Option.some.inj hp'
      rw [← ep]
      refine q _ _ ⟨es.eraseIdxIfInBounds i, n + 1, Heap.get?_update_self _ hx rfl, ?_⟩ (Up.update _ _ _)
      have e1 : (es.eraseIdxIfInBounds i).toList = es.toList.eraseIdx i := by simp
      rw [e1, List.eraseP_eq_eraseIdx, hi]
      exact E.erase i
    · have e1 : (es.eraseIdxIfInBounds i).toList = es.toList.eraseIdx i := by simp
      have e2 : (es.eraseIdxIfInBounds i).size = (es.toList.eraseIdx i).length := by rw [← e1, Array.length_toList]
      show (es.eraseIdxIfInBounds i).size ≤ es.size + 1
      have := List.length_eraseIdx_le es.toList i
      have e3 : es.toList.length = es.size := Array.length_toList
      omega

-- the tree after freeze
theorem Tree.freeze {D : AD} {N : Nat} {kp fz : List Wd} {adr : Wd → Nat} {p : Wd} {h' : Heap} (T : Tree h D kp fz adr) (G : Gro w D N h) (Tb : Tab h) (hp : Inn kp p) (u : Up [adr p, 50] h h')
    (K : Book h' D.lo D.gr (adr p) ((kids kp p).map fun c => (c, adr (p ++ [c]))) true) : Tree h' D kp (fz ++ [p]) adr := by
  refine ⟨fun q hq => ?_, T.inj, T.gap⟩
  have lb := G.bd.1
  have wr : Wr D [adr p, 50] h := Wr.cons ((T.book p hp).wrd G) (Wr.tab G Tb)
  by_cases e : q = p
  · subst e
    have : decide (q ∈ fz ++ [q]) = true := decide_eq_true (by simp)
    rw [this]; exact K
  · have : decide (q ∈ fz ++ [p]) = decide (q ∈ fz) := by
      rw [decide_eq_decide]; simp [e]
    rw [this]
    have l1 := T.lo hq
    have g1 := T.gap p q hp hq
    have g2 : adr q ≠ adr p := fun y => e (T.inj q p hq hp y)
    exact (T.book q hq).wr u wr (by simp; omega) (by simp; omega)

theorem off_last {st r : Wd} (h1 : r.dropLast.take st.length ≠ st) (h2 : r.take st.length = st) : r = st := by
  have hl : st.length ≤ r.length := by
    have := congrArg List.length h2
    rw [List.length_take] at this; omega
  by_cases e : st.length = r.length
  · rw [e, List.take_length] at h2; exact h2
  · exfalso
    apply h1
    rw [List.dropLast_eq_take, List.take_take, Nat.min_eq_left (by omega)]
    exact h2
theorem off_drop {st r : Wd} (h2 : r.take st.length ≠ st) : r.dropLast.take st.length ≠ st := fun z => by
  have hl : st.length ≤ r.length - 1 := by
    have := congrArg List.length z
    rw [List.length_take, List.length_dropLast] at this; omega
  rw [List.dropLast_eq_take, List.take_take, Nat.min_eq_left hl] at z
  exact h2 z
theorem offS_iff {st q : Wd} : offS st q = true ↔ q.take st.length ≠ st := by simp [offS]

theorem kids_off {kp : List Wd} {st q : Wd} (ne : ∀ r ∈ kp, r ≠ []) (hq : q.take st.length ≠ st) : kids (kp.filter (offS st)) q = (kids kp q).filter fun e => q ++ [e] != st := by
  unfold kids
  rw [List.filter_map, List.filter_filter, List.filter_filter]
  congr 1
  refine List.filter_congr fun r hr => ?_
  by_cases e : r.dropLast = q
  · have e0 := snoc_of (ne r hr)
    have e2 : (r.dropLast == q) = true := beq_iff_eq.mpr e
    rw [e2]
    simp only [Function.comp, Bool.true_and, Bool.and_true]
    rw [← e, e0]
    show (r.take st.length != st) = (r != st)
    rw [← e] at hq
    rw [Bool.eq_iff_iff, bne_iff_ne, bne_iff_ne]
    constructor
    · intro a b; apply a; rw [b]; simp
    · intro a b; exact a (off_last hq b)
  · have e2 : (r.dropLast == q) = false := beq_eq_false_iff_ne.mpr e
    rw [e2]; simp

theorem Inn.off {kp : List Wd} {st q : Wd} (h : Inn (kp.filter (offS st)) q) (hs : st ≠ []) : Inn kp q ∧ q.take st.length ≠ st := by
  rcases h with h | h
  · subst h; exact ⟨.inl rfl, by simpa using hs.symm⟩
  · rw [List.mem_filter] at h; exact ⟨.inr h.1, offS_iff.mp h.2⟩
theorem Inn.filter {kp : List Wd} {st q : Wd} (h : Inn kp q) (hs : q.take st.length ≠ st) : Inn (kp.filter (offS st)) q := h.imp id fun z => List.mem_filter.mpr ⟨z, offS_iff.mpr hs⟩

theorem Okw.pop {kp fz : List Wd} {st : Wd} (ok : Okw kp fz) : Okw (kp.filter (offS st)) (fz.filter (offS st)) where
  nd := ok.nd.filter _
  ne := fun p hp => ok.ne p (List.mem_filter.mp hp).1
  pre := fun p hp => (ok.pre p (List.mem_filter.mp hp).1).filter (off_drop (offS_iff.mp (List.mem_filter.mp hp).2))
  len := fun p hp => ok.len p (List.mem_filter.mp hp).1
  fz := fun p hp => (ok.fz p (List.mem_filter.mp hp).1).filter (offS_iff.mp (List.mem_filter.mp hp).2)

theorem Tree.pop {D : AD} {N : Nat} {kp fz : List Wd} {adr : Wd → Nat} {p : Wd} {c : Nat} {h' : Heap} (B : Base w h) (T : Tree h D kp fz adr) (G : Gro w D N h) (ok : Okw kp fz) (hp : Inn kp p) (u : Up [adr p + 1] h h')
    (K : Bk h' D.gr (adr p) (((kids kp p).map fun c => (c, adr (p ++ [c]))).eraseP fun q => c == q.1)) : Tree h' D (kp.filter (offS (p ++ [c]))) (fz.filter (offS (p ++ [c]))) adr := by
  have ns : p ++ [c] ≠ [] := by simp
  have wr : Wr D [adr p + 1] h := (T.book p hp).wrb G B
  refine ⟨fun q hq => ?_, fun q r hq hr => T.inj q r (hq.off ns).1 (hr.off ns).1, fun q r hq hr => T.gap q r (hq.off ns).1 (hr.off ns).1⟩
  obtain ⟨hq1, hq2⟩ := hq.off ns
  have e1 : decide (q ∈ fz.filter (offS (p ++ [c]))) = decide (q ∈ fz) := by
    rw [decide_eq_decide, List.mem_filter]
    exact ⟨fun z => z.1, fun z => ⟨z, offS_iff.mpr hq2⟩⟩
  rw [e1, kids_off ok.ne hq2]
  by_cases e : q = p
  · subst e
    have g1 := T.gap q q hq1 hq1
    refine (T.book q hq1).bk' u wr (by simp) ?_
    have e3 : ((kids kp q).filter fun e => q ++ [e] != q ++ [c]) = (kids kp q).eraseP fun e => c == e := by
      rw [← List.erase_eq_eraseP, List.Nodup.erase_eq_filter (kids_nodup ok q)]
      refine List.filter_congr fun x hx => ?_
      rw [Bool.eq_iff_iff, bne_iff_ne, bne_iff_ne]
      simp
    rw [e3]
    rw [List.eraseP_map] at K
    exact K
  · have e3 : ((kids kp q).filter fun e => q ++ [e] != p ++ [c]) = kids kp q := by
      rw [List.filter_eq_self]
      intro x hx
      rw [bne_iff_ne]
      intro z
      exact e (List.append_inj_left' z rfl)
    rw [e3]
    have g1 := T.gap q p hq1 hp
    have g2 : adr q ≠ adr p := fun y => e (T.inj q p hq1 hp y)
    exact (T.book q hq1).wr u wr (by simp; omega) (by simp; omega)
end
end Mine
end

/- part M30 -/
section
open PySem PySem.Calls PySem.Spec PyProof.Rows PySem.W Builtin Builtin.ObjectAttr Builtin.Getset_descriptor
namespace Mine

/-- what stands between two statements of _law_run's loop -/
structure LS (w : World) (h0 : Heap) (D : AD) (L a : Nat) (oa : Obj) (it : Nat) (oi : Obj) (kp fz : List Wd) (adr : Wd → Nat) (N ka fa : Nat) (kl fl : List Wd) (m : Str → Option Value) (vw vs : Option Value) (h : Heap) : Prop where
  B : Base w h
  G : Gro w D N h
  Tb : Tab h
  T : Tree h D kp fz adr
  ok : Okw kp fz
  ns : h.Ns L m
  root : m "root" = some (.ref (adr [] + 1))
  frz : m "frozen" = some (.ref fa)
  ck : h.IsCell (L + 1) (some (.ref ka))
  cw : h.IsCell (L + 2) vw
  cs : h.IsCell (L + 3) vs
  Sk : Strs h ka kl
  Sf : Strs h fa fl
  ea : h.get? a = some oa
  ei : h.get? it = some oi
  da : ∃ xs n, oa = lobj xs n
  di : ∃ ys, oi.data = .fields ys
  far : ka ≠ fa ∧ ka ≠ D.lr ∧ fa ≠ D.lr ∧ ka ≠ a ∧ fa ≠ a ∧ a ≠ D.lr
  big : L ≤ ka ∧ L ≤ fa ∧ 108 ≤ a ∧ it ≠ 50
  fix : 108 ≤ L ∧ L + 5 < D.lo ∧ D.cg = L + 4 ∧ D.cr = L + 5 ∧ L ≤ D.lr
  old : ∀ b o, @LT.lt Nat _ b L → b ≠ 50 → h0.get? b = some o → h.get? b = some o

section
variable {w : World} {h0 : Heap} {D : AD} {L a : Nat} {oa : Obj} {it : Nat} {oi : Obj} {kp fz : List Wd} {adr : Wd → Nat} {N ka fa : Nat} {kl fl : List Wd} {m : Str → Option Value} {vw vs : Option Value} {h h' : Heap}

theorem LS.nd (S : LS w h0 D L a oa it oi kp fz adr N ka fa kl fl m vw vs h) : ∃ od es n, h.get? L = some od ∧ od.data = .dict es n := let ⟨o, es, ep, e, d, _⟩ := S.ns; ⟨o, es, ep, e, d⟩
/-- no cell, no table and no list stands where another stands -/
theorem LS.apart (S : LS w h0 D L a oa it oi kp fz adr N ka fa kl fl m vw vs h) : (a ≠ L ∧ it ≠ L ∧ ka ≠ L ∧ fa ≠ L ∧ D.lr ≠ L ∧ (50 : Nat) ≠ L) ∧ (∀ j : Nat, 1 ≤ j → j ≤ 3 → a ≠ L + j ∧ it ≠ L + j ∧ ka ≠ L + j ∧ fa ≠ L + j ∧ D.lr ≠ L + j ∧ (50 : Nat) ≠ L + j) ∧ (it ≠ ka ∧ it ≠ fa ∧ it ≠ D.lr ∧ a ≠ 50 ∧ it ≠ 50 ∧ D.lr ≠ 50) := by
  obtain ⟨od, es, n, e1, e2⟩ := S.nd
  obtain ⟨xs, k, rfl⟩ := S.da
  obtain ⟨ys, f1⟩ := S.di
  obtain ⟨vk, nk, g1, _⟩ := S.Sk
  obtain ⟨vf, nf, g2, _⟩ := S.Sf
  obtain ⟨xr, kr, g3, _⟩ := S.G.runs
  obtain ⟨c1, c2, c3⟩ := S.ck
  obtain ⟨d1, d2, d3⟩ := S.cw
  obtain ⟨f3, f4, f5⟩ := S.cs
  have ea := S.ea
  have ei := S.ei
  have hL := S.fix.1
  obtain ⟨pt, et, _⟩ := S.Tb
  refine ⟨⟨?_, ?_, ?_, ?_, ?_, by omega⟩, fun j h1 h3 => ?_, ?_, ?_, ?_, ?_, ?_, ?_⟩
  · intro z; rw [z, e1] at ea; cases ea; cases e2
  · intro z; rw [z, e1] at ei; cases ei; rw [e2] at f1; cases f1
  · intro z; rw [z, e1] at g1; cases g1; cases e2
  · intro z; rw [z, e1] at g2; cases g2; cases e2
  · intro z; rw [z, e1] at g3; cases g3; cases e2
  · have key : ∀ {b : Nat} {o : Obj}, h.get? b = some o → (∀ v, o.data ≠ .cell v) → b ≠ L + j := fun e nc z => by
      have : j = 1 ∨ j = 2 ∨ j = 3 := by omega
      rcases this with rfl | rfl | rfl
      · rw [z, c2] at e; cases e; exact nc _ c3
      · rw [z, d2] at e; cases e; exact nc _ d3
      · rw [z, f4] at e; cases e; exact nc _ f5
    exact ⟨key ea (by simp), key ei (by simp [f1]), key g1 (by simp), key g2 (by simp), key g3 (by simp), by omega⟩
  · intro z; rw [z, g1] at ei; cases ei; cases f1
  · intro z; rw [z, g2] at ei; cases ei; cases f1
  · intro z; rw [z, g3] at ei; cases ei; cases f1
  · have := S.big.2.2.1; omega
  · have := S.big.2.2.2; omega
  · have := S.G.bd.1.1; omega

theorem LS.wr {X : List Nat} {m' : Str → Option Value} {vw' vs' : Option Value} (S : LS w h0 D L a oa it oi kp fz adr N ka fa kl fl m vw vs h) (u : Up X h h') (wr : Wr D X h) (nb : ∀ p, Inn kp p → adr p ∉ X ∧ adr p + 1 ∉ X)
    (x1 : 50 ∉ X) (x2 : D.lr ∉ X) (x3 : a ∉ X) (x4 : it ∉ X) (ns' : h'.Ns L m') (r' : m' "root" = m "root") (f' : m' "frozen" = m "frozen") (ck' : h'.IsCell (L + 1) (some (.ref ka))) (cw' : h'.IsCell (L + 2) vw') (cs' : h'.IsCell (L + 3) vs')
    (x5 : ka ∉ X) (x6 : fa ∉ X) (x7 : ∀ x ∈ X, L ≤ x) : LS w h0 D L a oa it oi kp fz adr N ka fa kl fl m' vw' vs' h' where
  B := S.B.wr u wr
  G := S.G.wr u wr x2
  Tb := S.Tb.wr u wr x1
  T := S.T.wr u wr nb
  ok := S.ok
  ns := ns'
  root := r'.trans S.root
  frz := f'.trans S.frz
  ck := ck'
  cw := cw'
  cs := cs'
  Sk := let ⟨v, n, e, z⟩ := S.Sk; ⟨v, n, u.get x5 e, z⟩
  Sf := let ⟨v, n, e, z⟩ := S.Sf; ⟨v, n, u.get x6 e, z⟩
  ea := u.get x3 S.ea
  ei := u.get x4 S.ei
  da := S.da
  di := S.di
  far := S.far
  big := S.big
  fix := S.fix
  old := fun b o hb h5 e => u.get (fun z => absurd (x7 b z) (Nat.not_le.mpr hb)) (S.old b o hb h5 e)
/-- another object of fields in the iterator's place -/
theorem LS.slot {x : Nat} {ox : Obj} (S : LS w h0 D L a oa it oi kp fz adr N ka fa kl fl m vw vs h) (e : h.get? x = some ox) (dx : ∃ ys, ox.data = .fields ys) (n5 : x ≠ 50) : LS w h0 D L a oa x ox kp fz adr N ka fa kl fl m vw vs h :=
  { S with ei := e, di := dx, big := ⟨S.big.1, S.big.2.1, S.big.2.2.1, n5⟩ }
theorem LS.up (S : LS w h0 D L a oa it oi kp fz adr N ka fa kl fl m vw vs h) (u : Up [] h h') : LS w h0 D L a oa it oi kp fz adr N ka fa kl fl m vw vs h' :=
  S.wr u Wr.nil (by simp) (by simp) (by simp) (by simp) (by simp) (u.ns (by simp) S.ns) rfl rfl (u.cell (by simp) S.ck) (u.cell (by simp) S.cw) (u.cell (by simp) S.cs) (by simp) (by simp) (by simp)
theorem LS.off (S : LS w h0 D L a oa it oi kp fz adr N ka fa kl fl m vw vs h) {j : Nat} (hj : j ≤ 5) : ∀ p, Inn kp p → adr p ∉ [L + j] ∧ adr p + 1 ∉ [L + j] := fun p hp => by
  have := S.T.lo hp; have := S.fix.2.1
  simp; omega
/-- a local set -/
theorem LS.loc {x : Str} {v : Value} (S : LS w h0 D L a oa it oi kp fz adr N ka fa kl fl m vw vs h) (u : Up [L] h h') (n : h'.Ns L (upd m x v)) (h1 : ((Str.ofString "root") == x) = false) (h2 : ((Str.ofString "frozen") == x) = false) : LS w h0 D L a oa it oi kp fz adr N ka fa kl fl (upd m x v) vw vs h' := by
  obtain ⟨⟨a1, a2, a3, a4, a5, a6⟩, _, _⟩ := S.apart
  exact S.wr u (Wr.ns S.G S.ns S.fix.1) (S.off (j := 0) (by omega)) (nin a6) (nin a5) (nin a1) (nin a2) n (skip h1 rfl) (skip h2 rfl) (u.cell (nin (by omega)) S.ck) (u.cell (nin (by omega)) S.cw) (u.cell (nin (by omega)) S.cs) (nin a3) (nin a4) (by simp)
theorem LS.word {v : Option Value} (S : LS w h0 D L a oa it oi kp fz adr N ka fa kl fl m vw vs h) (u : Up [L + 2] h h') (n : h'.IsCell (L + 2) v) : LS w h0 D L a oa it oi kp fz adr N ka fa kl fl m v vs h' := by
  obtain ⟨_, ap, _⟩ := S.apart
  obtain ⟨a1, a2, a3, a4, a5, a6⟩ := ap 2 (by omega) (by omega)
  have := S.fix
  exact S.wr u (Wr.cell S.G S.cw (by omega) (by omega) (by omega) (by omega)) (S.off (by omega)) (nin a6) (nin a5) (nin a1) (nin a2) (u.ns (nin (by omega)) S.ns) rfl rfl (u.cell (nin (by omega)) S.ck) n (u.cell (nin (by omega)) S.cs) (nin a3) (nin a4) (by simp)
theorem LS.stem {v : Option Value} (S : LS w h0 D L a oa it oi kp fz adr N ka fa kl fl m vw vs h) (u : Up [L + 3] h h') (n : h'.IsCell (L + 3) v) : LS w h0 D L a oa it oi kp fz adr N ka fa kl fl m vw v h' := by
  obtain ⟨_, ap, _⟩ := S.apart
  obtain ⟨a1, a2, a3, a4, a5, a6⟩ := ap 3 (by omega) (by omega)
  have := S.fix
  exact S.wr u (Wr.cell S.G S.cs (by omega) (by omega) (by omega) (by omega)) (S.off (by omega)) (nin a6) (nin a5) (nin a1) (nin a2) (u.ns (nin (by omega)) S.ns) rfl rfl (u.cell (nin (by omega)) S.ck) (u.cell (nin (by omega)) S.cw) n (nin a3) (nin a4) (by simp)
/-- the kept list changed in place -/
theorem LS.keptIn {kl' : List Wd} (S : LS w h0 D L a oa it oi kp fz adr N ka fa kl fl m vw vs h) (u : Up [ka] h h') (S' : Strs h' ka kl') : LS w h0 D L a oa it oi kp fz adr N ka fa kl' fl m vw vs h' := by
  obtain ⟨⟨_, _, a1, _⟩, ap, b1, b2, b3, b4, b5, b6⟩ := S.apart
  obtain ⟨f1, f2, f3, f4, f5, f6⟩ := S.far
  obtain ⟨vk, nk, ek, zk⟩ := S.Sk
  obtain ⟨vf, nf, ef, zf⟩ := S.Sf
  have wr : Wr D [ka] h := Wr.list S.G ek (Nat.le_trans S.fix.1 S.big.1)
  have c1 := (ap 1 (by omega) (by omega)).2.2.1
  have c2 := (ap 2 (by omega) (by omega)).2.2.1
  have c3 := (ap 3 (by omega) (by omega)).2.2.1
  exact ⟨S.B.wr u wr, S.G.wr u wr (nin f2.symm), S.Tb.wr u wr (nin (by have := S.big.1; have := S.fix.1; omega)), S.T.step1 u wr (S.T.ne ek (by simp)), S.ok, u.ns (nin a1.symm) S.ns, S.root, S.frz, u.cell (nin c1.symm) S.ck, u.cell (nin c2.symm) S.cw, u.cell (nin c3.symm) S.cs, S', ⟨vf, nf, u.get (nin f1.symm) ef, zf⟩, u.get (nin f4.symm) S.ea, u.get (nin b1) S.ei, S.da, S.di, S.far, S.big, S.fix, fun b o hb h5 e => u.get (nin (fun z => absurd hb (by rw [z]; exact Nat.not_lt.mpr S.big.1))) (S.old b o hb h5 e)⟩
/-- the frozen list changed in place -/
theorem LS.frozenIn {fl' : List Wd} (S : LS w h0 D L a oa it oi kp fz adr N ka fa kl fl m vw vs h) (u : Up [fa] h h') (S' : Strs h' fa fl') : LS w h0 D L a oa it oi kp fz adr N ka fa kl fl' m vw vs h' := by
  obtain ⟨⟨_, _, _, a1, _⟩, ap, b1, b2, b3, b4, b5, b6⟩ := S.apart
  obtain ⟨f1, f2, f3, f4, f5, f6⟩ := S.far
  obtain ⟨vk, nk, ek, zk⟩ := S.Sk
  obtain ⟨vf, nf, ef, zf⟩ := S.Sf
  have wr : Wr D [fa] h := Wr.list S.G ef (Nat.le_trans S.fix.1 S.big.2.1)
  have c1 := (ap 1 (by omega) (by omega)).2.2.2.1
  have c2 := (ap 2 (by omega) (by omega)).2.2.2.1
  have c3 := (ap 3 (by omega) (by omega)).2.2.2.1
  exact ⟨S.B.wr u wr, S.G.wr u wr (nin f3.symm), S.Tb.wr u wr (nin (by have := S.big.2.1; have := S.fix.1; omega)), S.T.step1 u wr (S.T.ne ef (by simp)), S.ok, u.ns (nin a1.symm) S.ns, S.root, S.frz, u.cell (nin c1.symm) S.ck, u.cell (nin c2.symm) S.cw, u.cell (nin c3.symm) S.cs, ⟨vk, nk, u.get (nin f1) ek, zk⟩, S', u.get (nin f5.symm) S.ea, u.get (nin b2) S.ei, S.da, S.di, S.far, S.big, S.fix, fun b o hb h5 e => u.get (nin (fun z => absurd hb (by rw [z]; exact Nat.not_lt.mpr S.big.2.1))) (S.old b o hb h5 e)⟩
/-- the kept list put anew -/
theorem LS.keptNew {kl' : List Wd} {ka' : Nat} (S : LS w h0 D L a oa it oi kp fz adr N ka fa kl fl m vw vs h) (u : Up [L + 1] h h') (S' : Strs h ka' kl') (hf : ka' ≠ fa ∧ ka' ≠ D.lr ∧ ka' ≠ a ∧ L ≤ ka') (n : h'.IsCell (L + 1) (some (.ref ka'))) : LS w h0 D L a oa it oi kp fz adr N ka' fa kl' fl m vw vs h' := by
  obtain ⟨_, ap, b1, b2, b3, b4, b5, b6⟩ := S.apart
  obtain ⟨a1, a2, a3, a4, a5, a6⟩ := ap 1 (by omega) (by omega)
  obtain ⟨f1, f2, f3, f4, f5, f6⟩ := S.far
  obtain ⟨vk, nk, ek, zk⟩ := S'
  obtain ⟨vf, nf, ef, zf⟩ := S.Sf
  have hx := S.fix
  have wr : Wr D [L + 1] h := Wr.cell S.G S.ck (by omega) (by omega) (by omega) (by omega)
  have k1 : ka' ≠ L + 1 := fun z => by
    obtain ⟨o, e, d⟩ := S.ck
    rw [z, e] at ek; cases ek; cases d
  exact ⟨S.B.wr u wr, S.G.wr u wr (nin a5), S.Tb.wr u wr (nin a6), S.T.wr u wr (S.off (by omega)), S.ok, u.ns (nin (by omega)) S.ns, S.root, S.frz, n, u.cell (nin (by omega)) S.cw, u.cell (nin (by omega)) S.cs, ⟨vk, nk, u.get (nin k1) ek, zk⟩, ⟨vf, nf, u.get (nin a4) ef, zf⟩, u.get (nin a1) S.ea, u.get (nin a2) S.ei, S.da, S.di, ⟨hf.1, hf.2.1, f3, hf.2.2.1, f5, f6⟩, ⟨hf.2.2.2, S.big.2⟩, S.fix, fun b o hb h5 e => u.get (nin (fun z => absurd hb (by rw [z]; exact Nat.not_lt.mpr (Nat.le_succ L)))) (S.old b o hb h5 e)⟩
/-- the frozen list put anew -/
theorem LS.frozenNew {fl' : List Wd} {fa' : Nat} (S : LS w h0 D L a oa it oi kp fz adr N ka fa kl fl m vw vs h) (u : Up [L] h h') (S' : Strs h' fa' fl') (hf : ka ≠ fa' ∧ fa' ≠ D.lr ∧ fa' ≠ a ∧ L ≤ fa') (n : h'.Ns L (upd m "frozen" (.ref fa'))) : LS w h0 D L a oa it oi kp fz adr N ka fa' kl fl' (upd m "frozen" (.ref fa')) vw vs h' := by
  obtain ⟨⟨a1, a2, a3, a4, a5, a6⟩, ap, b1, b2, b3, b4, b5, b6⟩ := S.apart
  obtain ⟨f1, f2, f3, f4, f5, f6⟩ := S.far
  obtain ⟨vk, nk, ek, zk⟩ := S.Sk
  have hx := S.fix
  have wr : Wr D [L] h := Wr.ns S.G S.ns S.fix.1
  exact ⟨S.B.wr u wr, S.G.wr u wr (nin a5), S.Tb.wr u wr (nin a6), S.T.wr u wr (S.off (j := 0) (by omega)), S.ok, n, (skip rfl rfl).trans S.root, here, u.cell (nin (by omega)) S.ck, u.cell (nin (by omega)) S.cw, u.cell (nin (by omega)) S.cs, ⟨vk, nk, u.get (nin a3) ek, zk⟩, S', u.get (nin a1) S.ea, u.get (nin a2) S.ei, S.da, S.di, ⟨hf.1, f2, hf.2.1, f4, hf.2.2.1, f6⟩, ⟨S.big.1, hf.2.2.2, S.big.2.2⟩, S.fix, fun b o hb h5 e => u.get (nin (fun z => absurd hb (by rw [z]; exact Nat.not_lt.mpr (Nat.le_refl L)))) (S.old b o hb h5 e)⟩
/-- what changes only the tree -/
theorem LS.tree {kp' fz' : List Wd} {adr' : Wd → Nat} {N' : Nat} (S : LS w h0 D L a oa it oi kp fz adr N ka fa kl fl m vw vs h) (k : Kp D h h') (B' : Base w h') (G' : Gro w D N' h') (Tb' : Tab h') (T' : Tree h' D kp' fz' adr') (ok' : Okw kp' fz') (hr : adr' [] = adr []) :
    LS w h0 D L a oa it oi kp' fz' adr' N' ka fa kl fl m vw vs h' := by
  obtain ⟨⟨a1, a2, a3, a4, a5, a6⟩, ap, b1, b2, b3, b4, b5, b6⟩ := S.apart
  obtain ⟨f1, f2, f3, f4, f5, f6⟩ := S.far
  obtain ⟨xs, n, rfl⟩ := S.da
  obtain ⟨ys, d1⟩ := S.di
  have hf := S.fix
  have cell : ∀ (j : Nat) (v : Option Value), 1 ≤ j → j ≤ 3 → h.IsCell (L + j) v → h'.IsCell (L + j) v := fun j v h1 h3 c => by
    obtain ⟨o, e, d⟩ := c
    obtain ⟨_, _, _, _, q1, q2⟩ := ap j h1 h3
    exact ⟨o, k.2 _ _ e q1.symm q2.symm (.inr (by simp [d])), d⟩
  obtain ⟨vk, nk, ek, zk⟩ := S.Sk
  obtain ⟨vf, nf, ef, zf⟩ := S.Sf
  have hb := S.big
  have k50 : ka ≠ 50 := by omega
  have g50 : fa ≠ 50 := by omega
  have l1 : @LT.lt Nat _ L D.lo := by omega
  have ns' : h'.Ns L m := by
    obtain ⟨o, es, ep, e, r⟩ := S.ns
    exact ⟨o, es, ep, k.2 _ _ e a5.symm a6.symm (.inl l1), r⟩
  exact ⟨B', G', Tb', T', ok', ns', by rw [hr]; exact S.root, S.frz, cell 1 _ (by omega) (by omega) S.ck, cell 2 _ (by omega) (by omega) S.cw, cell 3 _ (by omega) (by omega) S.cs, ⟨vk, nk, k.2 _ _ ek f2 k50 (.inr (by simp)), zk⟩, ⟨vf, nf, k.2 _ _ ef f3 g50 (.inr (by simp)), zf⟩,
    k.2 _ _ S.ea f6 b4 (.inr (by simp)), k.2 _ _ S.ei b3 b5 (.inr (by simp [d1])), S.da, S.di, S.far, S.big, S.fix, fun b o hb h5 e => k.2 _ _ (S.old b o hb h5 e) (fun z => absurd hb (by rw [z]; exact Nat.not_lt.mpr hf.2.2.2.2)) h5 (.inl (Nat.lt_trans hb l1))⟩
end
end Mine
end

/- part M31 -/
section
open PySem PySem.Calls PySem.Spec PyProof.Rows PySem.W Builtin Builtin.ObjectAttr Builtin.Getset_descriptor
namespace Mine

noncomputable def runBody (P : Params) : List Stmt := match (fnAt (KK P) 100).body with
  | .stmts (_ :: _ :: _ :: _ :: _ :: _ :: .For _ _ b _ _ :: _) => b
  | _ => []
noncomputable def runCmp (P : Params) : List Stmt := match runBody P with
  | _ :: _ :: .If _ _ [.If _ (_ :: _ :: _ :: r) _ _] _ :: _ => r
  | _ => []
noncomputable def runTail (P : Params) : List Stmt := (runBody P).drop 3
section
variable {w : World} {A : Around} {h : Heap} {g : Array GenState} {d : Drawn} {t : Nat} {os : OsState} {s : Shared} {env : Env}
variable {h0 : Heap} {D : AD} {L a : Nat} {oa : Obj} {it : Nat} {oi : Obj} {kp fz : List Wd} {adr : Wd → Nat} {N ka fa : Nat} {kl fl : List Wd} {m : Str → Option Value} {vw vs : Option Value}

/-- number of words of four letters -/
def c4 (kp : List Wd) : Nat := kp.countP fun p => p.length == 4

theorem word_len (n : Int) : 1 ≤ (wordOf n).length ∧ (wordOf n).length ≤ 4 := by
  have h1 := Int.emod_nonneg n (show (4:Int) ≠ 0 by decide)
  have h2 := Int.emod_lt_of_pos n (show (0:Int) < 4 by decide)
  unfold wordOf
  rw [List.length_take]
  simp only [List.length_cons, List.length_nil]
  omega


theorem c4_ext {wd : Wd} {K : Nat} (hl : wd.length ≤ 4) : c4 (ext kp wd K wd.length) ≤ c4 kp + (if wd.length = 4 then 1 else 0) := by
  unfold c4 ext
  rw [List.countP_append]
  refine Nat.add_le_add_left ?_ _
  rw [List.countP_map]
  have h1 : ∀ j, j < wd.length - K → ((fun p : Wd => p.length == 4) ∘ fun j => wd.take (K + 1 + j)) j = decide (K + 1 + j = 4) := fun j hj => by
    show ((wd.take (K + 1 + j)).length == 4) = _
    rw [List.length_take, Nat.min_eq_left (by omega)]
    rfl
  rw [List.countP_congr (q := fun j => decide (K + 1 + j = 4)) (fun j hj => by rw [h1 j (List.mem_range.mp hj)])]
  by_cases e : wd.length = 4
  · rw [if_pos e]
    have h2 : ((List.range (wd.length - K)).filter fun j => decide (K + 1 + j = 4)).length ≤ 1 := by
      have nd : ((List.range (wd.length - K)).filter fun j => decide (K + 1 + j = 4)).Nodup := List.nodup_range.filter _
      refine nodup_len _ [3 - K] nd fun j hj => ?_
      have := of_decide_eq_true (List.mem_filter.mp hj).2
      simp; omega
    rw [List.countP_eq_length_filter]
    exact h2
  · rw [if_neg e]
    rw [Nat.le_zero, List.countP_eq_zero]
    intro j hj
    have := List.mem_range.mp hj
    simp; omega

theorem word_abc (n : Int) : ∀ c ∈ wordOf n, 97 ≤ c ∧ c ≤ 99 := by
  have key : ∀ q : Int, 97 ≤ letter q ∧ letter q ≤ 99 := fun q => by
    have h1 := Int.emod_nonneg q (show (3:Int) ≠ 0 by decide)
    have h2 := Int.emod_lt_of_pos q (show (0:Int) < 3 by decide)
    unfold letter
    have : q % 3 = 0 ∨ q % 3 = 1 ∨ q % 3 = 2 := by omega
    rcases this with e | e | e <;> rw [e] <;> decide
  intro c hc
  have := List.mem_of_mem_take hc
  simp only [List.mem_cons, List.not_mem_nil, or_false] at this
  rcases this with rfl | rfl | rfl | rfl <;> exact key _

/-- the way down to a book of the tree -/
theorem there_spec {p : Wd} {tk : Tok} {Q : Value → Shared → Prop} (S : LS w h0 D L a oa it oi kp fz adr N ka fa kl fl m vw vs h) (hp : Inn kp p) (has : ∀ c ∈ p, c < 128) (hl : p.length ≤ 4) (hN : N < 9000) (hz : kp.length < 800) (hA : A.depth + 3 < recursionLimit) (hh : A.handled = none)
    (q : ∀ adr' h' t', LS w h0 D L a oa it oi kp fz adr' N ka fa kl fl m vw vs h' → Q (.ref (adr' p + 1)) (St h' g d t' os)) :
    W w A (call (.ref 76) [.ref (adr [] + 1), .str (Mine.T p) tk]) Q (St h g d t os) := by
  refine down_spec (k := p.length) S.B S.Tb S.G S.T S.ok has hl hN (Nat.le_refl _) (fun j _ => inn_pre S.ok hp j) (fun j h1 h2 => absurd h2 (by omega)) (by omega) hA hh fun b h' t' dn B' Tb' G' k => ?_
  obtain ⟨adr', e0, ⟨_, T', eb, ok'⟩ | ⟨l, _⟩⟩ := dn
  · rw [ext_le (Nat.le_refl _)] at T' ok'
    rw [Nat.sub_self] at G'
    rw [eb]
    exact q adr' h' t' (S.tree k B' G' Tb' T' ok' e0)
  · exact absurd l (Nat.lt_irrefl _)

theorem LS.freezeKp {h' : Heap} {p : Wd} (S : LS w h0 D L a oa it oi kp fz adr N ka fa kl fl m vw vs h) (hp : Inn kp p) (u : Up [adr p, 50] h h') : Kp D h h' :=
  Kp.refl.step u fun b hb => by
    rcases List.mem_cons.mp hb with rfl | hb
    · obtain ⟨m, ⟨n1, _⟩⟩ := (S.T.book p hp).dict
      obtain ⟨o, es, ep, e, dd, _⟩ := n1.ns
      exact .inr (.inr (.inr ⟨S.T.lo hp, o, es, ep, e, dd⟩))
    · exact .inr (.inl (List.mem_singleton.mp hb))
theorem LS.popKp {h' : Heap} {p : Wd} (S : LS w h0 D L a oa it oi kp fz adr N ka fa kl fl m vw vs h) (hp : Inn kp p) (u : Up [adr p + 1] h h') : Kp D h h' :=
  Kp.refl.step u fun b hb => by
    rw [List.mem_singleton.mp hb]
    obtain ⟨es, n, e, _⟩ := (S.T.book p hp).bk
    exact .inr (.inr (.inr ⟨Nat.le_succ_of_le (S.T.lo hp), _, es, n, e, rfl⟩))
theorem Okw.freeze {p : Wd} (ok : Okw kp fz) (hp : Inn kp p) : Okw kp (fz ++ [p]) := ⟨ok.nd, ok.ne, ok.pre, ok.len, fun q hq => by
  rcases List.mem_append.mp hq with hq | hq
  · exact ok.fz q hq
  · rw [List.mem_singleton.mp hq]; exact hp⟩

theorem tail_spec {tm : Tok} {Q : Flow → Shared → Prop} (R : REnv env L) (S : LS w h0 D L a oa it oi kp fz adr N ka fa kl fl m vw vs h) (em : m "made" = some (.int N tm)) (hN : N < 9000) (k : ∀ t', Q .next (St h g d t' os)) :
    W w A (execs (runTail w.params) env) Q (St h g d t os) := by
  have gl := R.gl
  obtain ⟨xr, kr, er, zr⟩ := S.G.runs
  have cr := S.G.cr
  rw [S.fix.2.2.2.1] at cr
  refine x_if (t_cmp rfl (e_call rfl (n_len S.B R.k0 (gl _ (by simp)) R.gb R.bu (cw_builtin rfl (sp_cons (n_cell cr R.k0 R.runs.1 R.runs.2 (sp_nil (b_len er (by omega) fun t1 t2 => ?_))))))))
  refine n_loc (R.loc ▸ S.ns) R.k0 R.made em (i_ne (tr_bool ?_))
  rw [zr]
  have : ((N : Int) != (N : Int)) = false := by simp
  rw [this, if_neg (by simp)]
  exact x_nil (x_nil (k _))

theorem cmp_spec {b : Nat} {l : List (Nat × Nat)} {wd : Wd} {tw : Tok} {Q : Flow → Shared → Prop} (R : REnv env L) (S : LS w h0 D L a oa it oi kp fz adr N ka fa kp fl m (some (.str (Mine.T wd) tw)) vs h) (hm : m "reached" = some (.ref (b + 1)))
    (K : Bk h D.gr b l) (h8 : 108 ≤ b) (hl : l.map (fun p => [p.1]) = (kids kp wd).map fun c => [c]) (ha : ∀ p ∈ kp, ∀ c ∈ p, 97 ≤ c ∧ c ≤ 99) (hz : kp.length < 850) (hA : A.depth + 10 < recursionLimit) (hu : A.units + 60 < cLine) (hh : A.handled = none)
    (k : ∀ h' t', Up [] h h' → Q .next (St h' g d t' os)) :
    W w A (execs (runCmp w.params) env) Q (St h g d t os) := by
  have gl := R.gl
  have hl2 : l.length = (kids kp wd).length := by have := congrArg List.length hl; simpa using this
  have kl := kids_len kp wd
  refine x_if (t_cmp rfl (e_call rfl (n_list S.B R.k0 (gl _ (by simp)) R.gb R.bu (cw_keep rfl (sp_cons (n_loc (R.loc ▸ S.ns) R.k0 R.reached hm (sp_nil ⟨keep_type _, ?_⟩)))))))
  refine list_book S.B K (by omega) h8 hh fun D1 h1 t1 S1 u1 _ => ?_
  have L1 := S.up u1
  refine e_call rfl (n_glob (.ref 95) L1.B R.k0 (gl _ (by simp)) R.gb (cw_keep rfl (sp_cons (n_cell L1.ck R.k0 R.kept.1 R.kept.2 (sp_cons (n_cell L1.cw R.k0 R.word.1 R.word.2 (sp_nil ⟨keep_K L1.B (by kernel_rfl), ?_⟩)))))))
  refine letters_spec L1.B L1.Sk S.ok.ne S.ok.len (by omega) (by omega) hh fun D2 h2 t2 S2 u2 _ _ => ?_
  rw [hl] at S1
  refine c_listne (S1.up u2 (by simp)) S2 ?_ hu (tr_bool ?_)
  · intro p hp
    obtain ⟨c, hc, rfl⟩ := List.mem_map.mp hp
    have := (kids_mem S.ok).mp hc
    have := ha _ this c (by simp)
    intro x hx
    rw [List.mem_singleton.mp hx]; omega
  · rw [if_neg (by simp)]
    exact x_nil (x_nil (k _ _ (u1.step0 u2)))

theorem turn_head {n : Int} {tk tm : Tok} {Q : Flow → Shared → Prop} (R : REnv env L) (hA : A.depth + 10 < recursionLimit) (hh : A.handled = none) (S : LS w h0 D L a oa it oi kp fz adr N ka fa kp fz m vw vs h) (em : m "made" = some (.int N tm)) (hN : N < 8000) (hz : kp.length < 800) (hz2 : fz.length < 800) (ha : ∀ p ∈ kp, ∀ c ∈ p, 97 ≤ c ∧ c ≤ 99) (hu : A.units + 60 < cLine)
    (k : ∀ kp' fz' adr' N' ka' fa' m' vw' vs' h' t' tm', LS w h0 D L a oa it oi kp' fz' adr' N' ka' fa' kp' fz' m' vw' vs' h' → m' "made" = some (.int N' tm') → N' ≤ N + 4 → fz'.length ≤ fz.length + 1 →
      (∀ p ∈ kp', p ∈ kp ∨ ∀ c ∈ p, 97 ≤ c ∧ c ≤ 99) → c4 kp' ≤ c4 kp + (if (wordOf (n / 5)).length = 4 then 1 else 0) → Q .next (St h' g d t' os)) :
    W w A (storeName env "x" (.int n tk)) (fun _ s₂ => W w A (execs (runBody w.params) env) Q s₂) (St h g d t os) := by
  have gl := R.gl
  refine s_loc (R.loc ▸ S.ns) R.k0 R.x fun h1 n1 u1 => ?_
  rw [R.loc] at n1 u1
  have S1 := S.loc u1 n1 rfl rfl
  refine x_assign rfl ?_
  refine e_call rfl (n_glob (.ref 69) S1.B R.k0 (gl _ (by simp)) R.gb (cw_keep rfl (sp_cons (e_bin (n_loc (R.loc ▸ S1.ns) R.k0 R.x here (c_int (i_div (by decide) (by decide) (sp_nil ⟨keep_K S1.B (by kernel_rfl), ?_⟩))))))))
  refine word_spec S1.B (by omega) fun h2 t2 tw u2 => ?_
  have S2 := S1.up u2
  refine s_cell S2.cw R.k0 R.word.1 R.word.2 fun h3 c3 u3 => ?_
  have S3 := S2.word u3 c3
  refine x_assign rfl ?_
  refine e_call rfl (n_glob (.ref 83) S3.B R.k0 (gl _ (by simp)) R.gb (cw_keep rfl (sp_cons (n_cell S3.ck R.k0 R.kept.1 R.kept.2 (sp_cons (n_cell S3.cw R.k0 R.word.1 R.word.2 (sp_nil ⟨keep_K S3.B (by kernel_rfl), ?_⟩)))))))
  refine stem_spec S3.B S3.Sk (word_len _).2 (by omega) hh fun ts h4 t4 u4 => ?_
  have S4 := S3.up u4
  refine s_cell S4.cs R.k0 R.stem.1 R.stem.2 fun h5 c5 u5 => ?_
  have S5 := S4.stem u5 c5
  generalize ew : wordOf (n / 5) = wd at S5
  have wl : wd.length ≤ 4 := by rw [← ew]; exact (word_len _).2
  have wa : ∀ c ∈ wd, 97 ≤ c ∧ c ≤ 99 := by rw [← ew]; exact word_abc _
  generalize eK : stemK kp wd wd.length = K at S5
  have hK : K ≤ wd.length := by rw [← eK]; exact stemK_le ..
  have hin : Inn kp (wd.take K) := by rw [← eK]; exact stemK_in ..
  have sl : (wd.take K).length = K := by rw [List.length_take]; omega
  have sa : ∀ c ∈ wd.take K, c < 128 := fun c hc => by have := wa c (List.mem_of_mem_take hc); omega
  have em5 : upd m "x" (.int n tk) "made" = some (.int N tm) := skip (by decide +kernel) em
  refine x_if (t_cmp rfl (e_bin (n_loc (R.loc ▸ S5.ns) R.k0 R.x here (c_int (i_mod (by decide) (c_int (i_eq (tr_bool ?_))))))))
  by_cases e3 : n % 5 = 3
  · rw [if_pos (beq_iff_eq.mpr e3)]
    refine x_if (t_cmp rfl (e_meth rfl rfl rfl rfl ?_))
    refine e_call rfl (n_glob (.ref 76) S5.B R.k0 (gl _ (by simp)) R.gb (cw_keep rfl (sp_cons (n_loc (R.loc ▸ S5.ns) R.k0 R.root S5.root (sp_cons (n_cell S5.cs R.k0 R.stem.1 R.stem.2 (sp_nil ⟨keep_K S5.B (by kernel_rfl), ?_⟩)))))))
    refine there_spec S5 hin sa (by omega) (by omega) (by omega) (by omega) hh fun adr6 h6 t6 S6 => ?_
    have bk6 := S6.T.book _ hin
    obtain ⟨es6, k6, x6, E6⟩ := id bk6.bk
    obtain ⟨m6, y6, z6, _⟩ := id bk6.dict
    refine bk_getMethod S6.B x6 y6.ns (name := "freeze") (f := .ref 55) (tf := .type "function") (by kernel_rfl) (by kernel_rfl) (by decide) (z6 _ (by decide +kernel)) ?_
    refine cw_keep0 (keep_K S6.B (by kernel_rfl)) ?_
    refine freeze_spec S6.B S6.G S6.Tb bk6 (by omega) fun h7 t7 K7 Tb7 u7 G7 => ?_
    have k7 := S6.freezeKp hin u7
    have wr7 : Wr D [adr6 (wd.take K), 50] h6 := Wr.cons (bk6.wrd S6.G) (Wr.tab S6.G S6.Tb)
    have S7 := S6.tree k7 (S6.B.wr u7 wr7) G7 Tb7 (S6.T.freeze S6.G S6.Tb hin u7 K7) (S6.ok.freeze hin) rfl
    refine c_none (c_isnot (tr_bool ?_))
    rw [if_neg (by simp)]
    refine x_nil (x_expr ?_ R.inter rfl)
    refine meth1 "list" "list.append" F.plainAttrs_list F.slot_list_append F.type_list_append rfl rfl rfl ?_
    refine n_loc (R.loc ▸ S7.ns) R.k0 R.frozen S7.frz ?_
    obtain ⟨vf, nf, ef, zf⟩ := id S7.Sf
    have zl : vf.length = fz.length := strs_len zf
    refine ⟨⟨_, ef, rfl⟩, (fun a q => by cases q; exact ⟨_, ef, rfl⟩), ?_⟩
    refine n_cell S7.cs R.k0 R.stem.1 R.stem.2 ⟨append_at ef (fun h8 sb e8 => ?_) (by unfold sizeLine; simp; omega)⟩
    have S8 := S7.frozenIn (fl' := fz ++ [wd.take K]) (Up.same sb) ⟨vf ++ [.str (Mine.T (wd.take K)) ts], nf + 1, by rw [e8]; simp, by rw [List.map_append]; exact strs_snoc zf _ _⟩
    refine x_nil (tail_spec R S8 em5 (by omega) fun t9 => ?_)
    exact k _ _ _ _ _ _ _ _ _ _ _ _ S8 em5 (by omega) (by simp) (fun p hp => .inl hp) (by omega)
  · rw [if_neg (fun z => e3 (beq_iff_eq.mp z))]
    refine x_if (t_cmp rfl (e_bin (n_loc (R.loc ▸ S5.ns) R.k0 R.x here (c_int (i_mod (by decide) (c_int (i_lt (tr_bool ?_))))))))
    by_cases e4 : n % 5 < 3
    · rw [if_pos (decide_eq_true e4)]
      refine x_assign rfl ?_
      refine e_bin (e_bin (n_loc (R.loc ▸ S5.ns) R.k0 R.made em5 (e_call rfl (n_len S5.B R.k0 (gl _ (by simp)) R.gb R.bu (cw_builtin rfl (sp_cons (n_cell S5.cw R.k0 R.word.1 R.word.2 (sp_nil (b_slen (by omega) fun t5 t6 => ?_)))))))))
      refine i_add (e_call rfl (n_len S5.B R.k0 (gl _ (by simp)) R.gb R.bu (cw_builtin rfl (sp_cons (n_cell S5.cs R.k0 R.stem.1 R.stem.2 (sp_nil (b_slen (by omega) fun t7 t8 => ?_)))))))
      refine i_sub ?_
      have eN : (N : Int) + (wd.length : Int) - ((wd.take K).length : Int) = ((N + (wd.length - K) : Nat) : Int) := by omega
      rw [eN]
      refine s_loc (R.loc ▸ S5.ns) R.k0 R.made fun h6 n6 u6 => ?_
      rw [R.loc] at n6 u6
      have S6 := S5.loc u6 n6 rfl rfl
      refine x_assign rfl ?_
      refine e_call rfl (n_glob (.ref 76) S6.B R.k0 (gl _ (by simp)) R.gb (cw_keep rfl (sp_cons (n_loc (R.loc ▸ S6.ns) R.k0 R.root S6.root (sp_cons (n_cell S6.cw R.k0 R.word.1 R.word.2 (sp_nil ⟨keep_K S6.B (by kernel_rfl), ?_⟩)))))))
      have wa7 : ∀ c ∈ wd, c < 128 := fun c hc => by have := wa c hc; omega
      have hout : ∀ j, K < j → j ≤ wd.length → wd.take j ∉ kp := fun j h1 h2 => stemK_out kp wd wd.length j (by rw [eK]; exact h1) h2
      refine down_spec S6.B S6.Tb S6.G S6.T S6.ok wa7 wl (by omega) hK (fun j hj => stemK_all S6.ok wd (by rw [eK]; exact hj)) hout (by omega) (by omega) hh fun b h7 t9 dn B7 Tb7 G7 k7 => ?_
      have hwl : 1 ≤ wd.length := by rw [← ew]; exact (word_len _).1
      obtain ⟨adr', e0, ⟨cd, T7, eb, ok7⟩ | ⟨cl, cf, T7, det⟩⟩ := dn
      · have S7 := S6.tree k7 B7 G7 Tb7 T7 ok7 e0
        refine s_loc (R.loc ▸ S7.ns) R.k0 R.reached fun h8 n8 u8 => ?_
        rw [R.loc] at n8 u8
        have S8 := S7.loc u8 n8 rfl rfl
        have hez : (ext kp wd K wd.length).length < 850 := by unfold ext; simp; omega
        have hea : ∀ p ∈ ext kp wd K wd.length, p ∈ kp ∨ ∀ c ∈ p, 97 ≤ c ∧ c ≤ 99 := fun p hp => by
          rcases ext_mem.mp hp with hp | ⟨j, h1, h2, rfl⟩
          · exact .inl hp
          · exact .inr fun c hc => wa c (List.mem_of_mem_take hc)
        have hea' : ∀ p ∈ ext kp wd K wd.length, ∀ c ∈ p, 97 ≤ c ∧ c ≤ 99 := fun p hp => (hea p hp).elim (ha p) id
        have hc4 : c4 (ext kp wd K wd.length) ≤ c4 kp + (if (wordOf (n / 5)).length = 4 then 1 else 0) := by
          rw [ew]; exact c4_ext wl
        have hI : Inn (ext kp wd K wd.length) wd := by
          by_cases eq : wd.length = K
          · rw [ext_le (Nat.le_of_eq eq)]
            have := hin; rw [← eq, List.take_length] at this; exact this
          · exact .inr (ext_mem.mpr (.inr ⟨wd.length, by omega, Nat.le_refl _, by rw [List.take_length]⟩))
        have em8 : upd (upd (upd m "x" (.int n tk)) "made" (.int ((N + (wd.length - K) : Nat) : Int) t8)) "reached" (.ref (b + 1)) "made" = some (.int ((N + (wd.length - K) : Nat) : Int) t8) := skip (by decide +kernel) here
        have fin : ∀ h9 t10, LS w h0 D L a oa it oi (ext kp wd K wd.length) fz adr' (N + (wd.length - K)) ka fa (ext kp wd K wd.length) fz (upd (upd (upd m "x" (.int n tk)) "made" (.int ((N + (wd.length - K) : Nat) : Int) t8)) "reached" (.ref (b + 1))) (some (.str (Mine.T wd) tw)) (some (.str (Mine.T (wd.take K)) ts)) h9 →
            W w A (execs (runCmp w.params) env) (Then w A [] env (Then w A (runTail w.params) env Q)) (St h9 g d t10 os) := fun h9 t10 S9 => by
          have bk := S9.T.book wd hI
          refine cmp_spec R S9 (b := b) here (by rw [eb]; exact bk.bk) (by have := S9.G.bd.1; have := bk.lob; rw [eb]; omega) (by rw [List.map_map]; rfl) hea' hez hA hu hh fun h10 t11 u10 => ?_
          have S10 := S9.up u10
          refine x_nil (tail_spec R S10 em8 (by omega) fun t12 => ?_)
          exact k _ _ _ _ _ _ _ _ _ _ _ _ S10 em8 (by omega) (by omega) hea hc4
        refine x_if (t_cmp rfl (n_cell S8.cs R.k0 R.stem.1 R.stem.2 (n_loc (R.loc ▸ S8.ns) R.k0 R.frozen S8.frz (c_notin S8.Sf (tr_bool ?_)))))
        by_cases hf : wd.take K ∈ fz
        · rw [if_neg (by simpa using hf)]
          have eq : wd.length = K := cd.resolve_right (fun z => z hf)
          refine x_nil (fin _ _ ?_)
          have := ext_le (kp := kp) (wd := wd) (Nat.le_of_eq eq)
          rw [this] at S8 ⊢
          exact S8
        · rw [if_pos (by simpa using hf)]
          refine x_expr ?_ R.inter rfl
          refine meth1 "list" "list.extend" F.plainAttrs_list PySem.F.slot_list_extend F.type_list_extend rfl rfl rfl ?_
          obtain ⟨vk, nk, ek, zk⟩ := id S8.Sk
          have zl : vk.length = kp.length := strs_len zk
          refine n_cell S8.ck R.k0 R.kept.1 R.kept.2 ?_
          refine ⟨⟨_, ek, rfl⟩, (fun a q => by cases q; exact ⟨_, ek, rfl⟩), ?_⟩
          refine words_comp R S8.B hh S8.cw S8.cs hK wl fun D9 h9 t10 S9 u9 lt9 => ?_
          obtain ⟨v9, n9, e9, z9⟩ := S9
          have zl9 : v9.length = wd.length - K := by have := strs_len z9; simpa using this
          have L9 := S8.up u9
          refine l_extend (u9.keep _ _ ek) e9 (by simp; omega) fun h10 n10 e10 u10 => ?_
          refine x_nil (fin _ _ (L9.keptIn u10 ⟨vk ++ v9, n10, by rw [e10]; simp, ?_⟩))
          unfold ext
          rw [List.map_append]
          exact strsAre_append zk z9
      · have S7 := S6.tree k7 B7 G7 Tb7 T7 S6.ok e0
        refine s_loc (R.loc ▸ S7.ns) R.k0 R.reached fun h8 n8 u8 => ?_
        rw [R.loc] at n8 u8
        have S8 := S7.loc u8 n8 rfl rfl
        have lob := det.book.lob
        have fx := S7.fix
        have bk := det.book.bk.up u8 (nin (show b + 1 ≠ L by omega))
        have em8 : upd (upd (upd m "x" (.int n tk)) "made" (.int ((N + (wd.length - K) : Nat) : Int) t8)) "reached" (.ref (b + 1)) "made" = some (.int ((N + (wd.length - K) : Nat) : Int) t8) := skip (by decide +kernel) here
        refine x_if (t_cmp rfl (n_cell S8.cs R.k0 R.stem.1 R.stem.2 (n_loc (R.loc ▸ S8.ns) R.k0 R.frozen S8.frz (c_notin S8.Sf (tr_bool ?_)))))
        rw [if_neg (by simpa using cf)]
        have hk : kids kp wd = [] := by
          cases hk : kids kp wd with
          | nil => rfl
          | cons c r =>
            have h1 : c ∈ kids kp wd := by rw [hk]; exact .head _
            have h2 := S6.ok.pre _ ((kids_mem S6.ok).mp h1)
            rw [List.dropLast_concat] at h2
            rcases h2 with h2 | h2
            · rw [h2] at hwl; simp at hwl
            · exact absurd h2 (by have := hout wd.length cl (Nat.le_refl _); rwa [List.take_length] at this)
        refine x_nil (cmp_spec R S8 (b := b) here bk (by have := S8.G.bd.1; omega) (by rw [hk]; rfl) ha (by omega) hA hu hh fun h10 t11 u10 => ?_)
        have S10 := S8.up u10
        refine x_nil (tail_spec R S10 em8 (by omega) fun t12 => ?_)
        exact k _ _ _ _ _ _ _ _ _ _ _ _ S10 em8 (by omega) (by omega) (fun p hp => .inl hp) (by omega)
    · rw [if_neg (fun z => e4 (of_decide_eq_true z))]
      refine x_if (t_cmp rfl (n_cell S5.cs R.k0 R.stem.1 R.stem.2 (c_str (c_ne (tr_bool ?_)))))
      generalize est : wd.take K = st at *
      have e1 : ((Mine.T st).cps.toList != (Str.ofString "").cps.toList) = decide (st ≠ []) := by
        show (st.toArray.toList != []) = _
        rw [Bool.eq_iff_iff]; simp
      rw [e1]
      by_cases e5 : st = []
      · rw [if_neg (by simpa using e5)]
        refine x_nil (x_nil (x_nil (tail_spec R S5 em5 (by omega) fun t9 => ?_)))
        exact k _ _ _ _ _ _ _ _ _ _ _ _ S5 em5 (by omega) (by omega) (fun p hp => .inl hp) (by omega)
      · rw [if_pos (by simpa using e5)]
        have stin : st ∈ kp := hin.resolve_left e5
        have epc := snoc_of e5
        have hp : Inn kp st.dropLast := S5.ok.pre _ stin
        have st4 : st.length ≤ 4 := S5.ok.len _ stin
        refine x_expr ?_ R.inter rfl
        refine e_meth rfl rfl rfl rfl ?_
        refine e_call rfl (n_glob (.ref 76) S5.B R.k0 (gl _ (by simp)) R.gb (cw_keep rfl (sp_cons (n_loc (R.loc ▸ S5.ns) R.k0 R.root S5.root (sp_cons (to_str (n_cell S5.cs R.k0 R.stem.1 R.stem.2 (e_neg (c_int (i_neg ?_))))))))))
        refine ⟨_, _, _, _, rfl, rfl, by show st.toArray.size ≤ _; unfold sizeLine; simp; omega, fun t6 k6 h6 u6 => ?_⟩
        rw [show (-1 : Int) = -1 from rfl, slice_neg]
        have S6 := S5.up u6
        refine sp_nil ⟨keep_K S6.B (by kernel_rfl), ?_⟩
        refine there_spec S6 hp (fun c hc => sa c (List.dropLast_subset _ hc)) (by rw [List.length_dropLast]; omega) (by omega) (by omega) (by omega) hh fun adr7 h7 t7 S7 => ?_
        have bk7 := S7.T.book _ hp
        obtain ⟨es7, k7, x7, E7⟩ := id bk7.bk
        obtain ⟨m7, y7, z7, _⟩ := id bk7.dict
        refine bk_getMethod S7.B x7 y7.ns (name := "pop") (f := .builtin "dict.pop") (tf := .type "method_descriptor") (by kernel_rfl) (by kernel_rfl) (by decide) (z7 _ (by decide +kernel)) ?_
        refine cw_builtin rfl (sp_cons (e_sub (n_cell S7.cs R.k0 R.stem.1 R.stem.2 (e_neg (c_int (i_neg ?_))))))
        have hpos : 0 < st.length := List.length_pos_iff.mpr e5
        have elen : (Mine.T st).length = st.length := by show st.toArray.size = _; simp
        refine i_str (by decide) (by decide) (by rw [elen]; omega) (by rw [elen]; omega) (by with_unfolding_all rfl) (fun _ => rfl) ?_
        rw [show (-1 : Int) = -1 from rfl, item_last e5]
        have lob := bk7.lob
        have lb := S7.G.bd.1
        have hf := find_kids S7.ok adr7 st.dropLast (st.getLastD 0)
        rw [epc, if_pos stin] at hf
        have kl := kids_len kp st.dropLast
        refine sp_nil (pop_spec S7.B (by omega) bk7.bk (by simp; omega) hf fun h8 t8 K8 u8 => ?_)
        have wr8 := bk7.wrb S7.G S7.B
        have T8 := S7.T.pop S7.B S7.G S7.ok hp u8 K8
        rw [epc] at T8
        have S8 := S7.tree (S7.popKp hp u8) (S7.B.wr u8 wr8) (S7.G.wr u8 wr8 (nin (show D.lr ≠ adr7 st.dropLast + 1 by omega))) (S7.Tb.wr u8 wr8 (nin (show 50 ≠ adr7 st.dropLast + 1 by omega))) T8 (S7.ok.pop (st := st)) rfl
        have hb : env.blockKind = .function := by unfold Env.blockKind; rw [R.k0]; rfl
        refine x_assign (by
          show (pure (env.blockKind == .function && env.kindOf "kept" == some .local && true && true) : Sem Bool) = pure false
          rw [hb, R.kept.1]; rfl) ?_
        refine kept_comp R S8.B hh S8.ck S8.Sk S8.cs st4 S7.ok.len (by omega) fun D9 h9 t9 S9 u9 l9 => ?_
        have L9 := S8.up u9
        have szs : ∀ {x : Nat} {o : Obj}, h8.get? x = some o → D9 ≠ x := fun e => Nat.ne_of_gt (Nat.lt_of_lt_of_le (Heap.lt_size e) l9)
        obtain ⟨_, _, efa, _⟩ := id S8.Sf
        obtain ⟨_, _, elr, _⟩ := id S8.G.runs
        have big9 : L ≤ D9 := Nat.le_trans S8.big.2.1 (Nat.le_of_lt (Nat.lt_of_lt_of_le (Heap.lt_size efa) l9))
        refine s_cell L9.ck R.k0 R.kept.1 R.kept.2 fun h10 c10 u10 => ?_
        have S10 := L9.keptNew u10 S9 ⟨szs efa, szs elr, szs S8.ea, big9⟩ c10
        obtain ⟨_, _, eka, _⟩ := id S10.Sk
        have ok7 := S7.ok
        refine frozen_comp (p1 := ⟨0, 0, 0, 0⟩) (ps := ⟨0, 0, 0, 0⟩) hb R S10.B hh S10.ns S10.frz S10.Sf S10.cs st4 (fun q hq => by
          rcases ok7.fz q hq with e | e
          · rw [e]; simp
          · exact ok7.len q e) (by omega) fun D11 h11 t11 S11 n11 u11 l11 => ?_
        have szs' : ∀ {x : Nat} {o : Obj}, h10.get? x = some o → D11 ≠ x := fun e => Nat.ne_of_gt (Nat.lt_of_lt_of_le (Heap.lt_size e) l11)
        obtain ⟨_, _, elr', _⟩ := id S10.G.runs
        have big11 : L ≤ D11 := Nat.le_trans S10.big.1 (Nat.le_of_lt (Nat.lt_of_lt_of_le (Heap.lt_size eka) l11))
        have S12 := S10.frozenNew u11 S11 ⟨(szs' eka).symm, szs' elr', szs' S10.ea, big11⟩ n11
        have em12 : upd (upd m "x" (.int n tk)) "frozen" (.ref D11) "made" = some (.int N tm) := skip (by decide +kernel) em5
        refine x_nil (x_nil (x_nil (tail_spec R S12 em12 (by omega) fun t13 => ?_)))
        have fl := List.length_filter_le (offS st) fz
        have c4l : c4 (kp.filter (offS st)) ≤ c4 kp := List.Sublist.countP_le List.filter_sublist
        exact k _ _ _ _ _ _ _ _ _ _ _ _ S12 em12 (by omega) (by omega) (fun p hp => .inl (List.mem_filter.mp hp).1) (by omega)
end
end Mine
end

/- part M32 -/
section
open PySem PySem.Calls PySem.Spec PyProof.Rows PySem.W Builtin Builtin.ObjectAttr Builtin.Getset_descriptor
namespace Mine

/-- a word's place in the order of words -/
def rk : Nat → Wd → Nat
  | 0, _ => 0
  | _ + 1, [] => 0
  | f + 1, c :: r => c * 200 ^ f + rk f r
theorem rk_lt : ∀ (f : Nat) (p : Wd), (∀ c ∈ p, 1 ≤ c ∧ c < 199) → rk f p < 200 ^ f
  | 0, _, _ => by simp [rk]
  | f + 1, [], _ => by simp [rk]; exact Nat.pow_pos (by decide)
  | f + 1, c :: r, h => by
    have h1 := rk_lt f r fun x hx => h x (.tail _ hx)
    have h2 := h c (.head _)
    have h3 : (c + 1) * 200 ^ f ≤ 200 * 200 ^ f := Nat.mul_le_mul_right _ (by omega)
    rw [Nat.add_mul, Nat.one_mul] at h3
    show c * 200 ^ f + rk f r < 200 ^ (f + 1)
    rw [Nat.pow_succ, Nat.mul_comm (200 ^ f) 200]
    omega
theorem rk_iff : ∀ (f : Nat) (p q : Wd), p.length ≤ f → q.length ≤ f → (∀ c ∈ p, 1 ≤ c ∧ c < 199) → (∀ c ∈ q, 1 ≤ c ∧ c < 199) → (p < q ↔ rk f p < rk f q)
  | 0, p, q, hp, hq, _, _ => by
    have e1 : p = [] := List.length_eq_zero_iff.mp (by omega)
    have e2 : q = [] := List.length_eq_zero_iff.mp (by omega)
    subst e1 e2; simp [rk]
  | f + 1, [], [], _, _, _, _ => by simp [rk]
  | f + 1, [], d :: s, _, _, _, hq => by
    have h2 := hq d (.head _)
    have h3 : 1 * 200 ^ f ≤ d * 200 ^ f := Nat.mul_le_mul_right _ h2.1
    have h4 : 0 < 200 ^ f := Nat.pow_pos (by decide)
    constructor
    · intro _
      show 0 < d * 200 ^ f + rk f s
      omega
    · intro _; exact List.nil_lt_cons _ _
  | f + 1, c :: r, [], _, _, hp, _ => by
    constructor
    · intro h; exact absurd h (List.not_lt_nil _)
    · intro h; exact absurd h (Nat.not_lt_zero _)
  | f + 1, c :: r, d :: s, hp, hq, ap, aq => by
    have ih := rk_iff f r s (by simpa using hp) (by simpa using hq) (fun x hx => ap x (.tail _ hx)) (fun x hx => aq x (.tail _ hx))
    have b1 := rk_lt f r fun x hx => ap x (.tail _ hx)
    have b2 := rk_lt f s fun x hx => aq x (.tail _ hx)
    rw [List.cons_lt_cons_iff]
    show _ ↔ c * 200 ^ f + rk f r < d * 200 ^ f + rk f s
    rcases Nat.lt_trichotomy c d with e | e | e
    · have h3 : (c + 1) * 200 ^ f ≤ d * 200 ^ f := Nat.mul_le_mul_right _ e
      rw [Nat.add_mul, Nat.one_mul] at h3
      constructor
      · intro _; omega
      · intro _; exact .inl e
    · subst e
      rw [ih]
      constructor
      · rintro (h | h)
        · omega
        · omega
      · intro h; exact .inr ⟨rfl, by omega⟩
    · have h3 : (d + 1) * 200 ^ f ≤ c * 200 ^ f := Nat.mul_le_mul_right _ e
      rw [Nat.add_mul, Nat.one_mul] at h3
      constructor
      · rintro (h | h)
        · omega
        · omega
      · intro h; omega
theorem rk_inj {f : Nat} {p q : Wd} (hp : p.length ≤ f) (hq : q.length ≤ f) (ap : ∀ c ∈ p, 1 ≤ c ∧ c < 199) (aq : ∀ c ∈ q, 1 ≤ c ∧ c < 199) (h : rk f p = rk f q) : p = q := by
  have h1 := rk_iff f p q hp hq ap aq
  have h2 := rk_iff f q p hq hp aq ap
  refine Decidable.byContradiction fun z => ?_
  exact z (List.le_antisymm (fun e => by have := h2.mp e; omega) (fun e => by have := h1.mp e; omega))

/-- all that stands in a heap, but for one place -/
def allOf (h : Heap) (L : Nat) : List (Addr × Obj) := (List.range h.objs.size).filterMap fun b => if b = L then none else (h.get? b).map fun o => (b, o)
theorem allOf_mem {h : Heap} {L b : Nat} {o : Obj} : (b, o) ∈ allOf h L ↔ b ≠ L ∧ h.get? b = some o := by
  unfold allOf
  rw [List.mem_filterMap]
  constructor
  · rintro ⟨x, hx, e⟩
    by_cases z : x = L
    · rw [if_pos z] at e; cases e
    · rw [if_neg z] at e
      obtain ⟨o', e1, e2⟩ := Option.map_eq_some_iff.mp e
      cases e2
      exact ⟨z, e1⟩
  · rintro ⟨z, e⟩
    exact ⟨b, List.mem_range.mpr (Heap.lt_size e), by rw [if_neg z, e]; rfl⟩
/-- the heap before all -/
def noHeap : Heap := { (default : Heap) with objs := #[] }
theorem noHeap_get (b : Addr) : noHeap.get? b = none := Heap.get?_none_of_le (Nat.zero_le _)

section
variable {w : World} {A : Around} {h : Heap} {g : Array GenState} {d : Drawn} {t : Nat} {os : OsState} {s : Shared} {env : Env}

theorem PrA.tups {kp : List Wd} {R : Nat → Prop} : ∀ {vs : List Value} {qs : List Wd}, PrA h kp R vs qs → ∃ fs, KatTups h vs fs ∧ StrsAre fs (qs.map Mine.T)
  | [], [], _ => ⟨[], trivial, .nil⟩
  | _ :: _, q :: _, x => by
    obtain ⟨⟨r, tk, l, rfl, e, _⟩, x⟩ := x
    obtain ⟨fs, a, b⟩ := PrA.tups x
    exact ⟨_, .cons e rfl rfl rfl a, .cons _ tk b⟩
theorem PrA.at_ {kp : List Wd} {R : Nat → Prop} : ∀ {vs : List Value} {qs : List Wd}, PrA h kp R vs qs → ∀ i, i < vs.length → PrO h kp R (vs.getD i .none) (qs.getD i [])
  | [], [], _, i, hi => absurd hi (Nat.not_lt_zero _)
  | _ :: _, _ :: _, x, 0, _ => x.1
  | _ :: _, _ :: _, x, i + 1, hi => PrA.at_ x.2 i (Nat.lt_of_succ_lt_succ hi)
theorem PrA.pick {kp : List Wd} {R : Nat → Prop} {vs : List Value} {qs : List Wd} (x : PrA h kp R vs qs) : ∀ (p : List Nat), (∀ i ∈ p, i < vs.length) → PrA h kp R (p.map fun i => vs.getD i .none) (p.map fun i => qs.getD i [])
  | [], _ => trivial
  | i :: p, hp => ⟨x.at_ i (hp i (.head _)), x.pick p fun j hj => hp j (.tail _ hj)⟩
end
end Mine
end

/- part M33 -/
section
open PySem PySem.Calls PySem.Spec PyProof.Rows PySem.W Builtin Builtin.ObjectAttr Builtin.Getset_descriptor
namespace Mine
section
variable {w : World} {A : Around} {h : Heap} {g : Array GenState} {d : Drawn} {t : Nat} {os : OsState} {s : Shared} {env : Env}

theorem range_pickW (qs : List Wd) : (List.range qs.length).map (fun i => qs.getD i []) = qs := by
  refine List.ext_getElem (by simp) fun i h1 h2 => ?_
  rw [List.getElem_map, List.getElem_range]
  simp [List.getD, h2]
theorem PrA.over {kp : List Wd} {R : Nat → Prop} {L : Nat} {m : Str → Option Value} {h' : Heap} {vs : List Value} {qs : List Wd} (x : PrA h kp R vs qs) (ns : h.Ns L m) (k : ∀ b o, b ≠ L → h.get? b = some o → h'.get? b = some o) : PrA h' kp (fun _ => True) vs qs := by
  obtain ⟨od, es, ep, e, dd, _⟩ := ns
  refine x.all fun v q ⟨r, tk, l, e1, e2, ⟨ys, n, e3, e4⟩, _⟩ => ⟨r, tk, l, e1, k _ _ (fun z => ?_) e2, ⟨ys, n, k _ _ (fun z => ?_) e3, e4⟩, trivial⟩
  · rw [z, e] at e2; cases e2; cases dd
  · rw [z, e] at e3; cases e3; cases dd

theorem sorted_spec {a n L : Nat} {m : Str → Option Value} {kp : List Wd} {R : Nat → Prop} {vs : List Value} {qs : List Wd} {Q : Value → Shared → Prop} (ea : h.get? a = some (lobj vs.toArray n)) (x : PrA h kp R vs qs) (nd : qs.Nodup) (h2 : 2 ≤ qs.length) (h64 : qs.length < 64)
    (hl : ∀ q ∈ qs, q.length ≤ 4) (ha : ∀ q ∈ qs, ∀ c ∈ q, 1 ≤ c ∧ c < 199) (ns : h.Ns L m)
    (q : ∀ D c h' t' vs' qs', h'.get? D = some (lobj vs'.toArray c) → PrA h' kp (fun _ => True) vs' qs' → qs'.Perm qs → qs'.Pairwise (fun p q => rk 4 p < rk 4 q) → (∀ b o, b ≠ L → h.get? b = some o → h'.get? b = some o) → h'.Ns L m → Q (.ref D) (St h' g d t' os)) :
    W w A (call (.builtin "sorted") [.ref a]) Q (St h g d t os) := by
  have vl := x.len
  refine ⟨kat_sorted (h₀ := noHeap) (L := L) (m := m) (news := allOf h L) (vs := vs) ⟨ns, (fun b o e => by rw [noHeap_get] at e; exact nomatch e), Nat.zero_le _⟩ (fun p hp => ⟨(allOf_mem.mp hp).2, (allOf_mem.mp hp).1, noHeap_get _⟩) (lobj_list ea) (by omega) (by omega) fun D e1 h' F N lt => ?_⟩
  have k : ∀ b o, b ≠ L → h.get? b = some o → h'.get? b = some o := fun b o nb e => (N (b, o) (.tail _ (allOf_mem.mpr ⟨nb, e⟩))).1
  have x' := x.over ns k
  obtain ⟨fs, tu, sf⟩ := x'.tups
  have fl : fs.length = qs.length := strs_len sf
  have hqm : ∀ i, i < qs.length → qs.getD i [] ∈ qs := fun i hi => by
    have : qs.getD i [] = qs[i] := by simp [List.getD, hi]
    rw [this]; exact List.getElem_mem _
  have inj : Inj qs.length fun i => rk 4 (qs.getD i []) := fun i j hi hj e => by
    have e2 := rk_inj (hl _ (hqm i hi)) (hl _ (hqm j hj)) (ha _ (hqm i hi)) (ha _ (hqm j hj)) e
    have e3 : qs[i] = qs[j] := by simpa [List.getD, hi, hj] using e2
    rcases Nat.lt_trichotomy i j with z | z | z
    · exact absurd e3 (List.pairwise_iff_getElem.mp nd i j hi hj z)
    · exact z
    · exact absurd e3.symm (List.pairwise_iff_getElem.mp nd j i hj hi z)
  refine kat_kind tu (T := .type "str") (by omega) (fun v hv => ?_) rfl ?_
  · obtain ⟨i, hi, e⟩ := List.mem_iff_getElem.mp hv
    obtain ⟨y, tk, e2, _⟩ := StrsAre.item sf i v (by rw [List.getElem?_eq_getElem hi, e])
    rw [e2]; exact Looks.of_pure rfl
  · rw [vl]
    refine post_wp (f := fun i => rk 4 (qs.getD i [])) (I := fun s' => ∃ t', s' = St h' g d t' os) (fun i j C s hi hj hij ⟨t', es⟩ kc => ?_) (fun p s gp ⟨t', es⟩ => ?_) _ _ (post_sort inj h2) ⟨t, rfl⟩
    · subst es
      obtain ⟨r1, tk1, l1, a1, a2, _⟩ := x'.at_ i (by omega)
      obtain ⟨r2, tk2, l2, b1, b2, _⟩ := x'.at_ j (by omega)
      show wpAny _ _ (keyLt' _ (vs.getD i .none) (vs.getD j .none)) _ _ _
      rw [a1, b1]
      refine kat_lt a2 rfl b2 rfl (kat_cons (wpAny_eqBool_str ?_))
      have ne : ¬ (Mine.T (qs.getD i []) = Mine.T (qs.getD j [])) := fun z => hij (inj i j hi hj (by
        have z2 := congrArg (fun s : Str => s.cps.toList) z
        have z3 : qs.getD i [] = qs.getD j [] := by simpa using z2
        show rk 4 _ = rk 4 _
        rw [z3]))
      rw [decide_eq_false ne]
      refine kat_no ?_
      refine oneLt_str ?_
      have e : decide ((Mine.T (qs.getD i [])).cps.toList < (Mine.T (qs.getD j [])).cps.toList) = decide (rk 4 (qs.getD i []) < rk 4 (qs.getD j [])) :=
        decide_eq_decide.mpr (rk_iff 4 _ _ (hl _ (hqm i hi)) (hl _ (hqm j hj)) (ha _ (hqm i hi)) (ha _ (hqm j hj)))
      rw [e]
      exact kc _ ⟨_, rfl⟩
    · subst es
      obtain ⟨gd, asc⟩ := gp
      have nlt : ∀ p ∈ allOf h L, p.1 ≠ D := fun p hp => Nat.ne_of_lt (lt p hp)
      refine KasFin.intro F N (.head nlt) fun h'' c F'' N'' => ?_
      have k2 : ∀ b o, b ≠ L → h.get? b = some o → h''.get? b = some o := fun b o nb e => (N'' (b, o) (.tail _ (allOf_mem.mpr ⟨nb, e⟩))).1
      have x2 := x.over ns k2
      have hin : ∀ i ∈ p.toList, i < vs.length := fun i hi => by
        rw [vl]; exact List.mem_range.mp ((List.Perm.mem_iff gd).mp hi)
      refine q D c h'' t' _ _ (N'' _ (.head _)).1 (x2.pick p.toList hin) ?_ ?_ k2 F''.ns
      · have := List.Perm.map (fun i => qs.getD i []) gd
        rw [range_pickW] at this
        exact this
      · rw [List.pairwise_map, List.pairwise_iff_getElem]
        intro i j hi hj hij
        have gs := gd.length_eq
        rw [List.length_range] at gs
        have hi' : i < p.size := by simpa using hi
        have hj' : j < p.size := by simpa using hj
        have := asc i j hij (by omega)
        rw [getD_eq hi', getD_eq hj'] at this
        exact this
end
end Mine
end

/- part M34 -/
section
open PySem PySem.Calls PySem.Spec PyProof.Rows PySem.W Builtin Builtin.ObjectAttr Builtin.Getset_descriptor
namespace Mine
section
variable {w : World} {A : Around} {h : Heap} {g : Array GenState} {d : Drawn} {t : Nat} {os : OsState} {s : Shared} {env : Env}

theorem sort_one {a : Addr} {v : Value} {n : Nat} {P : PySem.Fin → Shared → Prop} {E : Value → Shared → Prop} {prog : Program} (ho : s.heap.get? a = some (seqObj "list" [v].toArray n))
    (h : P (.done (.ret .none)) { s with heap := sortedHeap s.heap a [v] #[v] }) :
    wpAny (model prog w) A (Builtin.«list.sort» ⟨[.ref a], []⟩) P E s := by
  rw [list_sort_plain]
  have ha : a < s.heap.objs.size := Heap.lt_size ho
  refine wpAny_bind (listItems_at ho rfl ?_)
  refine wpAny_bind (listUpdate_at ho rfl ?_ (by simp [sizeLine]) (by simp))
  obtain ⟨e1, ho1⟩ : ∃ e1, (s.heap.update a (Obj.mapSeq fun _ => #[])).get? a = some (seqObj "list" #[] e1) := ⟨_, get?_update_seq ho (fun _ => #[])⟩
  refine wpAny_bind (seqEpoch_at ho1 rfl ?_)
  refine wpAny_bind (wpAny_newTuple ?_ (by simp [sizeLine]))
  refine wpAny_bind (wpAny_newList ?_ (by simp))
  refine wpAny_holding ?_
  have ho6 : (((s.heap.update a (Obj.mapSeq fun _ => #[])).push (seqObj "tuple" [v].toArray 0)).push (seqObj "list" #[] 0)).get? a = some (seqObj "list" #[] e1) := by
    rw [Heap.get?_push_ne _ _ _ (by rw [size_push', Heap.size_update]; exact Nat.ne_of_lt (Nat.lt_succ_of_lt ha)), Heap.get?_push_ne _ _ _ (by rw [Heap.size_update]; exact Nat.ne_of_lt ha)]
    exact ho1
  show wpAny (model prog w) A _ P E { s with heap := ((s.heap.update a (Obj.mapSeq fun _ => #[])).push (seqObj "tuple" [v].toArray 0)).push (seqObj "list" #[] 0) }
  dsimp only
  have h2 : [v].toArray.size < 2 := by simp
  rw [if_pos h2, if_pos h2]
  refine wpAny_bind (wpAny_pure ?_)
  rw [StateT.run_pure]
  refine wpAny_bind (wpAny_pure ?_)
  dsimp only
  refine wpAny_bind (seqEpoch_at ho6 rfl ?_)
  have eo : ((arrOf (SortSt.mk' general' ([v].toArray.zip [v].toArray) #[] 7 none)).map (·.2)) = #[v] := by
    show (([v].toArray.zip [v].toArray).map (·.2)) = #[v]
    simp
  rw [eo]
  refine wpAny_bind (listUpdate_at ho6 rfl ?_ (by simp) (by simp [sizeLine]))
  simp only [bne_self_eq_false, Bool.false_eq_true, if_false]
  exact wpAny_pure h

theorem sorted_one {a n : Nat} {v : Value} {Q : Value → Shared → Prop} (ea : h.get? a = some (lobj #[v] n)) (q : ∀ D c h', h'.get? D = some (lobj #[v] c) → Up [] h h' → Q (.ref D) (St h' g d t os)) :
    W w A (call (.builtin "sorted") [.ref a]) Q (St h g d t os) := by
  have hl : h.IsList a [v].toArray := lobj_list ea
  refine ⟨Calls.call_function_entry kind_sorted plain_sorted entry_sorted (args_sorted1 _) ?_⟩
  unfold Builtin.«sorted»
  refine wpAny_bind (m := checkCount "sorted" 1 1 _) (wpAny_pure ?_)
  refine wpAny_bind (collect_list hl ?_ (by simp [sizeLine]))
  refine wpAny_bind (wpAny_newList ?_ (by simp [sizeLine]))
  have hsz : ((h.push (seqObj "list" #[] 0)).update h.objs.size (Obj.mapSeq (· ++ [v].toArray))).objs.size = h.objs.size + 1 := by
    rw [Heap.size_update, size_push']
  have hoL : (((h.push (seqObj "list" #[] 0)).update h.objs.size (Obj.mapSeq (· ++ [v].toArray))).push (seqObj "list" [v].toArray 0)).get? (h.objs.size + 1) = some (seqObj "list" [v].toArray 0) := by
    rw [← hsz]; exact Heap.get?_push_size _ rfl
  show wpAny _ _ _ _ _ (St (((h.push (seqObj "list" #[] 0)).update h.objs.size (Obj.mapSeq (· ++ [v].toArray))).push (seqObj "list" [v].toArray 0)) g d t os)
  rw [hsz]
  refine wpAny_bind (wpAny_holding (wpAny_call_entry slot_list_sort ⟨_, hoL, rfl⟩ entry_list_sort (sort_one hoL ⟨_, rfl, ?_⟩) (args_list_sort _)))
  refine wpAny_pure ⟨_, rfl, ?_⟩
  obtain ⟨c, hc⟩ := sortedAll_at h [v] #[v]
  refine q _ c (sortedAll h [v] #[v]) hc (Up.of_keep ?_ fun b o e => sortedAll_old e)
  have := Heap.lt_size hc
  exact Nat.le_of_lt (Nat.lt_of_succ_lt this)
end
end Mine
end

/- part M35 -/
section
open PySem PySem.Calls PySem.Spec PyProof.Rows PySem.W Builtin Builtin.ObjectAttr Builtin.Getset_descriptor
namespace Mine
section
variable {w : World} {A : Around} {h : Heap} {g : Array GenState} {d : Drawn} {t : Nat} {os : OsState} {s : Shared} {env : Env}

theorem sorted_any {a n L : Nat} {m : Str → Option Value} {kp : List Wd} {R : Nat → Prop} {vs : List Value} {qs : List Wd} {Q : Value → Shared → Prop} (ea : h.get? a = some (lobj vs.toArray n)) (x : PrA h kp R vs qs) (nd : qs.Nodup) (h1 : 1 ≤ qs.length) (h64 : qs.length < 64)
    (hl : ∀ q ∈ qs, q.length ≤ 4) (ha : ∀ q ∈ qs, ∀ c ∈ q, 1 ≤ c ∧ c < 199) (ns : h.Ns L m)
    (q : ∀ D c h' t' vs' qs', h'.get? D = some (lobj vs'.toArray c) → PrA h' kp (fun _ => True) vs' qs' → qs'.Perm qs → qs'.Pairwise (fun p q => rk 4 p < rk 4 q) → (∀ b o, b ≠ L → h.get? b = some o → h'.get? b = some o) → h'.Ns L m → Q (.ref D) (St h' g d t' os)) :
    W w A (call (.builtin "sorted") [.ref a]) Q (St h g d t os) := by
  by_cases h2 : 2 ≤ qs.length
  · exact sorted_spec ea x nd h2 h64 hl ha ns q
  · have vl := x.len
    obtain ⟨p, rfl⟩ : ∃ p, qs = [p] := List.length_eq_one_iff.mp (by omega)
    obtain ⟨v, rfl⟩ : ∃ v, vs = [v] := List.length_eq_one_iff.mp (by simpa using vl)
    refine sorted_one ea fun D c h' eD u => ?_
    exact q D c h' t [v] [p] eD (x.over ns fun b o _ e => u.keep _ _ e) (List.Perm.refl _) (List.pairwise_singleton _ _) (fun b o _ e => u.keep _ _ e) (u.ns (by simp) ns)

/-- the invariant of the due list -/
def DJ2 (h : Heap) (g : Array GenState) (d : Drawn) (os : OsState) (kp ws : List Wd) (C D it i : Nat) (ys : List Value) (s' : Shared) : Prop :=
  ∃ h' t', s' = St h' g d t' os ∧ PrA h' kp (fun l => l ≠ D) ys (ws.take i) ∧ (∃ m, h'.Ns C m) ∧ Up [] h h' ∧ (h.objs.size ≤ D ∧ D < C ∧ C < h'.objs.size ∧ h.objs.size ≤ it ∧ it < D)

theorem PrA.keep1 {kp : List Wd} {R : Nat → Prop} {h' : Heap} {x : Nat} {o : Obj} {vs : List Value} {qs : List Wd} (y : PrA h kp R vs qs) (u : Up [x] h h') (e : h.get? x = some o) (ns : ∀ xs n, o.data ≠ .seq xs n) : PrA h' kp R vs qs :=
  y.up u (fun a ha o' e' => by rw [List.mem_singleton.mp ha, e] at e'; cases e'; exact ⟨fun xs z => ns _ _ (by rw [z]), .inl fun xs n z => ns _ _ (by rw [z])⟩) (fun _ z => z)
theorem PrA.keepL {kp : List Wd} {h' : Heap} {x n : Nat} {xs : Array Value} {vs : List Value} {qs : List Wd} (y : PrA h kp (fun l => l ≠ x) vs qs) (u : Up [x] h h') (e : h.get? x = some (lobj xs n)) : PrA h' kp (fun l => l ≠ x) vs qs :=
  y.up u (fun a ha o' e' => by
    have ea := List.mem_singleton.mp ha
    rw [ea, e] at e'; cases e'
    exact ⟨fun xs z => by simp at z, .inr fun l hl => by rw [ea]; exact hl⟩) (fun _ z => z)
end
end Mine
end

/- part M36 -/
section
open PySem PySem.Calls PySem.Spec PyProof.Rows PySem.W Builtin Builtin.ObjectAttr Builtin.Getset_descriptor
namespace Mine
section
variable {w : World} {A : Around} {h : Heap} {g : Array GenState} {d : Drawn} {t : Nat} {os : OsState} {s : Shared} {env : Env}

theorem T_nil : Str.ofString "" = Mine.T [] := by rfl

/-- the iterator over [''] + kept -/
def IT2 (vs : List Value) (it i : Nat) (h : Heap) : Prop := ∃ b n tk, LIt b ((Value.str (Mine.T []) tk) :: vs).toArray n it i h ∧ @LT.lt Nat _ b it
theorem due_turn {L a C D it i : Nat} {vs0 : List Value} {kp ws : List Wd} {ys : List Value} {s' : Shared} {p1 p2 p3 p4 p5 p6 : Pos} (R : REnv env L) (B : Base w h) (hh : A.handled = none) (hA : A.depth < recursionLimit) (S : Strs h a kp) (hne : ∀ q ∈ kp, q ≠ []) (hl4 : ∀ q ∈ kp, q.length ≤ 4) (hz : kp.length < 800) (wz : ws.length < 900)
    (ez : ws = [] :: kp) (za0 : StrsAre vs0 (kp.map Mine.T)) (ck : h.IsCell (L + 1) (some (.ref a))) (hi : i < kp.length + 1) (hI : IT2 vs0 it i s'.heap) (J : DJ2 h g d os kp ws C D it i ys s') (hD : ∃ k, s'.heap.get? D = some (lobj ys.toArray k)) :
    wpAny (model PW w) A (pyNext (.ref it)) (fun r s₁ => ∃ v, r = some v ∧ CTurn w A (compEnvC sc3 [(Str.ofString "kept", L + 1)] C env) "part" []
      (.Tuple [.Name "part" p1, .Call (.Name "_law_letters" p2) [.Name "kept" p3, .Name "part" p4] [] p5] 0 p6) (IT2 vs0) (DJ2 h g d os kp ws) C D it i ys v s₁) NoE s' := by
  obtain ⟨b, n, tk0, hI, bit⟩ := hI
  have za : StrsAre ((Value.str (Mine.T []) tk0) :: vs0) (ws.map Mine.T) := by rw [ez]; exact .cons _ _ za0
  generalize evs : (Value.str (Mine.T []) tk0) :: vs0 = vs at hI za
  have hi : i < vs.toArray.size := by rw [← evs, List.size_toArray, List.length_cons]; have := strs_len za0; omega
  obtain ⟨h2, t2, rfl, sy, ⟨m, nC⟩, u2, b1, b2, b3, b4, b5⟩ := J
  obtain ⟨kD, eD⟩ := hD
  have hx : vs.toArray[i]? = some vs.toArray[i] := Array.getElem?_eq_getElem hi
  have hx' : vs[i]? = some vs.toArray[i] := by simpa using hx
  obtain ⟨q, tk1, h1, ev⟩ := at_strs za hx'
  refine LIt.item hI hx fun h3 i3 u3 => ⟨_, rfl, ?_⟩
  rw [ev]
  obtain ⟨⟨oi, ei, _, di⟩, _⟩ := id hI
  have nit : D ≠ it := by omega
  refine s_loc (u3.ns (nin (show C ≠ it by omega)) nC) rfl (R.w3 C).2.1 fun h4 n4 u4 => ?_
  have U4 : Up [] h h4 := (u2.step1 u3 b4).step1 u4 (show h.objs.size ≤ C by omega)
  have B4 := B.keep U4
  have c4 := U4.cell (by simp) ck
  have i4 : LIt b vs.toArray n it (i + 1) h4 := i3.up u4 (nin (show b ≠ C by omega)) (nin (show it ≠ C by omega))
  have eD3 := u3.get (nin (show D ≠ it by omega)) eD
  have eD4 := u4.get (nin (show D ≠ C by omega)) eD3
  have b3' : C < h4.objs.size := Nat.lt_of_lt_of_le (Nat.lt_of_lt_of_le b3 u3.1) u4.1
  have sy3 := sy.keep1 u3 ei (by rw [di]; simp)
  obtain ⟨oc, es, ep, ec, dc, _⟩ := u3.ns (nin (show C ≠ it by omega)) nC
  have sy4 := sy3.keep1 u4 ec (by rw [dc]; simp)
  refine tests0 ?_
  rw [if_pos rfl]
  refine e_tuple rfl (sp_cons (n_loc n4 rfl (R.w3 C).2.1 here (sp_cons (e_call rfl (n_glob (.ref 95) B4 rfl (R.w3 C).2.2 R.gb (cw_keep rfl (sp_cons (n_cell c4 rfl (R.w3 C).1 rfl (sp_cons (n_loc n4 rfl (R.w3 C).2.1 here (sp_nil ⟨keep_K B4 (by kernel_rfl), ?_⟩)))))))))))
  refine letters_spec B4 (S.up U4 (by simp)) hne hl4 (by omega) hA hh fun D5 h5 t5 S5 u5 l5 lt5 => ?_
  refine sp_nil (mk_tuple (by simp [sizeLine]) fun r h6 er e6 u6 lt6 => ?_)
  have eD6 := u6.keep _ _ (u5.keep _ _ eD4)
  have i6 := (i4.up u5 (by simp) (by simp)).up u6 (by simp) (by simp)
  have U6 := (U4.step0 u5).step0 u6
  have sy6 := (sy4.up (R' := fun l => l ≠ D) u5 (by simp) (fun _ z => z)).up (R' := fun l => l ≠ D) u6 (by simp) (fun _ z => z)
  have n6 := u6.ns (by simp) (u5.ns (by simp) n4)
  have b36 : C < h6.objs.size := Nat.lt_of_lt_of_le (Nat.lt_of_lt_of_le b3' u5.1) u6.1
  have D5D : D5 ≠ D := Nat.ne_of_gt (Nat.lt_of_lt_of_le (Heap.lt_size eD4) l5)
  have ylen := sy.len
  refine ⟨⟨kD, eD6⟩, ?_, fun h7 u7 _ => ⟨⟨b, n, tk0, by rw [evs]; exact i6.up u7 (nin (show b ≠ D by omega)) (nin (show it ≠ D by omega)), bit⟩, h7, _, rfl, ?_, ⟨_, u7.ns (nin (show C ≠ D by omega)) n6⟩, U6.step1 u7 b1, b1, b2, Nat.lt_of_lt_of_le b36 u7.1, b4, b5⟩⟩
  · rw [ylen, List.length_take]; omega
  · have nw : PrA h6 kp (fun l => l ≠ D) [.ref r] [q] := ⟨⟨r, tk1, D5, rfl, e6, S5.up u6 (by simp), D5D⟩, trivial⟩
    have all := (sy6.app nw).keepL u7 eD6
    rw [List.take_add_one, h1]
    exact all

theorem due_comp {L a : Nat} {kp : List Wd} {m : Str → Option Value} {Q : Flow → Shared → Prop} {rest : List Stmt} {p0 p1 p2 p3 p4 p5 p6 p8 p9 p10 p11 : Pos} (hb : env.blockKind = .function) (R : REnv env L) (B : Base w h) (hh : A.handled = none) (hA : A.depth < recursionLimit) (nL : h.Ns L m) (ck : h.IsCell (L + 1) (some (.ref a))) (S : Strs h a kp) (hne : ∀ q ∈ kp, q ≠ []) (hl4 : ∀ q ∈ kp, q.length ≤ 4) (hz : kp.length < 800)
    (q : ∀ D h' t' ys k, h'.get? D = some (lobj ys.toArray k) → PrA h' kp (fun l => l ≠ D) ys ([] :: kp) → h'.Ns L (upd m "due" (.ref D)) → Up [L] h h' → W w A (execs rest env) Q (St h' g d t' os)) :
    W w A (execs (.Assign [.Name "due" ⟨60, 4, 60, 7⟩] (.ListComp (.Tuple [.Name "part" p1, .Call (.Name "_law_letters" p2) [.Name "kept" p3, .Name "part" p4] [] p5] 0 p6) [⟨.Name "part" p0, .BinOp (.List [.Constant (.str "") 0 p8] p9) .Add (.Name "kept" p10) p11, [], 0⟩] sc3 ⟨60, 10, 60, 68⟩) ⟨60, 4, 60, 68⟩ :: rest) env) Q (St h g d t os) := by
  obtain ⟨vs, n, ea, za⟩ := id S
  have lenv : vs.length = kp.length := strs_len za
  refine x_comp (n := kp.length + 1) (It := IT2 vs) (fun C D it i ys s' => DJ2 h g d os kp ([] :: kp) C D it i ys s') (by
    show (pure (env.blockKind == .function && env.kindOf "due" == some .local && true && true) : Sem Bool) = pure true
    rw [hb, R.due]; rfl) R.cl3 (by decide) rfl (by decide) (fun _ => rfl) (by omega) ?_ ?_ ?_ ?_
  · refine e_bin (e_list rfl ?_)
    refine sp_cons ?_
    refine c_str (k := 0) (pos := p8) ?_
    refine sp_nil (mk_list (by simp [sizeLine]) fun a1 h1 ea1 e1 u1 lt1 => ?_)
    refine n_cell (u1.cell (by simp) ck) R.k0 R.kept.1 R.kept.2 ⟨P.add_list e1 (u1.keep _ _ ea) ?_ (by simp [sizeLine]; omega)⟩
    have e2 : (h1.push (lobj ([Value.str (Str.ofString "") t].toArray ++ vs.toArray) 0)).get? h1.objs.size = some (lobj ((Value.str (Mine.T []) t) :: vs).toArray 0) := by
      rw [Heap.get?_push_size _ rfl]; simp [T_nil]
    refine LIt.new e2 fun it h3 i3 l3 u3 lt3 => ⟨it, rfl, fun D C h4 t4 e4 n4 u4 l4 l5 l6 => ⟨⟨_, _, t, i3.up u4 (by simp) (by simp), ?_⟩, h4, t4, rfl, trivial, ⟨_, n4⟩, ((u1.step0 (Up.push _ _)).step0 u3).step0 u4, ?_, l5, l6, ?_, Nat.lt_of_lt_of_le lt3 l4⟩⟩
    · have := (Heap.lt_size e2); exact Nat.lt_of_lt_of_le this l3
    · exact Nat.le_trans (((u1.step0 (Up.push _ _)).step0 u3)).1 l4
    · exact Nat.le_trans (u1.step0 (Up.push _ _)).1 l3
  · rintro it s ⟨b, n', tk, x, _⟩
    exact x.self s
  · intro C D it i ys s' hi hI J hD
    exact due_turn R B hh hA S hne hl4 hz (by simp; omega) rfl za ck hi hI J hD
  · rintro C D it ys s' ⟨b, n', tk, hI, bit⟩ J hD
    obtain ⟨h2, t2, rfl, sy, ⟨m', nC⟩, u2, b1, b2, b3, b4, b5⟩ := J
    obtain ⟨kD, eD⟩ := hD
    have lL : L < h.objs.size := nL.lt
    have esz : kp.length + 1 = ((Value.str (Mine.T []) tk) :: vs).toArray.size := by simp [lenv]
    obtain ⟨⟨oi, ei, _, di⟩, _⟩ := id hI
    rw [esz] at hI
    refine LIt.stop hh hI fun h3 u3 => ⟨rfl, ?_⟩
    have U3 := u2.step1 u3 b4
    have sy3 := sy.keep1 u3 ei (by rw [di]; simp)
    refine s_loc (R.loc ▸ U3.ns (by simp) nL) R.k0 R.due fun h4 n4 u4 => ⟨⟨_, u4.ns (nin (by rw [R.loc]; show C ≠ L; omega)) (u3.ns (nin (show C ≠ it by omega)) nC)⟩, fun h5 u5 => ?_⟩
    rw [R.loc] at n4 u4
    obtain ⟨oL, esL, epL, eL, dL, _⟩ := U3.ns (by simp) nL
    have sy4 := sy3.keep1 u4 eL (by rw [dL]; simp)
    obtain ⟨oC, esC, epC, eC, dC, _⟩ := u4.ns (nin (show C ≠ L by omega)) (u3.ns (nin (show C ≠ it by omega)) nC)
    have sy5 := sy4.keep1 u5 eC (by rw [dC]; simp)
    have eD5 := u5.get (nin (show D ≠ C by omega)) (u4.get (nin (show D ≠ L by omega)) (u3.get (nin (show D ≠ it by omega)) eD))
    rw [List.take_of_length_le (by simp)] at sy5
    exact q D h5 _ ys kD eD5 sy5 (u5.ns (nin (show L ≠ C by omega)) n4) (((U3.mono (Y := [L]) (by simp)).step u4 (fun b q => .inl q)).step1 u5 (show h.objs.size ≤ C by omega))
end
end Mine
end

/- part M37 -/
section
open PySem PySem.Calls PySem.Spec PyProof.Rows PySem.W Builtin Builtin.ObjectAttr Builtin.Getset_descriptor
namespace Mine

/-- a part as plain data -/
def pd (kp : List Wd) (q : Wd) : PyData := .tuple [.str (Mine.T q), .list (((kids kp q).map fun c => [c]).map fun p => .str (Mine.T p))]
theorem pd_lay {kp : List Wd} : ∀ {qs : List Wd}, (∀ q ∈ qs, SmallW q) → (∀ q ∈ qs, ∀ c ∈ kids kp q, c < 128) → PyData.canLayAll0 (qs.map (pd kp)) = true
  | [], _, _ => by simp [PyData.canLayAll0]
  | q :: qs, h, k => by
    have h1 := strOk_T (h q (.head _))
    have h2 : PyData.canLayAll0 (((kids kp q).map fun c => [c]).map fun p => PyData.str (Mine.T p)) = true := dat_strs fun p hp => by
      obtain ⟨c, hc, rfl⟩ := List.mem_map.mp hp
      intro x hx
      rw [List.mem_singleton.mp hx]
      exact k q (.head _) c hc
    have h3 := pd_lay (kp := kp) (qs := qs) (fun p hp => h p (.tail _ hp)) (fun p hp => k p (.tail _ hp))
    rw [List.map_cons]
    simp only [pd, PyData.canLayAll0, PyData.canLay0, h1, h2, h3, Bool.and_self]
theorem pd_eqv (kp : List Wd) : ∀ (qs : List Wd), PyData.eqvAll (qs.map (pd kp)) (qs.map (pd kp)) = true
  | [] => by simp [PyData.eqvAll]
  | q :: qs => by
    rw [List.map_cons]
    simp only [pd, PyData.eqvAll, PyData.eqv, eqv_strs, beq_self_eq_true, Bool.and_self]
    exact pd_eqv kp qs
theorem pd_depth (kp : List Wd) (qs : List Wd) : (PyData.list (qs.map (pd kp))).depth ≤ 50 := by
  have h1 : ∀ q, (pd kp q).depth ≤ 2 := fun q => by
    have h0 : ∀ ws : List Wd, PyData.depthAll (ws.map fun p => PyData.str (Mine.T p)) = 0 := by
      intro ws
      induction ws with
      | nil => simp [PyData.depthAll]
      | cons p ws ih => rw [List.map_cons]; simp only [PyData.depthAll, PyData.depth, ih]; rfl
    simp only [pd, PyData.depth, PyData.depthAll, h0]; omega
  have h2 : PyData.depthAll (qs.map (pd kp)) ≤ 2 := by
    induction qs with
    | nil => simp [PyData.depthAll]
    | cons p ws ih => rw [List.map_cons]; simp only [PyData.depthAll]; have := h1 p; omega
  simp only [PyData.depth]; omega

section
variable {w : World} {A : Around} {h : Heap} {g : Array GenState} {d : Drawn} {t : Nat} {os : OsState} {s : Shared} {env : Env}

theorem PrA.reads {kp : List Wd} {R : Nat → Prop} : ∀ {vs : List Value} {qs : List Wd}, PrA h kp R vs qs → ∃ as, ReadsAll h vs (qs.map (pd kp)) as
  | [], [], _ => ⟨_, .nil⟩
  | _ :: _, q :: _, x => by
    obtain ⟨⟨r, tk, l, rfl, e, S, _⟩, x⟩ := x
    obtain ⟨as, ra⟩ := PrA.reads x
    obtain ⟨bs, rb⟩ := S.reads
    exact ⟨_, .cons (.tuple e rfl rfl (.cons (.str _ _) (.cons rb .nil))) ra⟩
theorem c_parts {a b n k : Nat} {kp : List Wd} {R R' : Nat → Prop} {vs us : List Value} {qs : List Wd} {Q : Value → Shared → Prop} (ea : h.get? a = some (lobj vs.toArray n)) (eb : h.get? b = some (lobj us.toArray k)) (x : PrA h kp R vs qs) (y : PrA h kp R' us qs)
    (hs : ∀ q ∈ qs, SmallW q) (hk : ∀ q ∈ qs, ∀ c ∈ kids kp q, c < 128) (hu : A.units + 60 < cLine) (q : Q (.bool true) (St h g d t os)) : W w A (compareOp .Eq (.ref a) (.ref b)) Q (St h g d t os) := by
  obtain ⟨as, ra⟩ := x.reads
  obtain ⟨bs, rb⟩ := y.reads
  have c : (PyData.list (qs.map (pd kp))).canLay0 = true := by simp only [PyData.canLay0]; exact pd_lay hs hk
  refine ⟨SeqAt.compareEq_reads (Reads.list ea rfl rfl ra) (Reads.list eb rfl rfl rb) c c ?_ ?_⟩
  · have := pd_depth kp qs
    rw [Nat.min_self]; omega
  · have : PyData.eqv (.list (qs.map (pd kp))) (.list (qs.map (pd kp))) = true := by simp only [PyData.eqv]; exact pd_eqv kp qs
    rw [this]; exact q
theorem Base.over {L : Nat} {h' : Heap} (B : Base w h) (k : ∀ b o, b ≠ L → h.get? b = some o → h'.get? b = some o) (hL : 108 ≤ L) : Base w h' := by
  obtain ⟨K, ⟨mb, ⟨o1, es1, ep1, e1, r1⟩, r⟩, ⟨mc, ⟨o2, es2, ep2, e2, r2⟩, rc⟩, ob, e, q⟩ := B
  refine ⟨fun a o x => k a o (fun z => ?_) (K a o x), ⟨mb, ⟨o1, es1, ep1, k _ _ (fun z => ?_) e1, r1⟩, r⟩, ⟨mc, ⟨o2, es2, ep2, k _ _ (fun z => ?_) e2, r2⟩, rc⟩, ob, k _ _ (by omega) e, q⟩
  · rw [z, kk_none _ hL] at x; cases x
  · have : L < 108 := by rw [← z]; decide
    omega
  · have : L < 108 := by rw [← z]; decide
    omega
end
end Mine
end

/- part M38 -/
section
open PySem PySem.Calls PySem.Spec PyProof.Rows PySem.W Builtin Builtin.ObjectAttr Builtin.Getset_descriptor
namespace Mine

noncomputable def runEnd (P : Params) : List Stmt := match (fnAt (KK P) 100).body with
  | .stmts (_ :: _ :: _ :: _ :: _ :: _ :: _ :: r) => r
  | _ => []
section
variable {w : World} {A : Around} {h : Heap} {g : Array GenState} {d : Drawn} {t : Nat} {os : OsState} {s : Shared} {env : Env}
variable {h0 : Heap} {D : AD} {L a : Nat} {oa : Obj} {it : Nat} {oi : Obj} {kp fz : List Wd} {adr : Wd → Nat} {N ka fa : Nat} {kl fl : List Wd} {m : Str → Option Value} {vw vs : Option Value}

theorem end_spec {Q : Flow → Shared → Prop} (R : REnv env L) (S : LS w h0 D L a oa it oi kp fz adr N ka fa kp fz m vw vs h) (hz : kp.length < 60) (ha : ∀ p ∈ kp, ∀ c ∈ p, 97 ≤ c ∧ c ≤ 99) (hN : N < 9000) (hA : A.depth + 12 < recursionLimit) (hu : A.units + 60 < cLine) (hh : A.handled = none)
    (k : ∀ h' t', (∀ b o, b ≠ L → h.get? b = some o → h'.get? b = some o) → Q (.ret (.bool true)) (St h' g d t' os)) :
    W w A (execs (runEnd w.params) env) Q (St h g d t os) := by
  have gl := R.gl
  have hb : env.blockKind = .function := by unfold Env.blockKind; rw [R.k0]; rfl
  have hL := S.fix.1
  have a128 : ∀ q ∈ kp, ∀ c ∈ q, c < 128 := fun q hq c hc => by have := ha q hq c hc; omega
  have nd0 : ([] :: kp).Nodup := List.nodup_cons.mpr ⟨fun z => S.ok.ne _ z rfl, S.ok.nd⟩
  have l0 : ∀ q ∈ [] :: kp, q.length ≤ 4 := fun q hq => by
    rcases List.mem_cons.mp hq with rfl | hq
    · simp
    · exact S.ok.len q hq
  have b0 : ∀ q ∈ [] :: kp, ∀ c ∈ q, 97 ≤ c ∧ c ≤ 99 := fun q hq c hc => by
    rcases List.mem_cons.mp hq with rfl | hq
    · simp at hc
    · exact ha q hq c hc
  have pm : (dfs kp 5 []).Perm ([] :: kp) := by
    refine (List.perm_ext_iff_of_nodup (dfs_nodup S.ok 5 [] rfl (.inl rfl)) nd0).mpr fun q => ?_
    rw [dfs_mem S.ok 5 [] rfl (.inl rfl)]
    constructor
    · rintro ⟨e | e, _⟩
      · rw [e]; exact .head _
      · exact .tail _ e
    · intro hq
      refine ⟨?_, List.nil_prefix⟩
      rcases List.mem_cons.mp hq with e | e
      · exact .inl e
      · exact .inr e
  refine due_comp hb R S.B hh (by omega) S.ns S.ck S.Sk S.ok.ne S.ok.len (by omega) fun D1 h1 t1 ys k1 e1 x1 n1 u1 => ?_
  have S1 := S.loc u1 n1 rfl rfl
  refine x_ret (e_cmp rfl (e_call rfl (n_sorted S1.B R.k0 (gl _ (by simp)) R.gb R.bu (cw_builtin rfl (sp_cons (e_call rfl (n_glob (.ref 90) S1.B R.k0 (gl _ (by simp)) R.gb (cw_keep rfl (sp_cons (n_loc (R.loc ▸ S1.ns) R.k0 R.root S1.root (sp_cons (c_str (k := 0) (pos := ⟨61, 35, 61, 37⟩) (sp_nil ⟨keep_K S1.B (by kernel_rfl), ?_⟩)))))))))))))
  rw [T_nil]
  refine parts_spec S1.ok hz a128 5 [] A h1 _ _ _ S1.B S1.G hN S1.T (.inl rfl) rfl (by omega) hh fun P h2 t2 pr u2 l2 => ?_
  obtain ⟨us, k2, e2, x2⟩ := pr
  have dl : (dfs kp 5 []).length = kp.length + 1 := by have := pm.length_eq; simpa using this
  refine sp_nil (sorted_any e2 x2 (pm.nodup_iff.mpr nd0) (by omega) (by omega) (fun q hq => l0 q (pm.mem_iff.mp hq)) (fun q hq c hc => by have := b0 q (pm.mem_iff.mp hq) c hc; omega) (u2.ns (by simp) n1) fun D3 c3 h3 t3 vs3 qs3 e3 x3 p3 s3 k3 n3 => ?_)
  have B2 := S1.B.keep u2
  have B3 : Base w h3 := B2.over k3 hL
  have nL : ∀ {x n : Nat} {xs : Array Value} {h' : Heap} {m' : Str → Option Value}, h'.Ns L m' → h'.get? x = some (lobj xs n) → x ≠ L := fun ns e z => by
    obtain ⟨o, es, ep, e', dd, _⟩ := ns
    rw [z, e'] at e; cases e; cases dd
  have e1' := k3 _ _ (nL n1 e1) (u2.keep _ _ e1)
  have x1' := (x1.up (R' := fun _ => True) u2 (by simp) (fun _ _ => trivial)).over (u2.ns (by simp) n1) k3
  refine e_call rfl (n_sorted B3 R.k0 (gl _ (by simp)) R.gb R.bu (cw_builtin rfl (sp_cons (n_loc (R.loc ▸ n3) R.k0 R.due here (sp_nil (sorted_any e1' x1' nd0 (by simp) (by simp; omega) l0 (fun q hq c hc => by have := b0 q hq c hc; omega) n3 fun D4 c4 h4 t4 vs4 qs4 e4 x4 p4 s4 k4 n4 => ?_))))))
  have eq : qs3 = qs4 := asc_unique (rk 4) qs3 qs4 ((p3.trans pm).trans p4.symm) s3 s4
  subst eq
  have e3' := k4 _ _ (nL n3 e3) e3
  have x3' := x3.over n3 k4
  refine c_parts e3' e4 x3' x4 (fun q hq c hc => by have := b0 q (p4.mem_iff.mp hq) c hc; omega) (fun q hq c hc => a128 _ ((kids_mem S.ok).mp hc) c (by simp)) hu ?_
  exact k h4 _ fun b o nb e => k4 b o nb (k3 b o nb (u2.keep _ _ (u1.get (nin nb) e)))
end
end Mine
end

/- part M39 -/
section
open PySem PySem.Calls PySem.Spec PyProof.Rows PySem.W Builtin Builtin.ObjectAttr Builtin.Getset_descriptor
namespace Mine
section
variable {w : World} {A : Around} {h : Heap} {g : Array GenState} {d : Drawn} {t : Nat} {os : OsState} {s : Shared} {env : Env}

structure ForI (w : World) (A : Around) (env : Env) (x : Str) (body rest : List Stmt) (Q : Flow → Shared → Prop) (a : Nat) (xs : Array Value) (n : Nat) (J : Nat → Nat → Shared → Prop) (s₁ : Shared) : Prop where
  at_ : s₁.heap.get? a = some (lobj xs n)
  start : ∀ it h', s₁.heap.objs.size ≤ it → Up [] s₁.heap h' → h'.IsListIter it a 0 → J it 0 { s₁ with heap := h' }
  turn : ∀ it i v s' h', xs[i]? = some v → J it i s' → s'.heap.IsListIter it a i → Up [it] s'.heap h' → h'.IsListIter it a (i + 1) →
      W w A (storeName env x v) (fun _ s₂ => W w A (execs body env) (fun f s₃ => f = .next ∧ J it (i + 1) s₃ ∧ s₃.heap.get? a = h'.get? a ∧ s₃.heap.get? it = h'.get? it) s₂) { s' with heap := h' }
  fin : ∀ it s' h', J it xs.size s' → s'.heap.IsListIter it a xs.size → Up [it] s'.heap h' → W w A (execs rest env) Q { s' with heap := h' }
theorem x_for_i {x : Str} {px pos : Pos} {iter : Expr} {body rest : List Stmt} {Q : Flow → Shared → Prop} (hh : A.handled = none) (hs : ∀ y, foldedSetIterable iter env y = pure y)
    (k : W w A (eval iter env) (fun v s₁ => ∃ a xs n J, v = .ref a ∧ ForI w A env x body rest Q a xs n J s₁) s) :
    W w A (execs (.For (.Name x px) iter body [] pos :: rest) env) Q s := by
  refine x_seq ⟨wpAny_For (k.to fun v s₁ z => ?_) hs⟩
  obtain ⟨a, xs, n, J, rfl, ha, z, turn, fin⟩ := z
  refine wpAny_pyIter_list (lobj_list ha) ?_
  have lt : s₁.heap.objs.size < (s₁.heap.push { cls := .type "list_iterator", data := .fields #[.ref a, .int 0 0] }).objs.size := by rw [Heap.size_push]; exact Nat.lt_succ_self _
  refine for_core (n := xs.size) (It := fun i h => h.IsListIter s₁.heap.objs.size a i ∧ h.get? a = some (lobj xs n) ∧ s₁.heap.objs.size < h.objs.size) (J := J s₁.heap.objs.size) (fun i s hi hI hJ => ?_) (fun s hI hJ => ?_)
    ⟨⟨_, Heap.get?_push_size _ rfl, rfl, rfl⟩, Heap.get?_push_of_some _ ha, lt⟩ (z _ _ (Nat.le_refl _) (Up.push _ _) ⟨_, Heap.get?_push_size _ rfl, rfl, rfl⟩)
  · obtain ⟨h1, h2, h3⟩ := hI
    have hx : xs[i]? = some xs[i] := Array.getElem?_eq_getElem hi
    refine wpAny_pyNext_list_item h1 (lobj_list h2) hx fun h' i' sb => ⟨_, rfl, ?_⟩
    have u := Up.same sb
    obtain ⟨o, q1, q2, q3⟩ := id h1
    have hne : a ≠ s₁.heap.objs.size := fun z => by rw [z, q1] at h2; cases h2; cases q3
    refine (turn _ i _ s h' hx hJ h1 u i').mono fun _ s₂ z => z.mono fun f s₃ z => ?_
    obtain ⟨z1, z2, z3, z4⟩ := z
    refine ⟨z1, ⟨?_, ?_, ?_⟩, z2⟩
    · obtain ⟨o', e1, e2⟩ := i'; exact ⟨o', z4.trans e1, e2⟩
    · exact z3.trans (u.get (by simpa using hne) h2)
    · obtain ⟨o', e1, e2⟩ := i'; exact Heap.lt_size (z4.trans e1)
  · obtain ⟨h1, h2, h3⟩ := hI
    obtain ⟨h', g', d', t', os'⟩ := s
    obtain ⟨o, q1, q2, q3⟩ := id h1
    refine list_end hh h1 (lobj_list h2) (by simp) fun h'' u => ⟨rfl, ?_⟩
    exact fin _ _ h'' hJ h1 u
end
end Mine
end

/- part N1 -/
section
open PySem PySem.Calls PySem.Spec PyProof.Rows PySem.W Builtin Builtin.ObjectAttr Builtin.Getset_descriptor
namespace Mine

/-- the words of one to three letters -/
def shorts : List Wd := ([97, 98, 99].map fun a => [a]) ++ ([97, 98, 99].flatMap fun a => [97, 98, 99].map fun b => [a, b]) ++ ([97, 98, 99].flatMap fun a => [97, 98, 99].flatMap fun b => [97, 98, 99].map fun c => [a, b, c])
theorem shorts_len : shorts.length = 39 := rfl
theorem shorts_mem {p : Wd} (hn : p ≠ []) (hl : p.length ≤ 3) (ha : ∀ c ∈ p, 97 ≤ c ∧ c ≤ 99) : p ∈ shorts := by
  have key : ∀ x : Nat, 97 ≤ x ∧ x ≤ 99 → x ∈ [97, 98, 99] := fun x hx => by simp; omega
  unfold shorts
  match p, hn, hl, ha with
  | [a], _, _, ha =>
    have h1 := key a (ha a (by simp))
    exact List.mem_append_left _ (List.mem_append_left _ (List.mem_map.mpr ⟨a, h1, rfl⟩))
  | [a, b], _, _, ha =>
    have h1 := key a (ha a (by simp))
    have h2 := key b (ha b (by simp))
    exact List.mem_append_left _ (List.mem_append_right _ (List.mem_flatMap.mpr ⟨a, h1, List.mem_map.mpr ⟨b, h2, rfl⟩⟩))
  | [a, b, c], _, _, ha =>
    have h1 := key a (ha a (by simp))
    have h2 := key b (ha b (by simp))
    have h3 := key c (ha c (by simp))
    exact List.mem_append_right _ (List.mem_flatMap.mpr ⟨a, h1, List.mem_flatMap.mpr ⟨b, h2, List.mem_map.mpr ⟨c, h3, rfl⟩⟩⟩)
  | _ :: _ :: _ :: _ :: _, _, hl, _ => simp at hl
theorem kp_small {kp fz : List Wd} (ok : Okw kp fz) (ha : ∀ p ∈ kp, ∀ c ∈ p, 97 ≤ c ∧ c ≤ 99) : kp.length ≤ 39 + c4 kp := by
  have h1 := List.length_eq_countP_add_countP (l := kp) fun p => p.length == 4
  have h2 : (kp.filter fun p => decide (¬(p.length == 4) = true)).length ≤ 39 := by
    rw [← shorts_len]
    refine nodup_len _ _ (ok.nd.filter _) fun p hp => ?_
    obtain ⟨hp, h4⟩ := List.mem_filter.mp hp
    have h4 := of_decide_eq_true h4
    have := ok.len p hp
    have n4 : p.length ≠ 4 := fun z => h4 (by rw [z]; rfl)
    exact shorts_mem (ok.ne p hp) (by omega) (ha p hp)
  rw [← List.countP_eq_length_filter] at h2
  unfold c4
  omega
/-- the looks for a word of four letters -/
def cnt4 (ns : List Int) : Nat := ns.countP fun n => (wordOf (n / 5)).length == 4
theorem cnt4_take {ns : List Int} {i : Nat} {n : Int} (e : ns[i]? = some n) : cnt4 (ns.take (i + 1)) = cnt4 (ns.take i) + (if (wordOf (n / 5)).length = 4 then 1 else 0) := by
  unfold cnt4
  obtain ⟨hi, rfl⟩ := List.getElem?_eq_some_iff.mp e
  rw [List.take_succ_eq_append_getElem hi, List.countP_append, List.countP_singleton]
  congr 1
  simp
theorem cnt4_le (ns : List Int) (i : Nat) : cnt4 (ns.take i) ≤ cnt4 ns := List.Sublist.countP_le (List.take_sublist i ns)

section
variable {w : World} {A : Around} {h : Heap} {g : Array GenState} {d : Drawn} {t : Nat} {os : OsState} {s : Shared} {env : Env}

structure JJ (w : World) (h0 : Heap) (D : AD) (L ln : Nat) (oa o97 : Obj) (ns : List Int) (g : Array GenState) (d : Drawn) (os : OsState) (it i : Nat) (s' : Shared) : Prop where
  big : 108 ≤ it ∧ L ≤ it
  ex : ∃ kp fz adr N ka fa m vw vs h t tm, s' = St h g d t os ∧ LS w h0 D L ln oa 97 o97 kp fz adr N ka fa kp fz m vw vs h ∧ m "made" = some (.int (N : Nat) tm) ∧ N ≤ 4 * i ∧ fz.length ≤ i ∧ (∀ p ∈ kp, ∀ c ∈ p, 97 ≤ c ∧ c ≤ 99) ∧ c4 kp ≤ cnt4 (ns.take i)

theorem JJ.moved {h0 : Heap} {D : AD} {L ln : Nat} {oa o97 : Obj} {ns : List Int} {it i : Nat} {s' : Shared} {h' : Heap} (J : JJ w h0 D L ln oa o97 ns g d os it i s') (I : s'.heap.IsListIter it ln i) (u : Up [it] s'.heap h') :
    JJ w h0 D L ln oa o97 ns g d os it i { s' with heap := h' } := by
  obtain ⟨⟨h8, lL⟩, kp, fz, adr, N, ka, fa, m, vw, vs', h, t, tm, rfl, S, em, hN, hz, ha, h4⟩ := J
  obtain ⟨o, e1, _, d1⟩ := I
  have e1 : h.get? it = some o := e1
  have n50 : it ≠ 50 := by omega
  have S1 := S.slot e1 ⟨_, d1⟩ n50
  obtain ⟨⟨_, a1, _⟩, ap, b1, b2, b3, _⟩ := S1.apart
  have c1 := (ap 1 (by omega) (by omega)).2.1
  have c2 := (ap 2 (by omega) (by omega)).2.1
  have c3 := (ap 3 (by omega) (by omega)).2.1
  have wr : Wr D [it] h := Wr.it S.G e1 d1 rfl h8
  have ua : ln ≠ it := fun z => by
    obtain ⟨xs, k, rfl⟩ := S.da
    have := S.ea
    rw [z, e1] at this; cases this; cases d1
  have u : Up [it] h h' := u
  have S2 : LS w h0 D L ln oa 97 o97 kp fz adr N ka fa kp fz m vw vs' h' :=
    S.wr u wr (fun p hp => by
      obtain ⟨p1, p2⟩ := S.T.ne e1 (by simp [d1]) p hp
      exact ⟨nin p1, nin p2⟩) (nin n50.symm) (nin b3.symm) (nin ua) (nin (show 97 ≠ it by omega)) (u.ns (nin a1.symm) S.ns) rfl rfl (u.cell (nin c1.symm) S.ck) (u.cell (nin c2.symm) S.cw) (u.cell (nin c3.symm) S.cs) (nin b1.symm) (nin b2.symm) (by simpa using lL)
  exact ⟨⟨h8, lL⟩, kp, fz, adr, N, ka, fa, m, vw, vs', h', t, tm, rfl, S2, em, hN, hz, ha, h4⟩

theorem turn_spec {h0 : Heap} {D : AD} {L ln : Nat} {oa o97 : Obj} {vs : List Value} {ns : List Int} {it i : Nat} {v : Value} {s' : Shared} {h' : Heap} (R : REnv env L) (iv : IntsAre vs ns) (hl : ns.length ≤ 40) (hc : cnt4 ns ≤ 20) (h97 : h0.get? 97 = some o97) (hA : A.depth + 10 < recursionLimit) (hu : A.units + 60 < cLine) (hh : A.handled = none)
    (hx : vs[i]? = some v) (J : JJ w h0 D L ln oa o97 ns g d os it i s') (I : s'.heap.IsListIter it ln i) (u : Up [it] s'.heap h') (I' : h'.IsListIter it ln (i + 1)) :
    W w A (storeName env "x" v) (fun _ s₂ => W w A (execs (runBody w.params) env) (fun f s₃ => f = .next ∧ JJ w h0 D L ln oa o97 ns g d os it (i + 1) s₃ ∧ s₃.heap.get? ln = h'.get? ln ∧ s₃.heap.get? it = h'.get? it) s₂) { s' with heap := h' } := by
  obtain ⟨⟨h8, lL⟩, kp, fz, adr, N, ka, fa, m, vw, vs', h, t, tm, eq, S2, em, hN, hz, ha, h4⟩ := J.moved I u
  rw [eq]
  obtain ⟨n, tk, rfl, hn⟩ := iv.at i v hx
  have hi : i < ns.length := (List.getElem?_eq_some_iff.mp hn).1
  have c4b := Nat.le_trans h4 (Nat.le_trans (cnt4_le ns i) hc)
  have kb := kp_small S2.ok ha
  have n50 : it ≠ 50 := by omega
  have eh : h' = h := congrArg Shared.heap eq
  subst eh
  obtain ⟨o', e2, _, d2⟩ := I'
  have S3 := S2.slot e2 ⟨_, d2⟩ n50
  refine turn_head R hA hh S3 em (by omega) (by omega) (by omega) ha hu fun kp' fz' adr' N' ka' fa' m' vw' vs'' h'' t' tm' S4 em' hN' hz' ha' h4' => ?_
  have e97 : h''.get? 97 = some o97 := S4.old 97 o97 (by have := S4.fix.1; omega) (by decide) h97
  refine ⟨rfl, ⟨⟨h8, lL⟩, kp', fz', adr', N', ka', fa', m', vw', vs'', h'', t', tm', rfl, S4.slot e97 S2.di (by decide), em', by omega, by omega, fun p hp => (ha' p hp).elim (ha p) id, ?_⟩, S4.ea.trans (S3.ea.symm), S4.ei.trans e2.symm⟩
  rw [cnt4_take hn]
  omega
end
end Mine
end

/- part M40 -/
section
open PySem PySem.Calls PySem.Spec PyProof.Rows PySem.W Builtin Builtin.ObjectAttr Builtin.Getset_descriptor
namespace Mine
section
variable {w : World} {A : Around} {h : Heap} {g : Array GenState} {d : Drawn} {t : Nat} {os : OsState} {s : Shared} {env : Env}

theorem run_spec {ln n : Nat} {vs : List Value} {ns : List Int} {Q : Value → Shared → Prop} (B : Base w h) (t50 : h.get? 50 = some (tabObj #[])) (t97 : h.get? 97 = some (tabObj #[])) (el : h.get? ln = some (lobj vs.toArray n)) (iv : IntsAre vs ns) (l8 : 108 ≤ ln) (nl : ns.length ≤ 40) (nc : cnt4 ns ≤ 20) (hA : A.depth + 20 < recursionLimit) (hu : A.units + 80 < cLine) (hh : A.handled = none)
    (k : ∀ h' t', (∀ b o, b ≠ 50 → b ≠ 97 → h.get? b = some o → h'.get? b = some o) → (∃ ps, h'.get? 50 = some (tabObj ps)) → (∃ ps, h'.get? 97 = some (tabObj ps)) → Q (.bool true) (St h' g d t' os)) :
    W w A (call (.ref 100) [.ref ln]) Q (St h g d t os) := by
  refine fn_cells 100 [("numbers", .ref ln)] B (by omega) rfl rfl (by kernel_rfl) rfl rfl rfl (fun n => rfl) rfl rfl rfl fun env h₁ t₁ he I u eL lt => ?_
  have R : REnv env h.objs.size := by rw [he]; exact renv_of w.params _
  have dA : (A.deeper env).depth = A.depth + 1 := rfl
  have dU : (A.deeper env).units = A.units + 3 := rfl
  have dH : (A.deeper env).handled = none := hh
  have gl := R.gl
  have c1 := I.cell "kept" _ R.kept.2
  have c2 := I.cell "word" _ R.word.2
  have c3 := I.cell "stem" _ R.stem.2
  have c4' := I.cell "grow" _ R.grow.2
  have c5 := I.cell "runs" _ R.runs.2
  have nL := I.toInCall.ns
  have bc : bindC env.kindOf [(Str.ofString "numbers", Value.ref ln)] (fun _ => none) = fun _ => none := by
    show (if env.kindOf (Str.ofString "numbers") = some .local then _ else _) = _
    rw [R.numbers, if_pos rfl]
  have bl : bindL env.kindOf [(Str.ofString "numbers", Value.ref ln)] (fun _ => none) = upd (fun _ => none) "numbers" (.ref ln) := by
    show (if env.kindOf (Str.ofString "numbers") = some .local then _ else _) = _
    rw [R.numbers, if_pos rfl]
  rw [bc] at c1 c2 c3 c4' c5
  rw [bl] at nL
  have hq : qualnameIn env "grow" "grow" = growQual := by rw [he]; kernel_rfl
  have hcl : closureFor growScope env = pure [(Str.ofString "runs", h.objs.size + 5), (Str.ofString "grow", h.objs.size + 4)] := by rw [he]; rfl
  clear he
  generalize A.deeper env = A' at dA dH dU
  refine x_assign rfl (e_list rfl (sp_nil (mk_list (by simp) fun lr h2 elr e2 u2 lt2 => ?_)))
  refine s_cell (u2.cell (by simp) c5) R.k0 R.runs.1 R.runs.2 fun h3 c53 u3 => ?_
  have l0 : @LT.lt Nat _ h.objs.size h₁.objs.size := lt
  have c5l := c5.lt
  have h97 : 108 ≤ h.objs.size := B.size
  have B2 := (B.keep u).keep u2
  have B3 : Base w h3 := B2.high u3 (by intro a ha; rw [List.mem_singleton.mp ha]; omega)
  have e97 : h3.get? 97 = some (tabObj #[]) := u3.get (nin (show 97 ≠ h.objs.size + 5 by omega)) (u2.keep _ _ (u.keep _ _ t97))
  obtain ⟨mg, hgs, hbu⟩ := glob_ns B3
  refine x_seq ⟨nestDef_K rfl rfl rfl ?_⟩
  rw [hq]
  refine makeFunction_K hcl R.gb hgs R.code (codeHd_of_K B3.K (by kernel_rfl)) e97 trivial rfl (by decide) (glob_built B3 (by decide) hbu) fun c' ctv doc h4 tk hx hge hlt hrec htb => ?_
  have u4 : Up [97] h3 h4 := ⟨Nat.le_of_lt (Nat.lt_of_le_of_lt hge hlt), fun b o hb e => hx b o (by simpa using hb) e⟩
  have hgr : (h4.push (growObj (h.objs.size + 4) (h.objs.size + 5) doc ((mg "__name__").getD .none) c' ctv)).get? h4.objs.size = some (growObj (h.objs.size + 4) (h.objs.size + 5) doc ((mg "__name__").getD .none) c' ctv) := Heap.get?_push_size _ rfl
  have u5 := Up.push h4 (growObj (h.objs.size + 4) (h.objs.size + 5) doc ((mg "__name__").getD .none) c' ctv)
  have lt5 : h4.objs.size < (h4.push (growObj (h.objs.size + 4) (h.objs.size + 5) doc ((mg "__name__").getD .none) c' ctv)).objs.size := by rw [Heap.size_push]; exact Nat.lt_succ_self _
  have rec5 := hrec.push (growObj (h.objs.size + 4) (h.objs.size + 5) doc ((mg "__name__").getD .none) c' ctv)
  have htb5 := u5.keep _ _ htb
  show wpAny _ _ (storeName env "grow" (.ref h4.objs.size)) _ _ (St (h4.push (growObj (h.objs.size + 4) (h.objs.size + 5) doc ((mg "__name__").getD .none) c' ctv)) g d tk os)
  generalize (h4.push (growObj (h.objs.size + 4) (h.objs.size + 5) doc ((mg "__name__").getD .none) c' ctv)) = h5 at hgr u5 lt5 rec5 htb5
  have gg : @LE.le Nat _ h3.objs.size h4.objs.size := u4.1
  generalize h4.objs.size = gr at hgr lt5 gg
  have n3 : ∀ j : Nat, j ≤ 5 → h.objs.size + j < h3.objs.size := fun j hj => by
    have : @LE.le Nat _ h₁.objs.size h3.objs.size := Nat.le_trans u2.1 u3.1
    have : @LT.lt Nat _ (h.objs.size + 5) h₁.objs.size := c5l
    omega
  have lrn : lr ≠ h.objs.size + 5 := fun z => by
    have : @LT.lt Nat _ (h.objs.size + 5) h₁.objs.size := c5l
    rw [elr] at z; omega
  have c45 : h5.IsCell (h.objs.size + 4) none := u5.cell (by simp) (u4.cell (nin (by omega)) (u3.cell (nin (by omega)) (u2.cell (by simp) c4')))
  refine W.run (s_cell c45 R.k0 R.grow.1 R.grow.2 fun h6 c46 u6 => ?_)
  show W w A' (execs _ env) _ _
  have U6 : Up [97] h h6 := by
    have a1 : Up [] h h2 := u.step0 u2
    have a2 : Up [] h h3 := a1.step1 u3 (Nat.le_add_right _ _)
    have a3 : Up [97] h h4 := (Up.mono a2 (by simp)).step u4 (fun a ha => .inl ha)
    exact (a3.step0 u5).step1 u6 (Nat.le_add_right _ _)
  have V6 : Up [97, h.objs.size + 4, h.objs.size + 5] h₁ h6 := by
    have a1 : Up [97, h.objs.size + 4, h.objs.size + 5] h₁ h2 := Up.mono u2 (by simp)
    have a2 := a1.step u3 (fun a ha => .inl (by rw [List.mem_singleton.mp ha]; simp))
    have a3 := a2.step u4 (fun a ha => .inl (by rw [List.mem_singleton.mp ha]; simp))
    exact (a3.step0 u5).step u6 (fun a ha => .inl (by rw [List.mem_singleton.mp ha]; simp))
  have k97 : (KK w.params).lookup 97 = none := by kernel_rfl
  have B6 : Base w h6 := B.up U6 (fun a ha => by rw [List.mem_singleton.mp ha]; exact ⟨k97, by decide, by decide, by decide⟩)
  have gr6 := u6.get (nin (show gr ≠ h.objs.size + 4 by have := n3 4 (by omega); omega)) hgr
  refine x_assign rfl ?_
  refine e_call rfl (n_glob (.ref 58) B6 R.k0 (gl _ (by simp)) R.gb (cw_K (by kernel_rfl) rfl (sp_cons (n_cell c46 R.k0 R.grow.1 R.grow.2 (sp_nil ⟨B6, ?_⟩)))))
  refine new_book B6 gr6 rfl fun b h7 f1 f2 f3 u7 => ?_
  rw [eL] at nL
  have V7 := V6.step0 u7
  have nV : ∀ j : Nat, j ≤ 3 → h.objs.size + j ∉ [97, h.objs.size + 4, h.objs.size + 5] := fun j hj => by simp; omega
  have nL7 := V7.ns (nV 0 (by omega)) nL
  refine s_loc (R.loc ▸ nL7) R.k0 R.root fun h8 n8 u8 => ?_
  rw [R.loc] at n8 u8
  refine x_assign rfl (e_list rfl (sp_nil (mk_list (by simp) fun ka h9 eka e9 u9 lt9 => ?_)))
  refine s_cell (u9.cell (by simp) (u8.cell (nin (by omega)) (V7.cell (nV 1 (by omega)) c1))) R.k0 R.kept.1 R.kept.2 fun h10 c10 u10 => ?_
  refine x_assign rfl (e_list rfl (sp_nil (mk_list (by simp) fun fa h11 efa e11 u11 lt11 => ?_)))
  refine s_loc (R.loc ▸ (u11.ns (by simp) (u10.ns (nin (by omega)) (u9.ns (by simp) n8)))) R.k0 R.frozen fun h12 n12 u12 => ?_
  rw [R.loc] at n12 u12
  refine x_assign rfl (c_int ?_)
  refine s_loc (R.loc ▸ n12) R.k0 R.made fun h13 n13 u13 => ?_
  rw [R.loc] at n13 u13
  refine x_for_i dH (fun _ => rfl) ?_
  refine n_loc (R.loc ▸ n13) R.k0 R.numbers (skip (by decide +kernel) (skip (by decide +kernel) (skip (by decide +kernel) here))) ?_
  have a7 : @LE.le Nat _ h6.objs.size h7.objs.size := u7.1
  have a8 : @LE.le Nat _ h7.objs.size h8.objs.size := u8.1
  have a9 : @LE.le Nat _ h8.objs.size h9.objs.size := u9.1
  have a10 : @LE.le Nat _ h9.objs.size h10.objs.size := u10.1
  have a11 : @LE.le Nat _ h10.objs.size h11.objs.size := u11.1
  have a56 : @LE.le Nat _ h5.objs.size h6.objs.size := u6.1
  have a05 : @LT.lt Nat _ gr h5.objs.size := lt5
  have ab : @LE.le Nat _ h6.objs.size b := f3
  have abl : @LT.lt Nat _ (b + 1) h7.objs.size := Heap.lt_size f1
  have c5l' : @LT.lt Nat _ (h.objs.size + 5) h₁.objs.size := c5l
  have a01 : @LE.le Nat _ h₁.objs.size h2.objs.size := u2.1
  have a12 : @LE.le Nat _ h2.objs.size h3.objs.size := u3.1
  have elr' : lr = h₁.objs.size := elr
  have eka' : ka = h8.objs.size := eka
  have efa' : fa = h10.objs.size := efa
  have lt2' : @LT.lt Nat _ lr h2.objs.size := lt2
  have lt9' : @LT.lt Nat _ ka h9.objs.size := lt9
  have lt11' : @LT.lt Nat _ fa h11.objs.size := lt11
  have lln : @LT.lt Nat _ ln h.objs.size := Heap.lt_size el
  -- what is done after the factory
  have X13 : Up [h.objs.size, h.objs.size + 1] h7 h13 := by
    have b1 : Up [h.objs.size, h.objs.size + 1] h7 h8 := Up.mono u8 (by simp)
    have b2 := (b1.step0 u9).step u10 (fun a ha => .inl (by rw [List.mem_singleton.mp ha]; simp))
    have b3 := (b2.step0 u11).step u12 (fun a ha => .inl (by rw [List.mem_singleton.mp ha]; simp))
    exact b3.step u13 (fun a ha => .inl (by rw [List.mem_singleton.mp ha]; simp))
  have W13 : Up [h.objs.size, h.objs.size + 1] h6 h13 := (Up.mono u7 (by simp)).step X13 (fun a ha => .inl ha)
  have nW : ∀ x : Nat, x ≠ h.objs.size → x ≠ h.objs.size + 1 → x ∉ [h.objs.size, h.objs.size + 1] := fun x p q => nin2 p q
  have i3 := n3 5 (by omega)
  have a34 : @LE.le Nat _ h3.objs.size h5.objs.size := Nat.le_trans gg (Nat.le_of_lt a05)
  have B13 : Base w h13 := B6.high W13 (by intro a ha; simp at ha; omega)
  have e7b := X13.get (nW (b + 1) (by omega) (by omega)) f1
  have e7d := X13.get (nW b (by omega) (by omega)) f2
  have e97' := W13.get (nW 97 (by omega) (by omega)) (u6.get (nin (show 97 ≠ h.objs.size + 4 by omega)) htb5)
  have G13 : Gro w ⟨h6.objs.size, lr, gr, h.objs.size + 4, h.objs.size + 5⟩ 0 h13 := by
    refine ⟨⟨doc, _, c', ctv, W13.get (nW gr (by omega) (by omega)) gr6, ?_⟩, W13.cell (nW (h.objs.size + 4) (by omega) (by omega)) c46, ?_, ⟨_, _, W13.get (nW lr (by omega) (by omega)) (u6.get (nin (show lr ≠ h.objs.size + 4 by omega)) (u5.keep _ _ (u4.get (nin (show lr ≠ 97 by omega)) (u3.get (nin lrn) e2)))), rfl⟩, ⟨?_, ?_⟩, ⟨?_, ?_⟩, ⟨?_, ?_⟩, ⟨?_, ?_⟩⟩
    · obtain ⟨c, o, vs, tk, q1, q2, q3, q4⟩ := rec5
      cases q1
      have hge' : @LE.le Nat _ h3.objs.size c' := hge
      exact ⟨c', o, vs, tk, rfl, W13.get (nW c' (by omega) (by omega)) (u6.get (nin (show c' ≠ h.objs.size + 4 by omega)) q2), q3, q4⟩
    · show h13.IsCell (h.objs.size + 5) (some (.ref lr))
      exact W13.cell (nW (h.objs.size + 5) (by omega) (by omega)) (u6.cell (nin (show h.objs.size + 5 ≠ h.objs.size + 4 by omega)) (u5.cell (by simp) (u4.cell (nin (show h.objs.size + 5 ≠ 97 by omega)) c53)))
    all_goals (dsimp only; omega)
  obtain ⟨M, nM, m1, m2, tm, m3⟩ : ∃ M : Str → Option Value, h13.Ns h.objs.size M ∧ M "root" = some (.ref (b + 1)) ∧ M "frozen" = some (.ref fa) ∧ ∃ tm, M "made" = some (.int (0 : Nat) tm) := ⟨_, n13, skip rfl (skip rfl here), skip rfl here, _, here⟩
  obtain ⟨p97, e97'⟩ : ∃ p97, h13.get? 97 = some (tabObj p97) := ⟨_, e97'⟩
  have S13 : LS w h6 ⟨h6.objs.size, lr, gr, h.objs.size + 4, h.objs.size + 5⟩ h.objs.size ln (lobj vs.toArray n) 97 (tabObj p97) [] [] (fun _ => b) 0 ka fa [] [] M none none h13 := by
    refine ⟨B13, G13, ⟨#[], W13.get (nW 50 (by omega) (by omega)) (U6.get (by simp) t50), trivial, .inl rfl⟩, ⟨fun p hp => ?_, fun p q hp hq _ => ?_, fun p q _ _ => ?_⟩, ⟨List.nodup_nil, by simp, by simp, by simp, by simp⟩, nM, m1, m2, ?_, ?_, ?_, ?_, ?_, ?_, e97', ⟨_, _, rfl⟩, ⟨_, rfl⟩, ?_, ?_, ?_, ?_⟩
    · rcases hp with rfl | hp
      · exact Book.new e7b e7d f3
      · simp at hp
    · rcases hp with rfl | hp
      · rcases hq with rfl | hq
        · rfl
        · simp at hq
      · simp at hp
    · omega
    · exact u13.cell (nin (by omega)) (u12.cell (nin (by omega)) (u11.cell (by simp) c10))
    · exact X13.cell (nW (h.objs.size + 2) (by omega) (by omega)) (V7.cell (nV 2 (by omega)) c2)
    · exact X13.cell (nW (h.objs.size + 3) (by omega) (by omega)) (V7.cell (nV 3 (by omega)) c3)
    · exact ⟨[], _, u13.get (nin (show ka ≠ h.objs.size by omega)) (u12.get (nin (show ka ≠ h.objs.size by omega)) (u11.keep _ _ (u10.get (nin (show ka ≠ h.objs.size + 1 by omega)) e9))), .nil⟩
    · exact ⟨[], _, u13.get (nin (show fa ≠ h.objs.size by omega)) (u12.get (nin (show fa ≠ h.objs.size by omega)) e11), .nil⟩
    · exact W13.get (nW ln (by omega) (by omega)) (U6.get (nin (show ln ≠ 97 by omega)) el)
    · (try dsimp only); omega
    · (try dsimp only); omega
    · (try dsimp only); omega
    · intro b' o hb _ e
      exact W13.get (nW b' (Nat.ne_of_lt hb) (Nat.ne_of_lt (Nat.lt_succ_of_lt hb))) e
  have h697 : h6.get? 97 = some (tabObj p97) := by
    have z := W13.get (nW 97 (by omega) (by omega)) (u6.get (nin (show 97 ≠ h.objs.size + 4 by omega)) htb5)
    rw [e97'] at z
    rw [z]
    exact u6.get (nin (show 97 ≠ h.objs.size + 4 by omega)) htb5
  have zl : vs.toArray.size = ns.length := by have := iv.length; simpa using this
  refine ⟨ln, vs.toArray, n, JJ w h6 ⟨h6.objs.size, lr, gr, h.objs.size + 4, h.objs.size + 5⟩ h.objs.size ln (lobj vs.toArray n) (tabObj p97) ns g d os, rfl, S13.ea, fun it h' hs u' _ => ?_, fun it i v s' h' hx J I u' I' => ?_, fun it s' h' J I u' => ?_⟩
  · have hs' : @LE.le Nat _ h13.objs.size it := hs
    have l13 : @LE.le Nat _ h7.objs.size h13.objs.size := X13.1
    exact ⟨⟨by omega, by omega⟩, [], [], _, 0, ka, fa, M, _, _, h', _, _, rfl, S13.up u', m3, by omega, by simp, by simp, by simp [c4]⟩
  · exact turn_spec R iv nl nc h697 (by omega) (by omega) dH (by simpa using hx) J I u' I'
  · obtain ⟨_, kp, fz, adr, N, ka', fa', m, vw, vs', h'', t', tm', eq, S, em, hN, hz, ha, h4⟩ := J.moved I u'
    rw [eq]
    have kb := kp_small S.ok ha
    have cb := cnt4_le ns vs.toArray.size
    refine end_spec R S (by omega) ha (by omega) (by omega) (by omega) dH fun h9 t9 k9 => ?_
    have hL : 108 ≤ h.objs.size := h97
    refine k h9 t9 (fun b' o n1 n2 e => ?_) ?_ ?_
    · have lb := Heap.lt_size e
      exact k9 _ _ (Nat.ne_of_lt lb) (S.old _ _ lb n1 (U6.get (nin n2) e))
    · obtain ⟨ps, ep, _⟩ := S.Tb
      exact ⟨ps, k9 _ _ (by omega) ep⟩
    · exact ⟨p97, k9 _ _ (by omega) S.ei⟩
end
end Mine
end

/- part M41 -/
section
open PySem PySem.Calls PySem.Spec PyProof.Rows PySem.W Builtin Builtin.ObjectAttr Builtin.Getset_descriptor
namespace Mine

theorem base_of {w : World} {h : Heap} {p : Program} {loose : List Str} {mean : ExcName → Option Value} {mg mb : Str → Option Value} (X : (KK w.params).In h) (T : Top p loose mean mg mb h) : Base w h := by
  obtain ⟨bm, ob, e1, _, e2, e3, e4, e5⟩ := T.bmain
  have e0 : mg "__builtins__" = some (.ref 4) := mg_of X T.g (by kernel_rfl)
  rw [e0] at e1
  cases e1
  refine ⟨X, ⟨mb, T.b, ?_, ?_, ?_, ?_, ?_, ?_⟩, T.nolimit, ob, e2, e3, e4, e5⟩
  all_goals (refine (T.builtins _ (by decide +kernel)).trans ?_; decide +kernel)

abbrev lawScope : Scope := { kind := .function, names := [(Str.ofString "script", .local), (Str.ofString "_law_run", .globalImplicit)], isGenerator := false, isCoroutine := false, more := [] }
def lawBody : List Stmt := bodyAt PW.main.body 10
abbrev headNs : List Int := [0, 20, 40]
abbrev tailNs : List Int := [75, 68, 190, 3, 1515, 1516, 44, 113, 110, 69, 75]
theorem cnt4_all (ns : List Int) : cnt4 ((headNs ++ ns.take 16) ++ tailNs) ≤ 20 := by
  have e : ∀ a b : List Int, cnt4 (a ++ b) = cnt4 a + cnt4 b := fun a b => List.countP_append
  rw [e, e]
  have h1 : cnt4 headNs = 0 := by decide +kernel
  have h2 : cnt4 tailNs = 4 := by decide +kernel
  have h3 : cnt4 (ns.take 16) ≤ 16 := Nat.le_trans List.countP_le_length (by rw [List.length_take]; omega)
  omega

section
variable {w : World} {A : Around} {h : Heap} {g : Array GenState} {d : Drawn} {t : Nat} {os : OsState} {s : Shared} {env : Env}

theorem l_add {a b n k : Nat} {vs ws : List Value} {Q : Value → Shared → Prop} (ea : h.get? a = some (lobj vs.toArray n)) (eb : h.get? b = some (lobj ws.toArray k)) (hz : vs.length + ws.length ≤ 1000)
    (q : ∀ c h', c = h.objs.size → h'.get? c = some (lobj (vs ++ ws).toArray 0) → Up [] h h' → Q (.ref c) (St h' g d t os)) : W w A (binaryOp .Add (.ref a) (.ref b)) Q (St h g d t os) := by
  refine ⟨P.add_list (s := St h g d t os) (items := vs.toArray) (items2 := ws.toArray) (n := n) (n2 := k) ea eb (q _ _ rfl ?_ (Up.push _ _)) ?_⟩
  · rw [Heap.get?_push_size _ rfl]; simp
  · simp; unfold sizeLine; omega
theorem to_listI {x : Str} {p1 p2 pos : Pos} {e : Expr} {Q : Value → Shared → Prop}
    (k : W w A (eval (.Name x p1) env) (fun o s₁ => W w A (eval e env) (fun u s₂ => ∃ l vs j tk, o = .ref l ∧ u = .int j tk ∧ s₂.heap.IsList l (List.toArray vs) ∧ vs.length ≤ sizeLine ∧
      ∀ a h', s₂.heap.objs.size ≤ a → h'.get? a = some (lobj (slicePick (List.toArray vs) none (some j) none) 0) → Up [] s₂.heap h' → Q (.ref a) { s₂ with heap := h' }) s₁) s) :
    W w A (eval (.Subscript (.Name x p1) (.Slice none (some e) none p2) pos) env) Q s := by
  refine ⟨Subscript_ (k.to (fun o s₁ k => wpAny_Slice ?_))⟩
  rw [evalPart_none]
  refine wpAny_pure (k.to (fun u s₂ k => ?_))
  refine wpAny_pure ?_
  obtain ⟨l, xs, j, tk, rfl, rfl, e, hz, k⟩ := k
  have up := Up.push s₂.heap { cls := .type "slice", data := .fields #[.none, .int j tk, .none] }
  have e' : (s₂.heap.push { cls := .type "slice", data := .fields #[.none, .int j tk, .none] }).IsList l xs.toArray := e.push _
  refine subscriptTail_ops (T := "list") (Heap.IsList.typeIs (s := { s₂ with heap := s₂.heap.push { cls := .type "slice", data := .fields #[.none, .int j tk, .none] } }) e') list_getitem_lookup ?_ (by with_unfolding_all rfl) (fun _ => rfl)
  refine wpAny_getItem_list_slice (s := { s₂ with heap := s₂.heap.push { cls := .type "slice", data := .fields #[.none, .int j tk, .none] } }) e' (Heap.IsSliceOf.new ..) .none (.int j tk) .none (by simp) ?_ (by simpa using hz)
  refine k _ _ (by rw [Heap.size_push]; exact Nat.le_succ _) (Heap.get?_push_size _ rfl) (up.push' _)

theorem law_spec {h0 : Heap} {L sc fa : Nat} {cd : Value} {m : Str → Option Value} {vs : List Value} {ns : List Int} (B : Base w h0) (F : Fr h0 L h m) (N : News h0 L h [(50, tabObj #[]), (97, tabObj #[])]) (em : m "script" = some (.ref sc)) (hl : h0.IsList sc vs.toArray) (iv : IntsAre vs ns) (nz : ns.length ≤ 63)
    (hA : A.depth + 20 < recursionLimit) (hu : A.units + 80 < cLine) (hh : A.handled = none) :
    W w A (execs lawBody (envOf (Str.ofString "law") lawScope L fa cd)) (fun f s' => ∃ h' t', f = .ret (.bool true) ∧ s' = St h' g d t' os ∧ (∀ b o, h0.get? b = some o → h'.get? b = some o) ∧ GrownAll [(54, 50), (99, 97)] h') (St h g d t os) := by
  have k0 : (envOf (Str.ofString "law") lawScope L fa cd).scope.kind = .function := rfl
  have k1 : (envOf (Str.ofString "law") lawScope L fa cd).kindOf "script" = some .local := by kernel_rfl
  have k2 : (envOf (Str.ofString "law") lawScope L fa cd).kindOf "_law_run" = some .globalImplicit := by kernel_rfl
  have k3 : (envOf (Str.ofString "law") lawScope L fa cd).globals = mainGlobals := rfl
  have B1 : Base w h := B.keep (Up.of_keep (Nat.le_trans F.above (Nat.le_of_lt F.ns.lt)) F.keep)
  have nL : h.Ns (envOf (Str.ofString "law") lawScope L fa cd).locals m := F.ns
  have t50 := N _ (.head _)
  have t97 := N _ (.tail _ (.head _))
  generalize envOf (Str.ofString "law") lawScope L fa cd = env at *
  refine x_ret (e_call rfl (n_glob (.ref 100) B1 k0 k2 k3 (cw_keep rfl (sp_cons (e_bin (e_bin (e_list rfl ?_)))))))
  iterate 3 refine sp_cons (c_int (k := 0) (pos := ⟨0, 0, 0, 0⟩) ?_)
  refine sp_nil (mk_list (by unfold sizeLine; simp) fun a h2 ea e2 u2 lt2 => ?_)
  have hl2 : h2.IsList sc vs.toArray := by
    obtain ⟨o, q1, q2⟩ := hl
    exact ⟨o, u2.keep _ _ (F.keep _ _ q1), q2⟩
  refine to_listI (n_loc (u2.ns (by simp) nL) k0 k1 em (c_int ⟨sc, vs, 16, _, rfl, rfl, hl2, by unfold sizeLine; rw [iv.length]; omega, fun b h3 lb e3 u3 => ?_⟩))
  have i16 := slice_ints_uptoW iv (y := 16) (by decide)
  obtain ⟨ws, ew, i16⟩ : ∃ ws : List Value, slicePick vs.toArray none (some 16) none = ws.toArray ∧ IntsAre ws (ns.take 16) := ⟨_, by simp, i16⟩
  rw [ew] at e3
  have zw : ws.length ≤ 16 := by rw [i16.length, List.length_take]; exact Nat.min_le_left _ _
  show W w _ _ _ (St h3 g d (t + 4) os)
  refine l_add (vs := [_, _, _]) (u3.keep _ _ e2) e3 (by simp; omega) fun c h4 lc e4 u4 => ?_
  refine e_list rfl ?_
  iterate 11 refine sp_cons (c_int (k := 0) (pos := ⟨0, 0, 0, 0⟩) ?_)
  refine sp_nil (mk_list (by unfold sizeLine; simp) fun b5 h5 eb5 e5 u5 lt5 => ?_)
  refine l_add (u5.keep _ _ e4) e5 (by simp; omega) fun c6 h6 lc6 e6 u6 => ?_
  have U : Up [] h h6 := (((u2.step0 u3).step0 u4).step0 u5).step0 u6
  have B6 := B1.keep U
  have l5 := B1.size
  have q1 : @LE.le Nat _ h.objs.size h5.objs.size := (((u2.step0 u3).step0 u4).step0 u5).1
  refine sp_nil ⟨keep_K B6 (by kernel_rfl), ?_⟩
  refine run_spec (ns := (headNs ++ ns.take 16) ++ tailNs) B6 (U.keep _ _ t50.1) (U.keep _ _ t97.1) e6 ?_ ?_ ?_ (cnt4_all ns) hA hu hh fun h' t' k5 p5 p9 => ?_
  · refine IntsAre.append (IntsAre.append ?_ i16) ?_
    · repeat' constructor
    · repeat' constructor
  · have : c6 = h5.objs.size := lc6
    omega
  · simp; omega
  · refine ⟨h', t', rfl, rfl, fun b o e => ?_, p5, p9, trivial⟩
    refine k5 b o (fun z => ?_) (fun z => ?_) (U.keep _ _ (F.keep _ _ e))
    · rw [z, t50.2.2] at e; cases e
    · rw [z, t97.2.2] at e; cases e
end
end Mine
end

/- part M42 -/
open PySem PySem.Calls PySem.Spec PyProof.Rows PySem.W Builtin Builtin.ObjectAttr Builtin.Getset_descriptor
namespace Mine
theorem depth_ok (env : Env) : (callerA.deeper env).depth + 20 < recursionLimit := by
  show callerA.depth + 1 + 20 < recursionLimit
  decide +kernel
theorem units_ok (env : Env) : (callerA.deeper env).units + 80 < cLine := by
  show callerA.units + 3 + 80 < cLine
  decide +kernel
theorem close_law {w : World} {A : Around} {h0 h : Heap} {g : Array GenState} {d : Drawn} {t t0 : Nat} {os : OsState} {L sc fa : Nat} {cd : Value} {m : Str → Option Value} {vs : List Value} {ns : List Int} {E : Value → Shared → Prop}
    {c : ClaimW} {cl : Str → Option Addr} {mean : ExcName → Option Value} {args : List WData}
    (B : Base w h0) (F : Fr h0 L h m) (N : News h0 L h [(50, tabObj #[]), (97, tabObj #[])]) (em : m "script" = some (.ref sc)) (hl : h0.IsList sc vs.toArray) (iv : IntsAre vs ns) (nz : ns.length ≤ 63)
    (hA : A.depth + 20 < recursionLimit) (hu : A.units + 80 < cLine) (hh : A.handled = none) (hg : g = #[]) (hr : ∀ x, c.raises args x = false) (hp : c.post args (.bool true) args = true) :
    wpAny (model PW w) A (execs lawBody (envOf (Str.ofString "law") lawScope L fa cd)) (fun f s' => GoodW c cl mean args (St h0 g d t0 os) (Except.ok (Flow.ret (match f with | .ret v => v | _ => .none))) s' ∧ GrownAll [(54, 50), (99, 97)] s'.heap) E (St h g d t os) :=
  (law_spec B F N em hl iv nz hA hu hh).toE fun f s' z => by
    obtain ⟨h', t', rfl, rfl, k, gr⟩ := z
    exact ⟨⟨.inl ⟨.bool true, .bool true, [], rfl, hr, .bool true, hp, unshared_nil⟩, k, rfl, hg⟩, gr⟩
end Mine
theorem PySem.Challenge.cw_lg0021_01_holds : PySem.Challenge.rw_lg0021_01.Holds := by
  refine Mine.hd (by
    k_go0
    all_goals try k_fold
    refine Mine.close_law (Mine.base_of (by assumption) (by assumption)) (by assumption) (by assumption) ?_ (by assumption) (by assumption) ?_ ?_ ?_ ?_ (by assumption) ?_ ?_
    · rfl
    · rename ¬ ((63 : Int) < _) => hz
      omega
    · exact Mine.depth_ok _
    · exact Mine.units_ok _
    · rfl
    · exact raisesW_false (by wrow_none_raised)
    · first | kc_post | wrow_post)
