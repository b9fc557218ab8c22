import PyProof.Rows.All
import Wide.All
import OpenK.AllK
import Wide.FinOn
import PySem.Challenge.RW_mq0118_01
open PySem PySem.W PyProof.Rows
set_option Elab.async false
set_option maxRecDepth 100000

namespace Mine

/-- what a call of the j-th statement of the text's top (a def) runs -/
def fdOf (j : Nat) (cd pm : Value) : FuncData := match PySem.Challenge.pw_mq0118_01.main.body.drop j with
  | .FunctionDef name args body _ _ _ scope _ _ _ :: _ => fnOf name name args body scope .none .none .none pm none cd .none
  | _ => default

/-- the text's def j stands at address a -/
def FnAt (h : Heap) (a : Addr) (j : Nat) : Prop := ∃ o cd pm, h.get? a = some o ∧ o.data = .func (fdOf j cd pm) ∧ h.CodeRec (fdOf j cd pm).code (fdOf j cd pm).qualname

abbrev Kept (h h' : Heap) : Prop := ∀ b o, h.get? b = some o → h'.get? b = some o

structure Gr (h : Heap) : Prop where
  glob : ∃ mg, h.Ns mainGlobals mg ∧ mg "replace" = some (.ref 21) ∧ mg "_split_list" = some (.ref 28) ∧ mg "rgb_to_yiq" = some (.ref 35) ∧ mg "rgb_to_hls" = some (.ref 42) ∧ mg "rgb_to_hsv" = some (.ref 49) ∧
    mg "_law_told" = some (.ref 54) ∧ mg "_law_whole" = some (.ref 61) ∧ mg "_law_place" = some (.ref 66) ∧ mg "_law_line" = some (.ref 71) ∧
    mg "max" = none ∧ mg "min" = none ∧ mg "len" = none ∧ mg "range" = none
  boot : ∃ mb, h.Ns builtinsNs mb ∧ mb "max" = some (.builtin "max") ∧ mb "min" = some (.builtin "min") ∧ mb "len" = some (.builtin "len") ∧ mb "range" = some (.type "range")
  nolimit : h.NoLimit
  fns : FnAt h 21 1 ∧ FnAt h 28 2 ∧ FnAt h 35 4 ∧ FnAt h 42 5 ∧ FnAt h 49 6 ∧ FnAt h 54 8 ∧ FnAt h 61 9 ∧ FnAt h 66 10 ∧ FnAt h 71 11

theorem FnAt.keeps {h h' : Heap} {a : Addr} {j : Nat} (x : FnAt h a j) (hk : Kept h h') : FnAt h' a j := by
  obtain ⟨o, cd, pm, ho, hd, hc⟩ := x
  exact ⟨o, cd, pm, hk _ _ ho, hd, hc.keeps hk⟩

theorem Gr.keeps {h h' : Heap} (G : Gr h) (hk : Kept h h') : Gr h' := by
  obtain ⟨⟨mg, g, gr⟩, ⟨mb, b, br⟩, nl, f1, f2, f3, f4, f5, f6, f7, f8, f9⟩ := G
  exact ⟨⟨mg, g.keeps hk, gr⟩, ⟨mb, b.keeps hk, br⟩, nl.keeps hk, f1.keeps hk, f2.keeps hk, f3.keeps hk, f4.keeps hk, f5.keeps hk, f6.keeps hk, f7.keeps hk, f8.keeps hk, f9.keeps hk⟩



/-- the def j has plain locals alone, and these are among them -/
def okScope (j : Nat) (xs : List Str) : Bool := match PySem.Challenge.pw_mq0118_01.main.body.drop j with
  | .FunctionDef _ _ _ _ _ _ scope _ _ _ :: _ => xs.all (fun x => scope.names.lookup x == some .local) && scope.names.all (fun x => x.2 != .cell) && !scope.isCoroutine && !scope.isGenerator && scope.kind == .function
  | _ => false
theorem okScope_out {j : Nat} {xs : List Str} (h : okScope j xs = true) (cd pm : Value) : (∀ x ∈ xs, (fdOf j cd pm).scope.names.lookup x = some .local) ∧ (∀ x ∈ (fdOf j cd pm).scope.names, x.2 ≠ .cell) ∧
    (fdOf j cd pm).scope.isCoroutine = false ∧ (fdOf j cd pm).scope.isGenerator = false ∧ (fdOf j cd pm).scope.kind = .function := by
  unfold okScope at h
  unfold fdOf
  split at h
  · simp only [Bool.and_eq_true, List.all_eq_true, beq_iff_eq, bne_iff_ne, Bool.not_eq_true'] at h
    obtain ⟨⟨⟨⟨h1, h2⟩, h3⟩, h4⟩, h5⟩ := h
    exact ⟨h1, h2, h3, h4, h5⟩
  · cases h

section
variable {prog : Program} {w : World} {A : Around} {E : Value → Shared → Prop} {s : Shared}

/-- a call of a def of the text that has no cells -/
theorem enter {a : Addr} {j : Nat} {args : List Value} {body : List Stmt} {binds : List (Str × Value)} {Q : Value → Shared → Prop}
    (G : Gr s.heap) (hf : FnAt s.heap a j) (hroom : A.depth < recursionLimit)
    (hbody : ∀ cd pm, (fdOf j cd pm).body = .stmts body) (hbind : ∀ cd pm, bindArgs (fdOf j cd pm) ⟨args, []⟩ = pure binds)
    (hok : okScope j (binds.map (·.1)) = true)
    (h : ∀ cd pm L h₁, Fr s.heap L h₁ (fun x => binds.reverse.lookup x) → Gr h₁ →
      wpAny (model prog w) (A.deeper (callEnv (fdOf j cd pm) L a)) (execs body (callEnv (fdOf j cd pm) L a)) (fun f s' => Q (match f with | .ret v => v | _ => .none) s') (fun _ _ => False)
        { s with heap := h₁, toks := s.toks + binds.length }) :
    wpAny (model prog w) A (call (.ref a) args) Q E s := by
  obtain ⟨o, cd, pm, ho, hd, hc⟩ := hf
  obtain ⟨h1, h2, h3, h4, h5⟩ := okScope_out hok cd pm
  refine wpAny_call (codeAny_call_def hroom ho hd G.nolimit hc (hbody cd pm) (.of_eq (hbind cd pm)) h2 (fun x hx => h1 _ (List.mem_map_of_mem hx)) (fun h₁ hns hk => ?_) h3 h4 h5)
  exact wpAny_mono (h cd pm s.heap.objs.size h₁ ⟨hns, hk, Nat.le_refl _⟩ (G.keeps hk)) (fun _ _ x => x) fun _ _ x => x.elim

theorem lv {fd : FuncData} {L a : Addr} {x : Str} {pos : Pos} {h₀ : Heap} {m : Str → Option Value} {v : Value} {Q : Value → Shared → Prop} (F : Fr h₀ L s.heap m) (hv : m x = some v) (h : Q v s)
    (hk : fd.scope.kind = .function) (hl : fd.scope.names.lookup x = some .local) (hd : (x == ("__debug__" : Str)) = false) :
    wpAny (model prog w) A (eval (.Name x pos) (callEnv fd L a)) Q E s := ldc hk hl F.ns hv h hd

theorem sv {fd : FuncData} {L a : Addr} {x : Str} {h₀ : Heap} {m : Str → Option Value} {v : Value} {news : List (Addr × Obj)} {Q : Unit → Shared → Prop} (F : Fr h₀ L s.heap m) (N : News h₀ L s.heap news)
    (h : ∀ h', Fr h₀ L h' (fun y => if y = x then some v else m y) → News h₀ L h' news → Q () { s with heap := h', toks := s.toks + 1 })
    (hk : fd.scope.kind = .function) (hl : fd.scope.names.lookup x = some .local) :
    wpAny (model prog w) A (storeName (callEnv fd L a) x v) Q E s :=
  wpAny_storeName_local (env := callEnv fd L a) hl F.ns (fun h' hn hs => h h' (F.set hn hs) (N.set hs)) (by show (fd.scope.kind == .class || (fd.scope.kind == .module && _)) = false; rw [hk]; rfl)
end

end Mine

namespace Mine

abbrev St (s : Shared) (h : Heap) (tk : Nat) : Shared := { s with heap := h, toks := tk }
def tupO (vs : List Value) : Obj := { cls := .type "tuple", data := .seq vs.toArray }
def lstO (vs : List Value) : Obj := { cls := .type "list", data := .seq vs.toArray }

/-- a frame's map with one name more -/
def up (m : Str → Option Value) (x : Str) (v : Value) : Str → Option Value := fun y => if y = x then some v else m y
theorem up_eq {m : Str → Option Value} {x : Str} {v : Value} : up m x v x = some v := if_pos rfl
theorem up_ne {m : Str → Option Value} {x y : Str} {v : Value} (h : y ≠ x) : up m x v y = m y := if_neg h
def ups : List (Str × Value) → Str → Option Value
  | [] => fun _ => none
  | b :: r => up (ups r) b.1 b.2
theorem ups_eq : ∀ l : List (Str × Value), (fun x => l.lookup x) = ups l
  | [] => rfl
  | (x, v) :: r => by
    funext y
    show List.lookup y ((x, v) :: r) = if y = x then some v else ups r y
    rw [← ups_eq r, List.lookup_cons]
    by_cases h : y = x
    · subst h; simp
    · rw [if_neg h]
      have : (y == x) = false := by simpa using h
      rw [this]

theorem Kept.refl (h : Heap) : Kept h h := fun _ _ e => e
theorem Kept.trans {h h' h'' : Heap} (a : Kept h h') (b : Kept h' h'') : Kept h h'' := fun x o e => b x o (a x o e)
theorem Kept.push (h : Heap) (o : Obj) : Kept h (h.push o) := fun _ _ e => Heap.get?_push_of_some _ e
theorem frK {h₀ h h' : Heap} {L : Addr} {m : Str → Option Value} (F : Fr h₀ L h m) (hk : Kept h h') : Fr h₀ L h' m := F.grownK hk
theorem newsK {h₀ h h' : Heap} {L : Addr} {news : List (Addr × Obj)} (N : News h₀ L h news) (hk : Kept h h') : News h₀ L h' news := N.grown hk

section
variable {prog : Program} {w : World} {A : Around} {E : Value → Shared → Prop} {s : Shared} {h h₀ : Heap} {tk : Nat} {L : Addr} {m : Str → Option Value} {news : List (Addr × Obj)} {env : Env}

/-- a call of a def of the text that has no cells -/
theorem x_enter {a : Addr} {j : Nat} {args : List Value} {body : List Stmt} {binds : List (Str × Value)} {Q : Value → Shared → Prop}
    (G : Gr h) (hf : FnAt h a j) (hroom : A.depth < recursionLimit)
    (hbody : ∀ cd pm, (fdOf j cd pm).body = .stmts body) (hbind : ∀ cd pm, bindArgs (fdOf j cd pm) ⟨args, []⟩ = pure binds)
    {xs : List Str} (hxs : binds.map (·.1) = xs) (hok : okScope j xs = true)
    (hq : ∀ cd pm L h₁ tk', Fr h L h₁ (ups binds.reverse) → Gr h₁ →
      wpAny (model prog w) (A.deeper (callEnv (fdOf j cd pm) L a)) (execs body (callEnv (fdOf j cd pm) L a)) (fun f s' => Q (match f with | .ret v => v | _ => .none) s') (fun _ _ => False) (St s h₁ tk')) :
    wpAny (model prog w) A (call (.ref a) args) Q E (St s h tk) :=
  enter (s := St s h tk) G hf hroom hbody hbind (hxs ▸ hok) fun cd pm L h₁ F G' => hq cd pm L h₁ _ (ups_eq _ ▸ F) G'

theorem x_lv {fd : FuncData} {a : Addr} {x : Str} {pos : Pos} {v : Value} {Q : Value → Shared → Prop} (F : Fr h₀ L h m) (hv : m x = some v) (hq : Q v (St s h tk))
    (hk : fd.scope.kind = .function) (hl : fd.scope.names.lookup x = some .local) (hd : (x == ("__debug__" : Str)) = false) :
    wpAny (model prog w) A (eval (.Name x pos) (callEnv fd L a)) Q E (St s h tk) := lv (s := St s h tk) F hv hq hk hl hd

theorem x_sv {fd : FuncData} {a : Addr} {x : Str} {v : Value} {Q : Unit → Shared → Prop} (F : Fr h₀ L h m) (N : News h₀ L h news)
    (hk : fd.scope.kind = .function) (hl : fd.scope.names.lookup x = some .local)
    (hq : ∀ h' tk', Fr h₀ L h' (up m x v) → News h₀ L h' news → Q () (St s h' tk')) :
    wpAny (model prog w) A (storeName (callEnv fd L a) x v) Q E (St s h tk) := sv (s := St s h tk) F N (fun h' F' N' => hq h' _ F' N') hk hl

/-- a name of the text's top, or a built-in one -/
theorem x_glob {x : Str} {pos : Pos} {v : Value} {mg : Str → Option Value} {Q : Value → Shared → Prop} (hg : h.Ns mainGlobals mg) (hv : mg x = some v) (hq : Q v (St s h tk))
    (hk : env.scope.kind = .function) (hx : env.kindOf x = some .globalImplicit) (he : env.globals = mainGlobals) (hd : (x == ("__debug__" : Str)) = false) :
    wpAny (model prog w) A (eval (.Name x pos) env) Q E (St s h tk) :=
  Calls.Name_function_global hk hx (Calls.loadGlobal_global (s := St s h tk) (by rw [he]; exact hg) hv hq) hd
theorem x_boot {x : Str} {pos : Pos} {v : Value} {mg mb : Str → Option Value} {Q : Value → Shared → Prop} (hg : h.Ns mainGlobals mg) (hmiss : mg x = none) (hb : h.Ns builtinsNs mb) (hv : mb x = some v) (hq : Q v (St s h tk))
    (hk : env.scope.kind = .function) (hx : env.kindOf x = some .globalImplicit) (he : env.globals = mainGlobals) (he' : env.builtins = builtinsNs) (hd : (x == ("__debug__" : Str)) = false) :
    wpAny (model prog w) A (eval (.Name x pos) env) Q E (St s h tk) :=
  Calls.Name_function_global hk hx (Calls.loadGlobal_builtin (s := St s h tk) (by rw [he]; exact hg) hmiss (by rw [he']; exact hb) hv hq) hd


/-- a call of a def of the text: the arguments, then the call -/
theorem x_with {pos : Pos} {e : Expr} {rest : List Expr} {a : Addr} {j : Nat} {Q : Value → Shared → Prop} (hf : FnAt h a j)
    (hq : wpAny (model prog w) A (spliced (backTo pos (starEach (e :: rest) env))) (fun vs s₁ => Kept h s₁.heap ∧ wpAny (model prog w) A (call (.ref a) vs) Q E s₁) E (St s h tk))
    (he : starEach (e :: rest) env = (false, eval e env) :: starEach rest env := by rfl) :
    wpAny (model prog w) A (callWith pos (.ref a) [] (backTo pos (starEach (e :: rest) env)) []) Q E (St s h tk) := by
  obtain ⟨o, cd, pm, ho, hd, _⟩ := hf
  exact callWith_def hd (wpAny_mono hq (fun vs s₁ h₁ => ⟨h₁.1 _ _ ho, h₁.2⟩) fun _ _ x => x) he

theorem x_fconst {x : UInt64} {k : Nat} {pos : Pos} {Q : Value → Shared → Prop} (hq : ∀ v tk', Q (.float x v) (St s h tk')) : wpAny (model prog w) A (eval (.Constant (.float x) k pos) env) Q E (St s h tk) :=
  AutoFloatOps.wpAny_Constant_float (s := St s h tk) (hq _ _)
theorem x_iconst {x : Int} {k : Nat} {pos : Pos} {Q : Value → Shared → Prop} (hq : ∀ v tk', Q (.int x v) (St s h tk')) : wpAny (model prog w) A (eval (.Constant (.int x) k pos) env) Q E (St s h tk) :=
  wpAny_Constant_int (s := St s h tk) (hq _ _)
theorem x_sconst {x : Str} {k : Nat} {pos : Pos} {Q : Value → Shared → Prop} (hq : ∀ v tk', Q (.str x v) (St s h tk')) : wpAny (model prog w) A (eval (.Constant (.str x) k pos) env) Q E (St s h tk) :=
  wpAny_Constant_str (s := St s h tk) (hq _ _)
variable {a b c : UInt64} {t u x : Tok} {Q : Value → Shared → Prop}
theorem x_fadd (hq : ∀ v tk', Q (.float (Float64.add a b) v) (St s h tk')) : wpAny (model prog w) A (binaryOp .Add (.float a t) (.float b u)) Q E (St s h tk) := add_float (s := St s h tk) (hq _ _)
theorem x_fsub (hq : ∀ v tk', Q (.float (Float64.sub a b) v) (St s h tk')) : wpAny (model prog w) A (binaryOp .Sub (.float a t) (.float b u)) Q E (St s h tk) := sub_float (s := St s h tk) (hq _ _)
theorem x_fmul (hq : ∀ v tk', Q (.float (Float64.mul a b) v) (St s h tk')) : wpAny (model prog w) A (binaryOp .Mult (.float a t) (.float b u)) Q E (St s h tk) := mul_float (s := St s h tk) (hq _ _)
theorem x_fdiv (hz : Float64.isZero b = false) (hq : ∀ v tk', Q (.float (Float64.div a b) v) (St s h tk')) : wpAny (model prog w) A (binaryOp .Div (.float a t) (.float b u)) Q E (St s h tk) :=
  AutoFloatOps.truediv_1 (s := St s h tk) (by rw [hz]; decide) (hq _ _)
theorem x_fmod (hz : Float64.isZero b = false) (hq : ∀ v tk', Q (.float (Float64.divmod a b).snd v) (St s h tk')) : wpAny (model prog w) A (binaryOp .Mod (.float a t) (.float b u)) Q E (St s h tk) :=
  AutoFloatOps.mod_1 (s := St s h tk) (by rw [hz]; decide) (hq _ _)

def feq (a b : UInt64) : Bool := Float64.cmp a b == some Ordering.eq
def flt (a b : UInt64) : Bool := Float64.cmp a b == some Ordering.lt
def fle (a b : UInt64) : Bool := Float64.cmp a b == some Ordering.lt || Float64.cmp a b == some Ordering.eq
/-- the first of the two, or the second where it is greater (less) -/
def fmax (a b : UInt64) : UInt64 := bif Float64.cmp b a == some Ordering.gt then b else a
def fmin (a b : UInt64) : UInt64 := bif Float64.cmp b a == some Ordering.lt then b else a
theorem x_feq (hq : Q (.bool (feq a b)) (St s h tk)) : wpAny (model prog w) A (compareOp .Eq (.float a t) (.float b u)) Q E (St s h tk) := AutoFloatOps.eq_0 (s := St s h tk) hq
theorem x_flt (hq : Q (.bool (flt a b)) (St s h tk)) : wpAny (model prog w) A (compareOp .Lt (.float a t) (.float b u)) Q E (St s h tk) := AutoFloatOps.lt_0 (s := St s h tk) hq
theorem x_fle (hq : Q (.bool (fle a b)) (St s h tk)) : wpAny (model prog w) A (compareOp .LtE (.float a t) (.float b u)) Q E (St s h tk) := AutoFloatOps.le_0 (s := St s h tk) hq

def fItems (xs : Array (UInt64 × Tok)) : Array Value := xs.map fun p => .float p.1 p.2
def fAt (xs : Array (UInt64 × Tok)) (i : Nat) : UInt64 := (xs[i]?.map (·.1)).getD 0
theorem fItems_at {xs : Array (UInt64 × Tok)} {i : Nat} {v : Value} (h : (fItems xs)[i]? = some v) : ∃ t, v = .float (fAt xs i) t := by
  simp only [fItems, Array.getElem?_map, Option.map_eq_some_iff] at h
  obtain ⟨p, hp, rfl⟩ := h
  exact ⟨p.2, by simp [fAt, hp]⟩
theorem cmp_gt {P : Nat → Value → Prop} (val : Nat → UInt64) (hval : ∀ i v, P i v → ∃ t, v = .float (val i) t) : CmpOf prog w A .Gt P (fun i j => Float64.cmp (val i) (val j) == some Ordering.gt) := fun i j vi vj s Q E hi hj h => by
  obtain ⟨t, rfl⟩ := hval i vi hi
  obtain ⟨u, rfl⟩ := hval j vj hj
  exact AutoFloatOps.gt_0 h
theorem cmp_lt {P : Nat → Value → Prop} (val : Nat → UInt64) (hval : ∀ i v, P i v → ∃ t, v = .float (val i) t) : CmpOf prog w A .Lt P (fun i j => Float64.cmp (val i) (val j) == some Ordering.lt) := fun i j vi vj s Q E hi hj h => by
  obtain ⟨t, rfl⟩ := hval i vi hi
  obtain ⟨u, rfl⟩ := hval j vj hj
  exact AutoFloatOps.lt_0 h

theorem x_max3 (hh : A.handled = none) (hq : ∀ h' tk' v, Kept h h' → Q (.float (fmax (fmax a b) c) v) (St s h' tk')) :
    wpAny (model prog w) A (call (.builtin "max") [.float a t, .float b u, .float c x]) Q E (St s h tk) := by
  have hT : (h.push { cls := .type "tuple", data := .seq #[.float a t, .float b u, .float c x] }).IsTuple h.objs.size (fItems #[(a, t), (b, u), (c, x)]) := ⟨_, Heap.get?_push_size _ rfl, rfl, 0, by simp [fItems]⟩
  refine call_max_three (s := St s h tk) (wpAny_pyIter_tuple hT ?_)
  have hsz : (h.push { cls := .type "tuple", data := .seq #[.float a t, .float b u, .float c x] }).objs.size = h.objs.size + 1 := Heap.size_push ..
  refine ⟨_, [_, h.objs.size], [_], _, _, _, _, rfl, Walks.tuple (A := A.in1) hh _ h.objs.size (by show h.objs.size ≠ (h.push _).objs.size; rw [hsz]; exact Nat.ne_of_lt (Nat.lt_succ_self _)) (fItems #[(a, t), (b, u), (c, x)]),
    ⟨⟨_, Heap.get?_push_size _ rfl, rfl, rfl⟩, hT.push _⟩, fun d hd => ?_, by simp [fItems], cmp_gt (fAt #[(a, t), (b, u), (c, x)]) (fun _ _ => fItems_at), fun v h' tk hP hk => ?_⟩
  · show d < ((h.push _).push _).objs.size
    rw [Heap.size_push, hsz]
    rcases List.mem_cons.mp hd with rfl | hd
    · show (h.push _).objs.size < _; rw [hsz]; exact Nat.lt_succ_self _
    · rcases List.mem_cons.mp hd with rfl | hd
      · exact Nat.lt_succ_of_lt (Nat.lt_succ_self _)
      · cases hd
  · have hold : Kept h h' := fun d o e => by
      refine hk d o (fun hm => ?_) (Heap.get?_push_of_some _ (Heap.get?_push_of_some _ e))
      rcases List.mem_cons.mp hm with e1 | hm
      · have := Heap.lt_size e
        have e2 : d = (h.push { cls := .type "tuple", data := .seq #[.float a t, .float b u, .float c x] }).objs.size := e1
        rw [e2, hsz] at this; exact absurd this (Nat.not_lt.mpr (Nat.le_succ _))
      · cases hm
    have e1 : (fItems #[(a, t), (b, u), (c, x)]).size - 1 = 2 := by simp [fItems]
    rw [e1] at hP
    obtain ⟨z, rfl⟩ := fItems_at hP
    have e : fAt #[(a, t), (b, u), (c, x)] (argBest (fun i j => Float64.cmp (fAt #[(a, t), (b, u), (c, x)] i) (fAt #[(a, t), (b, u), (c, x)] j) == some Ordering.gt) 2) = fmax (fmax a b) c := by
      unfold fmax
      cases hba : (Float64.cmp b a == some Ordering.gt)
      · cases hc : (Float64.cmp c a == some Ordering.gt) <;> simp [argBest, fAt, hba, hc]
      · cases hc : (Float64.cmp c b == some Ordering.gt) <;> simp [argBest, fAt, hba, hc]
    have := hq h' tk z hold
    rw [← e] at this
    exact this
theorem x_min3 (hh : A.handled = none) (hq : ∀ h' tk' v, Kept h h' → Q (.float (fmin (fmin a b) c) v) (St s h' tk')) :
    wpAny (model prog w) A (call (.builtin "min") [.float a t, .float b u, .float c x]) Q E (St s h tk) := by
  have hT : (h.push { cls := .type "tuple", data := .seq #[.float a t, .float b u, .float c x] }).IsTuple h.objs.size (fItems #[(a, t), (b, u), (c, x)]) := ⟨_, Heap.get?_push_size _ rfl, rfl, 0, by simp [fItems]⟩
  refine call_min_three (s := St s h tk) (wpAny_pyIter_tuple hT ?_)
  have hsz : (h.push { cls := .type "tuple", data := .seq #[.float a t, .float b u, .float c x] }).objs.size = h.objs.size + 1 := Heap.size_push ..
  refine ⟨_, [_, h.objs.size], [_], _, _, _, _, rfl, Walks.tuple (A := A.in1) hh _ h.objs.size (by show h.objs.size ≠ (h.push _).objs.size; rw [hsz]; exact Nat.ne_of_lt (Nat.lt_succ_self _)) (fItems #[(a, t), (b, u), (c, x)]),
    ⟨⟨_, Heap.get?_push_size _ rfl, rfl, rfl⟩, hT.push _⟩, fun d hd => ?_, by simp [fItems], cmp_lt (fAt #[(a, t), (b, u), (c, x)]) (fun _ _ => fItems_at), fun v h' tk hP hk => ?_⟩
  · show d < ((h.push _).push _).objs.size
    rw [Heap.size_push, hsz]
    rcases List.mem_cons.mp hd with rfl | hd
    · show (h.push _).objs.size < _; rw [hsz]; exact Nat.lt_succ_self _
    · rcases List.mem_cons.mp hd with rfl | hd
      · exact Nat.lt_succ_of_lt (Nat.lt_succ_self _)
      · cases hd
  · have hold : Kept h h' := fun d o e => by
      refine hk d o (fun hm => ?_) (Heap.get?_push_of_some _ (Heap.get?_push_of_some _ e))
      rcases List.mem_cons.mp hm with e1 | hm
      · have := Heap.lt_size e
        have e2 : d = (h.push { cls := .type "tuple", data := .seq #[.float a t, .float b u, .float c x] }).objs.size := e1
        rw [e2, hsz] at this; exact absurd this (Nat.not_lt.mpr (Nat.le_succ _))
      · cases hm
    have e1 : (fItems #[(a, t), (b, u), (c, x)]).size - 1 = 2 := by simp [fItems]
    rw [e1] at hP
    obtain ⟨z, rfl⟩ := fItems_at hP
    have e : fAt #[(a, t), (b, u), (c, x)] (argBest (fun i j => Float64.cmp (fAt #[(a, t), (b, u), (c, x)] i) (fAt #[(a, t), (b, u), (c, x)] j) == some Ordering.lt) 2) = fmin (fmin a b) c := by
      unfold fmin
      cases hba : (Float64.cmp b a == some Ordering.lt)
      · cases hc : (Float64.cmp c a == some Ordering.lt) <;> simp [argBest, fAt, hba, hc]
      · cases hc : (Float64.cmp c b == some Ordering.lt) <;> simp [argBest, fAt, hba, hc]
    have := hq h' tk z hold
    rw [← e] at this
    exact this

theorem x_tuple {elts : List Expr} {k : Nat} {pos : Pos}
    (hq : wpAny (model prog w) A (spliced (backTo pos (starEach elts env))) (fun vs s₁ => vs.length ≤ sizeLine ∧ ∃ h₁ tk₁, s₁ = St s h₁ tk₁ ∧ Q (.ref h₁.objs.size) (St s (h₁.push (tupO vs)) tk₁)) E (St s h tk)) :
    wpAny (model prog w) A (eval (.Tuple elts k pos) env) Q E (St s h tk) :=
  wpAny_Tuple (wpAny_mono hq (fun vs s₁ h₁ => by obtain ⟨a, h₁, tk₁, rfl, b⟩ := h₁; exact ⟨a, b⟩) fun _ _ x => x)
theorem x_list {elts : List Expr} {pos : Pos}
    (hq : wpAny (model prog w) A (spliced (backTo pos (starEach elts env))) (fun vs s₁ => vs.length ≤ sizeLine ∧ ∃ h₁ tk₁, s₁ = St s h₁ tk₁ ∧ Q (.ref h₁.objs.size) (St s (h₁.push (lstO vs)) tk₁)) E (St s h tk)) :
    wpAny (model prog w) A (eval (.List elts pos) env) Q E (St s h tk) :=
  wpAny_List (wpAny_mono hq (fun vs s₁ h₁ => by obtain ⟨a, h₁, tk₁, rfl, b⟩ := h₁; exact ⟨a, b⟩) fun _ _ x => x)
theorem tupO_is (h : Heap) (vs : List Value) : (h.push (tupO vs)).IsTuple h.objs.size vs.toArray := ⟨_, Heap.get?_push_size _ rfl, rfl, 0, rfl⟩
theorem lstO_is (h : Heap) (vs : List Value) : (h.push (lstO vs)).IsList h.objs.size vs.toArray := ⟨_, Heap.get?_push_size _ rfl, rfl, 0, rfl⟩
theorem grF {h₀ h : Heap} {L : Addr} {m : Str → Option Value} (F : Fr h₀ L h m) (G : Gr h₀) : Gr h := G.keeps F.keep
theorem x_bmax {fd : FuncData} {L a : Addr} {pos : Pos} (G : Gr h) (hq : Q (.builtin "max") (St s h tk)) (hk : fd.scope.kind = .function) (hx : fd.scope.names.lookup ("max" : Str) = some .globalImplicit)
    (he : fd.globals = mainGlobals) (he' : fd.builtins = builtinsNs) : wpAny (model prog w) A (eval (.Name "max" pos) (callEnv fd L a)) Q E (St s h tk) := by
  obtain ⟨mg, g, g1, g2, g3, g4, g5, g6, g7, g8, g9, b1, b2, b3, b4⟩ := G.glob
  obtain ⟨mb, b, c1, c2, c3, c4⟩ := G.boot
  exact x_boot g b1 b c1 hq hk hx he he' (by decide +kernel)
theorem x_bmin {fd : FuncData} {L a : Addr} {pos : Pos} (G : Gr h) (hq : Q (.builtin "min") (St s h tk)) (hk : fd.scope.kind = .function) (hx : fd.scope.names.lookup ("min" : Str) = some .globalImplicit)
    (he : fd.globals = mainGlobals) (he' : fd.builtins = builtinsNs) : wpAny (model prog w) A (eval (.Name "min" pos) (callEnv fd L a)) Q E (St s h tk) := by
  obtain ⟨mg, g, g1, g2, g3, g4, g5, g6, g7, g8, g9, b1, b2, b3, b4⟩ := G.glob
  obtain ⟨mb, b, c1, c2, c3, c4⟩ := G.boot
  exact x_boot g b2 b c2 hq hk hx he he' (by decide +kernel)

/-- one statement, and what holds behind it -/
theorem x_mid {rest : List Stmt} {env : Env} {st : Stmt} (P : Shared → Prop) {Q : Flow → Shared → Prop} {s : Shared}
    (h1 : wpAny (model prog w) A (exec st env) (fun f s' => f = .next ∧ P s') E s) (h2 : ∀ s', P s' → wpAny (model prog w) A (execs rest env) Q E s') : wpAny (model prog w) A (execs (st :: rest) env) Q E s :=
  wpAny_execs_cons (wpAny_mono h1 (fun f s' ⟨e, hp⟩ => by subst e; exact h2 s' hp) fun _ _ x => x)

theorem iteB {c : Bool} {p q : Prop} (h1 : p) (h2 : q) : if c = true then p else q := by cases c; exact h2; exact h1

theorem x_gl {x : Str} {pos : Pos} {v : Value} {Q : Value → Shared → Prop} (hx : ∃ mg, h.Ns mainGlobals mg ∧ mg x = some v) (hq : Q v (St s h tk))
    (hk : env.scope.kind = .function) (hx' : env.kindOf x = some .globalImplicit) (he : env.globals = mainGlobals) (hd : (x == ("__debug__" : Str)) = false) :
    wpAny (model prog w) A (eval (.Name x pos) env) Q E (St s h tk) := by
  obtain ⟨mg, g, e⟩ := hx
  exact x_glob g e hq hk hx' he hd
theorem x_bl {x : Str} {pos : Pos} {v : Value} {Q : Value → Shared → Prop} (hx : (∃ mg, h.Ns mainGlobals mg ∧ mg x = none) ∧ ∃ mb, h.Ns builtinsNs mb ∧ mb x = some v) (hq : Q v (St s h tk))
    (hk : env.scope.kind = .function) (hx' : env.kindOf x = some .globalImplicit) (he : env.globals = mainGlobals) (he' : env.builtins = builtinsNs) (hd : (x == ("__debug__" : Str)) = false) :
    wpAny (model prog w) A (eval (.Name x pos) env) Q E (St s h tk) := by
  obtain ⟨⟨mg, g, e⟩, mb, b, e'⟩ := hx
  exact x_boot g e b e' hq hk hx' he he' hd
theorem Gr.n_yiq (G : Gr h) : ∃ mg, h.Ns mainGlobals mg ∧ mg "rgb_to_yiq" = some (.ref 35) := by obtain ⟨mg, g, g1, g2, g3, _⟩ := G.glob; exact ⟨mg, g, g3⟩
theorem Gr.n_hls (G : Gr h) : ∃ mg, h.Ns mainGlobals mg ∧ mg "rgb_to_hls" = some (.ref 42) := by obtain ⟨mg, g, g1, g2, g3, g4, _⟩ := G.glob; exact ⟨mg, g, g4⟩
theorem Gr.n_hsv (G : Gr h) : ∃ mg, h.Ns mainGlobals mg ∧ mg "rgb_to_hsv" = some (.ref 49) := by obtain ⟨mg, g, g1, g2, g3, g4, g5, _⟩ := G.glob; exact ⟨mg, g, g5⟩
theorem Gr.n_replace (G : Gr h) : ∃ mg, h.Ns mainGlobals mg ∧ mg "replace" = some (.ref 21) := by obtain ⟨mg, g, g1, _⟩ := G.glob; exact ⟨mg, g, g1⟩
theorem Gr.n_split (G : Gr h) : ∃ mg, h.Ns mainGlobals mg ∧ mg "_split_list" = some (.ref 28) := by obtain ⟨mg, g, g1, g2, _⟩ := G.glob; exact ⟨mg, g, g2⟩
theorem Gr.n_told (G : Gr h) : ∃ mg, h.Ns mainGlobals mg ∧ mg "_law_told" = some (.ref 54) := by obtain ⟨mg, g, g1, g2, g3, g4, g5, g6, _⟩ := G.glob; exact ⟨mg, g, g6⟩
theorem Gr.n_whole (G : Gr h) : ∃ mg, h.Ns mainGlobals mg ∧ mg "_law_whole" = some (.ref 61) := by obtain ⟨mg, g, g1, g2, g3, g4, g5, g6, g7, _⟩ := G.glob; exact ⟨mg, g, g7⟩
theorem Gr.n_place (G : Gr h) : ∃ mg, h.Ns mainGlobals mg ∧ mg "_law_place" = some (.ref 66) := by obtain ⟨mg, g, g1, g2, g3, g4, g5, g6, g7, g8, _⟩ := G.glob; exact ⟨mg, g, g8⟩
theorem Gr.n_line (G : Gr h) : ∃ mg, h.Ns mainGlobals mg ∧ mg "_law_line" = some (.ref 71) := by obtain ⟨mg, g, g1, g2, g3, g4, g5, g6, g7, g8, g9, _⟩ := G.glob; exact ⟨mg, g, g9⟩
theorem Gr.n_max (G : Gr h) : (∃ mg, h.Ns mainGlobals mg ∧ mg "max" = none) ∧ ∃ mb, h.Ns builtinsNs mb ∧ mb "max" = some (.builtin "max") := by
  obtain ⟨mg, g, _, _, _, _, _, _, _, _, _, b1, b2, b3, b4⟩ := G.glob; obtain ⟨mb, b, c1, c2, c3, c4⟩ := G.boot; exact ⟨⟨mg, g, b1⟩, mb, b, c1⟩
theorem Gr.n_min (G : Gr h) : (∃ mg, h.Ns mainGlobals mg ∧ mg "min" = none) ∧ ∃ mb, h.Ns builtinsNs mb ∧ mb "min" = some (.builtin "min") := by
  obtain ⟨mg, g, _, _, _, _, _, _, _, _, _, b1, b2, b3, b4⟩ := G.glob; obtain ⟨mb, b, c1, c2, c3, c4⟩ := G.boot; exact ⟨⟨mg, g, b2⟩, mb, b, c2⟩
theorem Gr.n_len (G : Gr h) : (∃ mg, h.Ns mainGlobals mg ∧ mg "len" = none) ∧ ∃ mb, h.Ns builtinsNs mb ∧ mb "len" = some (.builtin "len") := by
  obtain ⟨mg, g, _, _, _, _, _, _, _, _, _, b1, b2, b3, b4⟩ := G.glob; obtain ⟨mb, b, c1, c2, c3, c4⟩ := G.boot; exact ⟨⟨mg, g, b3⟩, mb, b, c3⟩
theorem Gr.n_range (G : Gr h) : (∃ mg, h.Ns mainGlobals mg ∧ mg "range" = none) ∧ ∃ mb, h.Ns builtinsNs mb ∧ mb "range" = some (.type "range") := by
  obtain ⟨mg, g, _, _, _, _, _, _, _, _, _, b1, b2, b3, b4⟩ := G.glob; obtain ⟨mb, b, c1, c2, c3, c4⟩ := G.boot; exact ⟨⟨mg, g, b4⟩, mb, b, c4⟩

theorem x_unpack {l : Addr} {vs : List Value} {elts : List Expr} {k : Nat} {pos : Pos} {Q : Unit → Shared → Prop} (F : Fr h₀ L h m) (N : News h₀ L h news) (hl : h.IsList l vs.toArray) (hh : A.handled = none)
    (hn : (assignEach elts env).length = vs.length) (hstar : (assignEach elts env).findIdx? (·.1) = none)
    (hq : ∀ h', Fr h₀ L h' m → News h₀ L h' news → wpAny (model prog w) A (assignInOrder ((assignEach elts env).map (·.2)) vs) Q E (St s h' tk)) :
    wpAny (model prog w) A (assign (.Tuple elts k pos) env (.ref l)) Q E (St s h tk) :=
  kun_list (s := St s h tk) F N hl hh (by rw [hn]; simp) hstar fun h' F' N' => by simpa using hq h' F' N'

theorem x_titem {value slice : Expr} {t : Addr} {l : List Value} {k : Int} {u : Tok} {j : Nat} {x : Value} {Q : Value → Shared → Prop} (ht : h.IsTuple t l.toArray)
    (hlo : -(2 ^ 63) ≤ k) (hhi : k < 2 ^ 63) (hj : seqIndex? k l.length = some j) (hx : l[j]? = some x) (hq : Q x (St s h tk))
    (hs : subscripted slice false (.ref t) (.int k u) = operate [.ref t, .int k u] (getItem (.ref t) (.int k u))) :
    wpAny (model prog w) A (subscriptTail value slice (.ref t) (.int k u)) Q E (St s h tk) := item_tupleT (s := St s h tk) ht hlo hhi hj hx hq hs

/-- a local gets a value; all but the frame's own map stays -/
theorem x_svB {fd : FuncData} {a : Addr} {x : Str} {v : Value} {Q : Unit → Shared → Prop} (F : Fr h₀ L h m)
    (hk : fd.scope.kind = .function) (hl : fd.scope.names.lookup x = some .local)
    (hq : ∀ h' tk', Fr h₀ L h' (up m x v) → (∀ b o, b ≠ L → h.get? b = some o → h'.get? b = some o) → Q () (St s h' tk')) :
    wpAny (model prog w) A (storeName (callEnv fd L a) x v) Q E (St s h tk) :=
  wpAny_storeName_local (env := callEnv fd L a) (s := St s h tk) hl F.ns (fun h' hn hs => hq h' _ (F.set hn hs) fun b o hb e => hs.extBut b o hb e) (by show (fd.scope.kind == .class || (fd.scope.kind == .module && _)) = false; rw [hk]; rfl)
end
end Mine

namespace Mine

local macro_rules | `(tactic| walk_at "m get") => `(tactic| (repeat (first | (with_reducible exact up_eq) | (with_reducible refine (up_ne (by decide +kernel)).trans ?_))))
local macro_rules | `(tactic| walk_at "m lv") => `(tactic| (with_reducible refine x_lv (by assumption) (by walk_at "m get") ?_ (by kernel_rfl!) (by kernel_rfl!) (by decide +kernel)))
local macro_rules | `(tactic| walk_at "m sv") => `(tactic| ((with_reducible refine x_sv (by assumption) (by assumption) (by kernel_rfl!) (by kernel_rfl!) ?_); intro _ _ _ _; dsimp only))
local macro_rules | `(tactic| walk_at "m flt") => `(tactic| (repeat' (first
  | (with_reducible refine wpAny_BinOp ?_) | walk_at "m lv" | ((with_reducible refine x_fconst ?_); intro _ _) | ((with_reducible refine x_fadd ?_); intro _ _) | ((with_reducible refine x_fsub ?_); intro _ _) | ((with_reducible refine x_fmul ?_); intro _ _))))
local macro_rules | `(tactic| walk_at "m set") => `(tactic| ((with_reducible refine wpAny_execs_cons ?_); (with_reducible refine wpAny_Assign_Name ?_ (by kernel_rfl!)); walk_at "m flt"))
local macro_rules | `(tactic| walk_at "m arg") => `(tactic| (with_reducible refine args_cons ?_ (by with_unfolding_all rfl)))
local macro_rules | `(tactic| walk_at "m max") => `(tactic| (
  (with_reducible refine wpAny_execs_cons ?_); (with_reducible refine wpAny_Assign_Name ?_ (by kernel_rfl!)); (with_reducible refine Call_ ?_ (by with_unfolding_all rfl));
  first | (with_reducible refine x_bmax (grF (by assumption) (by assumption)) ?_ (by kernel_rfl!) (by kernel_rfl!) (by kernel_rfl!) (by kernel_rfl!)) | (with_reducible refine x_bmin (grF (by assumption) (by assumption)) ?_ (by kernel_rfl!) (by kernel_rfl!) (by kernel_rfl!) (by kernel_rfl!));
  (with_reducible refine callWith_builtin1 ?_ (by with_unfolding_all rfl) (by with_unfolding_all rfl));
  walk_at "m arg"; walk_at "m lv"; walk_at "m arg"; walk_at "m lv"; walk_at "m arg"; walk_at "m lv"; (with_reducible refine args_nil ?_);
  first | (with_reducible refine x_max3 (by assumption) ?_) | (with_reducible refine x_min3 (by assumption) ?_)))

local macro_rules | `(tactic| walk_at "m tup") => `(tactic| (
  refine x_tuple ?_;
  (with_reducible refine wpAny_items_cons ?_ (by with_unfolding_all rfl)); walk_at "m flt";
  (with_reducible refine wpAny_items_cons ?_ (by with_unfolding_all rfl)); walk_at "m flt";
  (with_reducible refine wpAny_items_cons ?_ (by with_unfolding_all rfl)); walk_at "m flt";
  refine wpAny_items_nil ⟨by size_fits, _, _, rfl, ?_⟩;
  apply_assumption; exact Kept.trans (Fr.keep (by assumption)) (Kept.push _ _); exact tupO_is _ _))
local macro_rules | `(tactic| walk_at "m divr") => `(tactic| (walk_at "m set"; (with_reducible refine x_fdiv (by assumption) ?_); intro _ _; walk_at "m sv"))
local macro_rules | `(tactic| walk_at "m test") => `(tactic| (
  (with_reducible refine wpAny_execs_cons ?_); (with_reducible refine wpAny_If ?_); (with_reducible refine wpAny_isTrue_Compare1 ?_ (by with_unfolding_all rfl)); walk_at "m flt";
  (with_reducible refine x_feq ?_); (with_reducible refine wpAny_truthy_bool ?_); refine iteB ?_ ?_))
local macro_rules | `(tactic| walk_at "m end") => `(tactic| (
  (with_reducible refine wpAny_execs_cons ?_); (with_reducible refine wpAny_Assign_Name ?_ (by kernel_rfl!)); walk_at "m flt"; (with_reducible refine x_fdiv (by decide +kernel) ?_); intro _ _; walk_at "m flt"; (with_reducible refine x_fmod (by decide +kernel) ?_); intro _ _; walk_at "m sv";
  (with_reducible refine wpAny_execs_cons ?_); (with_reducible refine wpAny_Return_some ?_); walk_at "m tup"))
local macro_rules | `(tactic| walk_at "m hue") => `(tactic| (
  (with_reducible refine wpAny_execs_nil ?_); dsimp only;
  walk_at "m divr"; walk_at "m divr"; walk_at "m divr";
  walk_at "m test"
  · walk_at "m set"; walk_at "m sv"; (with_reducible refine wpAny_execs_nil ?_); dsimp only; walk_at "m end"
  · walk_at "m test"
    · walk_at "m set"; walk_at "m sv"; (with_reducible refine wpAny_execs_nil ?_); dsimp only; (with_reducible refine wpAny_execs_nil ?_); dsimp only; walk_at "m end"
    · walk_at "m set"; walk_at "m sv"; (with_reducible refine wpAny_execs_nil ?_); dsimp only; (with_reducible refine wpAny_execs_nil ?_); dsimp only; walk_at "m end"))

section
variable {prog : Program} {w : World} {A : Around} {E : Value → Shared → Prop} {s : Shared} {h : Heap} {tk : Nat} {Q : Value → Shared → Prop}

def luma (r g b : UInt64) : UInt64 :=
  Float64.add (Float64.add (Float64.mul 0x3fd3333333333333 r) (Float64.mul 0x3fe2e147ae147ae1 g)) (Float64.mul 0x3fbc28f5c28f5c29 b)

theorem yiq_spec {r g b : UInt64} {t1 t2 t3 : Tok} (G : Gr h) (hroom : A.depth < recursionLimit)
    (hq : ∀ T h' tk u i ti q tq, Kept h h' → h'.IsTuple T #[.float (luma r g b) u, .float i ti, .float q tq] → Q (.ref T) (St s h' tk)) :
    wpAny (model prog w) A (call (.ref 35) [.float r t1, .float g t2, .float b t3]) Q E (St s h tk) := by
  refine x_enter (binds := [("r", .float r t1), ("g", .float g t2), ("b", .float b t3)]) (xs := ["r", "g", "b"]) G G.fns.2.2.1 hroom (fun _ _ => rfl) (fun _ _ => by kernel_rfl!) rfl (by decide +kernel) ?_
  intro cd pm L h₁ tk' F _
  dsimp only [List.reverse, List.reverseAux, ups] at F
  have N : News h L h₁ [] := News.nil
  walk_at "m set"; walk_at "m sv"
  walk_at "m set"; walk_at "m sv"
  walk_at "m set"; walk_at "m sv"
  refine wpAny_execs_cons (wpAny_Return_some (x_tuple ?_))
  refine wpAny_items_cons ?_; walk_at "m lv"
  refine wpAny_items_cons ?_; walk_at "m lv"
  refine wpAny_items_cons ?_; walk_at "m lv"
  refine wpAny_items_nil ⟨by size_fits, _, _, rfl, ?_⟩
  rename_i F' _
  exact hq _ _ _ _ _ _ _ _ (Kept.trans F'.keep (Kept.push _ _)) (tupO_is _ _)

def maxc (r g b : UInt64) : UInt64 := fmax (fmax r g) b
def minc (r g b : UInt64) : UInt64 := fmin (fmin r g) b
/-- the lightness that rgb_to_hls gives -/
def light (r g b : UInt64) : UInt64 := Float64.div (Float64.add (maxc r g b) (minc r g b)) 0x4000000000000000
/-- rgb_to_hls divides by nothing that is zero -/
def hlsOk (r g b : UInt64) : Bool := feq (minc r g b) (maxc r g b) || (!Float64.isZero (Float64.sub (maxc r g b) (minc r g b)) &&
  (bif fle (light r g b) 0x3fe0000000000000 then !Float64.isZero (Float64.add (maxc r g b) (minc r g b)) else !Float64.isZero (Float64.sub (Float64.sub 0x4000000000000000 (maxc r g b)) (minc r g b))))
/-- rgb_to_hsv divides by nothing that is zero -/
def hsvOk (r g b : UInt64) : Bool := feq (minc r g b) (maxc r g b) || (!Float64.isZero (Float64.sub (maxc r g b) (minc r g b)) && !Float64.isZero (maxc r g b))

set_option maxHeartbeats 2000000 in
theorem hls_spec {r g b : UInt64} {t1 t2 t3 : Tok} (G : Gr h) (hroom : A.depth < recursionLimit) (hh : A.handled = none) (hok : hlsOk r g b = true)
    (hq : ∀ T h' tk hb th u sb ts, Kept h h' → h'.IsTuple T #[.float hb th, .float (light r g b) u, .float sb ts] → Q (.ref T) (St s h' tk)) :
    wpAny (model prog w) A (call (.ref 42) [.float r t1, .float g t2, .float b t3]) Q E (St s h tk) := by
  refine x_enter (binds := [("r", .float r t1), ("g", .float g t2), ("b", .float b t3)]) (xs := ["r", "g", "b"]) G G.fns.2.2.2.1 hroom (fun _ _ => rfl) (fun _ _ => by kernel_rfl!) rfl (by decide +kernel) ?_
  intro cd pm L h₁ tk' F _
  dsimp only [List.reverse, List.reverseAux, ups] at F
  have N : News h L h₁ [] := News.nil
  have hh' : (A.deeper (callEnv (fdOf 5 cd pm) L 42)).handled = none := hh
  walk_at "m max"
  intro h₂ _ _ hk
  replace F := frK F hk; replace N := newsK N hk; clear hk
  walk_at "m sv"
  walk_at "m max"
  intro h₃ _ _ hk
  rename_i F N _ _
  replace F := frK F hk; replace N := newsK N hk; clear hk
  walk_at "m sv"
  walk_at "m set"; walk_at "m sv"
  walk_at "m set"; walk_at "m sv"
  walk_at "m set"
  (with_reducible refine x_fdiv (by decide +kernel) ?_); intro _ _
  walk_at "m sv"
  (with_reducible refine wpAny_execs_cons ?_)
  (with_reducible refine wpAny_If ?_)
  (with_reducible refine wpAny_isTrue_Compare1 ?_ (by with_unfolding_all rfl))
  walk_at "m lv"
  walk_at "m lv"
  (with_reducible refine x_feq ?_)
  (with_reducible refine wpAny_truthy_bool ?_)
  have hok' : feq (fmin (fmin r g) b) (fmax (fmax r g) b) = true ∨ (Float64.isZero (Float64.sub (fmax (fmax r g) b) (fmin (fmin r g) b)) = false ∧
      (fle (Float64.div (Float64.add (fmax (fmax r g) b) (fmin (fmin r g) b)) 0x4000000000000000) 0x3fe0000000000000 = true → Float64.isZero (Float64.add (fmax (fmax r g) b) (fmin (fmin r g) b)) = false) ∧
      (fle (Float64.div (Float64.add (fmax (fmax r g) b) (fmin (fmin r g) b)) 0x4000000000000000) 0x3fe0000000000000 = false → Float64.isZero (Float64.sub (Float64.sub 0x4000000000000000 (fmax (fmax r g) b)) (fmin (fmin r g) b)) = false)) := by
    unfold hlsOk at hok
    unfold light minc maxc at hok
    revert hok
    cases feq (fmin (fmin r g) b) (fmax (fmax r g) b)
    · intro hok
      right
      rw [Bool.false_or, Bool.and_eq_true] at hok
      refine ⟨by simpa using hok.1, fun e => ?_, fun e => ?_⟩
      · have := hok.2; rw [e] at this; simpa using this
      · have := hok.2; rw [e] at this; simpa using this
    · intro _; exact .inl rfl
  cases hc : feq (fmin (fmin r g) b) (fmax (fmax r g) b) with
  | true =>
    rw [if_pos rfl]
    (with_reducible refine wpAny_execs_cons ?_)
    (with_reducible refine wpAny_Return_some ?_)
    walk_at "m tup"
  | false =>
    rw [if_neg Bool.false_ne_true]
    rw [hc] at hok'
    obtain ⟨hz1, hz2, hz3⟩ := hok'.resolve_left Bool.false_ne_true
    (with_reducible refine wpAny_execs_nil ?_)
    dsimp only
    (with_reducible refine wpAny_execs_cons ?_)
    (with_reducible refine wpAny_If ?_)
    (with_reducible refine wpAny_isTrue_Compare1 ?_ (by with_unfolding_all rfl))
    walk_at "m flt"
    (with_reducible refine x_fle ?_)
    (with_reducible refine wpAny_truthy_bool ?_)
    cases hl : fle (Float64.div (Float64.add (fmax (fmax r g) b) (fmin (fmin r g) b)) 0x4000000000000000) 0x3fe0000000000000 with
    | true =>
      rw [if_pos rfl]
      walk_at "m set"
      (with_reducible refine x_fdiv (hz2 hl) ?_); intro _ _
      walk_at "m sv"
      walk_at "m hue"
    | false =>
      rw [if_neg Bool.false_ne_true]
      walk_at "m set"
      (with_reducible refine x_fdiv (hz3 hl) ?_); intro _ _
      walk_at "m sv"
      walk_at "m hue"

set_option maxHeartbeats 2000000 in
theorem hsv_spec {r g b : UInt64} {t1 t2 t3 : Tok} (G : Gr h) (hroom : A.depth < recursionLimit) (hh : A.handled = none) (hok : hsvOk r g b = true)
    (hq : ∀ T h' tk hb th sb ts u, Kept h h' → h'.IsTuple T #[.float hb th, .float sb ts, .float (maxc r g b) u] → Q (.ref T) (St s h' tk)) :
    wpAny (model prog w) A (call (.ref 49) [.float r t1, .float g t2, .float b t3]) Q E (St s h tk) := by
  refine x_enter (binds := [("r", .float r t1), ("g", .float g t2), ("b", .float b t3)]) (xs := ["r", "g", "b"]) G G.fns.2.2.2.2.1 hroom (fun _ _ => rfl) (fun _ _ => by kernel_rfl!) rfl (by decide +kernel) ?_
  intro cd pm L h₁ tk' F _
  dsimp only [List.reverse, List.reverseAux, ups] at F
  have N : News h L h₁ [] := News.nil
  have hh' : (A.deeper (callEnv (fdOf 6 cd pm) L 49)).handled = none := hh
  have hok' : feq (fmin (fmin r g) b) (fmax (fmax r g) b) = true ∨ (Float64.isZero (Float64.sub (fmax (fmax r g) b) (fmin (fmin r g) b)) = false ∧ Float64.isZero (fmax (fmax r g) b) = false) := by
    unfold hsvOk minc maxc at hok
    rw [Bool.or_eq_true, Bool.and_eq_true] at hok
    exact hok.imp id fun x => ⟨by simpa using x.1, by simpa using x.2⟩
  walk_at "m max"
  intro h₂ _ _ hk
  replace F := frK F hk; replace N := newsK N hk; clear hk
  walk_at "m sv"
  walk_at "m max"
  intro h₃ _ _ hk
  rename_i F N _ _
  replace F := frK F hk; replace N := newsK N hk; clear hk
  walk_at "m sv"
  walk_at "m set"; walk_at "m sv"
  walk_at "m set"; walk_at "m sv"
  (with_reducible refine wpAny_execs_cons ?_)
  (with_reducible refine wpAny_If ?_)
  (with_reducible refine wpAny_isTrue_Compare1 ?_ (by with_unfolding_all rfl))
  walk_at "m flt"
  (with_reducible refine x_feq ?_)
  (with_reducible refine wpAny_truthy_bool ?_)
  cases hc : feq (fmin (fmin r g) b) (fmax (fmax r g) b) with
  | true =>
    rw [if_pos rfl]
    (with_reducible refine wpAny_execs_cons ?_)
    (with_reducible refine wpAny_Return_some ?_)
    walk_at "m tup"
  | false =>
    rw [if_neg Bool.false_ne_true]
    rw [hc] at hok'
    obtain ⟨hz1, hz2⟩ := hok'.resolve_left Bool.false_ne_true
    (with_reducible refine wpAny_execs_nil ?_)
    dsimp only
    walk_at "m divr"
    walk_at "m divr"; walk_at "m divr"; walk_at "m divr"
    walk_at "m test"
    · walk_at "m set"; walk_at "m sv"; (with_reducible refine wpAny_execs_nil ?_); dsimp only; walk_at "m end"
    · walk_at "m test"
      · walk_at "m set"; walk_at "m sv"; (with_reducible refine wpAny_execs_nil ?_); dsimp only; (with_reducible refine wpAny_execs_nil ?_); dsimp only; walk_at "m end"
      · walk_at "m set"; walk_at "m sv"; (with_reducible refine wpAny_execs_nil ?_); dsimp only; (with_reducible refine wpAny_execs_nil ?_); dsimp only; walk_at "m end"
end
end Mine

namespace Mine

/-- an iterator that has just been made: it gives n items, the i-th of them as P i says -/
def Src (prog : Program) (w : World) (A : Around) (h₁ h₂ : Heap) (I : Addr) (n : Nat) (P : Nat → Value → Prop) : Prop :=
  ∃ fp wr S, Walks prog w A I fp wr n P S ∧ S 0 h₂ ∧ (∀ b ∈ fp, b < h₂.objs.size) ∧ (∀ b ∈ wr, h₁.get? b = none) ∧ Kept h₁ h₂ ∧ (∀ i h, S i h → ∀ b ∈ wr, ∃ o, h.get? b = some o)

/-- behind a step: the value is as P says, the heap holds all that it held -/
def Back {α : Type} (s : Shared) (h : Heap) (P : α → Prop) (v : α) (s' : Shared) : Prop := P v ∧ ∃ h' tk', s' = St s h' tk' ∧ Kept h h'
/-- behind a step: the value is a new list -/
def BackL (s : Shared) (h : Heap) (G : Array Value → Prop) (y : Value) (s' : Shared) : Prop :=
  ∃ T its h' tk', y = .ref T ∧ s' = St s h' tk' ∧ Kept h h' ∧ h.get? T = none ∧ h'.IsList T its ∧ G its

def tests (ifs : List Expr) (env : Env) : Sem Bool := forIn ifs true fun c r => if r = true then do let ok ← isTrue c env (eval c env); pure (ForInStep.yield ok) else pure (ForInStep.yield r)

theorem get_none_of_le {h : Heap} {a : Addr} (ha : h.objs.size ≤ a) : h.get? a = none := by
  cases e : h.get? a with
  | none => rfl
  | some o' => exact absurd (Heap.lt_size e) (Nat.not_lt.mpr ha)

theorem walks_in {prog : Program} {w : World} {A : Around} {I : Addr} {fp wr : List Addr} {n : Nat} {P : Nat → Value → Prop} {S : Nat → Heap → Prop} (W : Walks prog w A I fp wr n P S) : Walks prog w A I fp wr n (fun i v => i < n ∧ P i v) S where
  sub := W.sub
  frame := W.frame
  item := fun i s Q E hi st hQ => W.item i s Q E hi st fun v h' tk hP hs hk => hQ v h' tk ⟨hi, hP⟩ hs hk
  done := W.done
  self := W.self

section
variable {prog : Program} {w : World} {A : Around} {E : Value → Shared → Prop} {s : Shared} {h h₀ : Heap} {tk : Nat} {L : Addr} {m : Str → Option Value} {news : List (Addr × Obj)} {env : Env}

theorem src_list {ax : Addr} {items : Array Value} {Q : Value → Shared → Prop} (hh : A.handled = none) (hl : h.IsList ax items)
    (hq : ∀ I h₂ tk₂, Src prog w A h h₂ I items.size (fun i v => items[i]? = some v) → Q (.ref I) (St s h₂ tk₂)) : wpAny (model prog w) A (pyIter (.ref ax)) Q E (St s h tk) := by
  have hlt : ax < h.objs.size := by obtain ⟨_, e, _⟩ := hl; exact Heap.lt_size e
  refine wpAny_pyIter_list (s := St s h tk) hl (hq _ _ _ ⟨_, _, _, Walks.list hh _ ax (Nat.ne_of_lt hlt) items, ⟨⟨_, Heap.get?_push_size _ rfl, rfl, rfl⟩, hl.push _⟩, fun b hb => ?_, fun b hb => ?_, Kept.push _ _, fun i h' st b hb => ?_⟩)
  · show b < (h.push _).objs.size
    rw [Heap.size_push]
    rcases List.mem_cons.mp hb with rfl | hb
    · exact Nat.lt_succ_self _
    · rcases List.mem_cons.mp hb with rfl | hb
      · exact Nat.lt_succ_of_lt hlt
      · cases hb
  · rcases List.mem_cons.mp hb with rfl | hb
    · exact get_none_of_le (Nat.le_refl _)
    · cases hb
  · rcases List.mem_cons.mp hb with rfl | hb
    · obtain ⟨⟨o, ho, _⟩, _⟩ := st; exact ⟨o, ho⟩
    · cases hb

theorem src_range {r : Addr} {a b : Int} {t u v : Tok} {Q : Value → Shared → Prop} (hh : A.handled = none) (hr : IsRange h r a b 1 t u v)
    (ha : -(2 ^ 62) ≤ a) (ha' : a < 2 ^ 62) (hb : -(2 ^ 62) ≤ b) (hb' : b < 2 ^ 62)
    (hq : ∀ I h₂ tk₂, Src prog w A h h₂ I (b - a).toNat (fun i v => i < (b - a).toNat ∧ ∃ t, v = .int (a + i) t) → Q (.ref I) (St s h₂ tk₂)) : wpAny (model prog w) A (pyIter (.ref r)) Q E (St s h tk) := by
  refine wpAny_pyIter_range (s := St s h tk) hr (small_one ha ha' hb hb') (hq _ _ _ ⟨[h.objs.size], [h.objs.size], fun i h' => IsRangeIter h' h.objs.size (a + (i : Nat) * 1) (((b - a).toNat : Int) - (i : Nat)) 1, ?_, ?_, fun b hb => ?_, fun b hb => ?_, Kept.push _ _, fun i h' st b hb => ?_⟩)
  · have W := Walks.range (prog := prog) (w := w) (A := A) hh h.objs.size a 1 (b - a).toNat
    have e : (fun (i : Nat) v => ∃ t, v = Value.int (a + (i : Int) * 1) t) = fun (i : Nat) v => ∃ t, v = Value.int (a + (i : Int)) t := by funext i v; rw [Int.mul_one]
    rw [e] at W
    exact walks_in W
  · have e1 : Builtin.Range.rangeSize a b 1 = ((b - a).toNat : Int) := by rw [rangeSize_one]; split <;> omega
    show (h.push _).get? _ = _
    rw [e1]
    have e2 : a + ((0 : Nat) : Int) * 1 = a := by omega
    have e3 : (((b - a).toNat : Nat) : Int) - ((0 : Nat) : Int) = ((b - a).toNat : Int) := by omega
    rw [e2, e3]
    exact Heap.get?_push_size _ rfl
  · show b < (h.push _).objs.size
    rw [Heap.size_push]
    rcases List.mem_cons.mp hb with rfl | hb
    · exact Nat.lt_succ_self _
    · cases hb
  · rcases List.mem_cons.mp hb with rfl | hb
    · exact get_none_of_le (Nat.le_refl _)
    · cases hb
  · rcases List.mem_cons.mp hb with rfl | hb
    · exact ⟨_, st⟩
    · cases hb

/-- what a comprehension's tests and its element do -/
def Quiet (prog : Program) (w : World) (A : Around) (env : Env) (scope : Scope) (cl : List (Str × Addr)) (x : Str) (ifs : List Expr) (elt : Expr) (P : Nat → Value → Prop) (p : Value → Bool) (F : Value → Value → Prop) (h₁ : Heap) : Prop :=
  (∀ (s : Shared) C i v h₃ tk₃ m₃ E', P i v → h₃.Ns C m₃ → m₃ x = some v → Kept h₁ h₃ → wpAny (model prog w) A (tests ifs (compEnvC scope cl C env)) (Back s h₃ (· = p v)) E' (St s h₃ tk₃)) ∧
  (∀ (s : Shared) C i v h₃ tk₃ m₃ E', P i v → p v = true → h₃.Ns C m₃ → m₃ x = some v → Kept h₁ h₃ → wpAny (model prog w) A (eval elt (compEnvC scope cl C env)) (Back s h₃ (F v)) E' (St s h₃ tk₃))
def QuietL (prog : Program) (w : World) (A : Around) (env : Env) (scope : Scope) (cl : List (Str × Addr)) (x : Str) (ifs : List Expr) (elt : Expr) (P : Nat → Value → Prop) (p : Value → Bool) (G : Value → Array Value → Prop) (h₁ : Heap) : Prop :=
  (∀ (s : Shared) C i v h₃ tk₃ m₃ E', P i v → h₃.Ns C m₃ → m₃ x = some v → Kept h₁ h₃ → wpAny (model prog w) A (tests ifs (compEnvC scope cl C env)) (Back s h₃ (· = p v)) E' (St s h₃ tk₃)) ∧
  (∀ (s : Shared) C i v h₃ tk₃ m₃ E', P i v → p v = true → h₃.Ns C m₃ → m₃ x = some v → Kept h₁ h₃ → wpAny (model prog w) A (eval elt (compEnvC scope cl C env)) (BackL s h₃ (G v)) E' (St s h₃ tk₃))

theorem quiet_to {scope : Scope} {cl : List (Str × Addr)} {x : Str} {ifs : List Expr} {elt : Expr} {P : Nat → Value → Prop} {p : Value → Bool} {F : Value → Value → Prop} {h₁ h₂ : Heap} {wr : List Addr} {tk₂ : Nat}
    (q : Quiet prog w A env scope cl x ifs elt P p F h₁) (hk : Kept h₁ h₂) (hw : ∀ b ∈ wr, h₁.get? b = none) : QuietOnC prog w A env scope cl x ifs elt wr P p F (St s h₂ tk₂) where
  tests := fun C i v s₃ m₃ E' _ hp hn hm hks _ => wpAny_mono (q.1 s₃ C i v s₃.heap s₃.toks m₃ E' hp hn hm fun b o e => hks b o (fun hb => by rw [hw b hb] at e; cases e) (hk b o e))
    (fun ok s₄ ⟨a, h', tk', b, c⟩ => ⟨a, h', tk', b, c⟩) fun _ _ y => y
  elt := fun C i v s₃ m₃ E' _ hp hpv hn hm hks _ => wpAny_mono (q.2 s₃ C i v s₃.heap s₃.toks m₃ E' hp hpv hn hm fun b o e => hks b o (fun hb => by rw [hw b hb] at e; cases e) (hk b o e))
    (fun ok s₄ ⟨a, h', tk', b, c⟩ => ⟨a, h', tk', b, c⟩) fun _ _ y => y
theorem quietL_to {scope : Scope} {cl : List (Str × Addr)} {x : Str} {ifs : List Expr} {elt : Expr} {P : Nat → Value → Prop} {p : Value → Bool} {G : Value → Array Value → Prop} {h₁ h₂ : Heap} {wr : List Addr} {tk₂ : Nat}
    (q : QuietL prog w A env scope cl x ifs elt P p G h₁) (hk : Kept h₁ h₂) (hw : ∀ b ∈ wr, h₁.get? b = none) : QuietOnCO prog w A env scope cl x ifs elt wr P p G (St s h₂ tk₂) where
  tests := fun C i v s₃ m₃ E' _ hp hn hm hks _ => wpAny_mono (q.1 s₃ C i v s₃.heap s₃.toks m₃ E' hp hn hm fun b o e => hks b o (fun hb => by rw [hw b hb] at e; cases e) (hk b o e))
    (fun ok s₄ ⟨a, h', tk', b, c⟩ => ⟨a, h', tk', b, c⟩) fun _ _ y => y
  elt := fun C i v s₃ m₃ E' _ hp hpv hn hm hks _ => wpAny_mono (q.2 s₃ C i v s₃.heap s₃.toks m₃ E' hp hpv hn hm fun b o e => hks b o (fun hb => by rw [hw b hb] at e; cases e) (hk b o e))
    (fun y s₄ ⟨T, its, h', tk', a, b, c, d, e, f⟩ => by subst b; exact ⟨⟨T, its, a, d, e, f⟩, h', tk', rfl, c⟩) fun _ _ y => y

theorem kept_of {h₁ h₂ h' : Heap} {wr : List Addr} (hk : Kept h₁ h₂) (hw : ∀ b ∈ wr, h₁.get? b = none) (hks : ∀ b o, b ∉ wr → h₂.get? b = some o → h'.get? b = some o) : Kept h₁ h' :=
  fun b o e => hks b o (fun hb => by rw [hw b hb] at e; cases e) (hk b o e)
theorem none_of_kept {h₁ h₂ : Heap} {D : Addr} (hk : Kept h₁ h₂) (hD : h₂.get? D = none) : h₁.get? D = none := by
  cases e : h₁.get? D with
  | none => rfl
  | some o => rw [hk D o e] at hD; cases hD

variable {elt iter : Expr} {x y : Str} {px py : Pos} {ifs : List Expr} {scope : Scope} {cl : List (Str × Addr)} {pos spos : Pos}

/-- a comprehension's value -/
theorem x_comp {Q : Value → Shared → Prop} (p : Value → Bool) (F : Value → Value → Prop)
    (hclos : closureFor scope env = pure cl) (hcell : ∀ y ∈ scope.names, y.2 ≠ .cell) (hkind : scope.kind = .function)
    (hnames : ∀ y ∈ scope.names, y.2 = .local → scope.names.lookup y.1 = some .local) (hx : scope.names.lookup x = some .local)
    (hq : wpAny (model prog w) A (eval iter env) (fun xv s₁ => ∃ h₁ tk₁, s₁ = St s h₁ tk₁ ∧ wpAny (model prog w) A (pyIter xv) (fun it s₂ => ∃ I h₂ tk₂ n P, it = .ref I ∧ s₂ = St s h₂ tk₂ ∧ Src prog w A h₁ h₂ I n P ∧ n ≤ sizeLine ∧
      Quiet prog w A env scope cl x ifs elt P p F h₁ ∧
      (∀ D h' tk' ys (vs : List Value), h₁.get? D = none → h'.IsList D ys → vs.length = n → (∀ j v, vs[j]? = some v → P j v) → Paired F (vs.filter p) ys.toList → Kept h₁ h' → Q (.ref D) (St s h' tk'))) E s₁) E (St s h tk))
    (hs : ∀ x, foldedSetIterable iter env x = pure x) :
    wpAny (model prog w) A (eval (.ListComp elt [⟨.Name x px, iter, ifs, 0⟩] scope pos) env) Q E (St s h tk) := by
  refine wpAny_ListComp_free p F hclos hcell hkind hnames hx (wpAny_mono hq (fun xv s₁ h₁ => ?_) fun _ _ e => e) hs
  obtain ⟨h₁, tk₁, rfl, hq⟩ := h₁
  refine wpAny_mono hq (fun it s₂ h₂ => ?_) fun _ _ e => e
  obtain ⟨I, h₂, tk₂, n, P, rfl, rfl, ⟨fp, wr, S, W, hS, hfp, hw, hk, hlive⟩, hsz, hqu, hQ⟩ := h₂
  exact ⟨I, fp, wr, n, P, S, rfl, W, hsz, hS, hfp, quiet_to hqu hk hw, fun D h' tk' ys vs hD hl _ hlen hP hF hks => hQ D h' tk' ys vs (none_of_kept hk hD) hl hlen hP hF (kept_of hk hw hks)⟩

theorem x_compL {Q : Value → Shared → Prop} (p : Value → Bool) (G : Value → Array Value → Prop)
    (hclos : closureFor scope env = pure cl) (hcell : ∀ y ∈ scope.names, y.2 ≠ .cell) (hkind : scope.kind = .function)
    (hnames : ∀ y ∈ scope.names, y.2 = .local → scope.names.lookup y.1 = some .local) (hx : scope.names.lookup x = some .local)
    (hq : wpAny (model prog w) A (eval iter env) (fun xv s₁ => ∃ h₁ tk₁, s₁ = St s h₁ tk₁ ∧ wpAny (model prog w) A (pyIter xv) (fun it s₂ => ∃ I h₂ tk₂ n P, it = .ref I ∧ s₂ = St s h₂ tk₂ ∧ Src prog w A h₁ h₂ I n P ∧ n ≤ sizeLine ∧
      QuietL prog w A env scope cl x ifs elt P p G h₁ ∧
      (∀ D h' tk' ys (vs : List Value), h₁.get? D = none → h'.IsList D ys → vs.length = n → (∀ j v, vs[j]? = some v → P j v) → Paired (LstIs h₁ G h') (vs.filter p) ys.toList → Kept h₁ h' → Q (.ref D) (St s h' tk'))) E s₁) E (St s h tk))
    (hs : ∀ x, foldedSetIterable iter env x = pure x) :
    wpAny (model prog w) A (eval (.ListComp elt [⟨.Name x px, iter, ifs, 0⟩] scope pos) env) Q E (St s h tk) := by
  refine wpAny_ListComp_freeO p G hclos hcell hkind hnames hx (wpAny_mono hq (fun xv s₁ h₁ => ?_) fun _ _ e => e) hs
  obtain ⟨h₁, tk₁, rfl, hq⟩ := h₁
  refine wpAny_mono hq (fun it s₂ h₂ => ?_) fun _ _ e => e
  obtain ⟨I, h₂, tk₂, n, P, rfl, rfl, ⟨fp, wr, S, W, hS, hfp, hw, hk, hlive⟩, hsz, hqu, hQ⟩ := h₂
  refine ⟨I, fp, wr, n, P, S, rfl, W, hsz, hlive, hS, hfp, quietL_to hqu hk hw, fun D h' tk' ys vs hD hl _ hlen hP hF _ _ hks => hQ D h' tk' ys vs (none_of_kept hk hD) hl hlen hP (hF.mono fun a b z => ?_) (kept_of hk hw hks)⟩
  obtain ⟨T, its, e1, e2, e3, e4⟩ := z
  exact ⟨T, its, e1, none_of_kept hk e2, e3, e4⟩

/-- a plain local name that gets a comprehension's list -/
theorem x_acomp {Q : Flow → Shared → Prop} (p : Value → Bool) (F : Value → Value → Prop)
    (hsw : swapsWith (.ListComp elt [⟨.Name x px, iter, ifs, 0⟩] scope pos) (some (.Name y py)) spos.line env = pure true)
    (hclos : closureFor scope env = pure cl) (hcell : ∀ y ∈ scope.names, y.2 ≠ .cell) (hkind : scope.kind = .function)
    (hnames : ∀ y ∈ scope.names, y.2 = .local → scope.names.lookup y.1 = some .local) (hx : scope.names.lookup x = some .local)
    (hy : env.kindOf y = some .local) (hk : env.scope.kind = .function) (hL : env.locals = L)
    (hq : wpAny (model prog w) A (eval iter env) (fun xv s₁ => ∃ h₁ tk₁, s₁ = St s h₁ tk₁ ∧ Fr h₀ L h₁ m ∧ News h₀ L h₁ news ∧ wpAny (model prog w) A (pyIter xv) (fun it s₂ => ∃ I h₂ tk₂ n P, it = .ref I ∧ s₂ = St s h₂ tk₂ ∧ Src prog w A h₁ h₂ I n P ∧ n ≤ sizeLine ∧
      Quiet prog w A env scope cl x ifs elt P p F h₁ ∧
      (∀ D h' tk' ys (vs : List Value), h₁.get? D = none → h'.IsList D ys → vs.length = n → (∀ j v, vs[j]? = some v → P j v) → Paired F (vs.filter p) ys.toList → (∀ b o, b ≠ L → h₁.get? b = some o → h'.get? b = some o) →
        Fr h₀ L h' (up m y (.ref D)) → News h₀ L h' news → Q .next (St s h' tk'))) E s₁) E (St s h tk))
    (hs : ∀ x, foldedSetIterable iter env x = pure x) :
    wpAny (model prog w) A (exec (.Assign [.Name y py] (.ListComp elt [⟨.Name x px, iter, ifs, 0⟩] scope pos) spos) env) Q E (St s h tk) := by
  subst hL
  refine wpAny_Assign_ListComp_free p F hsw hclos hcell hkind hnames hx hy (by rw [hk]; rfl) (wpAny_mono hq (fun xv s₁ h₁ => ?_) fun _ _ e => e) hs
  obtain ⟨h₁, tk₁, rfl, FF, NN, hq⟩ := h₁
  refine wpAny_mono hq (fun it s₂ h₂ => ?_) fun _ _ e => e
  obtain ⟨I, h₂, tk₂, n, P, rfl, rfl, ⟨fp, wr, S, W, hS, hfp, hw, hkk, hlive⟩, hsz, hqu, hQ⟩ := h₂
  have hLw : env.locals ∉ wr := fun hm => by obtain ⟨o, _, _, ho, _⟩ := FF.ns; rw [hw _ hm] at ho; cases ho
  refine ⟨I, fp, wr, n, P, S, m, rfl, W, hsz, hS, hfp, hLw, FF.ns.keeps hkk, quiet_to hqu hkk hw, fun D h' tk' ys vs hD hl _ hlen hP hF hns hks => ?_⟩
  have hks' : ∀ b o, b ≠ env.locals → h₁.get? b = some o → h'.get? b = some o := fun b o hb e => hks b o hb (fun hm => by rw [hw b hm] at e; cases e) (hkk b o e)
  exact hQ D h' tk' ys vs (none_of_kept hkk hD) hl hlen hP hF hks' ⟨hns, fun b o e => hks' b o (fun z => by subst z; have := Heap.lt_size e; exact absurd (Nat.lt_of_lt_of_le this FF.above) (Nat.lt_irrefl _)) (FF.keep b o e), FF.above⟩
    fun q hq => ⟨hks' _ _ (NN q hq).2.1 (NN q hq).1, (NN q hq).2⟩

theorem x_acompL {Q : Flow → Shared → Prop} (p : Value → Bool) (G : Value → Array Value → Prop)
    (hsw : swapsWith (.ListComp elt [⟨.Name x px, iter, ifs, 0⟩] scope pos) (some (.Name y py)) spos.line env = pure true)
    (hclos : closureFor scope env = pure cl) (hcell : ∀ y ∈ scope.names, y.2 ≠ .cell) (hkind : scope.kind = .function)
    (hnames : ∀ y ∈ scope.names, y.2 = .local → scope.names.lookup y.1 = some .local) (hx : scope.names.lookup x = some .local)
    (hy : env.kindOf y = some .local) (hk : env.scope.kind = .function) (hL : env.locals = L)
    (hq : wpAny (model prog w) A (eval iter env) (fun xv s₁ => ∃ h₁ tk₁, s₁ = St s h₁ tk₁ ∧ Fr h₀ L h₁ m ∧ News h₀ L h₁ news ∧ wpAny (model prog w) A (pyIter xv) (fun it s₂ => ∃ I h₂ tk₂ n P, it = .ref I ∧ s₂ = St s h₂ tk₂ ∧ Src prog w A h₁ h₂ I n P ∧ n ≤ sizeLine ∧
      QuietL prog w A env scope cl x ifs elt P p G h₁ ∧
      (∀ D h' tk' ys (vs : List Value), h₁.get? D = none → h'.IsList D ys → vs.length = n → (∀ j v, vs[j]? = some v → P j v) → Paired (LstIs h₁ G h') (vs.filter p) ys.toList → (∀ b o, b ≠ L → h₁.get? b = some o → h'.get? b = some o) →
        Fr h₀ L h' (up m y (.ref D)) → News h₀ L h' news → Q .next (St s h' tk'))) E s₁) E (St s h tk))
    (hs : ∀ x, foldedSetIterable iter env x = pure x) :
    wpAny (model prog w) A (exec (.Assign [.Name y py] (.ListComp elt [⟨.Name x px, iter, ifs, 0⟩] scope pos) spos) env) Q E (St s h tk) := by
  subst hL
  rw [exec_Assign_Name_used _ _ _ _ hsw]
  refine wpAny_bind (wpAny_standAt (wpAny_bind ?_))
  show wpAny _ A (do let _ ← comprehension (.ListComp elt [⟨.Name x px, iter, ifs, 0⟩] scope pos) scope env _ (newList []) false (eval iter env) (some (assign (.Name y py) env))) _ _ _
  refine wpAny_bind (wpAny_mono (wpAny_comprehension_free (use := some (assign (.Name y py) env)) (Q := fun _ s' => Q .next s') rfl hs hclos hkind hnames
    (wpAny_mono hq (fun xv s₁ h₁ => ?_) fun _ _ e => e)) (fun _ s' hq => wpAny_pure (wpAny_pure hq)) fun _ _ e => e)
  obtain ⟨h₁, tk₁, rfl, FF, NN, hq⟩ := h₁
  refine wpAny_mono hq (fun it s₂ h₂ => ?_) fun _ _ e => e
  obtain ⟨I, h₂, tk₂, n, P, rfl, rfl, ⟨fp, wr, S, W, hS, hfp, hw, hkk, hlive⟩, hsz, hqu, hQ⟩ := h₂
  have hLw : env.locals ∉ wr := fun hm => by obtain ⟨o, _, _, ho, _⟩ := FF.ns; rw [hw _ hm] at ho; cases ho
  refine comp_block_walkCO (s₂ := St s h₂ tk₂) (RR := fun acc C => compPost (model prog w) A E (some (assign (.Name y py) env)) (fun _ s' => Q .next s') acc C) W hsz p G hlive hcell hkind hx hS hfp (quietL_to hqu hkk hw) ?_
  intro D C h' tk' m' ys vs hD hC hDC hnC hlD hplD hlen hP hF _ hks
  have hn₂ := FF.ns.keeps hkk
  have hLC : env.locals ≠ C := by rintro rfl; obtain ⟨o, _, _, ho, _⟩ := hn₂; rw [hC] at ho; cases ho
  have hLD : env.locals ≠ D := by rintro rfl; obtain ⟨o, _, _, ho, _⟩ := hn₂; rw [hD] at ho; cases ho
  show wpAny _ A (assign (.Name y py) env (.ref D)) _ _ _
  refine wpAny_assign_Name (wpAny_storeName_local hy (hn₂.at' fun o e => hks _ o hLw e) (fun h₄ hn₄ hs₄ => ?_) (by rw [hk]; rfl))
  refine ⟨m', hnC.sameBut hs₄ (Ne.symm hLC), fun h₅ hs₅ => ?_⟩
  have hks' : ∀ b o, b ≠ env.locals → h₁.get? b = some o → h₅.get? b = some o := fun b o hb e =>
    hs₅.extBut b o (by rintro rfl; rw [hkk _ _ e] at hC; cases hC) (hs₄.extBut b o hb (hks b o (fun hm => by rw [hw b hm] at e; cases e) (hkk b o e)))
  refine hQ D h₅ _ ys vs (none_of_kept hkk hD) ((hlD.extBut hs₄.extBut (Ne.symm hLD)).extBut hs₅.extBut hDC) hlen hP (hF.mono fun a b z => ?_) hks'
    ⟨hn₄.sameBut hs₅ hLC, fun b o e => hks' b o (fun z => by subst z; have := Heap.lt_size e; exact absurd (Nat.lt_of_lt_of_le this FF.above) (Nat.lt_irrefl _)) (FF.keep b o e), FF.above⟩
    fun q hq => ⟨hks' _ _ (NN q hq).2.1 (NN q hq).1, (NN q hq).2⟩
  obtain ⟨T, its, rfl, e2, eC, _, eD, e3, e4⟩ := z
  have hTL : T ≠ env.locals := by rintro rfl; obtain ⟨o, _, _, ho, _⟩ := hn₂; rw [e2] at ho; cases ho
  exact ⟨T, its, rfl, none_of_kept hkk e2, (e3.extBut hs₄.extBut hTL).extBut hs₅.extBut eC, e4⟩

/-- no tests -/
theorem x_tests0 {Q : Bool → Shared → Prop} {s : Shared} (hq : Q true s) : wpAny (model prog w) A (tests [] env) Q E s := wpAny_tests_nil hq
theorem x_tests1 {c : Expr} {Q : Bool → Shared → Prop} {s : Shared} (hq : wpAny (model prog w) A (isTrue c env (eval c env)) Q E s) : wpAny (model prog w) A (tests [c] env) Q E s := wpAny_tests_one hq

/-- the comprehension's own name -/
theorem x_cv {C : Addr} {v : Value} {Q : Value → Shared → Prop} {m₃ : Str → Option Value} (hn : h.Ns C m₃) (hv : m₃ x = some v) (hq : Q v (St s h tk))
    (hk : scope.kind = .function) (hl : scope.names.lookup x = some .local) (hd : (x == ("__debug__" : Str)) = false) : wpAny (model prog w) A (eval (.Name x pos) (compEnvC scope cl C env)) Q E (St s h tk) :=
  wpAny_Name (wpAny_loadName_local (s := St s h tk) hk (lookup_relabel_local hl) hn hv hq) hd
end
theorem paired_one {F : Value → Value → Prop} {v : Value} {r ys : List Value} (hp : Paired F (v :: r) ys) : ∃ y ys', ys = y :: ys' ∧ F v y ∧ Paired F r ys' := by
  cases hp with
  | cons a b => exact ⟨_, _, rfl, a, b⟩
theorem paired_nil {F : Value → Value → Prop} {ys : List Value} (hp : Paired F [] ys) : ys = [] := by cases hp; rfl
theorem filter_true (vs : List Value) : vs.filter (fun _ => true) = vs := List.filter_eq_self.mpr fun _ _ => rfl
theorem list_of_get {items : Array Value} {vs : List Value} (hlen : vs.length = items.size) (hP : ∀ (j : Nat) (v : Value), vs[j]? = some v → items[j]? = some v) : vs = items.toList := list_of_places hlen hP

end Mine

namespace Mine
local macro_rules | `(tactic| walk_at "m get") => `(tactic| (repeat (first | (with_reducible exact up_eq) | (with_reducible refine (up_ne (by decide +kernel)).trans ?_))))
local macro_rules | `(tactic| walk_at "m lv") => `(tactic| (with_reducible refine x_lv (by assumption) (by walk_at "m get") ?_ (by kernel_rfl!) (by kernel_rfl!) (by decide +kernel)))
local macro_rules | `(tactic| walk_at "m sv") => `(tactic| ((with_reducible refine x_sv (by assumption) (by assumption) (by kernel_rfl!) (by kernel_rfl!) ?_); intro _ _ _ _; (try dsimp only)))
local macro_rules | `(tactic| walk_at "m flt") => `(tactic| (repeat' (first
  | (with_reducible refine wpAny_BinOp ?_) | walk_at "m lv" | ((with_reducible refine x_fconst ?_); intro _ _) | ((with_reducible refine x_fadd ?_); intro _ _) | ((with_reducible refine x_fsub ?_); intro _ _) | ((with_reducible refine x_fmul ?_); intro _ _))))
local macro_rules | `(tactic| walk_at "m set") => `(tactic| ((with_reducible refine wpAny_execs_cons ?_); (with_reducible refine wpAny_Assign_Name ?_ (by kernel_rfl!)); walk_at "m flt"))
local macro_rules | `(tactic| walk_at "m arg") => `(tactic| (with_reducible refine args_cons ?_ (by with_unfolding_all rfl)))
local macro_rules | `(tactic| walk_at "m gr") => `(tactic| first | assumption | exact grF (by assumption) (by assumption))
local macro_rules | `(tactic| walk_at "m gn") => `(tactic| first
  | (with_reducible refine x_gl (Gr.n_yiq (by walk_at "m gr")) ?_ (by kernel_rfl!) (by kernel_rfl!) (by kernel_rfl!) (by decide +kernel))
  | (with_reducible refine x_gl (Gr.n_hls (by walk_at "m gr")) ?_ (by kernel_rfl!) (by kernel_rfl!) (by kernel_rfl!) (by decide +kernel))
  | (with_reducible refine x_gl (Gr.n_hsv (by walk_at "m gr")) ?_ (by kernel_rfl!) (by kernel_rfl!) (by kernel_rfl!) (by decide +kernel))
  | (with_reducible refine x_gl (Gr.n_told (by walk_at "m gr")) ?_ (by kernel_rfl!) (by kernel_rfl!) (by kernel_rfl!) (by decide +kernel))
  | (with_reducible refine x_gl (Gr.n_whole (by walk_at "m gr")) ?_ (by kernel_rfl!) (by kernel_rfl!) (by kernel_rfl!) (by decide +kernel))
  | (with_reducible refine x_gl (Gr.n_place (by walk_at "m gr")) ?_ (by kernel_rfl!) (by kernel_rfl!) (by kernel_rfl!) (by decide +kernel))
  | (with_reducible refine x_gl (Gr.n_line (by walk_at "m gr")) ?_ (by kernel_rfl!) (by kernel_rfl!) (by kernel_rfl!) (by decide +kernel))
  | (with_reducible refine x_gl (Gr.n_split (by walk_at "m gr")) ?_ (by kernel_rfl!) (by kernel_rfl!) (by kernel_rfl!) (by decide +kernel))
  | (with_reducible refine x_gl (Gr.n_replace (by walk_at "m gr")) ?_ (by kernel_rfl!) (by kernel_rfl!) (by kernel_rfl!) (by decide +kernel))
  | (with_reducible refine x_bl (Gr.n_max (by walk_at "m gr")) ?_ (by kernel_rfl!) (by kernel_rfl!) (by kernel_rfl!) (by kernel_rfl!) (by decide +kernel))
  | (with_reducible refine x_bl (Gr.n_min (by walk_at "m gr")) ?_ (by kernel_rfl!) (by kernel_rfl!) (by kernel_rfl!) (by kernel_rfl!) (by decide +kernel))
  | (with_reducible refine x_bl (Gr.n_len (by walk_at "m gr")) ?_ (by kernel_rfl!) (by kernel_rfl!) (by kernel_rfl!) (by kernel_rfl!) (by decide +kernel))
  | (with_reducible refine x_bl (Gr.n_range (by walk_at "m gr")) ?_ (by kernel_rfl!) (by kernel_rfl!) (by kernel_rfl!) (by kernel_rfl!) (by decide +kernel)))
local macro_rules | `(tactic| walk_at "m as") => `(tactic| ((with_unfolding_all refine assignInOrder_cons ?_); dsimp only; (with_reducible refine PyProof.Rows.assign_Name ?_); walk_at "m sv"))
local macro_rules | `(tactic| walk_at "m cl") => `(tactic| (with_reducible refine x_cl (by assumption) (by walk_at "m get") ?_ (by kernel_rfl!) (by kernel_rfl!) (by decide +kernel)))
local macro_rules | `(tactic| walk_at "m lvC") => `(tactic| (with_reducible refine x_lvC (by assumption) (by walk_at "m get") ?_ (by kernel_rfl!) (by kernel_rfl!) (by decide +kernel)))
local macro_rules | `(tactic| walk_at "m cc") => `(tactic| (with_reducible refine x_cc (by assumption) (by walk_at "m get") ?_ (by kernel_rfl!) (by kernel_rfl!) (by kernel_rfl!) (by kernel_rfl!) (by decide +kernel)))
local macro_rules | `(tactic| walk_at "m cv") => `(tactic| (with_reducible refine x_cv (by assumption) (by assumption) ?_ (by kernel_rfl!) (by kernel_rfl!) (by decide +kernel)))

section
variable {prog : Program} {w : World} {A : Around} {E : Value → Shared → Prop} {s : Shared} {h : Heap} {tk : Nat} {Q : Value → Shared → Prop}

/-- level / 4 -/
def qf (a : Int) : UInt64 := Float64.ofFrac (decide (a < 0) != decide ((4 : Int) < 0)) a.natAbs (4 : Int).natAbs

def small5 (a : Int) : Prop := 0 ≤ a ∧ a ≤ 4
theorem small5_cases {a : Int} (h : small5 a) : a = 0 ∨ a = 1 ∨ a = 2 ∨ a = 3 ∨ a = 4 := by obtain ⟨h1, h2⟩ := h; omega
theorem all5 {P : Int → Prop} (h : ∀ n : Fin 5, P (n.val : Int)) {a : Int} (ha : small5 a) : P a := by
  rcases small5_cases ha with rfl | rfl | rfl | rfl | rfl
  · exact h 0
  · exact h 1
  · exact h 2
  · exact h 3
  · exact h 4
theorem qf_fin {a : Int} (ha : small5 a) : Float64.isInf (qf a) = false := all5 (P := fun a => Float64.isInf (qf a) = false) (by decide +kernel) ha
def mx (a b c : Int) : Int := max (max a b) c
def mn (a b c : Int) : Int := min (min a b) c
theorem mx_small {a b c : Int} (ha : small5 a) (hb : small5 b) (hc : small5 c) : small5 (mx a b c) := by unfold small5 mx at *; omega
theorem mn_small {a b c : Int} (ha : small5 a) (hb : small5 b) (hc : small5 c) : small5 (mn a b c) := by unfold small5 mn at *; omega
theorem maxc_mx {a b c : Int} (ha : small5 a) (hb : small5 b) (hc : small5 c) : maxc (qf a) (qf b) (qf c) = qf (mx a b c) :=
  all5 (P := fun a => maxc (qf a) (qf b) (qf c) = qf (mx a b c)) (fun i => all5 (P := fun b => maxc (qf (i.val : Int)) (qf b) (qf c) = qf (mx (i.val : Int) b c)) (fun j => all5 (P := fun c => maxc (qf (i.val : Int)) (qf (j.val : Int)) (qf c) = qf (mx (i.val : Int) (j.val : Int) c)) (fun k => by
    revert i j k; decide +kernel) hc) hb) ha
theorem minc_mn {a b c : Int} (ha : small5 a) (hb : small5 b) (hc : small5 c) : minc (qf a) (qf b) (qf c) = qf (mn a b c) :=
  all5 (P := fun a => minc (qf a) (qf b) (qf c) = qf (mn a b c)) (fun i => all5 (P := fun b => minc (qf (i.val : Int)) (qf b) (qf c) = qf (mn (i.val : Int) b c)) (fun j => all5 (P := fun c => minc (qf (i.val : Int)) (qf (j.val : Int)) (qf c) = qf (mn (i.val : Int) (j.val : Int) c)) (fun k => by
    revert i j k; decide +kernel) hc) hb) ha
theorem all5x {P : Int → Int → Prop} (h : ∀ i j : Fin 5, P (i.val : Int) (j.val : Int)) {a b : Int} (ha : small5 a) (hb : small5 b) : P a b :=
  all5 (P := fun a => P a b) (fun i => all5 (P := fun b => P (i.val : Int) b) (fun j => h i j) hb) ha
/-- the lightness, the tests for zero: by the greatest and the least alone -/
def lightP (M m : UInt64) : UInt64 := Float64.div (Float64.add M m) 0x4000000000000000
def hlsP (M m : UInt64) : Bool := feq m M || (!Float64.isZero (Float64.sub M m) &&
  (bif fle (lightP M m) 0x3fe0000000000000 then !Float64.isZero (Float64.add M m) else !Float64.isZero (Float64.sub (Float64.sub 0x4000000000000000 M) m)))
def hsvP (M m : UInt64) : Bool := feq m M || (!Float64.isZero (Float64.sub M m) && !Float64.isZero M)
theorem hls_ok {a b c : Int} (ha : small5 a) (hb : small5 b) (hc : small5 c) : hlsOk (qf a) (qf b) (qf c) = true := by
  show hlsP (maxc (qf a) (qf b) (qf c)) (minc (qf a) (qf b) (qf c)) = true
  rw [maxc_mx ha hb hc, minc_mn ha hb hc]
  exact all5x (P := fun M m => hlsP (qf M) (qf m) = true) (by decide +kernel) (mx_small ha hb hc) (mn_small ha hb hc)
theorem hsv_ok {a b c : Int} (ha : small5 a) (hb : small5 b) (hc : small5 c) : hsvOk (qf a) (qf b) (qf c) = true := by
  show hsvP (maxc (qf a) (qf b) (qf c)) (minc (qf a) (qf b) (qf c)) = true
  rw [maxc_mx ha hb hc, minc_mn ha hb hc]
  exact all5x (P := fun M m => m ≤ M → hsvP (qf M) (qf m) = true) (by decide +kernel) (mx_small ha hb hc) (mn_small ha hb hc) (by unfold mx mn; omega)

theorem x_div4 {a : Int} {t u : Tok} (ha : small5 a) (hq : ∀ v tk', Q (.float (qf a) v) (St s h tk')) : wpAny (model prog w) A (binaryOp .Div (.int a t) (.int 4 u)) Q E (St s h tk) :=
  AutoIntOps.truediv_2 (s := St s h tk) (by decide) (by rw [show Float64.ofFrac _ _ _ = qf a from rfl, qf_fin ha]; decide) (hq _ _)


set_option maxHeartbeats 1000000 in
theorem told_spec {sp : Addr} {a b c : Int} {ta tb tc : Tok} (G : Gr h) (hroom : A.depth + 1 < recursionLimit) (hh : A.handled = none) (ha : small5 a) (hb : small5 b) (hc : small5 c)
    (hl : h.IsList sp #[.int a ta, .int b tb, .int c tc])
    (hq : ∀ T h' tk t1 t2 t3, Kept h h' → h.get? T = none → h'.IsList T #[.float (luma (qf a) (qf b) (qf c)) t1, .float (light (qf a) (qf b) (qf c)) t2, .float (maxc (qf a) (qf b) (qf c)) t3] → Q (.ref T) (St s h' tk)) :
    wpAny (model prog w) A (call (.ref 54) [.ref sp]) Q E (St s h tk) := by
  refine x_enter (binds := [("spot", .ref sp)]) (xs := ["spot"]) G G.fns.2.2.2.2.2.1 (by omega) (fun _ _ => rfl) (fun _ _ => by kernel_rfl!) rfl (by decide +kernel) ?_
  intro cd pm L h₁ tk' F _
  dsimp only [List.reverse, List.reverseAux, ups] at F
  have N : News h L h₁ [] := News.nil
  have hh' : (A.deeper (callEnv (fdOf 8 cd pm) L 54)).handled = none := hh
  have hd' : (A.deeper (callEnv (fdOf 8 cd pm) L 54)).depth < recursionLimit := hroom
  (with_reducible refine wpAny_execs_cons ?_)
  (with_reducible refine Assign_Tuple ?_ (by kernel_rfl!) (by kernel_rfl!))
  refine x_comp (cl := []) (fun _ => true) (fun v y => ∃ a t t', v = .int a t ∧ y = .float (qf a) t') (by kernel_rfl!) (by decide +kernel) (by kernel_rfl!) (by decide +kernel) (by kernel_rfl!) ?_ (by intro _; rfl)
  walk_at "m lv"
  refine ⟨_, _, rfl, ?_⟩
  refine src_list hh' (hl.at fun o e => F.keep _ o e) ?_
  intro I h₂ tk₂ hsrc
  refine ⟨I, h₂, tk₂, _, _, rfl, rfl, hsrc, by size_fits, ⟨fun s C i v h₃ tk₃ m₃ E' hP hn hm hk => x_tests0 ⟨rfl, _, _, rfl, Kept.refl _⟩, fun s C i v h₃ tk₃ m₃ E' hP _ hn hm hk => ?_⟩, ?_⟩
  · have hv : ∃ a t, v = .int a t ∧ small5 a := by
      rcases i with _ | _ | _ | i
      · simp at hP; exact ⟨_, _, hP.symm, ha⟩
      · simp at hP; exact ⟨_, _, hP.symm, hb⟩
      · simp at hP; exact ⟨_, _, hP.symm, hc⟩
      · simp at hP
    obtain ⟨a, t, rfl, ha⟩ := hv
    (with_reducible refine wpAny_BinOp ?_)
    refine x_cv hn hm ?_ (by kernel_rfl!) (by kernel_rfl!) (by decide +kernel)
    (with_reducible refine x_iconst ?_); intro _ _
    refine x_div4 ha ?_; intro u tk'
    exact ⟨⟨a, t, u, rfl, rfl⟩, _, _, rfl, Kept.refl _⟩
  · intro D h₄ tk₄ ys vs hD hlD hlen hP hF hk
    rw [filter_true, list_of_get hlen hP] at hF
    obtain ⟨y1, r1, e1, ⟨_, _, u1, z1, rfl⟩, hF⟩ := paired_one hF
    obtain ⟨y2, r2, e2, ⟨_, _, u2, z2, rfl⟩, hF⟩ := paired_one hF
    obtain ⟨y3, r3, e3, ⟨_, _, u3, z3, rfl⟩, hF⟩ := paired_one hF
    cases z1; cases z2; cases z3
    have e4 := paired_nil hF
    subst e4 e3 e2
    have hlD' : h₄.IsList D [.float (qf a) u1, .float (qf b) u2, .float (qf c) u3].toArray := by rw [← e1]; simpa using hlD
    clear hlD e1
    have F₄ := frK F hk; have N₄ := newsK N hk
    refine x_unpack F₄ N₄ hlD' hh' rfl rfl ?_
    intro h₅ F₅ N₅
    walk_at "m as"
    walk_at "m as"
    walk_at "m as"
    refine assignInOrder_nil ?_
    (with_reducible refine wpAny_execs_cons ?_)
    (with_reducible refine wpAny_Assign_Name ?_ (by kernel_rfl!))
    (with_reducible refine Subscript_ ?_)
    (with_reducible refine Call_ ?_ (by with_unfolding_all rfl))
    walk_at "m gn"
    (with_reducible refine x_with (Gr.fns (by walk_at "m gr")).2.2.1 ?_ (by with_unfolding_all rfl))
    walk_at "m arg"; walk_at "m lv"
    walk_at "m arg"; walk_at "m lv"
    walk_at "m arg"; walk_at "m lv"
    (with_reducible refine args_nil ?_)
    refine ⟨Kept.refl _, ?_⟩
    refine yiq_spec (by walk_at "m gr") hd' ?_
    intro T h₆ tk₆ u i ti q tq hk₆ hT
    rename_i F N
    have F := frK F hk₆; have N := newsK N hk₆; clear hk₆
    (with_reducible refine x_iconst ?_); intro _ _
    refine x_titem (j := 0) (x := .float (luma (qf a) (qf b) (qf c)) u) (l := [.float (luma (qf a) (qf b) (qf c)) u, .float i ti, .float q tq]) hT (by decide) (by decide) (by kernel_rfl!) (by kernel_rfl!) ?_ (by with_unfolding_all rfl)
    walk_at "m sv"
    (with_reducible refine wpAny_execs_cons ?_)
    (with_reducible refine wpAny_Assign_Name ?_ (by kernel_rfl!))
    (with_reducible refine Subscript_ ?_)
    (with_reducible refine Call_ ?_ (by with_unfolding_all rfl))
    walk_at "m gn"
    (with_reducible refine x_with (Gr.fns (by walk_at "m gr")).2.2.2.1 ?_ (by with_unfolding_all rfl))
    walk_at "m arg"; walk_at "m lv"
    walk_at "m arg"; walk_at "m lv"
    walk_at "m arg"; walk_at "m lv"
    (with_reducible refine args_nil ?_)
    refine ⟨Kept.refl _, ?_⟩
    refine hls_spec (by walk_at "m gr") hd' hh' (hls_ok ha hb hc) ?_
    intro T h₆ tk₆ hb' th u sb ts hk₆ hT
    rename_i F N
    have F := frK F hk₆; have N := newsK N hk₆; clear hk₆
    (with_reducible refine x_iconst ?_); intro _ _
    refine x_titem (j := 1) (x := .float (light (qf a) (qf b) (qf c)) u) (l := [.float hb' th, .float (light (qf a) (qf b) (qf c)) u, .float sb ts]) hT (by decide) (by decide) (by kernel_rfl!) (by kernel_rfl!) ?_ (by with_unfolding_all rfl)
    walk_at "m sv"
    (with_reducible refine wpAny_execs_cons ?_)
    (with_reducible refine wpAny_Return_some ?_)
    (with_reducible refine x_list ?_)
    (with_reducible refine wpAny_items_cons ?_ (by with_unfolding_all rfl)); walk_at "m lv"
    (with_reducible refine wpAny_items_cons ?_ (by with_unfolding_all rfl)); walk_at "m lv"
    (with_reducible refine wpAny_items_cons ?_ (by with_unfolding_all rfl))
    (with_reducible refine Subscript_ ?_)
    (with_reducible refine Call_ ?_ (by with_unfolding_all rfl))
    walk_at "m gn"
    (with_reducible refine x_with (Gr.fns (by walk_at "m gr")).2.2.2.2.1 ?_ (by with_unfolding_all rfl))
    walk_at "m arg"; walk_at "m lv"
    walk_at "m arg"; walk_at "m lv"
    walk_at "m arg"; walk_at "m lv"
    (with_reducible refine args_nil ?_)
    refine ⟨Kept.refl _, ?_⟩
    refine hsv_spec (by walk_at "m gr") hd' hh' (hsv_ok ha hb hc) ?_
    intro T h₆ tk₆ hb' th sb ts u hk₆ hT
    rename_i F N
    have F := frK F hk₆; have N := newsK N hk₆; clear hk₆
    (with_reducible refine x_iconst ?_); intro _ _
    refine x_titem (j := 2) (x := .float (maxc (qf a) (qf b) (qf c)) u) (l := [.float hb' th, .float sb ts, .float (maxc (qf a) (qf b) (qf c)) u]) hT (by decide) (by decide) (by kernel_rfl!) (by kernel_rfl!) ?_ (by with_unfolding_all rfl)
    refine wpAny_items_nil ⟨by size_fits, _, _, rfl, ?_⟩
    exact hq _ _ _ _ _ _ (Kept.trans F.keep (Kept.push _ _)) (none_of_kept F.keep (get_none_of_le (Nat.le_refl _))) (lstO_is _ _)
end
end Mine

namespace Mine

/-- a list of ints -/
def Ints (h : Heap) (a : Addr) (ns : List Int) : Prop := ∃ vs : List Value, h.IsList a vs.toArray ∧ IntsAre vs ns
theorem Ints.keeps {h h' : Heap} {a : Addr} {ns : List Int} (x : Ints h a ns) (hk : Kept h h') : Ints h' a ns := by
  obtain ⟨vs, hl, hi⟩ := x
  exact ⟨vs, hl.at fun o e => hk _ o e, hi⟩
theorem lstK {h h' : Heap} {a : Addr} {its : Array Value} (x : h.IsList a its) (hk : Kept h h') : h'.IsList a its := x.at fun o e => hk _ o e

section
variable {prog : Program} {w : World} {A : Around} {E : Value → Shared → Prop} {s : Shared} {h h₀ : Heap} {tk : Nat} {L : Addr} {m : Str → Option Value} {news : List (Addr × Obj)} {env : Env}
variable {a b : Int} {t u : Tok} {Q : Value → Shared → Prop}

theorem x_iadd (hq : ∀ v tk', Q (.int (a + b) v) (St s h tk')) : wpAny (model prog w) A (binaryOp .Add (.int a t) (.int b u)) Q E (St s h tk) := AutoIntOps.add_0 (s := St s h tk) (hq _ _)
theorem x_isub (hq : ∀ v tk', Q (.int (a - b) v) (St s h tk')) : wpAny (model prog w) A (binaryOp .Sub (.int a t) (.int b u)) Q E (St s h tk) := AutoIntOps.sub_0 (s := St s h tk) (hq _ _)
theorem mulOk {a b : Int} (ha : -(2 ^ 62) < a) (ha' : a < 2 ^ 62) : IntMulOk a b := IntMulOk.of_left (intBits_le_64 (by omega) (by omega))
theorem x_imul (ha : -(2 ^ 62) < a) (ha' : a < 2 ^ 62) (hq : ∀ v tk', Q (.int (a * b) v) (St s h tk')) : wpAny (model prog w) A (binaryOp .Mult (.int a t) (.int b u)) Q E (St s h tk) :=
  AutoIntOps.mul_0 (s := St s h tk) (hq _ _) (mulOk ha ha')
theorem x_imod (hb : b ≠ 0) (hq : ∀ v tk', Q (.int (a.fmod b) v) (St s h tk')) : wpAny (model prog w) A (binaryOp .Mod (.int a t) (.int b u)) Q E (St s h tk) :=
  mod_int' (s := St s h tk) hb (hq _ _)
theorem x_idiv (hb : b ≠ 0) (hb' : b.natAbs < 1073741824) (hq : ∀ v tk', Q (.int (a.fdiv b) v) (St s h tk')) : wpAny (model prog w) A (binaryOp .FloorDiv (.int a t) (.int b u)) Q E (St s h tk) :=
  floordiv_int (s := St s h tk) hb (hq _ _) (.inl (PyProof.noPylong_small hb'))
theorem x_ilt (hq : Q (.bool (decide (a < b))) (St s h tk)) : wpAny (model prog w) A (compareOp .Lt (.int a t) (.int b u)) Q E (St s h tk) := wpAny_lt_int (s := St s h tk) hq

theorem x_maxL {l : Addr} {ns : List Int} (hh : A.handled = none) (hl : Ints h l ns) (hne : 0 < ns.length)
    (hq : ∀ h' M t tk', Kept h h' → M ∈ ns → (∀ a, a ∈ ns → a ≤ M) → Q (.int M t) (St s h' tk')) : wpAny (model prog w) A (call (.builtin "max") [.ref l]) Q E (St s h tk) := by
  obtain ⟨vs, hl, hi⟩ := hl
  obtain ⟨xs, e⟩ := hi.allInts.items
  have hns : ns = xs.toList.map (·.1) := by rw [← hi.numsOf, ← nums_intItems, ← e]
  have hsz : 0 < xs.size := by have h3 := hne; rw [hns, List.length_map, Array.length_toList] at h3; exact h3
  rw [e] at hl
  refine max_intList (s := St s h tk) hh hl hsz fun v h' tk hv hk => ?_
  obtain ⟨t, rfl⟩ := intItems_at hv
  obtain ⟨h1, h2⟩ := argBest_gt (numAt xs) (xs.size - 1)
  refine hq _ _ t tk hk ?_ fun a ha => ?_
  · rw [hns, numAt_eq]; exact getD_mem (by rw [List.length_map, Array.length_toList]; omega)
  · rw [hns] at ha
    obtain ⟨j, hj, rfl⟩ := mem_getD ha
    rw [List.length_map, Array.length_toList] at hj
    rw [← numAt_eq]; exact h2 j (by omega)
theorem x_minL {l : Addr} {ns : List Int} (hh : A.handled = none) (hl : Ints h l ns) (hne : 0 < ns.length)
    (hq : ∀ h' M t tk', Kept h h' → M ∈ ns → (∀ a, a ∈ ns → M ≤ a) → Q (.int M t) (St s h' tk')) : wpAny (model prog w) A (call (.builtin "min") [.ref l]) Q E (St s h tk) := by
  obtain ⟨vs, hl, hi⟩ := hl
  obtain ⟨xs, e⟩ := hi.allInts.items
  have hns : ns = xs.toList.map (·.1) := by rw [← hi.numsOf, ← nums_intItems, ← e]
  have hsz : 0 < xs.size := by have h3 := hne; rw [hns, List.length_map, Array.length_toList] at h3; exact h3
  rw [e] at hl
  refine min_intList (s := St s h tk) hh hl hsz fun v h' tk hv hk => ?_
  obtain ⟨t, rfl⟩ := intItems_at hv
  obtain ⟨h1, h2⟩ := argBest_lt (numAt xs) (xs.size - 1)
  refine hq _ _ t tk hk ?_ fun a ha => ?_
  · rw [hns, numAt_eq]; exact getD_mem (by rw [List.length_map, Array.length_toList]; omega)
  · rw [hns] at ha
    obtain ⟨j, hj, rfl⟩ := mem_getD ha
    rw [List.length_map, Array.length_toList] at hj
    rw [← numAt_eq]; exact h2 j (by omega)
theorem x_max2 (hh : A.handled = none) (hq : ∀ h' v tk', Kept h h' → Q (.int (max a b) v) (St s h' tk')) : wpAny (model prog w) A (call (.builtin "max") [.int a t, .int b u]) Q E (St s h tk) :=
  max_two_ints (s := St s h tk) hh fun h' tk' hk => by
    by_cases c : b > a
    · have e : max a b = b := by omega
      have := hq h' u tk' hk
      rw [e] at this
      simpa only [if_pos c] using this
    · have e : max a b = a := by omega
      have := hq h' t tk' hk
      rw [e] at this
      simpa only [if_neg c] using this

theorem x_len {l : Addr} {items : Array Value} (hl : h.IsList l items) (hfit : (items.size : Int) < 2 ^ 63) (hq : ∀ v tk', Q (.int items.size v) (St s h tk')) : wpAny (model prog w) A (call (.builtin "len") [.ref l]) Q E (St s h tk) :=
  PyProof.Rows.len_list (s := St s h tk) hl hfit (hq _ _)
theorem x_litem {value slice : Expr} {l : Addr} {items : Array Value} {x : Value} (hl : h.IsList l items) (h0 : 0 ≤ a) (hhi : a < 2 ^ 63) (hx : items[a.toNat]? = some x) (hq : Q x (St s h tk))
    (hs : subscripted slice false (.ref l) (.int a u) = operate [.ref l, .int a u] (getItem (.ref l) (.int a u))) :
    wpAny (model prog w) A (subscriptTail value slice (.ref l) (.int a u)) Q E (St s h tk) :=
  tail_any (s := St s h tk) hl.typeIs slot_list_getitem.lookup (wpAny_getItem_list hl h0 hhi hx hq) hs
theorem x_rng1 (hq : ∀ r h' tk' t' u' v', Kept h h' → h.get? r = none → IsRange h' r 0 a 1 t' u' v' → Q (.ref r) (St s h' tk')) : wpAny (model prog w) A (call (.type "range") [.int a t]) Q E (St s h tk) :=
  call_range_1 (s := St s h tk) (hq _ _ _ _ _ _ (Kept.push _ _) (get_none_of_le (Nat.le_refl _)) (IsRange.new _ _ _ _ _ _ _))
theorem x_rng2 (hq : ∀ r h' tk' t' u' v', Kept h h' → h.get? r = none → IsRange h' r a b 1 t' u' v' → Q (.ref r) (St s h' tk')) : wpAny (model prog w) A (call (.type "range") [.int a t, .int b u]) Q E (St s h tk) :=
  call_range_2 (s := St s h tk) (hq _ _ _ _ _ _ (Kept.push _ _) (get_none_of_le (Nat.le_refl _)) (IsRange.new _ _ _ _ _ _ _))
theorem x_in {l : Addr} {ns : List Int} (hl : Ints h l ns) (hq : Q (.bool (decide (a ∈ ns))) (St s h tk)) : wpAny (model prog w) A (compareOp .In (.int a t) (.ref l)) Q E (St s h tk) :=
  KTD.in_nums (s := St s h tk) hl (Kept.refl _) (by
    have : KTD.inNums a ns = decide (a ∈ ns) := by
      rw [← KTD.any_nums]
      rw [Bool.eq_iff_iff]
      simp
    rw [this]; exact hq)
theorem x_notin {l : Addr} {ns : List Int} (hl : Ints h l ns) (hq : Q (.bool (!decide (a ∈ ns))) (St s h tk)) : wpAny (model prog w) A (compareOp .NotIn (.int a t) (.ref l)) Q E (St s h tk) :=
  KTD.notin_nums (s := St s h tk) hl (Kept.refl _) (by
    have : KTD.inNums a ns = decide (a ∈ ns) := by
      rw [← KTD.any_nums]
      rw [Bool.eq_iff_iff]
      simp
    rw [this]; exact hq)
end
end Mine

namespace Mine
local macro_rules | `(tactic| walk_at "m get") => `(tactic| (repeat (first | (with_reducible exact up_eq) | (with_reducible refine (up_ne (by decide +kernel)).trans ?_))))
local macro_rules | `(tactic| walk_at "m lv") => `(tactic| (with_reducible refine x_lv (by assumption) (by walk_at "m get") ?_ (by kernel_rfl!) (by kernel_rfl!) (by decide +kernel)))
local macro_rules | `(tactic| walk_at "m sv") => `(tactic| ((with_reducible refine x_sv (by assumption) (by assumption) (by kernel_rfl!) (by kernel_rfl!) ?_); intro _ _ _ _; (try dsimp only)))
local macro_rules | `(tactic| walk_at "m flt") => `(tactic| (repeat' (first
  | (with_reducible refine wpAny_BinOp ?_) | walk_at "m lv" | ((with_reducible refine x_fconst ?_); intro _ _) | ((with_reducible refine x_fadd ?_); intro _ _) | ((with_reducible refine x_fsub ?_); intro _ _) | ((with_reducible refine x_fmul ?_); intro _ _))))
local macro_rules | `(tactic| walk_at "m set") => `(tactic| ((with_reducible refine wpAny_execs_cons ?_); (with_reducible refine wpAny_Assign_Name ?_ (by kernel_rfl!)); walk_at "m flt"))
local macro_rules | `(tactic| walk_at "m arg") => `(tactic| (with_reducible refine args_cons ?_ (by with_unfolding_all rfl)))
local macro_rules | `(tactic| walk_at "m gr") => `(tactic| first | assumption | exact grF (by assumption) (by assumption))
local macro_rules | `(tactic| walk_at "m gn") => `(tactic| first
  | (with_reducible refine x_gl (Gr.n_yiq (by walk_at "m gr")) ?_ (by kernel_rfl!) (by kernel_rfl!) (by kernel_rfl!) (by decide +kernel))
  | (with_reducible refine x_gl (Gr.n_hls (by walk_at "m gr")) ?_ (by kernel_rfl!) (by kernel_rfl!) (by kernel_rfl!) (by decide +kernel))
  | (with_reducible refine x_gl (Gr.n_hsv (by walk_at "m gr")) ?_ (by kernel_rfl!) (by kernel_rfl!) (by kernel_rfl!) (by decide +kernel))
  | (with_reducible refine x_gl (Gr.n_told (by walk_at "m gr")) ?_ (by kernel_rfl!) (by kernel_rfl!) (by kernel_rfl!) (by decide +kernel))
  | (with_reducible refine x_gl (Gr.n_whole (by walk_at "m gr")) ?_ (by kernel_rfl!) (by kernel_rfl!) (by kernel_rfl!) (by decide +kernel))
  | (with_reducible refine x_gl (Gr.n_place (by walk_at "m gr")) ?_ (by kernel_rfl!) (by kernel_rfl!) (by kernel_rfl!) (by decide +kernel))
  | (with_reducible refine x_gl (Gr.n_line (by walk_at "m gr")) ?_ (by kernel_rfl!) (by kernel_rfl!) (by kernel_rfl!) (by decide +kernel))
  | (with_reducible refine x_gl (Gr.n_split (by walk_at "m gr")) ?_ (by kernel_rfl!) (by kernel_rfl!) (by kernel_rfl!) (by decide +kernel))
  | (with_reducible refine x_gl (Gr.n_replace (by walk_at "m gr")) ?_ (by kernel_rfl!) (by kernel_rfl!) (by kernel_rfl!) (by decide +kernel))
  | (with_reducible refine x_bl (Gr.n_max (by walk_at "m gr")) ?_ (by kernel_rfl!) (by kernel_rfl!) (by kernel_rfl!) (by kernel_rfl!) (by decide +kernel))
  | (with_reducible refine x_bl (Gr.n_min (by walk_at "m gr")) ?_ (by kernel_rfl!) (by kernel_rfl!) (by kernel_rfl!) (by kernel_rfl!) (by decide +kernel))
  | (with_reducible refine x_bl (Gr.n_len (by walk_at "m gr")) ?_ (by kernel_rfl!) (by kernel_rfl!) (by kernel_rfl!) (by kernel_rfl!) (by decide +kernel))
  | (with_reducible refine x_bl (Gr.n_range (by walk_at "m gr")) ?_ (by kernel_rfl!) (by kernel_rfl!) (by kernel_rfl!) (by kernel_rfl!) (by decide +kernel)))
local macro_rules | `(tactic| walk_at "m as") => `(tactic| ((with_unfolding_all refine assignInOrder_cons ?_); dsimp only; (with_reducible refine PyProof.Rows.assign_Name ?_); walk_at "m sv"))

section
variable {prog : Program} {w : World} {A : Around} {E : Value → Shared → Prop} {s : Shared} {h : Heap} {tk : Nat} {Q : Value → Shared → Prop}

def wmax (a b c : Int) : Int := max (max a b) c
def wmin (a b c : Int) : Int := min (min a b) c
def wsum (a b c : Int) : Int := 30 * a + 59 * b + 11 * c

set_option maxHeartbeats 1000000 in
theorem whole_spec {sp : Addr} {a b c : Int} {ta tb tc : Tok} (G : Gr h) (hroom : A.depth < recursionLimit) (hh : A.handled = none) (ha : small5 a) (hb : small5 b) (hc : small5 c)
    (hl : h.IsList sp #[.int a ta, .int b tb, .int c tc])
    (hq : ∀ T h' tk t1 t2 t3, Kept h h' → h.get? T = none → h'.IsList T #[.int (wsum a b c) t1, .int (wmax a b c + wmin a b c) t2, .int (wmax a b c) t3] → Q (.ref T) (St s h' tk)) :
    wpAny (model prog w) A (call (.ref 61) [.ref sp]) Q E (St s h tk) := by
  refine x_enter (binds := [("spot", .ref sp)]) (xs := ["spot"]) G G.fns.2.2.2.2.2.2.1 (by omega) (fun _ _ => rfl) (fun _ _ => by kernel_rfl!) rfl (by decide +kernel) ?_
  intro cd pm L h₁ tk' F _
  dsimp only [List.reverse, List.reverseAux, ups] at F
  have N : News h L h₁ [] := News.nil
  have hh' : (A.deeper (callEnv (fdOf 9 cd pm) L 61)).handled = none := hh
  have hI : Ints h sp [a, b, c] := ⟨[.int a ta, .int b tb, .int c tc], hl, .cons _ _ (.cons _ _ (.cons _ _ .nil))⟩
  have hmax : ∀ M, M ∈ [a, b, c] → (∀ x, x ∈ [a, b, c] → x ≤ M) → M = wmax a b c := fun M h1 h2 => by
    have q1 := h2 a (by simp); have q2 := h2 b (by simp); have q3 := h2 c (by simp)
    simp at h1; unfold wmax; omega
  have hmin : ∀ M, M ∈ [a, b, c] → (∀ x, x ∈ [a, b, c] → M ≤ x) → M = wmin a b c := fun M h1 h2 => by
    have q1 := h2 a (by simp); have q2 := h2 b (by simp); have q3 := h2 c (by simp)
    simp at h1; unfold wmin; omega
  (with_reducible refine wpAny_execs_cons ?_)
  (with_reducible refine Assign_Tuple ?_ (by kernel_rfl!) (by kernel_rfl!))
  walk_at "m lv"
  refine x_unpack (vs := [.int a ta, .int b tb, .int c tc]) F N (lstK hl F.keep) hh' rfl rfl ?_
  intro h₅ F₅ N₅
  walk_at "m as"
  walk_at "m as"
  walk_at "m as"
  rename_i F N
  refine assignInOrder_nil ?_
  (with_reducible refine wpAny_execs_cons ?_)
  (with_reducible refine wpAny_Return_some ?_)
  (with_reducible refine x_list ?_)
  (with_reducible refine wpAny_items_cons ?_ (by with_unfolding_all rfl))
  (with_reducible refine wpAny_BinOp ?_)
  (with_reducible refine wpAny_BinOp ?_)
  (with_reducible refine wpAny_BinOp ?_)
  (with_reducible refine x_iconst ?_); intro _ _
  walk_at "m lv"
  (with_reducible refine x_imul (by decide) (by decide) ?_); intro _ _
  (with_reducible refine wpAny_BinOp ?_)
  (with_reducible refine x_iconst ?_); intro _ _
  walk_at "m lv"
  (with_reducible refine x_imul (by decide) (by decide) ?_); intro _ _
  (with_reducible refine x_iadd ?_); intro _ _
  (with_reducible refine wpAny_BinOp ?_)
  (with_reducible refine x_iconst ?_); intro _ _
  walk_at "m lv"
  (with_reducible refine x_imul (by decide) (by decide) ?_); intro _ _
  (with_reducible refine x_iadd ?_); intro t1 _
  (with_reducible refine wpAny_items_cons ?_ (by with_unfolding_all rfl))
  (with_reducible refine wpAny_BinOp ?_)
  (with_reducible refine Call_ ?_ (by with_unfolding_all rfl))
  walk_at "m gn"
  (with_reducible refine callWith_builtin1 ?_ (by with_unfolding_all rfl) (by with_unfolding_all rfl))
  walk_at "m arg"; walk_at "m lv"; (with_reducible refine args_nil ?_)
  refine x_maxL hh' (hI.keeps F.keep) (by simp) ?_
  intro h₆ M t tk₆ hk hM1 hM2
  have eM := hmax M hM1 hM2
  subst eM
  replace F := frK F hk; replace N := newsK N hk; clear hk hM1 hM2
  (with_reducible refine Call_ ?_ (by with_unfolding_all rfl))
  walk_at "m gn"
  (with_reducible refine callWith_builtin1 ?_ (by with_unfolding_all rfl) (by with_unfolding_all rfl))
  walk_at "m arg"; walk_at "m lv"; (with_reducible refine args_nil ?_)
  refine x_minL hh' (hI.keeps F.keep) (by simp) ?_
  intro h₇ M t' tk₇ hk hM1 hM2
  have eM := hmin M hM1 hM2
  subst eM
  replace F := frK F hk; replace N := newsK N hk; clear hk hM1 hM2
  (with_reducible refine x_iadd ?_); intro t2 _
  (with_reducible refine wpAny_items_cons ?_ (by with_unfolding_all rfl))
  (with_reducible refine Call_ ?_ (by with_unfolding_all rfl))
  walk_at "m gn"
  (with_reducible refine callWith_builtin1 ?_ (by with_unfolding_all rfl) (by with_unfolding_all rfl))
  walk_at "m arg"; walk_at "m lv"; (with_reducible refine args_nil ?_)
  refine x_maxL hh' (hI.keeps F.keep) (by simp) ?_
  intro h₈ M t3 tk₈ hk hM1 hM2
  have eM := hmax M hM1 hM2
  subst eM
  replace F := frK F hk; replace N := newsK N hk; clear hk hM1 hM2
  refine wpAny_items_nil ⟨by size_fits, _, _, rfl, ?_⟩
  exact hq _ _ _ _ _ _ (Kept.trans F.keep (Kept.push _ _)) (none_of_kept F.keep (get_none_of_le (Nat.le_refl _))) (lstO_is _ _)
end
end Mine

namespace Mine

/-- what a block that is made in env keeps of env's cells -/
def clos (env : Env) : List (Str × NameKind) → List (Str × Addr) → List (Str × Addr)
  | [], acc => acc
  | (n, k) :: r, acc => if k == .free then clos env r ((n, (env.cells.lookup n).getD 0) :: acc) else clos env r acc

theorem clos_for {env : Env} {f : Str × NameKind → List (Str × Addr) → Sem (ForInStep (List (Str × Addr)))}
    (hf : ∀ n k cs, f (n, k) cs = if (k == .free) = true then (do let c ← cellOf env n; pure (.yield ((n, c) :: cs))) else pure (.yield cs)) :
    ∀ (names : List (Str × NameKind)) (acc : List (Str × Addr)), (∀ x ∈ names, x.2 = .free → (env.cells.lookup x.1).isSome = true) → forIn names acc f = (pure (clos env names acc) : Sem _)
  | [], acc, _ => rfl
  | (n, k) :: r, acc, h => by
    rw [List.forIn_cons, hf]
    by_cases hk : (k == .free) = true
    · have hs := h (n, k) (.head _) (by simpa using hk)
      obtain ⟨c, hc⟩ := Option.isSome_iff_exists.mp hs
      have hc' : env.cells.lookup n = some c := hc
      have ec : cellOf env n = pure c := by unfold cellOf; rw [hc']
      rw [if_pos hk, ec]
      show (forIn r ((n, c) :: acc) f : Sem _) = _
      rw [clos_for hf r _ fun x hx => h x (.tail _ hx)]
      show _ = (pure (if (k == .free) = true then clos env r ((n, (env.cells.lookup n).getD 0) :: acc) else clos env r acc) : Sem _)
      rw [if_pos hk, hc']; rfl
    · rw [if_neg hk]
      show (forIn r acc f : Sem _) = _
      rw [clos_for hf r _ fun x hx => h x (.tail _ hx)]
      show _ = (pure (if (k == .free) = true then clos env r ((n, (env.cells.lookup n).getD 0) :: acc) else clos env r acc) : Sem _)
      rw [if_neg hk]

theorem closureFor_eq {scope : Scope} {env : Env} (h : ∀ x ∈ scope.names, x.2 = .free → (env.cells.lookup x.1).isSome = true) : closureFor scope env = pure (clos env scope.names []) := by
  simp only [closureFor]
  rw [clos_for (env := env) (by intro n k cs; rfl) scope.names [] h]
  rfl

theorem clos_lookup {env : Env} {x : Str} : ∀ (names : List (Str × NameKind)) (acc : List (Str × Addr)), ((x, NameKind.free) ∈ names ∨ acc.lookup x = some ((env.cells.lookup x).getD 0)) →
    (clos env names acc).lookup x = some ((env.cells.lookup x).getD 0)
  | [], acc, h => h.elim (fun z => nomatch z) id
  | (n, k) :: r, acc, h => by
    show List.lookup x (if (k == .free) = true then clos env r ((n, (env.cells.lookup n).getD 0) :: acc) else clos env r acc) = _
    by_cases hk : (k == .free) = true
    · rw [if_pos hk]
      refine clos_lookup r _ ?_
      by_cases hx : x = n
      · subst hx; right; rw [List.lookup_cons, beq_self_eq_true]
      · rcases h with h | h
        · rcases List.mem_cons.mp h with e | e
          · cases e; exact absurd rfl hx
          · exact .inl e
        · right
          have : (x == n) = false := by simpa using hx
          rw [List.lookup_cons, this]; exact h
    · rw [if_neg hk]
      refine clos_lookup r _ ?_
      rcases h with h | h
      · rcases List.mem_cons.mp h with e | e
        · cases e; exact absurd rfl hk
        · exact .inl e
      · exact .inr h

theorem mem_of_lookupK : ∀ {l : List (Str × NameKind)} {x : Str} {k : NameKind}, l.lookup x = some k → (x, k) ∈ l
  | [], _, _, h => by cases h
  | (n, k') :: r, x, k, h => by
    rw [List.lookup_cons] at h
    by_cases hx : (x == n) = true
    · rw [hx] at h
      have e1 : x = n := by simpa using hx
      cases h; rw [e1]; exact .head _
    · have hx' : (x == n) = false := by simpa using hx
      rw [hx'] at h
      exact .tail _ (mem_of_lookupK h)

/-- all that is no cell stays -/
def Nc (h h' : Heap) : Prop := ∀ b o, h.get? b = some o → (∀ v, o.data ≠ .cell v) → h'.get? b = some o
theorem Nc.list {h h' : Heap} (n : Nc h h') {a : Addr} {its : Array Value} (x : h.IsList a its) : h'.IsList a its := by
  obtain ⟨o, ho, hc, k, hd⟩ := x
  exact ⟨o, n a o ho (by rw [hd]; intro v e; cases e), hc, k, hd⟩
theorem Nc.ints {h h' : Heap} (n : Nc h h') {a : Addr} {ns : List Int} (x : Ints h a ns) : Ints h' a ns := by
  obtain ⟨vs, hl, hi⟩ := x
  exact ⟨vs, n.list hl, hi⟩

/-- a frame with cells: names, the frame's cells hold what cm says -/
abbrev Cs (fd : FuncData) (L : Addr) (h : Heap) (cm : Str → Option Value) : Prop := Cl L (cellsFrom (L + 1) fd.scope.names []) h cm

theorem bindL_l {K : Str → Option NameKind} {n : Str} {v : Value} {r : List (Str × Value)} {m : Str → Option Value} (h : K n = some .local) : bindL K ((n, v) :: r) m = bindL K r (up m n v) := by
  show bindL K r (if K n = some .local then fun y => if y = n then some v else m y else m) = _
  rw [if_pos h]; rfl
theorem bindL_c {K : Str → Option NameKind} {n : Str} {v : Value} {r : List (Str × Value)} {m : Str → Option Value} (h : K n = some .cell) : bindL K ((n, v) :: r) m = bindL K r m := by
  show bindL K r (if K n = some .local then fun y => if y = n then some v else m y else m) = _
  rw [if_neg (by rw [h]; decide)]
theorem bindC_l {K : Str → Option NameKind} {n : Str} {v : Value} {r : List (Str × Value)} {m : Str → Option Value} (h : K n = some .local) : bindC K ((n, v) :: r) m = bindC K r m := by
  show bindC K r (if K n = some .local then m else fun y => if y = n then some v else m y) = _
  rw [if_pos h]
theorem bindC_c {K : Str → Option NameKind} {n : Str} {v : Value} {r : List (Str × Value)} {m : Str → Option Value} (h : K n = some .cell) : bindC K ((n, v) :: r) m = bindC K r (up m n v) := by
  show bindC K r (if K n = some .local then m else fun y => if y = n then some v else m y) = _
  rw [if_neg (by rw [h]; decide)]; rfl

def okScopeC (j : Nat) (xs : List Str) : Bool := match PySem.Challenge.pw_mq0118_01.main.body.drop j with
  | .FunctionDef _ _ _ _ _ _ scope _ _ _ :: _ => xs.all (fun x => scope.names.lookup x == some .local || scope.names.lookup x == some .cell) && !scope.isCoroutine && !scope.isGenerator && scope.kind == .function
  | _ => false
theorem okScopeC_out {j : Nat} {xs : List Str} (h : okScopeC j xs = true) (cd pm : Value) : (∀ x ∈ xs, (fdOf j cd pm).scope.names.lookup x = some .local ∨ (fdOf j cd pm).scope.names.lookup x = some .cell) ∧
    (fdOf j cd pm).scope.isCoroutine = false ∧ (fdOf j cd pm).scope.isGenerator = false ∧ (fdOf j cd pm).scope.kind = .function ∧ (fdOf j cd pm).closure = [] := by
  unfold okScopeC at h
  unfold fdOf
  generalize PySem.Challenge.pw_mq0118_01.main.body.drop j = X at h ⊢
  split at h
  · simp only [Bool.and_eq_true, List.all_eq_true, Bool.or_eq_true, beq_iff_eq, Bool.not_eq_true'] at h
    obtain ⟨⟨⟨h1, h3⟩, h4⟩, h5⟩ := h
    exact ⟨h1, h3, h4, h5, rfl⟩
  · cases h

section
variable {prog : Program} {w : World} {A : Around} {E : Value → Shared → Prop} {s : Shared} {h h₀ : Heap} {tk : Nat} {L : Addr} {m cm : Str → Option Value} {news : List (Addr × Obj)} {env : Env}

theorem x_enterC {a : Addr} {j : Nat} {args : List Value} {body : List Stmt} {binds : List (Str × Value)} {Q : Value → Shared → Prop}
    (G : Gr h) (hf : FnAt h a j) (hroom : A.depth < recursionLimit)
    (hbody : ∀ cd pm, (fdOf j cd pm).body = .stmts body) (hbind : ∀ cd pm, bindArgs (fdOf j cd pm) ⟨args, []⟩ = pure binds)
    {xs : List Str} (hxs : binds.map (·.1) = xs) (hok : okScopeC j xs = true)
    (hq : ∀ cd pm L h₁ tk', Fr h L h₁ (bindL (fun x => (fdOf j cd pm).scope.names.lookup x) binds fun _ => none) → Cs (fdOf j cd pm) L h₁ (bindC (fun x => (fdOf j cd pm).scope.names.lookup x) binds fun _ => none) → Gr h₁ →
      wpAny (model prog w) (A.deeper (callEnvC (fdOf j cd pm) L a)) (execs body (callEnvC (fdOf j cd pm) L a)) (fun f s' => Q (match f with | .ret v => v | _ => .none) s') (fun _ _ => False) (St s h₁ tk')) :
    wpAny (model prog w) A (call (.ref a) args) Q E (St s h tk) := by
  obtain ⟨o, cd, pm, ho, hd, hc⟩ := hf
  obtain ⟨h1, h3, h4, h5, h6⟩ := okScopeC_out hok cd pm
  refine wpAny_call (codeAny_call_cells (s := St s h tk) hroom ho hd G.nolimit hc (hbody cd pm) (hbind cd pm) h6 (fun x hx => ?_) (fun s₁ X => ?_) h3 h4 h5)
  · refine (h1 x.1 (hxs ▸ List.mem_map_of_mem hx)).imp id fun q => ⟨q, cellsFrom_some _ _ _ (.inl q)⟩
  · obtain ⟨h₁, tk₁, rfl, hk⟩ := X.done
    exact wpAny_mono (hq cd pm h.objs.size h₁ tk₁ ⟨X.toInCall.ns, X.toInCall.keep, X.toInCall.fresh⟩ ⟨X.cell, X.apart, X.above⟩ (G.keeps hk)) (fun _ _ x => x) fun _ _ x => x.elim

/-- a plain local of a frame with cells -/
theorem x_lvC {fd : FuncData} {a : Addr} {x : Str} {pos : Pos} {v : Value} {Q : Value → Shared → Prop} (F : Fr h₀ L h m) (hv : m x = some v) (hq : Q v (St s h tk))
    (hk : fd.scope.kind = .function) (hl : fd.scope.names.lookup x = some .local) (hd : (x == ("__debug__" : Str)) = false) :
    wpAny (model prog w) A (eval (.Name x pos) (callEnvC fd L a)) Q E (St s h tk) := wpAny_Name (wpAny_loadName_local (env := callEnvC fd L a) (s := St s h tk) hk hl F.ns hv hq) hd
theorem cell_at {fd : FuncData} {x : Str} {v : Value} (X : Cs fd L h cm) (hv : cm x = some v) (hl : fd.scope.names.lookup x = some .cell) : ∃ c, (cellsFrom (L + 1) fd.scope.names []).lookup x = some c ∧ h.IsCell c (some v) := by
  obtain ⟨c, hc⟩ := Option.isSome_iff_exists.mp (cellsFrom_some (x := x) fd.scope.names (L + 1) [] (.inl hl))
  exact ⟨c, hc, hv ▸ X.cell x c hc⟩
theorem x_cl {fd : FuncData} {a : Addr} {x : Str} {pos : Pos} {v : Value} {Q : Value → Shared → Prop} (X : Cs fd L h cm) (hv : cm x = some v) (hq : Q v (St s h tk))
    (hk : fd.scope.kind = .function) (hl : fd.scope.names.lookup x = some .cell) (hd : (x == ("__debug__" : Str)) = false) :
    wpAny (model prog w) A (eval (.Name x pos) (callEnvC fd L a)) Q E (St s h tk) := by
  obtain ⟨c, hc, hi⟩ := cell_at X hv hl
  exact wpAny_Name (wpAny_loadName_cell (env := callEnvC fd L a) (s := St s h tk) hk hl hc hi hq) hd
/-- a name that a comprehension takes from its frame's cells -/
theorem x_cc {fd : FuncData} {a C : Addr} {scope : Scope} {x : Str} {pos : Pos} {v : Value} {Q : Value → Shared → Prop} (X : Cs fd L h cm) (hv : cm x = some v) (hq : Q v (St s h tk))
    (hk : scope.kind = .function) (hl : fd.scope.names.lookup x = some .cell) (hf : scope.names.lookup x = some .free) (hr : (relabel scope (callEnvC fd L a)).names.lookup x = some .cell) (hd : (x == ("__debug__" : Str)) = false) :
    wpAny (model prog w) A (eval (.Name x pos) (compEnvC scope (clos (callEnvC fd L a) scope.names []) C (callEnvC fd L a))) Q E (St s h tk) := by
  obtain ⟨c, hc, hi⟩ := cell_at X hv hl
  refine wpAny_Name (wpAny_loadName_cell (s := St s h tk) (c := c) hk hr ?_ hi hq) hd
  show (clos (callEnvC fd L a) scope.names []).lookup x = some c
  rw [clos_lookup scope.names [] (.inl (mem_of_lookupK hf))]
  show some (((cellsFrom (L + 1) fd.scope.names []).lookup x).getD 0) = some c
  rw [hc]; rfl
/-- the closure that a comprehension in a frame with cells gets -/
theorem clos_ok {fd : FuncData} {a : Addr} {scope : Scope} (h : (scope.names.all fun x => x.2 != .free || fd.scope.names.lookup x.1 == some .cell) = true) : closureFor scope (callEnvC fd L a) = pure (clos (callEnvC fd L a) scope.names []) :=
  closureFor_eq fun x hx hk => by
    have := List.all_eq_true.mp h x hx
    rw [hk] at this
    exact cellsFrom_some _ _ _ (.inl (by simpa using this))

theorem x_svC {fd : FuncData} {a : Addr} {x : Str} {v : Value} {Q : Unit → Shared → Prop} (F : Fr h₀ L h m) (N : News h₀ L h news) (X : Cs fd L h cm)
    (hk : fd.scope.kind = .function) (hl : fd.scope.names.lookup x = some .local)
    (hq : ∀ h' tk', Fr h₀ L h' (up m x v) → News h₀ L h' news → Cs fd L h' cm → Q () (St s h' tk')) :
    wpAny (model prog w) A (storeName (callEnvC fd L a) x v) Q E (St s h tk) :=
  wpAny_storeName_local (env := callEnvC fd L a) (s := St s h tk) hl F.ns (fun h' hn hs => hq h' _ (F.set hn hs) (N.set hs) (X.sameBut hs (Nat.le_refl _))) (by show (fd.scope.kind == .class || (fd.scope.kind == .module && _)) = false; rw [hk]; rfl)
/-- a cell gets a value; what else stands (apart from this cell) stays -/
theorem x_sc {fd : FuncData} {a : Addr} {x : Str} {v : Value} {Q : Unit → Shared → Prop} (F : Fr h₀ L h m) (X : Cs fd L h cm)
    (hk : fd.scope.kind = .function) (hl : fd.scope.names.lookup x = some .cell)
    (hq : ∀ h' tk', Fr h₀ L h' m → Cs fd L h' (up cm x v) → Nc h h' → Q () (St s h' tk')) :
    wpAny (model prog w) A (storeName (callEnvC fd L a) x v) Q E (St s h tk) := by
  obtain ⟨c, hc⟩ := Option.isSome_iff_exists.mp (cellsFrom_some (x := x) fd.scope.names (L + 1) [] (.inl hl))
  have hLc : L < c := X.above x c (mem_of_lookup hc)
  refine wpAny_storeName_cell (env := callEnvC fd L a) (s := St s h tk) hk hl hc (X.cell x c hc) fun h' hv hs => hq h' _ ⟨F.ns.sameBut hs (Nat.ne_of_lt hLc), fun b o e => (hs.2 b (Nat.ne_of_lt (Nat.lt_trans (Nat.lt_of_lt_of_le (Heap.lt_size e) F.above) hLc))).trans (F.keep b o e), F.above⟩
    ⟨fun n c' e => ?_, X.apart, X.above⟩ fun b o e hnc => (hs.2 b (by rintro rfl; obtain ⟨o', ho', hd'⟩ := X.cell x _ hc; rw [e] at ho'; cases ho'; exact hnc _ hd')).trans e
  by_cases hn : n = x
  · subst hn; rw [hc] at e; cases e; rw [up_eq]; exact hv
  · have hcc : c' ≠ c := fun q => hn (name_of_addr X.apart (mem_of_lookup e) (q ▸ mem_of_lookup hc))
    rw [up_ne hn]; exact (X.cell n c' e).sameBut hs hcc
end
end Mine

namespace Mine
local macro_rules | `(tactic| walk_at "m get") => `(tactic| (repeat (first | (with_reducible exact up_eq) | (with_reducible refine (up_ne (by decide +kernel)).trans ?_))))
local macro_rules | `(tactic| walk_at "m lv") => `(tactic| (with_reducible refine x_lv (by assumption) (by walk_at "m get") ?_ (by kernel_rfl!) (by kernel_rfl!) (by decide +kernel)))
local macro_rules | `(tactic| walk_at "m sv") => `(tactic| ((with_reducible refine x_sv (by assumption) (by assumption) (by kernel_rfl!) (by kernel_rfl!) ?_); intro _ _ _ _; (try dsimp only)))
local macro_rules | `(tactic| walk_at "m flt") => `(tactic| (repeat' (first
  | (with_reducible refine wpAny_BinOp ?_) | walk_at "m lv" | ((with_reducible refine x_fconst ?_); intro _ _) | ((with_reducible refine x_fadd ?_); intro _ _) | ((with_reducible refine x_fsub ?_); intro _ _) | ((with_reducible refine x_fmul ?_); intro _ _))))
local macro_rules | `(tactic| walk_at "m set") => `(tactic| ((with_reducible refine wpAny_execs_cons ?_); (with_reducible refine wpAny_Assign_Name ?_ (by kernel_rfl!)); walk_at "m flt"))
local macro_rules | `(tactic| walk_at "m arg") => `(tactic| (with_reducible refine args_cons ?_ (by with_unfolding_all rfl)))
local macro_rules | `(tactic| walk_at "m gr") => `(tactic| first | assumption | exact grF (by assumption) (by assumption))
local macro_rules | `(tactic| walk_at "m gn") => `(tactic| first
  | (with_reducible refine x_gl (Gr.n_yiq (by walk_at "m gr")) ?_ (by kernel_rfl!) (by kernel_rfl!) (by kernel_rfl!) (by decide +kernel))
  | (with_reducible refine x_gl (Gr.n_hls (by walk_at "m gr")) ?_ (by kernel_rfl!) (by kernel_rfl!) (by kernel_rfl!) (by decide +kernel))
  | (with_reducible refine x_gl (Gr.n_hsv (by walk_at "m gr")) ?_ (by kernel_rfl!) (by kernel_rfl!) (by kernel_rfl!) (by decide +kernel))
  | (with_reducible refine x_gl (Gr.n_told (by walk_at "m gr")) ?_ (by kernel_rfl!) (by kernel_rfl!) (by kernel_rfl!) (by decide +kernel))
  | (with_reducible refine x_gl (Gr.n_whole (by walk_at "m gr")) ?_ (by kernel_rfl!) (by kernel_rfl!) (by kernel_rfl!) (by decide +kernel))
  | (with_reducible refine x_gl (Gr.n_place (by walk_at "m gr")) ?_ (by kernel_rfl!) (by kernel_rfl!) (by kernel_rfl!) (by decide +kernel))
  | (with_reducible refine x_gl (Gr.n_line (by walk_at "m gr")) ?_ (by kernel_rfl!) (by kernel_rfl!) (by kernel_rfl!) (by decide +kernel))
  | (with_reducible refine x_gl (Gr.n_split (by walk_at "m gr")) ?_ (by kernel_rfl!) (by kernel_rfl!) (by kernel_rfl!) (by decide +kernel))
  | (with_reducible refine x_gl (Gr.n_replace (by walk_at "m gr")) ?_ (by kernel_rfl!) (by kernel_rfl!) (by kernel_rfl!) (by decide +kernel))
  | (with_reducible refine x_bl (Gr.n_max (by walk_at "m gr")) ?_ (by kernel_rfl!) (by kernel_rfl!) (by kernel_rfl!) (by kernel_rfl!) (by decide +kernel))
  | (with_reducible refine x_bl (Gr.n_min (by walk_at "m gr")) ?_ (by kernel_rfl!) (by kernel_rfl!) (by kernel_rfl!) (by kernel_rfl!) (by decide +kernel))
  | (with_reducible refine x_bl (Gr.n_len (by walk_at "m gr")) ?_ (by kernel_rfl!) (by kernel_rfl!) (by kernel_rfl!) (by kernel_rfl!) (by decide +kernel))
  | (with_reducible refine x_bl (Gr.n_range (by walk_at "m gr")) ?_ (by kernel_rfl!) (by kernel_rfl!) (by kernel_rfl!) (by kernel_rfl!) (by decide +kernel)))
local macro_rules | `(tactic| walk_at "m as") => `(tactic| ((with_unfolding_all refine assignInOrder_cons ?_); dsimp only; (with_reducible refine PyProof.Rows.assign_Name ?_); walk_at "m sv"))
local macro_rules | `(tactic| walk_at "m cl") => `(tactic| (with_reducible refine x_cl (by assumption) (by walk_at "m get") ?_ (by kernel_rfl!) (by kernel_rfl!) (by decide +kernel)))
local macro_rules | `(tactic| walk_at "m lvC") => `(tactic| (with_reducible refine x_lvC (by assumption) (by walk_at "m get") ?_ (by kernel_rfl!) (by kernel_rfl!) (by decide +kernel)))
local macro_rules | `(tactic| walk_at "m cc") => `(tactic| (with_reducible refine x_cc (by assumption) (by walk_at "m get") ?_ (by kernel_rfl!) (by kernel_rfl!) (by kernel_rfl!) (by kernel_rfl!) (by decide +kernel)))
local macro_rules | `(tactic| walk_at "m cv") => `(tactic| (with_reducible refine x_cv (by assumption) (by assumption) ?_ (by kernel_rfl!) (by kernel_rfl!) (by decide +kernel)))

section
variable {prog : Program} {w : World} {A : Around} {E : Value → Shared → Prop} {s : Shared} {h : Heap} {tk : Nat} {Q : Value → Shared → Prop}

theorem x_ladd {l b : Addr} {vs ws : List Value} (hl : h.IsList l vs.toArray) (hb : h.IsList b ws.toArray) (hsz : vs.length + ws.length ≤ sizeLine)
    (hq : ∀ T h' tk', Kept h h' → h.get? T = none → h'.IsList T (vs ++ ws).toArray → Q (.ref T) (St s h' tk')) : wpAny (model prog w) A (binaryOp .Add (.ref l) (.ref b)) Q E (St s h tk) := by
  obtain ⟨⟨cls, dd, data, sl⟩, ho, hc, n, hd⟩ := id hl
  obtain ⟨⟨cls2, dd2, data2, sl2⟩, ho2, hc2, n2, hd2⟩ := id hb
  simp only at hc hd hc2 hd2
  subst hc hd hc2 hd2
  have e : vs.toArray ++ ws.toArray = (vs ++ ws).toArray := by simp
  refine concat_meets (s := St s h tk) ⟨_, ho, rfl⟩ ⟨_, ho2, rfl⟩ noFill_list_add seq_list_add PySem.F.slot_list_add PySem.F.entry_list_add (PySem.F.args_list_add_2 _ _) (list_addW l b vs.toArray ws.toArray n n2 dd dd2 sl sl2 (by simpa using hsz)) ⟨ho, ho2, ?_⟩
  rw [e]
  exact hq _ _ _ (Kept.push _ _) (get_none_of_le (Nat.le_refl _)) (lstO_is _ _)

theorem Cs.keeps {fd : FuncData} {L : Addr} {h h' : Heap} {cm : Str → Option Value} (X : Cs fd L h cm) (hk : Kept h h') : Cs fd L h' cm := Cl.keeps X hk
theorem Cs.but {fd : FuncData} {L : Addr} {h h' : Heap} {cm : Str → Option Value} (X : Cs fd L h cm) (hk : ∀ b o, b ≠ L → h.get? b = some o → h'.get? b = some o) : Cs fd L h' cm :=
  Cl.extBut (b := L) X (fun b o hb e => hk b o hb e) (Nat.le_refl _)

/-- the ways that _law_place looks at -/
def waysV (dark : List Int) (j k : Int) : List Int := (List.range (j + 1 - max 0 (j - k)).toNat).map fun (n : Nat) => dark.getD (max 0 (j - k) + (n : Int)).toNat 0 - k + 2 * (j - (max 0 (j - k) + (n : Int)))
def placeV (dark : List Int) (j k : Int) : Int := (waysV dark j k).foldl max j

theorem foldl_max : ∀ (l : List Int) (a : Int), (l.foldl max a = a ∨ l.foldl max a ∈ l) ∧ a ≤ l.foldl max a ∧ ∀ x ∈ l, x ≤ l.foldl max a
  | [], a => ⟨.inl rfl, Int.le_refl _, fun _ hx => nomatch hx⟩
  | b :: r, a => by
    obtain ⟨h1, h2, h3⟩ := foldl_max r (max a b)
    refine ⟨?_, ?_, fun x hx => ?_⟩
    · rcases h1 with h1 | h1
      · show r.foldl max (max a b) = a ∨ r.foldl max (max a b) ∈ b :: r
        rw [h1]
        by_cases q : a ≤ b
        · right; rw [Int.max_eq_right q]; exact .head _
        · left; exact Int.max_eq_left (by omega)
      · exact .inr (.tail _ h1)
    · show a ≤ r.foldl max (max a b); omega
    · show x ≤ r.foldl max (max a b)
      rcases List.mem_cons.mp hx with rfl | hx
      · omega
      · exact h3 x hx
theorem max_unique {l : List Int} {a M : Int} (h1 : M ∈ a :: l) (h2 : ∀ x, x ∈ a :: l → x ≤ M) : M = l.foldl max a := by
  obtain ⟨e1, e2, e3⟩ := foldl_max l a
  have u1 : M ≤ l.foldl max a := by
    rcases List.mem_cons.mp h1 with rfl | h1
    · exact e2
    · exact e3 M h1
  have u2 : l.foldl max a ≤ M := by
    rcases e1 with e1 | e1
    · rw [e1]; exact h2 a (.head _)
    · exact h2 _ (.tail _ e1)
  omega

/-- values that are the ints that f gives -/
theorem ints_of_paired {f : Int → Int} {a : Int} : ∀ {n : Nat} {k : Nat} {vs ys : List Value}, vs.length = n → (∀ (i : Nat) v, vs[i]? = some v → ∃ t, v = .int (a + ((k + i : Nat) : Int)) t) →
    Paired (fun v y => ∃ b t u, v = Value.int b t ∧ y = Value.int (f b) u) vs ys → IntsAre ys ((List.range' k n).map fun (i : Nat) => f (a + (i : Int)))
  | 0, _, vs, ys, hl, _, hp => by
    have : vs = [] := List.eq_nil_of_length_eq_zero hl
    subst this; cases hp; exact .nil
  | n + 1, k, vs, ys, hl, hv, hp => by
    cases vs with
    | nil => cases hl
    | cons v vs =>
      cases hp with
      | cons hF hr =>
        obtain ⟨b, t, u, rfl, rfl⟩ := hF
        obtain ⟨t', e⟩ := hv 0 _ rfl
        have eb : b = a + (k : Int) := by cases e; rfl
        subst eb
        rw [List.range'_succ, List.map_cons]
        refine .cons _ _ (ints_of_paired (by simpa using hl) (fun i v hi => ?_) hr)
        obtain ⟨t'', e⟩ := hv (i + 1) v (by simpa using hi)
        exact ⟨t'', by rw [e]; congr 2; omega⟩

set_option maxHeartbeats 1000000 in
theorem place_spec {d : Addr} {dark : List Int} {j k : Int} {tj tt : Tok} (G : Gr h) (hroom : A.depth < recursionLimit) (hh : A.handled = none)
    (hd : Ints h d dark) (hj0 : 0 ≤ j) (hj : j < dark.length) (hlen : dark.length ≤ 1000) (hk0 : 0 ≤ k) (hk : k ≤ 1000)
    (hq : ∀ h' tk t, Kept h h' → Q (.int (placeV dark j k) t) (St s h' tk)) :
    wpAny (model prog w) A (call (.ref 66) [.ref d, .int j tj, .int k tt]) Q E (St s h tk) := by
  refine x_enterC (binds := [("dark", .ref d), ("j", .int j tj), ("turns", .int k tt)]) (xs := ["dark", "j", "turns"]) G G.fns.2.2.2.2.2.2.2.1 hroom (fun _ _ => rfl) (fun _ _ => by kernel_rfl!) rfl (by decide +kernel) ?_
  intro cd pm L h₁ tk' F X G₁
  rw [bindL_c (by kernel_rfl!), bindL_c (by kernel_rfl!), bindL_c (by kernel_rfl!)] at F
  rw [bindC_c (by kernel_rfl!), bindC_c (by kernel_rfl!), bindC_c (by kernel_rfl!)] at X
  dsimp only [bindL] at F
  dsimp only [bindC] at X
  have N : News h L h₁ [] := News.nil
  have hh' : (A.deeper (callEnvC (fdOf 10 cd pm) L 66)).handled = none := hh
  (with_reducible refine wpAny_execs_cons ?_)
  refine x_acomp (h₀ := h) (L := L) (m := fun _ => none) (news := []) (cl := clos (callEnvC (fdOf 10 cd pm) L 66) _ []) (fun _ => true) (fun v y => ∃ b t u, v = Value.int b t ∧ y = Value.int (dark.getD b.toNat 0 - k + 2 * (j - b)) u) (by kernel_rfl!) (clos_ok (by kernel_rfl!)) (by decide +kernel) (by kernel_rfl!) (by decide +kernel) (by kernel_rfl!) (by kernel_rfl!) (by kernel_rfl!) (by kernel_rfl!) ?_ (by intro _; rfl)
  (with_reducible refine Call_ ?_ (by with_unfolding_all rfl))
  walk_at "m gn"
  (with_reducible refine callWith_type1 ?_ (by with_unfolding_all rfl) (by with_unfolding_all rfl))
  walk_at "m arg"
  (with_reducible refine Call_ ?_ (by with_unfolding_all rfl))
  walk_at "m gn"
  (with_reducible refine callWith_builtin1 ?_ (by with_unfolding_all rfl) (by with_unfolding_all rfl))
  walk_at "m arg"; (with_reducible refine x_iconst ?_); intro _ _
  walk_at "m arg"; (with_reducible refine wpAny_BinOp ?_)
  walk_at "m cl"; walk_at "m cl"
  (with_reducible refine x_isub ?_); intro _ _
  (with_reducible refine args_nil ?_)
  refine x_max2 hh' ?_
  intro h₂ t₂ tk₂ hk₂
  replace F := frK F hk₂; replace N := newsK N hk₂; replace X := Cs.keeps X hk₂; replace G₁ := G₁.keeps hk₂
  walk_at "m arg"; (with_reducible refine wpAny_BinOp ?_)
  walk_at "m cl"; (with_reducible refine x_iconst ?_); intro _ _
  (with_reducible refine x_iadd ?_); intro _ _
  (with_reducible refine args_nil ?_)
  refine x_rng2 ?_
  intro r h₃ tk₃ t₃ u₃ v₃ hk₃ hr₃ hr
  replace F := frK F hk₃; replace N := newsK N hk₃; replace X := Cs.keeps X hk₃; replace G₁ := G₁.keeps hk₃
  refine ⟨h₃, tk₃, rfl, F, N, ?_⟩
  refine src_range hh' hr (by omega) (by omega) (by omega) (by omega) ?_
  intro I h₄ tk₄ hsrc
  refine ⟨I, h₄, tk₄, _, _, rfl, rfl, hsrc, by rw [sizeLine_eq]; omega, ⟨fun s C i v h₅ tk₅ m₃ E' hP hn hm hk => x_tests0 ⟨rfl, _, _, rfl, Kept.refl _⟩, fun s C i v h₅ tk₅ m₃ E' hP _ hn hm hk₅ => ?_⟩, ?_⟩
  · obtain ⟨hi, t, rfl⟩ := hP
    have X₅ := Cs.keeps X hk₅
    obtain ⟨vs, hl, hI⟩ := hd.keeps (Kept.trans F.keep hk₅)
    have hb0 : 0 ≤ max 0 (j - k) + (i : Int) := by omega
    have hb1 : max 0 (j - k) + (i : Int) ≤ j := by omega
    generalize max 0 (j - k) + (i : Int) = b at hb0 hb1 hm
    have hlt : b.toNat < dark.length := by omega
    obtain ⟨td, htd⟩ := hI.get b.toNat (dark.getD b.toNat 0) (by rw [List.getD_eq_getElem?_getD, List.getElem?_eq_getElem hlt]; rfl)
    (with_reducible refine wpAny_BinOp ?_)
    (with_reducible refine wpAny_BinOp ?_)
    (with_reducible refine Subscript_ ?_)
    walk_at "m cc"
    walk_at "m cv"
    refine x_litem hl hb0 (by omega) (by simpa using htd) ?_ (by with_unfolding_all rfl)
    walk_at "m cc"
    (with_reducible refine x_isub ?_); intro _ _
    (with_reducible refine wpAny_BinOp ?_)
    (with_reducible refine x_iconst ?_); intro _ _
    (with_reducible refine wpAny_BinOp ?_)
    walk_at "m cc"
    walk_at "m cv"
    (with_reducible refine x_isub ?_); intro _ _
    (with_reducible refine x_imul (by decide) (by decide) ?_); intro _ _
    (with_reducible refine x_iadd ?_); intro u _
    exact ⟨⟨b, t, u, rfl, rfl⟩, _, _, rfl, Kept.refl _⟩
  · intro D h₅ tk₅ ys vs hD hlD hlen hP hF hks F₅ N₅
    have X₅ := Cs.but X hks
    rw [filter_true] at hF
    have hI := ints_of_paired (f := fun b => dark.getD b.toNat 0 - k + 2 * (j - b)) (a := max 0 (j - k)) (k := 0) hlen (fun i v hi => by obtain ⟨_, t, e⟩ := hP i v hi; exact ⟨t, by rw [e]; congr 2; omega⟩) hF
    have eW : ((List.range' 0 (j + 1 - max 0 (j - k)).toNat).map fun (i : Nat) => dark.getD (max 0 (j - k) + (i : Int)).toNat 0 - k + 2 * (j - (max 0 (j - k) + (i : Int)))) = waysV dark j k := by
      unfold waysV; rw [List.range_eq_range']
    rw [eW] at hI
    have hlD' : h₅.IsList D ys.toList.toArray := by simpa using hlD
    generalize ys.toList = yl at hI hlD'
    have hlw : yl.length = (waysV dark j k).length := hI.length
    have hlw' : (waysV dark j k).length ≤ 1001 := by unfold waysV; rw [List.length_map, List.length_range]; omega
    (with_reducible refine wpAny_execs_cons ?_)
    (with_reducible refine wpAny_Return_some ?_)
    (with_reducible refine Call_ ?_ (by with_unfolding_all rfl))
    walk_at "m gn"
    (with_reducible refine callWith_builtin1 ?_ (by with_unfolding_all rfl) (by with_unfolding_all rfl))
    walk_at "m arg"
    (with_reducible refine wpAny_BinOp ?_)
    (with_reducible refine x_list ?_)
    (with_reducible refine wpAny_items_cons ?_ (by with_unfolding_all rfl))
    walk_at "m cl"
    refine wpAny_items_nil ⟨by size_fits, _, _, rfl, ?_⟩
    have F₆ := F₅.push (lstO [.int j tj])
    have hl₆ := lstO_is h₅ [.int j tj]
    walk_at "m lvC"
    refine x_ladd hl₆ (hlD'.push _) (by rw [sizeLine_eq, hlw]; simp; omega) ?_
    intro T h₇ tk₇ hk₇ hT hlT
    (with_reducible refine args_nil ?_)
    refine x_maxL hh' (ns := j :: waysV dark j k) ⟨_, hlT, .cons _ _ hI⟩ (by simp) ?_
    intro h₈ M t tk₈ hk₈ hM1 hM2
    have eM := max_unique hM1 hM2
    subst eM
    exact hq _ _ _ (Kept.trans F₆.keep (Kept.trans hk₇ hk₈))
end
end Mine

namespace Mine
local macro_rules | `(tactic| walk_at "m get") => `(tactic| (repeat (first | (with_reducible exact up_eq) | (with_reducible refine (up_ne (by decide +kernel)).trans ?_))))
local macro_rules | `(tactic| walk_at "m lv") => `(tactic| (with_reducible refine x_lv (by assumption) (by walk_at "m get") ?_ (by kernel_rfl!) (by kernel_rfl!) (by decide +kernel)))
local macro_rules | `(tactic| walk_at "m sv") => `(tactic| ((with_reducible refine x_sv (by assumption) (by assumption) (by kernel_rfl!) (by kernel_rfl!) ?_); intro _ _ _ _; (try dsimp only)))
local macro_rules | `(tactic| walk_at "m flt") => `(tactic| (repeat' (first
  | (with_reducible refine wpAny_BinOp ?_) | walk_at "m lv" | ((with_reducible refine x_fconst ?_); intro _ _) | ((with_reducible refine x_fadd ?_); intro _ _) | ((with_reducible refine x_fsub ?_); intro _ _) | ((with_reducible refine x_fmul ?_); intro _ _))))
local macro_rules | `(tactic| walk_at "m set") => `(tactic| ((with_reducible refine wpAny_execs_cons ?_); (with_reducible refine wpAny_Assign_Name ?_ (by kernel_rfl!)); walk_at "m flt"))
local macro_rules | `(tactic| walk_at "m arg") => `(tactic| (with_reducible refine args_cons ?_ (by with_unfolding_all rfl)))
local macro_rules | `(tactic| walk_at "m gr") => `(tactic| first | assumption | exact grF (by assumption) (by assumption))
local macro_rules | `(tactic| walk_at "m gn") => `(tactic| first
  | (with_reducible refine x_gl (Gr.n_yiq (by walk_at "m gr")) ?_ (by kernel_rfl!) (by kernel_rfl!) (by kernel_rfl!) (by decide +kernel))
  | (with_reducible refine x_gl (Gr.n_hls (by walk_at "m gr")) ?_ (by kernel_rfl!) (by kernel_rfl!) (by kernel_rfl!) (by decide +kernel))
  | (with_reducible refine x_gl (Gr.n_hsv (by walk_at "m gr")) ?_ (by kernel_rfl!) (by kernel_rfl!) (by kernel_rfl!) (by decide +kernel))
  | (with_reducible refine x_gl (Gr.n_told (by walk_at "m gr")) ?_ (by kernel_rfl!) (by kernel_rfl!) (by kernel_rfl!) (by decide +kernel))
  | (with_reducible refine x_gl (Gr.n_whole (by walk_at "m gr")) ?_ (by kernel_rfl!) (by kernel_rfl!) (by kernel_rfl!) (by decide +kernel))
  | (with_reducible refine x_gl (Gr.n_place (by walk_at "m gr")) ?_ (by kernel_rfl!) (by kernel_rfl!) (by kernel_rfl!) (by decide +kernel))
  | (with_reducible refine x_gl (Gr.n_line (by walk_at "m gr")) ?_ (by kernel_rfl!) (by kernel_rfl!) (by kernel_rfl!) (by decide +kernel))
  | (with_reducible refine x_gl (Gr.n_split (by walk_at "m gr")) ?_ (by kernel_rfl!) (by kernel_rfl!) (by kernel_rfl!) (by decide +kernel))
  | (with_reducible refine x_gl (Gr.n_replace (by walk_at "m gr")) ?_ (by kernel_rfl!) (by kernel_rfl!) (by kernel_rfl!) (by decide +kernel))
  | (with_reducible refine x_bl (Gr.n_max (by walk_at "m gr")) ?_ (by kernel_rfl!) (by kernel_rfl!) (by kernel_rfl!) (by kernel_rfl!) (by decide +kernel))
  | (with_reducible refine x_bl (Gr.n_min (by walk_at "m gr")) ?_ (by kernel_rfl!) (by kernel_rfl!) (by kernel_rfl!) (by kernel_rfl!) (by decide +kernel))
  | (with_reducible refine x_bl (Gr.n_len (by walk_at "m gr")) ?_ (by kernel_rfl!) (by kernel_rfl!) (by kernel_rfl!) (by kernel_rfl!) (by decide +kernel))
  | (with_reducible refine x_bl (Gr.n_range (by walk_at "m gr")) ?_ (by kernel_rfl!) (by kernel_rfl!) (by kernel_rfl!) (by kernel_rfl!) (by decide +kernel)))
local macro_rules | `(tactic| walk_at "m as") => `(tactic| ((with_unfolding_all refine assignInOrder_cons ?_); dsimp only; (with_reducible refine PyProof.Rows.assign_Name ?_); walk_at "m sv"))
local macro_rules | `(tactic| walk_at "m cl") => `(tactic| (with_reducible refine x_cl (by assumption) (by walk_at "m get") ?_ (by kernel_rfl!) (by kernel_rfl!) (by decide +kernel)))
local macro_rules | `(tactic| walk_at "m lvC") => `(tactic| (with_reducible refine x_lvC (by assumption) (by walk_at "m get") ?_ (by kernel_rfl!) (by kernel_rfl!) (by decide +kernel)))
local macro_rules | `(tactic| walk_at "m cc") => `(tactic| (with_reducible refine x_cc (by assumption) (by walk_at "m get") ?_ (by kernel_rfl!) (by kernel_rfl!) (by kernel_rfl!) (by kernel_rfl!) (by decide +kernel)))
local macro_rules | `(tactic| walk_at "m cv") => `(tactic| (with_reducible refine x_cv (by assumption) (by assumption) ?_ (by kernel_rfl!) (by kernel_rfl!) (by decide +kernel)))
local macro_rules | `(tactic| walk_at "m sc") => `(tactic| (with_reducible refine x_sc (by assumption) (by assumption) (by kernel_rfl!) (by kernel_rfl!) ?_))
local macro_rules | `(tactic| walk_at "m svC") => `(tactic| ((with_reducible refine x_svC (by assumption) (by assumption) (by assumption) (by kernel_rfl!) (by kernel_rfl!) ?_); intro _ _ _ _ _; (try dsimp only)))

section
variable {prog : Program} {w : World} {A : Around} {E : Value → Shared → Prop} {s : Shared} {h : Heap} {tk : Nat} {Q : Value → Shared → Prop} {env : Env}

theorem joinOk_of {sep : Str} {texts : List Str} (h : (texts.map (·.length)).sum + texts.length * sep.length ≤ 1000000) : JoinOk sep texts = true := by
  unfold JoinOk
  rw [StrLaws.joinTotal]
  have : Builtin.Str.tooLong ((texts.map (·.length)).sum + texts.length * sep.length) = false := by
    unfold Builtin.Str.tooLong
    exact decide_eq_false (by rw [sizeLine_eq]; omega)
  rw [this]; rfl

/-- «sep.join(list of texts)» -/
theorem x_join {sep : Str} {e : Expr} {apos pos cpos : Pos} {k : Nat}
    (hbase : attributeBase (.Constant (.str sep) k cpos) "join" env (eval (.Constant (.str sep) k cpos) env) = eval (.Constant (.str sep) k cpos) env) (hs : starEach [e] env = [(false, eval e env)]) (hline : (apos.endLine == pos.line) = true)
    (hq : ∀ tk', wpAny (model prog w) A (eval e env) (fun v s₁ => ∃ D l texts h₁ tk₁, v = .ref D ∧ s₁ = St s h₁ tk₁ ∧ h₁.IsList D (strValues l).toArray ∧ l.map (·.1) = texts ∧ (texts.map (·.length)).sum + texts.length * sep.length ≤ 1000000 ∧
      ∀ t' tk', Q (.str (Txt.join sep texts) t') (St s h₁ tk')) E (St s h tk')) :
    wpAny (model prog w) A (eval (.Call (.Attribute (.Constant (.str sep) k cpos) "join" apos) [e] [] pos) env) Q E (St s h tk) := by
  refine Call_method1 hbase hs hline (x_sconst fun t tk' => SB.join (wpAny_mono (hq tk') (fun v s₁ h₁ => ?_) fun _ _ x => x))
  obtain ⟨D, l, texts, h₁, tk₁, rfl, rfl, hl, ht, hok, hq⟩ := h₁
  exact ⟨D, l, rfl, hl, texts, ht, joinOk_of hok, fun t' k => hq t' k⟩

/-- values that are the texts that f gives -/
theorem strs_of_paired {f : Int → Str} {a : Int} : ∀ {n : Nat} {k : Nat} {vs ys : List Value}, vs.length = n → (∀ (i : Nat) v, vs[i]? = some v → ∃ t, v = .int (a + ((k + i : Nat) : Int)) t) →
    Paired (fun v y => ∃ b t u, v = Value.int b t ∧ y = Value.str (f b) u) vs ys → ∃ l, ys = strValues l ∧ l.map (·.1) = (List.range' k n).map fun (i : Nat) => f (a + (i : Int))
  | 0, _, vs, ys, hl, _, hp => by
    have : vs = [] := List.eq_nil_of_length_eq_zero hl
    subst this; cases hp; exact ⟨[], rfl, rfl⟩
  | n + 1, k, vs, ys, hl, hv, hp => by
    cases vs with
    | nil => cases hl
    | cons v vs =>
      cases hp with
      | cons hF hr =>
        obtain ⟨b, t, u, rfl, rfl⟩ := hF
        obtain ⟨t', e⟩ := hv 0 _ rfl
        have eb : b = a + (k : Int) := by cases e; rfl
        subst eb
        obtain ⟨l, rfl, hl'⟩ := strs_of_paired (f := f) (a := a) (k := k + 1) (by simpa using hl) (fun i v hi => by
          obtain ⟨t'', e⟩ := hv (i + 1) v (by simpa using hi)
          exact ⟨t'', by rw [e]; congr 2; omega⟩) hr
        exact ⟨(f (a + (k : Int)), u) :: l, rfl, by rw [List.range'_succ, List.map_cons, List.map_cons, hl']⟩

def placesV (dark : List Int) (k : Int) : List Int := (List.range dark.length).map fun (j : Nat) => placeV dark (j : Int) k
def signV (dark : List Int) (k p : Int) : Str := if p ∈ placesV dark k then "#" else "."
def lineV (dark : List Int) (n : Nat) (k : Int) : Str := Txt.join "" ((List.range n).map fun (p : Nat) => signV dark k (p : Int))

theorem signV_len (dark : List Int) (k p : Int) : (signV dark k p).length = 1 := by unfold signV; split <;> decide +kernel
theorem sum_ones : ∀ (l : List Nat) (f : Nat → Str), (∀ x, (f x).length = 1) → ((l.map f).map (·.length)).sum = l.length
  | [], _, _ => rfl
  | x :: l, f, h => by rw [List.map_cons, List.map_cons, List.sum_cons, h, sum_ones l f h, List.length_cons]; omega

set_option maxHeartbeats 1000000 in
theorem line_spec {d : Addr} {dark : List Int} {n : Nat} {k : Int} {tn tt : Tok} (G : Gr h) (hroom : A.depth + 1 < recursionLimit) (hh : A.handled = none)
    (hd : Ints h d dark) (hlen : dark.length ≤ 1000) (hn : n ≤ 1000) (hk0 : 0 ≤ k) (hk : k ≤ 1000)
    (hq : ∀ h' tk t, Kept h h' → Q (.str (lineV dark n k) t) (St s h' tk)) :
    wpAny (model prog w) A (call (.ref 71) [.ref d, .int n tn, .int k tt]) Q E (St s h tk) := by
  refine x_enterC (binds := [("dark", .ref d), ("size", .int n tn), ("turns", .int k tt)]) (xs := ["dark", "size", "turns"]) G G.fns.2.2.2.2.2.2.2.2 (by omega) (fun _ _ => rfl) (fun _ _ => by kernel_rfl!) rfl (by decide +kernel) ?_
  intro cd pm L h₁ tk' F X G₁
  rw [bindL_c (by kernel_rfl!), bindL_l (by kernel_rfl!), bindL_c (by kernel_rfl!)] at F
  rw [bindC_c (by kernel_rfl!), bindC_l (by kernel_rfl!), bindC_c (by kernel_rfl!)] at X
  dsimp only [bindL] at F
  dsimp only [bindC] at X
  have N : News h L h₁ [] := News.nil
  have hh' : (A.deeper (callEnvC (fdOf 11 cd pm) L 71)).handled = none := hh
  have hr' : (A.deeper (callEnvC (fdOf 11 cd pm) L 71)).depth < recursionLimit := hroom
  (with_reducible refine wpAny_execs_cons ?_)
  (with_reducible refine wpAny_Assign_Name ?_ (by kernel_rfl!))
  refine x_comp (cl := clos (callEnvC (fdOf 11 cd pm) L 71) _ []) (fun _ => true) (fun v y => ∃ b t u, v = Value.int b t ∧ y = Value.int (placeV dark b k) u) (clos_ok (by kernel_rfl!)) (by decide +kernel) (by kernel_rfl!) (by decide +kernel) (by kernel_rfl!) ?_ (by intro _; rfl)
  (with_reducible refine Call_ ?_ (by with_unfolding_all rfl))
  walk_at "m gn"
  (with_reducible refine callWith_type1 ?_ (by with_unfolding_all rfl) (by with_unfolding_all rfl))
  walk_at "m arg"
  (with_reducible refine Call_ ?_ (by with_unfolding_all rfl))
  walk_at "m gn"
  (with_reducible refine callWith_builtin1 ?_ (by with_unfolding_all rfl) (by with_unfolding_all rfl))
  walk_at "m arg"; walk_at "m cl"
  (with_reducible refine args_nil ?_)
  obtain ⟨vs, hl, hI⟩ := hd
  have hvl : vs.length = dark.length := hI.length
  have hd : Ints h d dark := ⟨vs, hl, hI⟩
  refine x_len (lstK hl F.keep) (by simp; omega) ?_
  intro _ _
  (with_reducible refine args_nil ?_)
  refine x_rng1 ?_
  intro r h₃ tk₃ t₃ u₃ v₃ hk₃ hr₃ hr
  replace F := frK F hk₃; replace N := newsK N hk₃; replace X := Cs.keeps X hk₃; replace G₁ := G₁.keeps hk₃
  refine ⟨h₃, tk₃, rfl, ?_⟩
  have esz : ((vs.toArray.size : Nat) : Int) = (dark.length : Int) := by simp [hvl]
  rw [esz] at hr
  refine src_range hh' hr (by omega) (by omega) (by omega) (by omega) ?_
  intro I h₄ tk₄ hsrc
  refine ⟨I, h₄, tk₄, _, _, rfl, rfl, hsrc, by rw [sizeLine_eq]; omega, ⟨fun s C i v h₅ tk₅ m₃ E' hP hn hm hk => x_tests0 ⟨rfl, _, _, rfl, Kept.refl _⟩, fun s C i v h₅ tk₅ m₃ E' hP _ hn hm hk₅ => ?_⟩, ?_⟩
  · obtain ⟨hi, t, rfl⟩ := hP
    have X₅ := Cs.keeps X hk₅
    have G₅ := G₁.keeps hk₅
    have hb0 : 0 ≤ (0 : Int) + (i : Int) := by omega
    have hb1 : (0 : Int) + (i : Int) < dark.length := by omega
    generalize (0 : Int) + (i : Int) = b at hb0 hb1 hm
    (with_reducible refine Call_ ?_ (by with_unfolding_all rfl))
    walk_at "m gn"
    (with_reducible refine x_with (Gr.fns (by walk_at "m gr")).2.2.2.2.2.2.2.1 ?_ (by with_unfolding_all rfl))
    walk_at "m arg"; walk_at "m cc"
    walk_at "m arg"; walk_at "m cv"
    walk_at "m arg"; walk_at "m cc"
    (with_reducible refine args_nil ?_)
    refine ⟨Kept.refl _, ?_⟩
    refine place_spec G₅ hr' hh' (hd.keeps (Kept.trans F.keep hk₅)) hb0 hb1 hlen hk0 hk ?_
    intro h₆ tk₆ u hk₆
    exact ⟨⟨b, t, u, rfl, rfl⟩, _, _, rfl, hk₆⟩
  · intro D h₅ tk₅ ys ws hD hlD hlen' hP hF hks
    replace F := frK F hks; replace N := newsK N hks; replace X := Cs.keeps X hks; replace G₁ := G₁.keeps hks
    rw [filter_true] at hF
    have hIy := ints_of_paired (f := fun b => placeV dark b k) (a := 0) (k := 0) hlen' (fun i v hi => by obtain ⟨_, t, e⟩ := hP i v hi; exact ⟨t, by rw [e]; congr 2; omega⟩) hF
    have eW : ((List.range' 0 ((dark.length : Int) - 0).toNat).map fun (i : Nat) => placeV dark (0 + (i : Int)) k) = placesV dark k := by
      unfold placesV; rw [List.range_eq_range']
      have : ((dark.length : Int) - 0).toNat = dark.length := by omega
      rw [this]
      exact List.map_congr_left fun i _ => by rw [Int.zero_add]
    rw [eW] at hIy
    have hlD' : h₅.IsList D ys.toList.toArray := by simpa using hlD
    have hpl : Ints h₅ D (placesV dark k) := ⟨_, hlD', hIy⟩
    walk_at "m sc"
    intro h₆ tk₆ F₆ X₆ hnc
    have hpl₆ := hnc.ints hpl
    have G₆ : Gr h₆ := G.keeps F₆.keep
    (with_reducible refine wpAny_execs_cons ?_)
    (with_reducible refine wpAny_Return_some ?_)
    refine x_join (by kernel_rfl!) (by kernel_rfl!) (by kernel_rfl!) ?_
    intro tk₇
    refine x_comp (cl := clos (callEnvC (fdOf 11 cd pm) L 71) _ []) (fun _ => true) (fun v y => ∃ b t u, v = Value.int b t ∧ y = Value.str (signV dark k b) u) (clos_ok (by kernel_rfl!)) (by decide +kernel) (by kernel_rfl!) (by decide +kernel) (by kernel_rfl!) ?_ (by intro _; rfl)
    (with_reducible refine Call_ ?_ (by with_unfolding_all rfl))
    walk_at "m gn"
    (with_reducible refine callWith_type1 ?_ (by with_unfolding_all rfl) (by with_unfolding_all rfl))
    walk_at "m arg"; walk_at "m lvC"
    (with_reducible refine args_nil ?_)
    refine x_rng1 ?_
    intro r h₈ tk₈ t₈ u₈ v₈ hk₈ hr₈ hr
    refine ⟨h₈, tk₈, rfl, ?_⟩
    refine src_range hh' hr (by omega) (by omega) (by omega) (by omega) ?_
    intro I h₉ tk₉ hsrc
    refine ⟨I, h₉, tk₉, _, _, rfl, rfl, hsrc, by rw [sizeLine_eq]; omega, ⟨fun s C i v h₅ tk₅ m₃ E' hP hn hm hk => x_tests0 ⟨rfl, _, _, rfl, Kept.refl _⟩, fun s C i v h₁₀ tk₁₀ m₃ E' hP _ hns hm hk₁₀ => ?_⟩, ?_⟩
    · obtain ⟨hi, t, rfl⟩ := hP
      have X₁₀ := Cs.keeps X₆ (Kept.trans hk₈ hk₁₀)
      generalize (0 : Int) + (i : Int) = b at hm
      (with_reducible refine wpAny_IfExp ?_)
      (with_reducible refine wpAny_isTrue_Compare1 ?_ (by with_unfolding_all rfl))
      walk_at "m cv"
      walk_at "m cc"
      refine x_in (hpl₆.keeps (Kept.trans hk₈ hk₁₀)) ?_
      (with_reducible refine wpAny_truthy_bool ?_)
      by_cases hb : b ∈ placesV dark k
      · rw [if_pos (by simpa using hb)]
        (with_reducible refine x_sconst ?_); intro u _
        exact ⟨⟨b, t, u, rfl, by unfold signV; rw [if_pos hb]⟩, _, _, rfl, Kept.refl _⟩
      · rw [if_neg (by simpa using hb)]
        (with_reducible refine x_sconst ?_); intro u _
        exact ⟨⟨b, t, u, rfl, by unfold signV; rw [if_neg hb]⟩, _, _, rfl, Kept.refl _⟩
    · intro D' h₁₀ tk₁₀ ys' ws' hD' hlD' hlen'' hP' hF' hk₁₀
      rw [filter_true] at hF'
      obtain ⟨l, el, hl'⟩ := strs_of_paired (f := fun b => signV dark k b) (a := 0) (k := 0) hlen'' (fun i v hi => by obtain ⟨_, t, e⟩ := hP' i v hi; exact ⟨t, by rw [e]; congr 2; omega⟩) hF'
      have eW' : ((List.range' 0 ((n : Int) - 0).toNat).map fun (i : Nat) => signV dark k (0 + (i : Int))) = (List.range n).map fun (p : Nat) => signV dark k (p : Int) := by
        rw [List.range_eq_range']
        have : ((n : Int) - 0).toNat = n := by omega
        rw [this]
        exact List.map_congr_left fun i _ => by rw [Int.zero_add]
      refine ⟨D', l, _, h₁₀, tk₁₀, rfl, rfl, by rw [← el]; simpa using hlD', hl'.trans eW', ?_, ?_⟩
      · rw [sum_ones _ _ (fun (p : Nat) => signV_len dark k (p : Int)), List.length_range, List.length_map, List.length_range]
        have : (PySem.Str.ofString "").length = 0 := by decide +kernel
        rw [this]; omega
      · intro t' tk'
        exact hq _ _ _ (Kept.trans F₆.keep (Kept.trans hk₈ hk₁₀))
end
end Mine

namespace Mine
open Builtin.Str StrLaws

/-- one turn: each «.#» becomes «#.», from the left -/
def stepL : List Nat → List Nat
  | 46 :: 35 :: r => 35 :: 46 :: stepL r
  | a :: r => a :: stepL r
  | [] => []
theorem stepL_hit (r : List Nat) : stepL (46 :: 35 :: r) = 35 :: 46 :: stepL r := by rw [stepL]
theorem stepL_miss {a : Nat} {r : List Nat} (h : ¬ (a :: r).take 2 = [46, 35]) : stepL (a :: r) = a :: stepL r := by
  rw [stepL]
  intro r' e
  rintro rfl
  exact h (by rw [e]; rfl)

theorem stepL_skip : ∀ (n : Nat) (l : List Nat), n ≤ l.length → (∀ k, k < n → ¬ (l.drop k).take 2 = [46, 35]) → stepL l = l.take n ++ stepL (l.drop n)
  | 0, l, _, _ => by simp
  | n + 1, [], h, _ => by simp at h
  | n + 1, a :: r, h, hn => by
    rw [stepL_miss (hn 0 (by omega)), stepL_skip n r (by simpa using h) fun k hk => by simpa using hn (k + 1) (by omega)]
    simp
theorem stepL_none (l : List Nat) (h : ∀ k, ¬ (l.drop k).take 2 = [46, 35]) : stepL l = l := by
  have := stepL_skip l.length l (Nat.le_refl _) fun k _ => h k
  rw [this]; simp [stepL]

def pY : Str := ⟨#[46, 35]⟩
def pZ : Str := ⟨#[35, 46]⟩
theorem pY_eq : Str.ofString ".#" = pY := by decide +kernel
theorem pZ_eq : Str.ofString "#." = pZ := by decide +kernel
theorem at_iff (x : Str) (k : Nat) : At x pY x.length k ↔ (x.cps.toList.drop k).take 2 = [46, 35] := by
  unfold At
  rw [subAt_eq]
  show k + 2 ≤ x.cps.size ∧ ((x.cps.toList.drop k).take 2 == [46, 35]) = true ↔ _
  rw [beq_iff_eq]
  constructor
  · exact fun h => h.2
  · intro h
    refine ⟨?_, h⟩
    have := congrArg List.length h
    simp at this
    omega

theorem join_step (x : Str) : ∀ (cuts : List Nat) (a f : Nat), ChainG x pY x.length a cuts f → (∀ k, f ≤ k → ¬ At x pY x.length k) → a ≤ x.length →
    (Str.join pZ (partsFrom x 2 a cuts)).cps.toList = stepL (x.cps.toList.drop a)
  | [], a, f, h, hn, ha => by
    have e : f = a := h
    subst e
    show (strSub x f x.length).cps.toList = _
    rw [strSub_toList, stepL_none _ fun k => by
      rw [List.drop_drop]
      exact fun q => hn (f + k) (by omega) ((at_iff x _).mpr q)]
    exact List.take_of_length_le (by simp [Str.length])
  | c :: r, a, f, ⟨hac, hA, hg, hr⟩, hn, ha => by
    have hA' := (at_iff x c).mp hA
    have hc2 : c + 2 ≤ x.length := hA.1
    obtain ⟨p, q, e⟩ := partsFrom_ne x 2 (c + 2) r
    have ih := join_step x r (c + 2) f hr hn hc2
    show (Str.join pZ (strSub x a c :: partsFrom x 2 (c + 2) r)).cps.toList = _
    rw [e] at ih ⊢
    show (strSub x a c ++ pZ ++ Str.join pZ (p :: q)).cps.toList = _
    rw [Str.cps_append, Str.cps_append, Array.toList_append, Array.toList_append, ih, strSub_toList]
    have hl : x.cps.toList.length = x.length := by simp [Str.length]
    rw [stepL_skip (c - a) (x.cps.toList.drop a) (by rw [List.length_drop, hl]; omega) fun k hk => by
      rw [List.drop_drop]
      exact fun z => hg (a + k) (by omega) (by omega) ((at_iff x _).mpr z)]
    rw [List.drop_drop, show a + (c - a) = c by omega]
    have e2 : x.cps.toList.drop c = 46 :: 35 :: x.cps.toList.drop (c + 2) := by
      have := List.take_append_drop 2 (x.cps.toList.drop c)
      rw [hA', List.drop_drop] at this
      exact this.symm
    rw [e2, stepL_hit]
    show _ ++ [35, 46] ++ _ = _
    simp

/-- what one turn of replace makes of a text -/
def stepV (x : Str) : Str := Txt.join "#." (Txt.split x ".#")
theorem stepV_toList (x : Str) : (stepV x).cps.toList = stepL x.cps.toList := by
  unfold stepV
  rw [show (Str.ofString "#.") = pZ from pZ_eq, show (Str.ofString ".#") = pY from pY_eq]
  obtain ⟨f, hG, hn⟩ := occ_tight x pY (by decide)
  unfold Txt.join
  rw [glued_eq_join]
  unfold Txt.split
  split
  · rename_i hc
    show x.cps.toList = _
    rw [Bool.or_eq_true, decide_eq_true_eq, decide_eq_true_eq] at hc
    have hk : ¬ Builtin.Str.strKind x < Builtin.Str.strKind pY := by
      have : Builtin.Str.strKind pY = 1 := by decide +kernel
      rw [this]; unfold Builtin.Str.strKind; split
      · omega
      · split <;> omega
    have hl : x.length < 2 := hc.resolve_right hk
    refine (stepL_none _ fun k h => ?_).symm
    have := congrArg List.length h
    simp at this
    have : x.cps.size < 2 := hl
    omega
  · split
    · rename_i he
      rw [List.isEmpty_iff.mp he] at hG
      have e : f = 0 := hG
      subst e
      show x.cps.toList = _
      exact (stepL_none _ fun k h => hn k (Nat.zero_le _) ((at_iff x k).mpr h)).symm
    · rw [partsBetween_eq]
      have := join_step x _ 0 f hG hn (Nat.zero_le _)
      rw [List.drop_zero] at this
      exact this

theorem stepL_length : ∀ l : List Nat, (stepL l).length = l.length := by
  intro l
  induction l using stepL.induct with
  | case1 r ih => rw [stepL_hit]; simp [ih]
  | case2 a r h ih => rw [stepL_miss (by
      intro q
      cases r with
      | nil => cases q
      | cons b r => cases q; exact h r rfl rfl)]; simp [ih]
  | case3 => rfl
theorem stepV_length (x : Str) : (stepV x).length = x.length := by
  have := congrArg List.length (stepV_toList x)
  rw [stepL_length] at this
  simpa [Str.length] using this

theorem stepL_cut : ∀ (a b : List Nat), stepL (a ++ 10 :: b) = stepL a ++ 10 :: stepL b := by
  intro a
  induction a using stepL.induct with
  | case1 r ih => intro b; rw [List.cons_append, List.cons_append, stepL_hit, stepL_hit, ih]; rfl
  | case2 a r h ih =>
    intro b
    have hm : ¬ (a :: r).take 2 = [46, 35] := by
      intro q
      cases r with
      | nil => cases q
      | cons c r => cases q; exact h r rfl rfl
    rw [List.cons_append, stepL_miss (by
      intro q
      cases r with
      | nil => cases q
      | cons c r => cases q; exact h r rfl rfl), stepL_miss hm, ih]; rfl
  | case3 => intro b; rw [List.nil_append, stepL_miss (by intro q; cases b <;> cases q)]; rfl

def cell (b : Bool) : Nat := if b then 35 else 46
/-- a row of m cells from place p on -/
def row (f : Nat → Bool) (p m : Nat) : List Nat := (List.range' p m).map fun q => cell (f q)
theorem row_succ (f : Nat → Bool) (p m : Nat) : row f p (m + 1) = cell (f p) :: row f (p + 1) m := by unfold row; rw [List.range'_succ]; rfl

/-- a turn, cell by cell -/
theorem step_row (f g : Nat → Bool) : ∀ (m p : Nat), (∀ q, p ≤ q → q < p + m → g q = if f q then decide (q = p) || f (q - 1) else decide (q + 1 < p + m) && f (q + 1)) → stepL (row f p m) = row g p m := by
  intro m
  induction m using Nat.strongRecOn with
  | ind m ih =>
    intro p hg
    match m, ih, hg with
    | 0, _, _ => rfl
    | 1, _, hg =>
      have h0 := hg p (by omega) (by omega)
      rw [row_succ, row_succ, stepL_miss (by intro q; have := congrArg List.length q; simp [row] at this)]
      show [cell (f p)] = [cell (g p)]
      rw [h0]
      cases f p <;> simp
    | m + 2, ih, hg =>
      have h0 := hg p (by omega) (by omega)
      have h1 := hg (p + 1) (by omega) (by omega)
      by_cases hit : f p = false ∧ f (p + 1) = true
      · obtain ⟨a, b⟩ := hit
        rw [row_succ, row_succ, a, b]
        show stepL (46 :: 35 :: row f (p + 1 + 1) m) = _
        rw [stepL_hit, row_succ, row_succ, h0, h1, a, b, ih m (by omega) (p + 1 + 1) fun q hq hq' => by
          have e3 : decide (q + 1 < p + (m + 2)) = decide (q + 1 < p + 1 + 1 + m) := by congr 1; rw [eq_iff_iff]; omega
          rw [hg q (by omega) (by omega), e3]
          by_cases e : q = p + 1 + 1
          · subst e
            cases f (p + 1 + 1) with
            | true => simp [b]
            | false => rfl
          · have e1 : decide (q = p) = false := decide_eq_false (by omega)
            have e2 : decide (q = p + 1 + 1) = false := decide_eq_false e
            rw [e1, e2]]
        have e4 : p + 1 - 1 = p := by omega
        simp [a, b, e4, cell]
      · rw [row_succ, stepL_miss (by
          rw [row_succ]
          intro q
          have q' : [cell (f p), cell (f (p + 1))] = [46, 35] := q
          obtain ⟨q1, q2⟩ : cell (f p) = 46 ∧ cell (f (p + 1)) = 35 := by simpa using q'
          refine hit ⟨?_, ?_⟩
          · cases hf : f p with
            | false => rfl
            | true => rw [hf] at q1; cases q1
          · cases hf : f (p + 1) with
            | true => rfl
            | false => rw [hf] at q2; cases q2), row_succ g p, ih (m + 1) (by omega) (p + 1) fun q hq hq' => by
          have e3 : decide (q + 1 < p + (m + 2)) = decide (q + 1 < p + 1 + (m + 1)) := by congr 1; rw [eq_iff_iff]; omega
          rw [hg q (by omega) (by omega), e3]
          by_cases e : q = p + 1
          · subst e
            cases hf : f (p + 1) with
            | true =>
              have : f p = true := by
                cases h : f p with
                | true => rfl
                | false => exact absurd ⟨h, hf⟩ hit
              simp [this]
            | false => rfl
          · have e1 : decide (q = p) = false := decide_eq_false (by omega)
            have e2 : decide (q = p + 1) = false := decide_eq_false e
            rw [e1, e2]]
        rw [h0]
        cases hf : f p with
        | true => simp
        | false =>
          have : f (p + 1) = false := by
            cases h : f (p + 1) with
            | false => rfl
            | true => exact absurd ⟨hf, h⟩ hit
          simp [this]
end Mine

namespace Mine

def wayV (dark : List Int) (j k i : Int) : Int := dark.getD i.toNat 0 - k + 2 * (j - i)
theorem ways_mem {dark : List Int} {j k x : Int} : x ∈ waysV dark j k ↔ ∃ i, max 0 (j - k) ≤ i ∧ i ≤ j ∧ x = wayV dark j k i := by
  unfold waysV
  rw [List.mem_map]
  constructor
  · rintro ⟨n, hn, rfl⟩
    have := List.mem_range.mp hn
    exact ⟨max 0 (j - k) + (n : Int), by omega, by omega, rfl⟩
  · rintro ⟨i, h1, h2, rfl⟩
    refine ⟨(i - max 0 (j - k)).toNat, List.mem_range.mpr (by omega), ?_⟩
    have e : max 0 (j - k) + (((i - max 0 (j - k)).toNat : Nat) : Int) = i := by omega
    rw [e]; rfl
theorem place_ge {dark : List Int} {j k : Int} : j ≤ placeV dark j k := (foldl_max _ _).2.1
theorem place_way {dark : List Int} {j k i : Int} (h1 : max 0 (j - k) ≤ i) (h2 : i ≤ j) : wayV dark j k i ≤ placeV dark j k := (foldl_max _ _).2.2 _ (ways_mem.mpr ⟨i, h1, h2, rfl⟩)
theorem place_is {dark : List Int} {j k : Int} : placeV dark j k = j ∨ ∃ i, max 0 (j - k) ≤ i ∧ i ≤ j ∧ placeV dark j k = wayV dark j k i :=
  (foldl_max _ _).1.imp id fun h => by
    obtain ⟨i, a, b, c⟩ := ways_mem.mp h
    exact ⟨i, a, b, c⟩

theorem place_zero {dark : List Int} {j : Int} (hj : 0 ≤ j) (hd : j ≤ dark.getD j.toNat 0) : placeV dark j 0 = dark.getD j.toNat 0 := by
  have h1 := place_way (dark := dark) (j := j) (k := 0) (i := j) (by omega) (by omega)
  unfold wayV at h1
  rcases place_is (dark := dark) (j := j) (k := 0) with h | ⟨i, a, b, c⟩
  · omega
  · have : i = j := by omega
    subst this
    unfold wayV at c
    omega

theorem place_rec {dark : List Int} {j k : Int} (hj : 1 ≤ j) (hk : 0 ≤ k) : placeV dark j (k + 1) = max (placeV dark j k - 1) (placeV dark (j - 1) k + 1) := by
  have w1 : ∀ i, wayV dark j (k + 1) i = wayV dark j k i - 1 := fun i => by unfold wayV; omega
  have w2 : ∀ i, wayV dark j (k + 1) i = wayV dark (j - 1) k i + 1 := fun i => by unfold wayV; omega
  have g1 := place_ge (dark := dark) (j := j - 1) (k := k)
  have g2 := place_ge (dark := dark) (j := j) (k := k + 1)
  have up1 : placeV dark j (k + 1) ≤ max (placeV dark j k - 1) (placeV dark (j - 1) k + 1) := by
    rcases place_is (dark := dark) (j := j) (k := k + 1) with h | ⟨i, a, b, c⟩
    · omega
    · by_cases e : i = j
      · subst e
        have := place_way (dark := dark) (j := i) (k := k) (i := i) (by omega) (by omega)
        have := w1 i
        omega
      · have := place_way (dark := dark) (j := j - 1) (k := k) (i := i) (by omega) (by omega)
        have := w2 i
        omega
  have lo1 : placeV dark j k - 1 ≤ placeV dark j (k + 1) := by
    rcases place_is (dark := dark) (j := j) (k := k) with h | ⟨i, a, b, c⟩
    · omega
    · have := place_way (dark := dark) (j := j) (k := k + 1) (i := i) (by omega) (by omega)
      have := w1 i
      omega
  have lo2 : placeV dark (j - 1) k + 1 ≤ placeV dark j (k + 1) := by
    rcases place_is (dark := dark) (j := j - 1) (k := k) with h | ⟨i, a, b, c⟩
    · omega
    · have := place_way (dark := dark) (j := j) (k := k + 1) (i := i) (by omega) (by omega)
      have := w2 i
      omega
  omega
theorem place_rec0 {dark : List Int} {k : Int} (hk : 0 ≤ k) : placeV dark 0 (k + 1) = max (placeV dark 0 k - 1) 0 := by
  have w1 : ∀ i, wayV dark 0 (k + 1) i = wayV dark 0 k i - 1 := fun i => by unfold wayV; omega
  have g2 := place_ge (dark := dark) (j := 0) (k := k + 1)
  have up1 : placeV dark 0 (k + 1) ≤ max (placeV dark 0 k - 1) 0 := by
    rcases place_is (dark := dark) (j := 0) (k := k + 1) with h | ⟨i, a, b, c⟩
    · omega
    · have := place_way (dark := dark) (j := 0) (k := k) (i := i) (by omega) (by omega)
      have := w1 i
      omega
  have lo1 : placeV dark 0 k - 1 ≤ placeV dark 0 (k + 1) := by
    rcases place_is (dark := dark) (j := 0) (k := k) with h | ⟨i, a, b, c⟩
    · omega
    · have := place_way (dark := dark) (j := 0) (k := k + 1) (i := i) (by omega) (by omega)
      have := w1 i
      omega
  omega

/-- places of a row of n, each greater than the one ahead of it -/
def Good (dark : List Int) (n : Nat) : Prop :=
  (∀ i, i + 1 < dark.length → dark.getD i 0 < dark.getD (i + 1) 0) ∧ ∀ i, i < dark.length → 0 ≤ dark.getD i 0 ∧ dark.getD i 0 < n

theorem good_ge {dark : List Int} {n : Nat} (g : Good dark n) : ∀ i, i < dark.length → (i : Int) ≤ dark.getD i 0
  | 0, h => (g.2 0 h).1
  | i + 1, h => by
    have := good_ge g i (by omega)
    have := g.1 i h
    omega

theorem place_ok {dark : List Int} {n : Nat} (g : Good dark n) : ∀ (k : Nat), (∀ j : Nat, j < dark.length → placeV dark j k < n) ∧ (∀ j : Nat, j + 1 < dark.length → placeV dark j k < placeV dark ((j + 1 : Nat) : Int) k)
  | 0 => by
    have e : ∀ j : Nat, j < dark.length → placeV dark j ((0 : Nat) : Int) = dark.getD j 0 := fun j hj => by
      have := place_zero (dark := dark) (j := (j : Int)) (by omega) (by simpa using good_ge g j hj)
      simpa using this
    refine ⟨fun j hj => ?_, fun j hj => ?_⟩
    · rw [e j hj]; exact (g.2 j hj).2
    · rw [e j (by omega), e (j + 1) hj]; exact g.1 j hj
  | k + 1 => by
    obtain ⟨h1, h2⟩ := place_ok g k
    have ek : ((k + 1 : Nat) : Int) = (k : Int) + 1 := by omega
    have r0 := place_rec0 (dark := dark) (k := (k : Int)) (by omega)
    have r1 : ∀ j : Nat, placeV dark ((j + 1 : Nat) : Int) ((k : Int) + 1) = max (placeV dark ((j + 1 : Nat) : Int) k - 1) (placeV dark (j : Int) k + 1) := fun j => by
      have := place_rec (dark := dark) (j := ((j + 1 : Nat) : Int)) (k := (k : Int)) (by omega) (by omega)
      have e : ((j + 1 : Nat) : Int) - 1 = (j : Int) := by omega
      rw [e] at this
      exact this
    rw [ek]
    refine ⟨fun j hj => ?_, fun j hj => ?_⟩
    · cases j with
      | zero =>
        have := h1 0 hj
        have g0 := place_ge (dark := dark) (j := ((0 : Nat) : Int)) (k := (k : Int))
        have r0' : placeV dark ((0 : Nat) : Int) ((k : Int) + 1) = max (placeV dark ((0 : Nat) : Int) k - 1) 0 := r0
        omega
      | succ j =>
        have := h1 (j + 1) hj
        have := h2 j hj
        have := r1 j
        omega
    · have a1 := r1 j
      cases j with
      | zero =>
        have r0' : placeV dark ((0 : Nat) : Int) ((k : Int) + 1) = max (placeV dark ((0 : Nat) : Int) k - 1) 0 := r0
        have := h2 0 hj
        have g0 := place_ge (dark := dark) (j := ((0 : Nat) : Int)) (k := (k : Int))
        omega
      | succ j =>
        have := r1 j
        have := h2 j (by omega)
        have := h2 (j + 1) hj
        omega

theorem place_mono {dark : List Int} {n : Nat} (g : Good dark n) (k : Nat) : ∀ (d i : Nat), i + d + 1 < dark.length → placeV dark i k < placeV dark ((i + d + 1 : Nat) : Int) k
  | 0, i, h => (place_ok g k).2 i h
  | d + 1, i, h => by
    have a := place_mono g k d i (by omega)
    have b := (place_ok g k).2 (i + d + 1) h
    have e : ((i + (d + 1) + 1 : Nat) : Int) = ((i + d + 1 + 1 : Nat) : Int) := by omega
    rw [e]
    omega
theorem place_lt {dark : List Int} {n : Nat} (g : Good dark n) (k : Nat) {i j : Nat} (hij : i < j) (hj : j < dark.length) : placeV dark i k < placeV dark j k := by
  have := place_mono g k (j - i - 1) i (by omega)
  have e : ((i + (j - i - 1) + 1 : Nat) : Int) = (j : Int) := by omega
  rw [e] at this
  exact this

theorem places_mem {dark : List Int} {k q : Int} : q ∈ placesV dark k ↔ ∃ j : Nat, j < dark.length ∧ q = placeV dark j k := by
  unfold placesV
  rw [List.mem_map]
  constructor
  · rintro ⟨j, hj, rfl⟩; exact ⟨j, List.mem_range.mp hj, rfl⟩
  · rintro ⟨j, hj, rfl⟩; exact ⟨j, List.mem_range.mpr hj, rfl⟩

theorem turn_mem {dark : List Int} {n : Nat} (g : Good dark n) (k q : Nat) : ((q : Int) ∈ placesV dark ((k + 1 : Nat) : Int)) ↔
    (((q : Int) ∈ placesV dark k ∧ (q = 0 ∨ ((q - 1 : Nat) : Int) ∈ placesV dark k)) ∨ (¬ (q : Int) ∈ placesV dark k ∧ q + 1 < n ∧ ((q + 1 : Nat) : Int) ∈ placesV dark k)) := by
  have ek : ((k + 1 : Nat) : Int) = (k : Int) + 1 := by omega
  obtain ⟨h1, h2⟩ := place_ok g k
  have r0 : placeV dark ((0 : Nat) : Int) ((k : Int) + 1) = max (placeV dark ((0 : Nat) : Int) k - 1) 0 := place_rec0 (dark := dark) (k := (k : Int)) (by omega)
  have r1 : ∀ j : Nat, placeV dark ((j + 1 : Nat) : Int) ((k : Int) + 1) = max (placeV dark ((j + 1 : Nat) : Int) k - 1) (placeV dark (j : Int) k + 1) := fun j => by
    have := place_rec (dark := dark) (j := ((j + 1 : Nat) : Int)) (k := (k : Int)) (by omega) (by omega)
    have e : ((j + 1 : Nat) : Int) - 1 = (j : Int) := by omega
    rw [e] at this
    exact this
  have ge0 : ∀ j : Nat, (j : Int) ≤ placeV dark j k := fun j => place_ge
  rw [ek]
  simp only [places_mem]
  constructor
  · rintro ⟨j, hj, e⟩
    cases j with
    | zero =>
      rw [r0] at e
      have := ge0 0
      by_cases z : placeV dark ((0 : Nat) : Int) k = 0
      · exact .inl ⟨⟨0, hj, by omega⟩, .inl (by omega)⟩
      · refine .inr ⟨?_, ?_, 0, hj, by omega⟩
        · rintro ⟨i, hi, e'⟩
          rcases Nat.eq_zero_or_pos i with rfl | hp
          · omega
          · have := place_lt g k hp hi
            omega
        · have := h1 0 hj; omega
    | succ j =>
      rw [r1] at e
      have a := h2 j hj
      have gj := ge0 j
      by_cases z : placeV dark ((j + 1 : Nat) : Int) k = placeV dark (j : Int) k + 1
      · exact .inl ⟨⟨j + 1, hj, by omega⟩, .inr ⟨j, by omega, by omega⟩⟩
      · refine .inr ⟨?_, ?_, j + 1, hj, by omega⟩
        · rintro ⟨i, hi, e'⟩
          rcases Nat.lt_trichotomy i (j + 1) with hp | hp | hp
          · rcases Nat.lt_or_ge i j with hq | hq
            · have := place_lt g k hq (by omega); omega
            · have : i = j := by omega
              subst this; omega
          · subst hp; omega
          · have := place_lt g k hp hi; omega
        · have := h1 (j + 1) hj; omega
  · rintro (⟨⟨j, hj, e⟩, h⟩ | ⟨hn, hq, j, hj, e⟩)
    · cases j with
      | zero =>
        rcases h with h | ⟨i, hi, e'⟩
        · exact ⟨0, hj, by rw [r0]; omega⟩
        · have := ge0 0
          have := ge0 i
          rcases Nat.eq_zero_or_pos i with rfl | hp
          · refine ⟨0, hj, ?_⟩; rw [r0]; omega
          · have := place_lt g k hp hi; omega
      | succ j =>
        have a := h2 j hj
        have := ge0 j
        have gj := ge0 (j + 1)
        rcases h with h | ⟨i, hi, e'⟩
        · omega
        · refine ⟨j + 1, hj, ?_⟩
          rw [r1]
          have hij : i = j := by
            rcases Nat.lt_trichotomy i j with hp | hp | hp
            · have := place_lt g k hp (by omega); omega
            · exact hp
            · rcases Nat.lt_or_ge (j + 1) i with hp' | hp'
              · have := place_lt g k hp' hi; omega
              · have : i = j + 1 := by omega
                subst this; omega
          subst hij; omega
    · cases j with
      | zero => exact ⟨0, hj, by rw [r0]; omega⟩
      | succ j =>
        refine ⟨j + 1, hj, ?_⟩
        rw [r1]
        have a := h2 j hj
        have : ¬ (q : Int) = placeV dark j k := fun z => hn ⟨j, by omega, z⟩
        omega
end Mine

namespace Mine
open StrLaws

theorem join_empty : ∀ (texts : List Str), (Str.join Str.empty texts).cps.toList = texts.flatMap fun x => x.cps.toList
  | [] => rfl
  | [x] => by show x.cps.toList = _; simp
  | x :: y :: r => by
    show (x ++ Str.empty ++ Str.join Str.empty (y :: r)).cps.toList = _
    rw [Str.append_empty, Str.cps_append, Array.toList_append, join_empty (y :: r)]
    rfl
theorem empty_eq : Str.ofString "" = Str.empty := by decide +kernel
theorem nl_eq : Str.ofString "\n" = ⟨#[10]⟩ := by decide +kernel
theorem flat_row (f : Nat → Bool) (s : Nat → Str) (h : ∀ q, (s q).cps.toList = [cell (f q)]) : ∀ (m p : Nat), ((List.range' p m).map s).flatMap (fun x => x.cps.toList) = row f p m
  | 0, _ => rfl
  | m + 1, p => by
    rw [List.range'_succ, List.map_cons, List.flatMap_cons, h, flat_row f s h m (p + 1), row_succ]; rfl
theorem lineV_row (dark : List Int) (n : Nat) (k : Int) : (lineV dark n k).cps.toList = row (fun q => decide ((q : Int) ∈ placesV dark k)) 0 n := by
  unfold lineV Txt.join
  rw [glued_eq_join, show (Str.ofString "") = Str.empty from empty_eq, join_empty, List.range_eq_range']
  refine flat_row _ _ (fun q => ?_) n 0
  unfold signV
  by_cases h : (q : Int) ∈ placesV dark k
  · rw [if_pos h, decide_eq_true h]; decide +kernel
  · rw [if_neg h, decide_eq_false h]; decide +kernel

theorem line_step {dark : List Int} {n : Nat} (g : Good dark n) (k : Nat) : stepL (lineV dark n (k : Int)).cps.toList = (lineV dark n ((k + 1 : Nat) : Int)).cps.toList := by
  rw [lineV_row, lineV_row]
  refine step_row _ _ n 0 fun q _ hq => ?_
  have h := turn_mem g k q
  by_cases h1 : (q : Int) ∈ placesV dark k
  · rw [decide_eq_true h1, if_pos rfl]
    rw [Bool.eq_iff_iff, decide_eq_true_eq, h, Bool.or_eq_true, decide_eq_true_eq, decide_eq_true_eq]
    constructor
    · rintro (⟨_, z⟩ | ⟨z, _⟩)
      · exact z
      · exact absurd h1 z
    · exact fun z => .inl ⟨h1, z⟩
  · rw [decide_eq_false h1, if_neg Bool.false_ne_true]
    rw [Bool.eq_iff_iff, decide_eq_true_eq, h, Bool.and_eq_true, decide_eq_true_eq, decide_eq_true_eq]
    constructor
    · rintro (⟨z, _⟩ | ⟨_, z1, z2⟩)
      · exact absurd z h1
      · exact ⟨by omega, z2⟩
    · exact fun z => .inr ⟨h1, by omega, z.2⟩

/-- three lines, one below the other -/
def linesV (d1 d2 d3 : List Int) (n : Nat) (k : Int) : Str := Txt.join "\n" [lineV d1 n k, lineV d2 n k, lineV d3 n k]
theorem linesV_toList (d1 d2 d3 : List Int) (n : Nat) (k : Int) : (linesV d1 d2 d3 n k).cps.toList = (lineV d1 n k).cps.toList ++ 10 :: ((lineV d2 n k).cps.toList ++ 10 :: (lineV d3 n k).cps.toList) := by
  unfold linesV Txt.join
  rw [glued_eq_join, show (Str.ofString "\n") = ⟨#[10]⟩ from nl_eq]
  show (lineV d1 n k ++ ⟨#[10]⟩ ++ (lineV d2 n k ++ ⟨#[10]⟩ ++ lineV d3 n k)).cps.toList = _
  simp only [Str.cps_append, Array.toList_append]
  simp
theorem lines_step {d1 d2 d3 : List Int} {n : Nat} (g1 : Good d1 n) (g2 : Good d2 n) (g3 : Good d3 n) (k : Nat) : stepV (linesV d1 d2 d3 n (k : Int)) = linesV d1 d2 d3 n ((k + 1 : Nat) : Int) := by
  refine Str.ext' (Array.toList_inj.mp ?_)
  rw [stepV_toList, linesV_toList, linesV_toList, stepL_cut, stepL_cut, line_step g1, line_step g2, line_step g3]

/-- k turns -/
def iterV : Nat → Str → Str
  | 0, x => x
  | k + 1, x => iterV k (stepV x)
theorem lines_iter {d1 d2 d3 : List Int} {n : Nat} (g1 : Good d1 n) (g2 : Good d2 n) (g3 : Good d3 n) : ∀ (k i : Nat), iterV k (linesV d1 d2 d3 n (i : Int)) = linesV d1 d2 d3 n ((i + k : Nat) : Int)
  | 0, _ => rfl
  | k + 1, i => by
    show iterV k (stepV _) = _
    rw [lines_step g1 g2 g3, lines_iter g1 g2 g3 k (i + 1)]
    congr 2; omega
theorem lines_law {d1 d2 d3 : List Int} {n : Nat} (g1 : Good d1 n) (g2 : Good d2 n) (g3 : Good d3 n) (k : Nat) : iterV k (linesV d1 d2 d3 n 0) = linesV d1 d2 d3 n (k : Int) := by
  have := lines_iter g1 g2 g3 k 0
  simpa using this
theorem linesV_length (d1 d2 d3 : List Int) (n : Nat) (k : Int) : (linesV d1 d2 d3 n k).length = 3 * n + 2 := by
  have := congrArg List.length (linesV_toList d1 d2 d3 n k)
  simp only [lineV_row, List.length_append, List.length_cons] at this
  have hr : ∀ f, (row f 0 n).length = n := fun f => by unfold row; simp
  rw [hr, hr, hr] at this
  show (linesV d1 d2 d3 n k).cps.size = _
  rw [← Array.length_toList, this]; omega
end Mine

namespace Mine
local macro_rules | `(tactic| walk_at "m get") => `(tactic| (repeat (first | (with_reducible exact up_eq) | (with_reducible refine (up_ne (by decide +kernel)).trans ?_))))
local macro_rules | `(tactic| walk_at "m lv") => `(tactic| (with_reducible refine x_lv (by assumption) (by walk_at "m get") ?_ (by kernel_rfl!) (by kernel_rfl!) (by decide +kernel)))
local macro_rules | `(tactic| walk_at "m sv") => `(tactic| ((with_reducible refine x_sv (by assumption) (by assumption) (by kernel_rfl!) (by kernel_rfl!) ?_); intro _ _ _ _; (try dsimp only)))
local macro_rules | `(tactic| walk_at "m flt") => `(tactic| (repeat' (first
  | (with_reducible refine wpAny_BinOp ?_) | walk_at "m lv" | ((with_reducible refine x_fconst ?_); intro _ _) | ((with_reducible refine x_fadd ?_); intro _ _) | ((with_reducible refine x_fsub ?_); intro _ _) | ((with_reducible refine x_fmul ?_); intro _ _))))
local macro_rules | `(tactic| walk_at "m set") => `(tactic| ((with_reducible refine wpAny_execs_cons ?_); (with_reducible refine wpAny_Assign_Name ?_ (by kernel_rfl!)); walk_at "m flt"))
local macro_rules | `(tactic| walk_at "m arg") => `(tactic| (with_reducible refine args_cons ?_ (by with_unfolding_all rfl)))
local macro_rules | `(tactic| walk_at "m gr") => `(tactic| first | assumption | exact grF (by assumption) (by assumption))
local macro_rules | `(tactic| walk_at "m gn") => `(tactic| first
  | (with_reducible refine x_gl (Gr.n_yiq (by walk_at "m gr")) ?_ (by kernel_rfl!) (by kernel_rfl!) (by kernel_rfl!) (by decide +kernel))
  | (with_reducible refine x_gl (Gr.n_hls (by walk_at "m gr")) ?_ (by kernel_rfl!) (by kernel_rfl!) (by kernel_rfl!) (by decide +kernel))
  | (with_reducible refine x_gl (Gr.n_hsv (by walk_at "m gr")) ?_ (by kernel_rfl!) (by kernel_rfl!) (by kernel_rfl!) (by decide +kernel))
  | (with_reducible refine x_gl (Gr.n_told (by walk_at "m gr")) ?_ (by kernel_rfl!) (by kernel_rfl!) (by kernel_rfl!) (by decide +kernel))
  | (with_reducible refine x_gl (Gr.n_whole (by walk_at "m gr")) ?_ (by kernel_rfl!) (by kernel_rfl!) (by kernel_rfl!) (by decide +kernel))
  | (with_reducible refine x_gl (Gr.n_place (by walk_at "m gr")) ?_ (by kernel_rfl!) (by kernel_rfl!) (by kernel_rfl!) (by decide +kernel))
  | (with_reducible refine x_gl (Gr.n_line (by walk_at "m gr")) ?_ (by kernel_rfl!) (by kernel_rfl!) (by kernel_rfl!) (by decide +kernel))
  | (with_reducible refine x_gl (Gr.n_split (by walk_at "m gr")) ?_ (by kernel_rfl!) (by kernel_rfl!) (by kernel_rfl!) (by decide +kernel))
  | (with_reducible refine x_gl (Gr.n_replace (by walk_at "m gr")) ?_ (by kernel_rfl!) (by kernel_rfl!) (by kernel_rfl!) (by decide +kernel))
  | (with_reducible refine x_bl (Gr.n_max (by walk_at "m gr")) ?_ (by kernel_rfl!) (by kernel_rfl!) (by kernel_rfl!) (by kernel_rfl!) (by decide +kernel))
  | (with_reducible refine x_bl (Gr.n_min (by walk_at "m gr")) ?_ (by kernel_rfl!) (by kernel_rfl!) (by kernel_rfl!) (by kernel_rfl!) (by decide +kernel))
  | (with_reducible refine x_bl (Gr.n_len (by walk_at "m gr")) ?_ (by kernel_rfl!) (by kernel_rfl!) (by kernel_rfl!) (by kernel_rfl!) (by decide +kernel))
  | (with_reducible refine x_bl (Gr.n_range (by walk_at "m gr")) ?_ (by kernel_rfl!) (by kernel_rfl!) (by kernel_rfl!) (by kernel_rfl!) (by decide +kernel)))
local macro_rules | `(tactic| walk_at "m as") => `(tactic| ((with_unfolding_all refine assignInOrder_cons ?_); dsimp only; (with_reducible refine PyProof.Rows.assign_Name ?_); walk_at "m sv"))
local macro_rules | `(tactic| walk_at "m cl") => `(tactic| (with_reducible refine x_cl (by assumption) (by walk_at "m get") ?_ (by kernel_rfl!) (by kernel_rfl!) (by decide +kernel)))
local macro_rules | `(tactic| walk_at "m lvC") => `(tactic| (with_reducible refine x_lvC (by assumption) (by walk_at "m get") ?_ (by kernel_rfl!) (by kernel_rfl!) (by decide +kernel)))
local macro_rules | `(tactic| walk_at "m cc") => `(tactic| (with_reducible refine x_cc (by assumption) (by walk_at "m get") ?_ (by kernel_rfl!) (by kernel_rfl!) (by kernel_rfl!) (by kernel_rfl!) (by decide +kernel)))
local macro_rules | `(tactic| walk_at "m cv") => `(tactic| (with_reducible refine x_cv (by assumption) (by assumption) ?_ (by kernel_rfl!) (by kernel_rfl!) (by decide +kernel)))
local macro_rules | `(tactic| walk_at "m sc") => `(tactic| (with_reducible refine x_sc (by assumption) (by assumption) (by kernel_rfl!) (by kernel_rfl!) ?_))
local macro_rules | `(tactic| walk_at "m svC") => `(tactic| ((with_reducible refine x_svC (by assumption) (by assumption) (by assumption) (by kernel_rfl!) (by kernel_rfl!) ?_); intro _ _ _ _ _; (try dsimp only)))

section
variable {prog : Program} {w : World} {A : Around} {E : Value → Shared → Prop} {s : Shared} {h : Heap} {tk : Nat} {Q : Value → Shared → Prop} {env : Env}

theorem partsFrom_len (x : Str) (wd : Nat) : ∀ (cuts : List Nat) (a : Nat), (StrLaws.partsFrom x wd a cuts).length = cuts.length + 1
  | [], _ => rfl
  | c :: r, a => by show (StrLaws.partsFrom x wd (c + wd) r).length + 1 = _; rw [partsFrom_len x wd r]; rfl
theorem parts_le (x y : Str) (hx : x.length ≤ 1000000) : (Builtin.Str.partsBetween x (Builtin.Str.occurrences x y 0 x.length (x.length + 1)) y.length).length ≤ sizeLine := by
  rw [StrLaws.partsBetween_eq, partsFrom_len]
  have := StrLaws.occ_length_le x y 0 x.length (x.length + 1)
  rw [sizeLine_eq]; omega

theorem on_split {x : Str} {t : Tok} {pos : Pos} {a : Sem Value} {s₀ : Shared} (hx : x.length ≤ 1000000)
    (hq : wpAny (model prog w) A a (fun v s₁ => ∃ y u h₁ tk₁, v = .str y u ∧ s₁ = St s h₁ tk₁ ∧ (y.length == 0) = false ∧
      ∀ D l h' tk', l.map (·.1) = Txt.split x y → Kept h₁ h' → h'.IsList D (strValues l).toArray → Q (.ref D) (St s h' tk')) E s₀) :
    MethodOnS prog w A E "split" (.str x t) pos [(false, a)] Q s₀ := by
  refine ⟨"str", _, F.plainAttrs_str, F.slot_str_split, F.type_str_split, typeIs_str _ _ _, (fun _ e => nomatch e),
    method1_meets F.slot_str_split F.entry_str_split (wpAny_mono hq (fun v s₁ h₁ => ?_) fun _ _ e => e)⟩
  obtain ⟨y, u, h₁, tk₁, rfl, rfl, hy, hq⟩ := h₁
  have hx' : x.length ≤ sizeLine := by rw [sizeLine_eq]; omega
  refine ⟨typeIs_str _ _ _, F.args_str_split_2 _ _, ?_⟩
  cases h1 : (decide (x.length < y.length) || decide (Builtin.Str.strKind x < Builtin.Str.strKind y))
  · cases hf : (Builtin.Str.occurrences x y 0 x.length (x.length + 1)).isEmpty
    · refine ⟨_, meets_str_split_sep x y t u h1 hy hf hx' (parts_le x y hx), ?_⟩
      show wants Q E _ { St s h₁ tk₁ with toks := _, heap := h₁.push { cls := .type "list", data := .seq (strsFrom tk₁ (Builtin.Str.partsBetween x (Builtin.Str.occurrences x y 0 x.length (x.length + 1)) y.length)).toArray } }
      rw [strsFrom_eq]
      exact hq _ (numbered tk₁ _) _ _ ((numbered_texts _ _).trans ((if_neg (ne_true_of_eq_false h1)).trans (if_neg (ne_true_of_eq_false hf))).symm) (Kept.push _ _) ⟨_, Heap.get?_push_size _ rfl, rfl, _, rfl⟩
    · exact ⟨_, meets_str_split_not_found x y t u h1 hy hf, hq _ [(x, t)] _ _ ((if_neg (ne_true_of_eq_false h1)).trans (if_pos hf)).symm (Kept.push _ _) ⟨_, Heap.get?_push_size _ rfl, rfl, _, rfl⟩⟩
  · exact ⟨_, meets_str_split_cannot_occur x y t u h1, hq _ [(x, t)] _ _ (if_pos h1).symm (Kept.push _ _) ⟨_, Heap.get?_push_size _ rfl, rfl, _, rfl⟩⟩

/-- k pairs of arguments -/
def prs (t1 t2 : Tok) : Nat → List Value
  | 0 => []
  | k + 1 => .str ".#" t1 :: .str "#." t2 :: prs t1 t2 k
theorem prs_len (t1 t2 : Tok) : ∀ k, (prs t1 t2 k).length = 2 * k
  | 0 => rfl
  | k + 1 => by show (prs t1 t2 k).length + 1 + 1 = _; rw [prs_len]; omega

theorem bind_replace (cd pm v : Value) (vs : List Value) : bindArgs (fdOf 1 cd pm) ⟨v :: vs, []⟩ = (do let d ← newTuple vs; pure [("text", v), ("pairs", d)]) := by
  cases vs with
  | nil => kernel_rfl!
  | cons a r => kernel_rfl!

theorem join_len (sep : Str) : ∀ (r : List Str) (x : Str), (Str.join sep (x :: r)).length = ((x :: r).map (·.length)).sum + r.length * sep.length
  | [], x => by show x.length = _; simp
  | y :: r, x => by
    show (x ++ sep ++ Str.join sep (y :: r)).length = _
    rw [Str.length_append, Str.length_append, join_len sep r y]
    simp only [List.map_cons, List.sum_cons, List.length_cons, Nat.succ_mul]
    omega
theorem split_sum (x : Str) (hx : x.length ≤ 100000) : ((Txt.split x ".#").map (·.length)).sum + (Txt.split x ".#").length * (Str.ofString "#.").length ≤ 1000000 := by
  have h := stepV_length x
  unfold stepV Txt.join at h
  rw [StrLaws.glued_eq_join] at h
  have e2 : (Str.ofString "#.").length = 2 := by decide +kernel
  cases hs : Txt.split x ".#" with
  | nil => simp
  | cons y r =>
    rw [hs, join_len, e2] at h
    rw [e2, List.length_cons]
    omega

theorem x_enterV {v : Value} {vs : List Value} (G : Gr h) (hroom : A.depth < recursionLimit) (hsz : vs.length ≤ sizeLine)
    (hq : ∀ cd pm L h₁ T tk' body, (fdOf 1 cd pm).body = .stmts body → Fr h L h₁ (up (up (fun _ => none) "text" v) "pairs" (.ref T)) → h₁.IsTuple T vs.toArray → T < L → Gr h₁ →
      wpAny (model prog w) (A.deeper (callEnv (fdOf 1 cd pm) L 21)) (execs body (callEnv (fdOf 1 cd pm) L 21)) (fun f s' => Q (match f with | .ret v => v | _ => .none) s') (fun _ _ => False) (St s h₁ tk')) :
    wpAny (model prog w) A (call (.ref 21) (v :: vs)) Q E (St s h tk) := by
  obtain ⟨o, cd, pm, ho, hd, hc⟩ := G.fns.1
  obtain ⟨h1, h2, h3, h4, h5⟩ := okScope_out (show okScope 1 ["text", "pairs"] = true by decide +kernel) cd pm
  refine wpAny_call (codeAny_call_function (s := St s h tk) hroom ho hd h3 h4 (show (fdOf 1 cd pm).body = .stmts _ from rfl) hc ?_)
  rw [bind_replace]
  refine wpAny_bind (wpAny_newObj_type (wpAny_pure ?_) (by show vs.toArray.size ≤ sizeLine; simpa using hsz))
  have hk0 : Kept h (h.push (tupO vs)) := Kept.push _ _
  refine wpAny_newFunctionEnv (s := St s (h.push (tupO vs)) tk) (closure := []) h2 (fun x hx => h1 x.1 ?_) (fun h₁ hns hsb => ⟨(G.nolimit.keeps hk0).fresh _ hsb, ?_⟩) h5
  · rcases List.mem_cons.mp hx with rfl | hx
    · exact .head _
    · rcases List.mem_cons.mp hx with rfl | hx
      · exact .tail _ (.head _)
      · cases hx
  · have hk1 : Kept (h.push (tupO vs)) h₁ := fun b o e => hsb.extBut b o (Nat.ne_of_lt (Heap.lt_size e)) (Heap.get?_push_of_some _ e)
    have F : Fr h (h.push (tupO vs)).objs.size h₁ (up (up (fun _ => none) "text" v) "pairs" (.ref h.objs.size)) := by
      refine ⟨?_, Kept.trans hk0 hk1, by rw [Heap.size_push]; exact Nat.le_succ _⟩
      have e := ups_eq [(("pairs" : Str), Value.ref h.objs.size), ("text", v)]
      have : (fun x => List.lookup x [(("text" : Str), v), ("pairs", Value.ref h.objs.size)].reverse) = up (up (fun _ => none) "text" v) "pairs" (.ref h.objs.size) := e
      rw [← this]
      exact hns
    have := hq cd pm (h.push (tupO vs)).objs.size h₁ h.objs.size (tk + 2) _ rfl F ((tupO_is h vs).at fun o e => hk1 _ o e) (by rw [Heap.size_push]; exact Nat.lt_succ_self _) (G.keeps (Kept.trans hk0 hk1))
    exact codeAny_func (wpAny_mono this (fun _ _ x => x) fun _ _ x => x.elim)

set_option maxHeartbeats 1000000 in
theorem replace_spec {x : Str} {t t1 t2 : Tok} {k : Nat} (G : Gr h) (hroom : A.depth < recursionLimit) (hx : x.length ≤ 100000) (hk : k ≤ 1000)
    (hq : ∀ h' tk t, Kept h h' → Q (.str (iterV k x) t) (St s h' tk)) :
    wpAny (model prog w) A (call (.ref 21) (.str x t :: prs t1 t2 k)) Q E (St s h tk) := by
  refine x_enterV G hroom (by rw [prs_len, sizeLine_eq]; omega) ?_
  intro cd pm L h₁ T tk' body hbody F hT hTL G₁
  have e : body = _ := (FuncBody.stmts.inj (hbody.symm.trans (rfl : (fdOf 1 cd pm).body = .stmts _)))
  subst e
  (with_reducible refine wpAny_execs_cons ?_)
  (with_reducible refine wpAny_While ?_)
  refine codeAny_whileLoop (fun n s' => ∃ h₂ tk₂ m T' y ty, s' = St s h₂ tk₂ ∧ Fr h L h₂ m ∧ m "text" = some (.str y ty) ∧ m "pairs" = some (.ref T') ∧ h₂.IsTuple T' (prs t1 t2 n).toArray ∧ T' ≠ L ∧ n ≤ 1000 ∧ y.length ≤ 100000 ∧ iterV n y = iterV k x) ?_ k
    ⟨h₁, tk', _, T, x, t, rfl, F, by walk_at "m get", by walk_at "m get", hT, Nat.ne_of_lt hTL, hk, hx, rfl⟩
  rintro n s' ⟨h₂, tk₂, m, T', y, ty, rfl, F₂, ht, hp, hT', hTL', hn, hy, hi⟩
  refine wpAny_isTrue_value ?_
  refine x_lv F₂ hp ?_ (by kernel_rfl!) (by kernel_rfl!) (by decide +kernel)
  refine truthy_tuple (s := St s h₂ tk₂) hT' (by rw [List.size_toArray, prs_len]; omega) ?_
  cases n with
  | zero =>
    rw [if_neg (by show ¬ (false = true); decide)]
    refine wpAny_execs_nil ?_
    (with_reducible refine wpAny_execs_cons ?_)
    (with_reducible refine wpAny_Return_some ?_)
    refine x_lv (tk := tk₂ + 1 + 1) F₂ ht ?_ (by kernel_rfl!) (by kernel_rfl!) (by decide +kernel)
    have := hq h₂ (tk₂ + 1 + 1) ty F₂.keep
    rw [← hi] at this
    exact this
  | succ n =>
    rw [if_pos (by rfl)]
    have hT2 : h₂.IsTuple T' (.str ".#" t1 :: .str "#." t2 :: prs t1 t2 n).toArray := hT'
    show wpAny _ _ _ _ _ (St s h₂ (tk₂ + 1 + 1))
    (with_reducible refine wpAny_execs_cons ?_)
    (with_reducible refine wpAny_Assign_Name ?_ (by kernel_rfl!))
    refine Call_method1 (by kernel_rfl!) (by kernel_rfl!) (by kernel_rfl!) ?_
    (with_reducible refine Subscript_ ?_)
    refine x_lv F₂ hp ?_ (by kernel_rfl!) (by kernel_rfl!) (by decide +kernel)
    (with_reducible refine x_iconst ?_); intro _ _
    refine x_titem (j := 1) (x := .str "#." t2) (l := .str ".#" t1 :: .str "#." t2 :: prs t1 t2 n) hT2 (by decide) (by decide) (by simp [seqIndex?]; omega) rfl ?_ (by with_unfolding_all rfl)
    refine SB.join ?_
    refine Call_method1 (by kernel_rfl!) (by kernel_rfl!) (by kernel_rfl!) ?_
    refine x_lv F₂ ht ?_ (by kernel_rfl!) (by kernel_rfl!) (by decide +kernel)
    refine on_split (s := s) (by omega) ?_
    (with_reducible refine Subscript_ ?_)
    refine x_lv F₂ hp ?_ (by kernel_rfl!) (by kernel_rfl!) (by decide +kernel)
    (with_reducible refine x_iconst ?_); intro _ _
    refine x_titem (j := 0) (x := .str ".#" t1) (l := .str ".#" t1 :: .str "#." t2 :: prs t1 t2 n) hT2 (by decide) (by decide) (by simp [seqIndex?]; try omega) rfl ?_ (by with_unfolding_all rfl)
    refine ⟨_, _, _, _, rfl, rfl, by decide +kernel, ?_⟩
    intro D l h₃ tk₃ hl hk₃ hD
    refine ⟨D, l, rfl, hD, _, hl, joinOk_of (split_sum y hy), fun t' tk' => ?_⟩
    have F₃ := frK F₂ hk₃
    have hT3 : h₃.IsTuple T' (.str ".#" t1 :: .str "#." t2 :: prs t1 t2 n).toArray := hT2.at fun o e => hk₃ _ o e
    show wpAny _ _ _ _ _ (St s h₃ tk')
    refine x_svB F₃ (by kernel_rfl!) (by kernel_rfl!) ?_
    intro h₄ tk₄ F₄ hb₄
    have hT4 : h₄.IsTuple T' (.str ".#" t1 :: .str "#." t2 :: prs t1 t2 n).toArray := hT3.at fun o e => hb₄ _ o hTL' e
    (with_reducible refine wpAny_execs_cons ?_)
    (with_reducible refine wpAny_Assign_Name ?_ (by kernel_rfl!))
    (with_reducible refine Subscript_ ?_)
    refine x_lv F₄ ((up_ne (by decide +kernel)).trans hp) ?_ (by kernel_rfl!) (by kernel_rfl!) (by decide +kernel)
    (with_reducible refine wpAny_Slice ?_)
    (with_reducible refine evalPart_some_step ?_)
    (with_reducible refine x_iconst ?_); intro u₅ tk₅
    (with_reducible refine evalPart_none_step ?_)
    (with_reducible refine evalPart_none_step ?_)
    have hT5 : (h₄.push { cls := .type "slice", data := .fields #[.int 2 u₅, .none, .none] }).IsTuple T' (.str ".#" t1 :: .str "#." t2 :: prs t1 t2 n).toArray := hT4.at fun o e => Heap.get?_push_of_some _ e
    show wpAny _ _ _ _ _ (St s (h₄.push { cls := .type "slice", data := .fields #[.int 2 u₅, .none, .none] }) tk₅)
    refine tail_any (s := St s (h₄.push { cls := .type "slice", data := .fields #[.int 2 u₅, .none, .none] }) tk₅) (T := "tuple") (by obtain ⟨o, ho, hc, _⟩ := hT5; exact ⟨o, ho, hc⟩) slot_tuple_getitem.lookup (getItem_tuple_from (a := 2) (u := u₅) hT5 (Heap.IsSliceOf.new ..) (by decide) (by simp) ?_ (by rw [sizeLine_eq]; simp [prs_len]; omega)) (by with_unfolding_all rfl)
    have F₆ : Fr h L ((h₄.push { cls := .type "slice", data := .fields #[.int 2 u₅, .none, .none] }).push (tupO (prs t1 t2 n))) _ := (F₄.push _).push _
    have hT6 := tupO_is (h₄.push { cls := .type "slice", data := .fields #[.int 2 u₅, .none, .none] }) (prs t1 t2 n)
    have hL6 : (h₄.push { cls := .type "slice", data := .fields #[.int 2 u₅, .none, .none] }).objs.size ≠ L := by
      obtain ⟨o, _, _, ho, _⟩ := F₄.ns
      have := Heap.lt_size ho
      rw [Heap.size_push]
      exact Nat.ne_of_gt (Nat.lt_succ_of_lt this)
    show wpAny _ _ _ _ _ (St s ((h₄.push { cls := .type "slice", data := .fields #[.int 2 u₅, .none, .none] }).push (tupO (prs t1 t2 n))) tk₅)
    refine x_svB F₆ (by kernel_rfl!) (by kernel_rfl!) ?_
    intro h₇ tk₇ F₇ hb₇
    refine wpAny_execs_nil ⟨n, Nat.lt_succ_self _, h₇, tk₇, _, _, stepV y, t', rfl, F₇, ?_, up_eq, hT6.at fun o e => hb₇ _ o hL6 e, hL6, by omega, by rw [stepV_length]; exact hy, hi⟩
    exact (up_ne (by decide +kernel)).trans up_eq
end
end Mine

namespace Mine
section
variable {prog : Program} {w : World} {A : Around} {E : Value → Shared → Prop} {s : Shared} {h h₀ : Heap} {tk : Nat} {L : Addr} {m cm : Str → Option Value} {news : List (Addr × Obj)} {env : Env}

/-- what a loop over a range asks: Inv I i h holds behind i turns, I being the iterator; it is not touched by the iterator's own steps -/
structure LoopR (prog : Program) (w : World) (A : Around) (s : Shared) (env : Env) (x : Str) (px : Pos) (body : List Stmt) (Q : Flow → Shared → Prop) (h₁ : Heap) (a : Int) (n : Nat) (Inv : Addr → Nat → Heap → Prop) : Prop where
  init : ∀ I h₂, h₁.get? I = none → Kept h₁ h₂ → Inv I 0 h₂
  frame : ∀ I i h h', Inv I i h → (∀ b o, b ≠ I → h.get? b = some o → h'.get? b = some o) → Inv I i h'
  turn : ∀ I i h₂ tk₂ t E', i < n → Inv I i h₂ → (∃ o, h₂.get? I = some o) →
    wpAny (model prog w) A (assign (.Name x px) env (.int (a + (i : Int)) t)) (fun _ s₂ => wpAny (model prog w) A (execs body env) (fun f s₃ => match f with
      | .next | .cont => ∃ h₃ tk₃, s₃ = St s h₃ tk₃ ∧ Inv I (i + 1) h₃ ∧ ∀ o, h₂.get? I = some o → h₃.get? I = some o
      | .brk => False
      | .ret v => Q (.ret v) s₃) E' s₂) E' (St s h₂ tk₂)
  done : ∀ I h₂ tk₂, Inv I n h₂ → Q .next (St s h₂ tk₂)

theorem x_forR {x : Str} {px pos : Pos} {iter : Expr} {body : List Stmt} {Q : Flow → Shared → Prop} (hh : A.handled = none)
    (hq : wpAny (model prog w) A (eval iter env) (fun xv s₁ => ∃ r a b t u v h₁ tk₁ Inv, xv = .ref r ∧ s₁ = St s h₁ tk₁ ∧ IsRange h₁ r a b 1 t u v ∧ (-(2 ^ 62) ≤ a ∧ a < 2 ^ 62 ∧ -(2 ^ 62) ≤ b ∧ b < 2 ^ 62) ∧
      LoopR prog w A s env x px body Q h₁ a (b - a).toNat Inv) E (St s h tk))
    (hs : ∀ x, foldedSetIterable iter env x = pure x) : wpAny (model prog w) A (exec (.For (.Name x px) iter body [] pos) env) Q E (St s h tk) := by
  refine wpAny_For (wpAny_mono hq (fun xv s₁ h₁ => ?_) fun _ _ e => e) hs
  obtain ⟨r, a, b, t, u, v, h₁, tk₁, Inv, rfl, rfl, hr, ⟨ha, ha', hb, hb'⟩, LR⟩ := h₁
  refine wpAny_pyIter_range (s := St s h₁ tk₁) hr (small_one ha ha' hb hb') ?_
  have e1 : Builtin.Range.rangeSize a b 1 = ((b - a).toNat : Int) := by rw [rangeSize_one]; split <;> omega
  rw [e1]
  generalize (b - a).toNat = n at LR
  have hI0 : h₁.get? h₁.objs.size = none := get_none_of_le (Nat.le_refl _)
  refine codeAny_forLoop (fun k s' => ∃ (i : Nat) (h₂ : Heap) (tk₂ : Nat), s' = St s h₂ tk₂ ∧ IsRangeIter h₂ h₁.objs.size (a + (i : Int)) ((n : Int) - (i : Int)) 1 ∧ Inv h₁.objs.size i h₂ ∧ i ≤ n ∧ k = n + 1 - i) ?_ (n + 1)
    ⟨0, _, tk₁, rfl, by
      have : a + ((0 : Nat) : Int) = a := by omega
      rw [this]
      have : (n : Int) - ((0 : Nat) : Int) = (n : Int) := by omega
      rw [this]; exact Heap.get?_push_size _ rfl, LR.init _ _ hI0 (Kept.push _ _), Nat.zero_le _, rfl⟩
  rintro k s' ⟨i, h₂, tk₂, rfl, hit, hinv, hi, rfl⟩
  by_cases hlt : i < n
  · refine wpAny_pyNext_range_item (s := St s h₂ tk₂) hit (by omega) fun h₃ hit₃ hs₃ => ?_
    have hinv₃ := LR.frame _ _ _ h₃ hinv fun b o hb e => hs₃.extBut b o hb e
    refine wpAny_mono (LR.turn _ i h₃ (tk₂ + 1) tk₂ _ hlt hinv₃ ⟨_, hit₃⟩) (fun _ s₄ h₄ => wpAny_mono h₄ (fun f s₅ h₅ => ?_) fun _ _ z => z) fun _ _ z => z
    have e2 : a + (i : Int) + 1 = a + ((i + 1 : Nat) : Int) := by omega
    have e3 : (n : Int) - (i : Int) - 1 = (n : Int) - ((i + 1 : Nat) : Int) := by omega
    rw [e2, e3] at hit₃
    cases f with
    | next =>
      obtain ⟨h₆, tk₆, rfl, hi₆, hI₆⟩ := h₅
      exact ⟨n + 1 - (i + 1), by omega, i + 1, h₆, tk₆, rfl, hI₆ _ hit₃, hi₆, hlt, rfl⟩
    | cont =>
      obtain ⟨h₆, tk₆, rfl, hi₆, hI₆⟩ := h₅
      exact ⟨n + 1 - (i + 1), by omega, i + 1, h₆, tk₆, rfl, hI₆ _ hit₃, hi₆, hlt, rfl⟩
    | brk => exact h₅.elim
    | ret v => exact h₅
  · have hin : i = n := by omega
    subst hin
    refine wpAny_pyNext_range_end (s := St s h₂ tk₂) hh hit (by omega) fun h₃ he₃ => ?_
    exact wpAny_execs_nil (LR.done _ h₃ _ (LR.frame _ _ _ h₃ hinv fun b o hb e => he₃ b o hb e))

/-- «l.append(v)» as a statement -/
theorem x_append {o e : Expr} {l : Addr} {items : Array Value} {apos pos spos : Pos} {Q : Flow → Shared → Prop}
    (hbase : attributeBase o "append" env (eval o env) = eval o env) (hs : starEach [e] env = [(false, eval e env)]) (hline : (apos.endLine == pos.line) = true)
    (hi : interactive env = false) (hsw : swapsWith (.Call (.Attribute o "append" apos) [e] [] pos) none spos.line env = pure false)
    (ho : ∀ Q' : Value → Shared → Prop, (∀ tk', Q' (.ref l) (St s h tk')) → wpAny (model prog w) A (eval o env) Q' E (St s h tk)) (hl : h.PlainList l items) (hsz : items.size ≤ 1000000)
    (hq : ∀ tk', wpAny (model prog w) A (eval e env) (fun v s₁ => ∃ h₁ tk₁, s₁ = St s h₁ tk₁ ∧ h₁.PlainList l items ∧ ∀ h' tk', h'.PlainList l (items.push v) → (∀ b o, b ≠ l → h₁.get? b = some o → h'.get? b = some o) → Q .next (St s h' tk')) E (St s h tk')) :
    wpAny (model prog w) A (exec (.Expr (.Call (.Attribute o "append" apos) [e] [] pos) spos) env) Q E (St s h tk) := by
  refine wpAny_Expr (Call_method1 hbase hs hline (ho _ fun tk' => ?_)) hi hsw
  obtain ⟨n, hob⟩ := id hl
  refine ⟨"list", "list.append", F.plainAttrs_list, slot_list_append, type_list_append, ⟨_, hob, rfl⟩, fun a e => by cases e; exact ⟨_, hob, rfl⟩, ?_⟩
  refine Calls.callWith_builtin rfl (Calls.evalArgs_plain (Calls.spliced_cons (wpAny_mono (hq tk') (fun v s₁ h₁ => Calls.spliced_nil ?_) fun _ _ z => z)))
  obtain ⟨h₁, tk₁, rfl, hl₁, hq⟩ := h₁
  refine wpAny_list_append_plain (s := St s h₁ tk₁) hl₁ (fun h' hl' hs' => ?_) (by rw [sizeLine_eq]; omega)
  exact hq h' tk₁ hl' fun b o hb e => hs'.extBut b o hb e
end
end Mine

namespace Mine
local macro_rules | `(tactic| walk_at "m get") => `(tactic| (repeat (first | (with_reducible exact up_eq) | (with_reducible refine (up_ne (by decide +kernel)).trans ?_))))
local macro_rules | `(tactic| walk_at "m lv") => `(tactic| (with_reducible refine x_lv (by assumption) (by walk_at "m get") ?_ (by kernel_rfl!) (by kernel_rfl!) (by decide +kernel)))
local macro_rules | `(tactic| walk_at "m sv") => `(tactic| ((with_reducible refine x_sv (by assumption) (by assumption) (by kernel_rfl!) (by kernel_rfl!) ?_); intro _ _ _ _; (try dsimp only)))
local macro_rules | `(tactic| walk_at "m flt") => `(tactic| (repeat' (first
  | (with_reducible refine wpAny_BinOp ?_) | walk_at "m lv" | ((with_reducible refine x_fconst ?_); intro _ _) | ((with_reducible refine x_fadd ?_); intro _ _) | ((with_reducible refine x_fsub ?_); intro _ _) | ((with_reducible refine x_fmul ?_); intro _ _))))
local macro_rules | `(tactic| walk_at "m set") => `(tactic| ((with_reducible refine wpAny_execs_cons ?_); (with_reducible refine wpAny_Assign_Name ?_ (by kernel_rfl!)); walk_at "m flt"))
local macro_rules | `(tactic| walk_at "m arg") => `(tactic| (with_reducible refine args_cons ?_ (by with_unfolding_all rfl)))
local macro_rules | `(tactic| walk_at "m gr") => `(tactic| first | assumption | exact grF (by assumption) (by assumption))
local macro_rules | `(tactic| walk_at "m gn") => `(tactic| first
  | (with_reducible refine x_gl (Gr.n_yiq (by walk_at "m gr")) ?_ (by kernel_rfl!) (by kernel_rfl!) (by kernel_rfl!) (by decide +kernel))
  | (with_reducible refine x_gl (Gr.n_hls (by walk_at "m gr")) ?_ (by kernel_rfl!) (by kernel_rfl!) (by kernel_rfl!) (by decide +kernel))
  | (with_reducible refine x_gl (Gr.n_hsv (by walk_at "m gr")) ?_ (by kernel_rfl!) (by kernel_rfl!) (by kernel_rfl!) (by decide +kernel))
  | (with_reducible refine x_gl (Gr.n_told (by walk_at "m gr")) ?_ (by kernel_rfl!) (by kernel_rfl!) (by kernel_rfl!) (by decide +kernel))
  | (with_reducible refine x_gl (Gr.n_whole (by walk_at "m gr")) ?_ (by kernel_rfl!) (by kernel_rfl!) (by kernel_rfl!) (by decide +kernel))
  | (with_reducible refine x_gl (Gr.n_place (by walk_at "m gr")) ?_ (by kernel_rfl!) (by kernel_rfl!) (by kernel_rfl!) (by decide +kernel))
  | (with_reducible refine x_gl (Gr.n_line (by walk_at "m gr")) ?_ (by kernel_rfl!) (by kernel_rfl!) (by kernel_rfl!) (by decide +kernel))
  | (with_reducible refine x_gl (Gr.n_split (by walk_at "m gr")) ?_ (by kernel_rfl!) (by kernel_rfl!) (by kernel_rfl!) (by decide +kernel))
  | (with_reducible refine x_gl (Gr.n_replace (by walk_at "m gr")) ?_ (by kernel_rfl!) (by kernel_rfl!) (by kernel_rfl!) (by decide +kernel))
  | (with_reducible refine x_bl (Gr.n_max (by walk_at "m gr")) ?_ (by kernel_rfl!) (by kernel_rfl!) (by kernel_rfl!) (by kernel_rfl!) (by decide +kernel))
  | (with_reducible refine x_bl (Gr.n_min (by walk_at "m gr")) ?_ (by kernel_rfl!) (by kernel_rfl!) (by kernel_rfl!) (by kernel_rfl!) (by decide +kernel))
  | (with_reducible refine x_bl (Gr.n_len (by walk_at "m gr")) ?_ (by kernel_rfl!) (by kernel_rfl!) (by kernel_rfl!) (by kernel_rfl!) (by decide +kernel))
  | (with_reducible refine x_bl (Gr.n_range (by walk_at "m gr")) ?_ (by kernel_rfl!) (by kernel_rfl!) (by kernel_rfl!) (by kernel_rfl!) (by decide +kernel)))
local macro_rules | `(tactic| walk_at "m as") => `(tactic| ((with_unfolding_all refine assignInOrder_cons ?_); dsimp only; (with_reducible refine PyProof.Rows.assign_Name ?_); walk_at "m sv"))
local macro_rules | `(tactic| walk_at "m cl") => `(tactic| (with_reducible refine x_cl (by assumption) (by walk_at "m get") ?_ (by kernel_rfl!) (by kernel_rfl!) (by decide +kernel)))
local macro_rules | `(tactic| walk_at "m lvC") => `(tactic| (with_reducible refine x_lvC (by assumption) (by walk_at "m get") ?_ (by kernel_rfl!) (by kernel_rfl!) (by decide +kernel)))
local macro_rules | `(tactic| walk_at "m cc") => `(tactic| (with_reducible refine x_cc (by assumption) (by walk_at "m get") ?_ (by kernel_rfl!) (by kernel_rfl!) (by kernel_rfl!) (by kernel_rfl!) (by decide +kernel)))
local macro_rules | `(tactic| walk_at "m cv") => `(tactic| (with_reducible refine x_cv (by assumption) (by assumption) ?_ (by kernel_rfl!) (by kernel_rfl!) (by decide +kernel)))
local macro_rules | `(tactic| walk_at "m sc") => `(tactic| (with_reducible refine x_sc (by assumption) (by assumption) (by kernel_rfl!) (by kernel_rfl!) ?_))
local macro_rules | `(tactic| walk_at "m svC") => `(tactic| ((with_reducible refine x_svC (by assumption) (by assumption) (by assumption) (by kernel_rfl!) (by kernel_rfl!) ?_); intro _ _ _ _ _; (try dsimp only)))

section
variable {prog : Program} {w : World} {A : Around} {E : Value → Shared → Prop} {s : Shared} {h : Heap} {tk : Nat} {Q : Value → Shared → Prop} {env : Env}

/-- a call of a function value: the arguments, then the call -/
theorem x_withO {pos : Pos} {e : Expr} {rest : List Expr} {a : Addr} (hf : ∃ o fd, h.get? a = some o ∧ o.data = .func fd)
    (hq : wpAny (model prog w) A (spliced (backTo pos (starEach (e :: rest) env))) (fun vs s₁ => Kept h s₁.heap ∧ wpAny (model prog w) A (call (.ref a) vs) Q E s₁) E (St s h tk))
    (he : starEach (e :: rest) env = (false, eval e env) :: starEach rest env := by rfl) :
    wpAny (model prog w) A (callWith pos (.ref a) [] (backTo pos (starEach (e :: rest) env)) []) Q E (St s h tk) := by
  obtain ⟨o, fd, ho, hd⟩ := hf
  exact callWith_def hd (wpAny_mono hq (fun vs s₁ h₁ => ⟨h₁.1 _ _ ho, h₁.2⟩) fun _ _ x => x) he

/-- the places below n that b takes, in their order -/
def pick (b : Nat → Bool) (n : Nat) : List Int := ((List.range n).filter b).map fun (i : Nat) => (i : Int)
theorem pick_succ (b : Nat → Bool) (n : Nat) : pick b (n + 1) = pick b n ++ if b n then [(n : Int)] else [] := by
  unfold pick
  rw [List.range_succ, List.filter_append, List.map_append]
  cases h : b n <;> simp [h]
theorem pick_len (b : Nat → Bool) (n : Nat) : (pick b n).length ≤ n := by
  unfold pick
  rw [List.length_map]
  have := List.length_filter_le b (List.range n)
  rw [List.length_range] at this
  exact this

/-- a list that may grow: its ints -/
def PInts (h : Heap) (a : Addr) (ns : List Int) : Prop := ∃ its : Array Value, h.PlainList a its ∧ IntsAre its.toList ns
theorem PInts.ints {h : Heap} {a : Addr} {ns : List Int} (x : PInts h a ns) : Ints h a ns := by
  obtain ⟨its, hl, hi⟩ := x
  exact ⟨its.toList, by simpa using hl.isList, hi⟩
theorem PInts.at {h h' : Heap} {a : Addr} {ns : List Int} (x : PInts h a ns) (hk : ∀ o, h.get? a = some o → h'.get? a = some o) : PInts h' a ns := by
  obtain ⟨its, hl, hi⟩ := x
  exact ⟨its, hl.at hk, hi⟩

set_option maxHeartbeats 2000000 in
theorem split_spec {r f : Addr} {n : Nat} {b : Nat → Bool} {t u v : Tok} (G : Gr h) (hroom : A.depth < recursionLimit) (hh : A.handled = none) (hn : n ≤ 1000)
    (hr : IsRange h r 0 n 1 t u v) (hf : ∃ o fd, h.get? f = some o ∧ o.data = .func fd)
    (hpred : ∀ (A' : Around) (s : Shared) h' tk' (i : Nat) t' (Q : Value → Shared → Prop) E', A'.depth = A.depth + 1 → A'.handled = none → i < n → Kept h h' → (∀ h'' tk'', Kept h' h'' → Q (.bool (b i)) (St s h'' tk'')) →
      wpAny (model prog w) A' (call (.ref f) [.int i t']) Q E' (St s h' tk'))
    (hq : ∀ T Y N h' tk, Kept h h' → h'.IsTuple T #[.ref Y, .ref N] → Ints h' Y (pick b n) → Ints h' N (pick (fun i => !b i) n) → Q (.ref T) (St s h' tk)) :
    wpAny (model prog w) A (call (.ref 28) [.ref r, .ref f]) Q E (St s h tk) := by
  refine x_enter (binds := [("s", .ref r), ("predicate", .ref f)]) (xs := ["s", "predicate"]) G G.fns.2.1 hroom (fun _ _ => rfl) (fun _ _ => by kernel_rfl!) rfl (by decide +kernel) ?_
  intro cd pm L h₁ tk' F _
  dsimp only [List.reverse, List.reverseAux, ups] at F
  have hh' : (A.deeper (callEnv (fdOf 2 cd pm) L 28)).handled = none := hh
  (with_reducible refine wpAny_execs_cons ?_)
  (with_reducible refine wpAny_Assign_Name ?_ (by kernel_rfl!))
  (with_reducible refine x_list ?_)
  refine wpAny_items_nil ⟨by size_fits, _, _, rfl, ?_⟩
  have hY0 : (h₁.push (lstO [])).PlainList h₁.objs.size #[] := ⟨0, Heap.get?_push_size _ rfl⟩
  have hYL : h₁.objs.size ≠ L := by obtain ⟨o, _, _, ho, _⟩ := F.ns; exact Nat.ne_of_gt (Heap.lt_size ho)
  have hYn : h.get? h₁.objs.size = none := none_of_kept F.keep (get_none_of_le (Nat.le_refl _))
  have F₂ := F.push (lstO [])
  generalize h₁.push (lstO []) = h₂ at hY0 F₂
  generalize h₁.objs.size = Y at hY0 hYL hYn
  refine x_svB F₂ (by kernel_rfl!) (by kernel_rfl!) ?_
  intro h₃ tk₃ F₃ hb₃
  have hY3 := hY0.at fun o e => hb₃ _ o hYL e
  (with_reducible refine wpAny_execs_cons ?_)
  (with_reducible refine wpAny_Assign_Name ?_ (by kernel_rfl!))
  (with_reducible refine x_list ?_)
  refine wpAny_items_nil ⟨by size_fits, _, _, rfl, ?_⟩
  have hN0 : (h₃.push (lstO [])).PlainList h₃.objs.size #[] := ⟨0, Heap.get?_push_size _ rfl⟩
  have hNL : h₃.objs.size ≠ L := by obtain ⟨o, _, _, ho, _⟩ := F₃.ns; exact Nat.ne_of_gt (Heap.lt_size ho)
  have hNY : h₃.objs.size ≠ Y := by obtain ⟨_, ho⟩ := hY3; exact Nat.ne_of_gt (Heap.lt_size ho)
  have hNn : h.get? h₃.objs.size = none := none_of_kept F₃.keep (get_none_of_le (Nat.le_refl _))
  have F₄ := F₃.push (lstO [])
  have hY4 := hY3.at fun o e => (Heap.get?_push_of_some (lstO []) e : (h₃.push (lstO [])).get? Y = some o)
  generalize h₃.push (lstO []) = h₄ at hN0 F₄ hY4
  generalize h₃.objs.size = Nn at hN0 hNL hNY hNn
  refine x_svB F₄ (by kernel_rfl!) (by kernel_rfl!) ?_
  intro h₅ tk₅ F₅ hb₅
  have hY5 := hY4.at fun o e => hb₅ _ o hYL e
  have hN5 := hN0.at fun o e => hb₅ _ o hNL e
  (with_reducible refine wpAny_execs_cons ?_)
  refine x_forR hh' ?_ (by intro _; rfl)
  walk_at "m lv"
  refine ⟨r, 0, n, t, u, v, h₅, tk₅, fun I i h₆ => ∃ m, Fr h L h₆ m ∧ m "predicate" = some (.ref f) ∧ m "yes" = some (.ref Y) ∧ m "no" = some (.ref Nn) ∧ PInts h₆ Y (pick b i) ∧ PInts h₆ Nn (pick (fun i => !b i) i) ∧ I ≠ L ∧ I ≠ Y ∧ I ≠ Nn ∧ h.get? I = none ∧ i ≤ n, rfl, rfl, F₅.keep _ _ hr, ⟨by omega, by omega, by omega, by omega⟩, ?_⟩
  refine ⟨?_, ?_, ?_, ?_⟩
  · intro I h₆ hI hk
    have hIL : I ≠ L := by rintro rfl; obtain ⟨o, _, _, ho, _⟩ := F₅.ns; rw [ho] at hI; cases hI
    have hIY : I ≠ Y := by rintro rfl; obtain ⟨_, ho⟩ := hY5; rw [ho] at hI; cases hI
    have hIN : I ≠ Nn := by rintro rfl; obtain ⟨_, ho⟩ := hN5; rw [ho] at hI; cases hI
    exact ⟨_, frK F₅ hk, by walk_at "m get", by walk_at "m get", by walk_at "m get", ⟨#[], hY5.at fun o e => hk _ o e, .nil⟩, ⟨#[], hN5.at fun o e => hk _ o e, .nil⟩, hIL, hIY, hIN, none_of_kept F₅.keep hI, Nat.zero_le _⟩
  · rintro I i h₆ h₇ ⟨m, F₆, e1, e2, e3, hY6, hN6, hIL, hIY, hIN, hIh, hi⟩ hb
    refine ⟨m, ⟨F₆.ns.at' fun o e => hb _ o (Ne.symm hIL) e, fun b o e => hb b o (by rintro rfl; rw [hIh] at e; cases e) (F₆.keep b o e), F₆.above⟩, e1, e2, e3, hY6.at fun o e => hb _ o (Ne.symm hIY) e, hN6.at fun o e => hb _ o (Ne.symm hIN) e, hIL, hIY, hIN, hIh, hi⟩
  · rintro I i h₆ tk₆ t' E' hlt ⟨m, F₆, e1, e2, e3, hY6, hN6, hIL, hIY, hIN, hIh, hi⟩ hIa
    have ei : (0 : Int) + (i : Int) = (i : Int) := by omega
    rw [ei]
    refine wpAny_assign_Name (x_svB F₆ (by kernel_rfl!) (by kernel_rfl!) ?_)
    intro h₇ tk₇ F₇ hb₇
    have hY7 := hY6.at fun o e => hb₇ _ o hYL e
    have hN7 := hN6.at fun o e => hb₇ _ o hNL e
    have e1' := (up_ne (m := m) (x := "x") (y := "predicate") (v := .int i t') (by decide +kernel)).trans e1
    have e2' := (up_ne (m := m) (x := "x") (y := "yes") (v := .int i t') (by decide +kernel)).trans e2
    have e3' := (up_ne (m := m) (x := "x") (y := "no") (v := .int i t') (by decide +kernel)).trans e3
    have e4' : (up m "x" (.int i t')) "x" = some (.int i t') := up_eq
    generalize hm' : up m "x" (.int i t') = m' at F₇ e1' e2' e3' e4'
    clear hm'
    have hf₇ : ∃ o fd, h₇.get? f = some o ∧ o.data = .func fd := by obtain ⟨o, fd, ho, hd⟩ := hf; exact ⟨o, fd, F₇.keep _ _ ho, hd⟩
    (with_reducible refine wpAny_execs_cons ?_)
    (with_reducible refine wpAny_If ?_)
    refine wpAny_isTrue_value ?_ (by with_unfolding_all rfl)
    (with_reducible refine Call_ ?_ (by with_unfolding_all rfl))
    refine x_lv F₇ e1' ?_ (by kernel_rfl!) (by kernel_rfl!) (by decide +kernel)
    (with_reducible refine x_withO hf₇ ?_ (by with_unfolding_all rfl))
    walk_at "m arg"
    refine x_lv F₇ e4' ?_ (by kernel_rfl!) (by kernel_rfl!) (by decide +kernel)
    (with_reducible refine args_nil ?_)
    refine ⟨Kept.refl _, ?_⟩
    refine hpred _ s h₇ tk₇ i t' _ _ rfl hh' hlt F₇.keep ?_
    intro h₈ tk₈ hk₈
    have F₈ := frK F₇ hk₈
    have hY8 := hY7.at fun o e => hk₈ _ o e
    have hN8 := hN7.at fun o e => hk₈ _ o e
    have hI8 : ∀ o, h₆.get? I = some o → h₈.get? I = some o := fun o e => hk₈ _ o (hb₇ _ o hIL e)
    (with_reducible refine wpAny_truthy_bool ?_)
    cases hbi : b i with
    | true =>
      rw [if_pos rfl]
      obtain ⟨its, hpl, hIs⟩ := hY8
      have hsz : its.size ≤ 1000000 := by
        have := hIs.length
        have h2 := pick_len b i
        rw [Array.length_toList] at this
        omega
      (with_reducible refine wpAny_execs_cons ?_)
      refine x_append (l := Y) (by kernel_rfl!) (by kernel_rfl!) (by kernel_rfl!) (by kernel_rfl!) (by kernel_rfl!) (fun Q' hQ' => x_lv F₈ e2' (hQ' _) (by kernel_rfl!) (by kernel_rfl!) (by decide +kernel)) hpl hsz ?_
      intro tk₉
      refine x_lv F₈ e4' ?_ (by kernel_rfl!) (by kernel_rfl!) (by decide +kernel)
      refine ⟨_, _, rfl, hpl, ?_⟩
      intro h₉ tk₁₀ hpl₉ hb₉
      refine wpAny_execs_nil (wpAny_execs_nil ⟨h₉, tk₁₀, rfl, ⟨m', ⟨F₈.ns.at' fun o e => hb₉ _ o (Ne.symm hYL) e, fun b o e => hb₉ b o (by rintro rfl; rw [hYn] at e; cases e) (F₈.keep b o e), F₈.above⟩, e1', e2', e3', ⟨_, hpl₉, ?_⟩, ?_, hIL, hIY, hIN, hIh, hlt⟩, fun o e => hb₉ _ o hIY (hI8 o e)⟩)
      · rw [pick_succ, hbi, if_pos rfl, Array.toList_push]; exact hIs.append (.cons _ _ .nil)
      · rw [pick_succ, hbi, if_neg (by decide), List.append_nil]; exact hN8.at fun o e => hb₉ _ o hNY e
    | false =>
      rw [if_neg Bool.false_ne_true]
      obtain ⟨its, hpl, hIs⟩ := hN8
      have hsz : its.size ≤ 1000000 := by
        have := hIs.length
        have h2 := pick_len (fun i => !b i) i
        rw [Array.length_toList] at this
        omega
      (with_reducible refine wpAny_execs_cons ?_)
      refine x_append (l := Nn) (by kernel_rfl!) (by kernel_rfl!) (by kernel_rfl!) (by kernel_rfl!) (by kernel_rfl!) (fun Q' hQ' => x_lv F₈ e3' (hQ' _) (by kernel_rfl!) (by kernel_rfl!) (by decide +kernel)) hpl hsz ?_
      intro tk₉
      refine x_lv F₈ e4' ?_ (by kernel_rfl!) (by kernel_rfl!) (by decide +kernel)
      refine ⟨_, _, rfl, hpl, ?_⟩
      intro h₉ tk₁₀ hpl₉ hb₉
      refine wpAny_execs_nil (wpAny_execs_nil ⟨h₉, tk₁₀, rfl, ⟨m', ⟨F₈.ns.at' fun o e => hb₉ _ o (Ne.symm hNL) e, fun b o e => hb₉ b o (by rintro rfl; rw [hNn] at e; cases e) (F₈.keep b o e), F₈.above⟩, e1', e2', e3', ?_, ⟨_, hpl₉, ?_⟩, hIL, hIY, hIN, hIh, hlt⟩, fun o e => hb₉ _ o hIN (hI8 o e)⟩)
      · rw [pick_succ, hbi, if_neg Bool.false_ne_true, List.append_nil]; exact hY8.at fun o e => hb₉ _ o (Ne.symm hNY) e
      · rw [pick_succ, hbi, if_pos (show (!false) = true from rfl), Array.toList_push]; exact hIs.append (.cons _ _ .nil)
  · rintro I h₆ tk₆ ⟨m, F₆, e1, e2, e3, hY6, hN6, hIL, hIY, hIN, hIh, hi⟩
    have en : ((n : Int) - 0).toNat = n := by omega
    rw [en] at hY6 hN6
    (with_reducible refine wpAny_execs_cons ?_)
    (with_reducible refine wpAny_Return_some ?_)
    refine x_tuple ?_
    (with_reducible refine wpAny_items_cons ?_ (by with_unfolding_all rfl))
    refine x_lv F₆ e2 ?_ (by kernel_rfl!) (by kernel_rfl!) (by decide +kernel)
    (with_reducible refine wpAny_items_cons ?_ (by with_unfolding_all rfl))
    refine x_lv F₆ e3 ?_ (by kernel_rfl!) (by kernel_rfl!) (by decide +kernel)
    refine wpAny_items_nil ⟨by size_fits, _, _, rfl, ?_⟩
    exact hq _ Y Nn _ _ (Kept.trans F₆.keep (Kept.push _ _)) (tupO_is _ _) (hY6.ints.keeps (Kept.push _ _)) (hN6.ints.keeps (Kept.push _ _))
end
end Mine

namespace Mine
/-- N times the float lies within half of the whole number W -/
def near (N : Nat) (x : UInt64) (W : Int) : Bool := match Float64.decode x with
  | .fin false m e => decide (-1074 ≤ e) && decide (2 * (N * (m * 2 ^ (e + 1074).toNat) : Int) < 2 * W * 2 ^ 1074 + 2 ^ 1074) && decide (2 * W * 2 ^ 1074 < 2 * (N * (m * 2 ^ (e + 1074).toNat) : Int) + 2 ^ 1074)
  | _ => false

theorem two_split {e f : Int} (he : -1074 ≤ e) (h : f ≤ e) (hf : -1074 ≤ f) : (2 : Nat) ^ (e + 1074).toNat = 2 ^ (e - f).toNat * 2 ^ (f + 1074).toNat := by
  rw [← Nat.pow_add]; congr 1; omega

theorem cmp_fin {x y : UInt64} {m k : Nat} {e f : Int} (hx : Float64.decode x = .fin false m e) (hy : Float64.decode y = .fin false k f) (he : -1074 ≤ e) (hf : -1074 ≤ f) :
    flt x y = decide (m * 2 ^ (e + 1074).toNat < k * 2 ^ (f + 1074).toNat) := by
  have h1 : Float64.cmp x y = some (compare ((m * 2 ^ (e - min e f).toNat : Nat) : Int) ((k * 2 ^ (f - min e f).toNat : Nat) : Int)) := by
    unfold Float64.cmp; rw [hx, hy]; rfl
  unfold flt
  rw [h1]
  have hg : -1074 ≤ min e f := by omega
  have e1 := two_split he (show min e f ≤ e by omega) hg
  have e2 := two_split hf (show min e f ≤ f by omega) hg
  rw [e1, e2, ← Nat.mul_assoc, ← Nat.mul_assoc]
  generalize m * 2 ^ (e - min e f).toNat = p
  generalize k * 2 ^ (f - min e f).toNat = q
  have hpos : 0 < (2 : Nat) ^ (min e f + 1074).toNat := Nat.two_pow_pos _
  rw [decide_eq_decide.mpr (show p * 2 ^ (min e f + 1074).toNat < q * 2 ^ (min e f + 1074).toNat ↔ p < q from Nat.mul_lt_mul_right hpos)]
  rcases Int.lt_trichotomy (p : Int) (q : Int) with hl | hl | hl
  · rw [show compare (p : Int) (q : Int) = .lt from by rw [Int.compare_eq_lt]; exact hl]
    rw [decide_eq_true (by omega : p < q)]; rfl
  · rw [show compare (p : Int) (q : Int) = .eq from by rw [Int.compare_eq_eq]; exact hl]
    rw [decide_eq_false (by omega : ¬ p < q)]; rfl
  · rw [show compare (p : Int) (q : Int) = .gt from by rw [Int.compare_eq_gt]; exact hl]
    rw [decide_eq_false (by omega : ¬ p < q)]; rfl

theorem near_lt {N : Nat} {x y : UInt64} {V W : Int} (hx : near N x V = true) (hy : near N y W = true) (h : V < W) : flt x y = true := by
  unfold near at hx hy
  split at hx
  case h_2 => cases hx
  split at hy
  case h_2 => cases hy
  rename_i m e h1 _ k f h2
  simp only [Bool.and_eq_true, decide_eq_true_eq] at hx hy
  rw [cmp_fin h1 h2 hx.1.1 hy.1.1]
  apply decide_eq_true
  have := hx.1.2; have := hy.2
  generalize hP : m * 2 ^ (e + 1074).toNat = P
  generalize hR : k * 2 ^ (f + 1074).toNat = R
  have hP' : ((m : Int) * 2 ^ (e + 1074).toNat) = (P : Int) := by rw [← hP]; push_cast; rfl
  have hR' : ((k : Int) * 2 ^ (f + 1074).toNat) = (R : Int) := by rw [← hR]; push_cast; rfl
  have hT : (0 : Int) < 2 ^ 1074 := by decide +kernel
  have a1 := hx.1.2; have a2 := hy.2
  rw [hP'] at a1; rw [hR'] at a2
  clear hx hy hP hR hP' hR' this
  generalize (2 : Int) ^ 1074 = T at *
  have h3 : 2 * V * T + 2 * T ≤ 2 * W * T := by
    have : (V + 1) * T ≤ W * T := Int.mul_le_mul_of_nonneg_right (by omega) (by omega)
    rw [Int.add_mul] at this
    rw [Int.mul_assoc, Int.mul_assoc]
    omega
  have h4 : (N : Int) * P < N * R := by omega
  have : (P : Int) < R := Int.lt_of_mul_lt_mul_left h4 (by omega)
  omega

theorem flt_irr {N : Nat} {x : UInt64} {V : Int} (hx : near N x V = true) : flt x x = false := by
  unfold near at hx
  split at hx
  case h_2 => cases hx
  rename_i m e h1
  simp only [Bool.and_eq_true, decide_eq_true_eq] at hx
  rw [cmp_fin h1 h1 hx.1.1 hx.1.1]
  simp
theorem near_le {N : Nat} {x y : UInt64} {V W : Int} (hx : near N x V = true) (hy : near N y W = true) (h : W < V) : flt x y = false := by
  have := near_lt hy hx h
  unfold flt at this ⊢
  unfold near at hx hy
  split at hx
  case h_2 => cases hx
  split at hy
  case h_2 => cases hy
  rename_i m e h1 _ k f h2
  simp only [Bool.and_eq_true, decide_eq_true_eq] at hx hy
  have a := cmp_fin h1 h2 hx.1.1 hy.1.1
  have b := cmp_fin h2 h1 hy.1.1 hx.1.1
  unfold flt at a b
  rw [this] at b
  rw [a]
  have := of_decide_eq_true b.symm
  apply decide_eq_false; omega

theorem all5' {P : Int → Int → Int → Prop} (h : ∀ i j k : Fin 5, P (i.val : Int) (j.val : Int) (k.val : Int)) {a b c : Int} (ha : small5 a) (hb : small5 b) (hc : small5 c) : P a b c :=
  all5 (P := fun a => P a b c) (fun i => all5 (P := fun b => P (i.val : Int) b c) (fun j => all5 (P := fun c => P (i.val : Int) (j.val : Int) c) (fun k => h i j k) hc) hb) ha
theorem near_luma {a b c : Int} (ha : small5 a) (hb : small5 b) (hc : small5 c) : near 400 (luma (qf a) (qf b) (qf c)) (wsum a b c) = true :=
  all5' (P := fun a b c => near 400 (luma (qf a) (qf b) (qf c)) (wsum a b c) = true) (by decide +kernel) ha hb hc
theorem light_mx {a b c : Int} (ha : small5 a) (hb : small5 b) (hc : small5 c) : light (qf a) (qf b) (qf c) = lightP (qf (wmax a b c)) (qf (wmin a b c)) := by
  show lightP (maxc (qf a) (qf b) (qf c)) (minc (qf a) (qf b) (qf c)) = _
  rw [maxc_mx ha hb hc, minc_mn ha hb hc]; rfl
theorem light_eq {a b c : Int} (ha : small5 a) (hb : small5 b) (hc : small5 c) : light (qf a) (qf b) (qf c) = Float64.ofFrac false (wmax a b c + wmin a b c).toNat 8 := by
  rw [light_mx ha hb hc]
  exact all5x (P := fun M m => lightP (qf M) (qf m) = Float64.ofFrac false (M + m).toNat 8) (by decide +kernel) (mx_small ha hb hc) (mn_small ha hb hc)
theorem near_light {a b c : Int} (ha : small5 a) (hb : small5 b) (hc : small5 c) : near 8 (light (qf a) (qf b) (qf c)) (wmax a b c + wmin a b c) = true := by
  rw [light_mx ha hb hc]
  exact all5x (P := fun M m => near 8 (lightP (qf M) (qf m)) (M + m) = true) (by decide +kernel) (mx_small ha hb hc) (mn_small ha hb hc)
theorem maxc_eq {a b c : Int} (ha : small5 a) (hb : small5 b) (hc : small5 c) : maxc (qf a) (qf b) (qf c) = qf (wmax a b c) := maxc_mx ha hb hc
theorem near_maxc {a b c : Int} (ha : small5 a) (hb : small5 b) (hc : small5 c) : near 4 (maxc (qf a) (qf b) (qf c)) (wmax a b c) = true := by
  rw [maxc_eq ha hb hc]
  exact all5 (P := fun M => near 4 (qf M) M = true) (by decide +kernel) (mx_small ha hb hc)
theorem lt_of_near {N : Nat} {x y : UInt64} {V W : Int} (hx : near N x V = true) (hy : near N y W = true) (h : V = W → x = y) : flt x y = decide (V < W) := by
  rcases Int.lt_trichotomy V W with hl | hl | hl
  · rw [near_lt hx hy hl, decide_eq_true hl]
  · rw [← h hl, flt_irr hx, decide_eq_false (by omega)]
  · rw [near_le hx hy hl, decide_eq_false (by omega)]

/-- the three of told, of whole -/
def toldF (j : Nat) (a b c : Int) : UInt64 := match j with | 0 => luma (qf a) (qf b) (qf c) | 1 => light (qf a) (qf b) (qf c) | _ => maxc (qf a) (qf b) (qf c)
def wholeI (j : Nat) (a b c : Int) : Int := match j with | 0 => wsum a b c | 1 => wmax a b c + wmin a b c | _ => wmax a b c
theorem wsum_inj {a b c a' b' c' : Int} (ha : small5 a) (hb : small5 b) (hc : small5 c) (ha' : small5 a') (hb' : small5 b') (hc' : small5 c') (h : wsum a b c = wsum a' b' c') : a = a' ∧ b = b' ∧ c = c' := by
  have key : ∀ i j k : Fin 9, 30 * ((i.val : Int) - 4) + 59 * ((j.val : Int) - 4) + 11 * ((k.val : Int) - 4) = 0 → i.val = 4 ∧ j.val = 4 ∧ k.val = 4 := by decide +kernel
  unfold wsum at h; unfold small5 at *
  obtain ⟨i, hi⟩ := Int.eq_ofNat_of_zero_le (show 0 ≤ a - a' + 4 by omega)
  obtain ⟨j, hj⟩ := Int.eq_ofNat_of_zero_le (show 0 ≤ b - b' + 4 by omega)
  obtain ⟨k, hk⟩ := Int.eq_ofNat_of_zero_le (show 0 ≤ c - c' + 4 by omega)
  have e : 30 * ((i : Int) - 4) + 59 * ((j : Int) - 4) + 11 * ((k : Int) - 4) = 0 := by omega
  obtain ⟨e1, e2, e3⟩ := key ⟨i, by omega⟩ ⟨j, by omega⟩ ⟨k, by omega⟩ e
  have e1' : i = 4 := e1
  have e2' : j = 4 := e2
  have e3' : k = 4 := e3
  clear key
  omega
theorem col_law (j : Nat) {a b c a' b' c' : Int} (ha : small5 a) (hb : small5 b) (hc : small5 c) (ha' : small5 a') (hb' : small5 b') (hc' : small5 c') :
    flt (toldF j a b c) (toldF j a' b' c') = decide (wholeI j a b c < wholeI j a' b' c') := by
  match j with
  | 0 => exact lt_of_near (near_luma ha hb hc) (near_luma ha' hb' hc') (fun h => by obtain ⟨rfl, rfl, rfl⟩ := wsum_inj ha hb hc ha' hb' hc' h; rfl)
  | 1 => exact lt_of_near (near_light ha hb hc) (near_light ha' hb' hc') (fun h => by show light (qf a) (qf b) (qf c) = light (qf a') (qf b') (qf c'); rw [light_eq ha hb hc, light_eq ha' hb' hc', show wmax a b c + wmin a b c = wmax a' b' c' + wmin a' b' c' from h])
  | _ + 2 => exact lt_of_near (near_maxc ha hb hc) (near_maxc ha' hb' hc') (fun h => by show maxc (qf a) (qf b) (qf c) = maxc (qf a') (qf b') (qf c'); rw [maxc_eq ha hb hc, maxc_eq ha' hb' hc', show wmax a b c = wmax a' b' c' from h])
end Mine

namespace Mine
/-- the law's body, from its k-th statement on -/
def lawBody : List Stmt := match PySem.Challenge.pw_mq0118_01.main.body.drop 12 with
  | .FunctionDef _ _ body _ _ _ _ _ _ _ :: _ => body
  | _ => []
def lawRest (k : Nat) : List Stmt := lawBody.drop k
def lawFrom (k : Nat) : Option (Stmt × List Stmt) := match lawBody.drop k with
  | st :: rest => some (st, rest)
  | [] => none

/-- what a step in the law's frame may change: the frame, its cells, the code table, one list -/
def Rk (B : List Addr) (h h' : Heap) : Prop := ∀ b o, h.get? b = some o → b ∉ B → (∀ v, o.data ≠ .cell v) → h'.get? b = some o
theorem Rk.trans {B : List Addr} {h h' h'' : Heap} (a : Rk B h h') (b : Rk B h' h'') : Rk B h h'' := fun x o e n c => b x o (a x o e n c) n c
theorem Rk.of {B : List Addr} {h h' : Heap} (a : Kept h h') : Rk B h h' := fun x o e _ _ => a x o e
theorem Rk.refl (B : List Addr) (h : Heap) : Rk B h h := fun _ _ e _ _ => e
theorem Rk.mono {B C : List Addr} {h h' : Heap} (a : Rk B h h') (hs : ∀ b ∈ B, b ∈ C) : Rk C h h' := fun x o e n c => a x o e (fun q => n (hs _ q)) c
theorem Rk.list {B : List Addr} {h h' : Heap} (n : Rk B h h') {a : Addr} {its : Array Value} (x : h.IsList a its) (ha : a ∉ B) : h'.IsList a its := x.at fun o e => n a o e ha fun v hd => by
  obtain ⟨o', e', _, k, hd'⟩ := x; rw [e] at e'; cases e'; rw [hd] at hd'; cases hd'
theorem Rk.ints {B : List Addr} {h h' : Heap} (n : Rk B h h') {a : Addr} {ns : List Int} (x : Ints h a ns) (ha : a ∉ B) : Ints h' a ns := by
  obtain ⟨vs, hl, hi⟩ := x; exact ⟨vs, n.list hl ha, hi⟩

/-- the state of the law's frame -/
structure LS (h₀ h : Heap) (L : Addr) (fd : FuncData) (m cm : Str → Option Value) (ps : Array Value) : Prop where
  F : Fr h₀ L h m
  X : Cs fd L h cm
  T : h.get? 73 = some (tabObj ps)
  T0 : h₀.get? 73 = none
  l : 73 < L
section
variable {prog : Program} {w : World} {A : Around} {E : Value → Shared → Prop} {s : Shared} {h h' h₀ : Heap} {tk : Nat} {L : Addr} {m cm : Str → Option Value} {ps : Array Value} {env : Env} {fd : FuncData}
theorem LS.keeps (S : LS h₀ h L fd m cm ps) (hk : Kept h h') : LS h₀ h' L fd m cm ps := ⟨frK S.F hk, S.X.keeps hk, hk _ _ S.T, S.T0, S.l⟩
theorem LS.gr (S : LS h₀ h L fd m cm ps) (G : Gr h₀) : Gr h := grF S.F G
/-- a list is neither the frame nor the code table -/
theorem LS.apart (S : LS h₀ h L fd m cm ps) {a : Addr} {its : Array Value} (x : h.IsList a its) : a ∉ [L, 73] := by
  obtain ⟨o, e, _, k, hd⟩ := x
  intro hm
  rcases List.mem_cons.mp hm with rfl | hm
  · obtain ⟨o', es, ep, e', hd', _⟩ := S.F.ns
    rw [e] at e'; cases e'; rw [hd] at hd'; cases hd'
  · rcases List.mem_cons.mp hm with rfl | hm
    · have := S.T; rw [e] at this; cases this; cases hd
    · cases hm
theorem LS.apartI (S : LS h₀ h L fd m cm ps) {a : Addr} {ns : List Int} (x : Ints h a ns) : a ∉ [L, 73] := by
  obtain ⟨vs, hl, _⟩ := x; exact S.apart hl

theorem x_rest {k : Nat} {st : Stmt} {rest : List Stmt} {Q : Flow → Shared → Prop} (hk : lawFrom k = some (st, rest))
    (hq : wpAny (model prog w) A (exec st env) (fun f s' => match f with | .next => wpAny (model prog w) A (execs (lawRest (k + 1)) env) Q E s' | f => Q f s') E (St s h tk)) :
    wpAny (model prog w) A (execs (lawRest k) env) Q E (St s h tk) := by
  have e : lawBody.drop k = st :: rest := by
    unfold lawFrom at hk
    split at hk
    · rename_i a b c; rw [c]; cases hk; rfl
    · cases hk
  have e2 : lawBody.drop (k + 1) = rest := by rw [← List.drop_drop, e]; rfl
  unfold lawRest at hq ⊢
  rw [e2] at hq
  rw [e]
  exact wpAny_execs_cons hq

/-- a plain name of the law gets a value -/
theorem x_lsv {a : Addr} {x : Str} {v : Value} {Q : Unit → Shared → Prop} (S : LS h₀ h L fd m cm ps)
    (hk : fd.scope.kind = .function) (hl : fd.scope.names.lookup x = some .local)
    (hq : ∀ h' tk', LS h₀ h' L fd (up m x v) cm ps → Rk [L, 73] h h' → Q () (St s h' tk')) :
    wpAny (model prog w) A (storeName (callEnvC fd L a) x v) Q E (St s h tk) :=
  wpAny_storeName_local (env := callEnvC fd L a) (s := St s h tk) hl S.F.ns (fun h' hn hs => hq h' _ ⟨S.F.set hn hs, S.X.sameBut hs (Nat.le_refl _), hs.extBut _ _ (Nat.ne_of_lt S.l) S.T, S.T0, S.l⟩
    fun b o e n _ => hs.extBut b o (fun q => n (q ▸ List.mem_cons_self ..)) e) (by show (fd.scope.kind == .class || (fd.scope.kind == .module && _)) = false; rw [hk]; rfl)
/-- a cell of the law gets a value -/
theorem x_lsc {a : Addr} {x : Str} {v : Value} {Q : Unit → Shared → Prop} (S : LS h₀ h L fd m cm ps)
    (hk : fd.scope.kind = .function) (hl : fd.scope.names.lookup x = some .cell)
    (hq : ∀ h' tk', LS h₀ h' L fd m (up cm x v) ps → Rk [L, 73] h h' → Q () (St s h' tk')) :
    wpAny (model prog w) A (storeName (callEnvC fd L a) x v) Q E (St s h tk) :=
  x_sc S.F S.X hk hl fun h' tk' F' X' nc => hq h' tk' ⟨F', X', nc _ _ S.T (fun _ q => by cases q), S.T0, S.l⟩ fun b o e _ c => nc b o e c

/-- a loop over a range; the iterator stands at I -/
structure LoopS (prog : Program) (w : World) (A : Around) (s : Shared) (env : Env) (x : Str) (px : Pos) (body : List Stmt) (Q : Flow → Shared → Prop) (h₁ : Heap) (a : Int) (n : Nat) (Inv : Nat → Heap → Prop) : Prop where
  init : ∀ h₂, Kept h₁ h₂ → Inv 0 h₂
  frame : ∀ I i h h' p q r, h₁.get? I = none → Inv i h → IsRangeIter h I p q r → (∀ b o, b ≠ I → h.get? b = some o → h'.get? b = some o) → Inv i h'
  turn : ∀ I i h₂ tk₂ t p q r E', h₁.get? I = none → i < n → Inv i h₂ → IsRangeIter h₂ I p q r →
    wpAny (model prog w) A (assign (.Name x px) env (.int (a + (i : Int)) t)) (fun _ s₂ => wpAny (model prog w) A (execs body env) (fun f s₃ => match f with
      | .next | .cont => ∃ h₃ tk₃, s₃ = St s h₃ tk₃ ∧ Inv (i + 1) h₃ ∧ IsRangeIter h₃ I p q r
      | .brk => False
      | .ret v => Q (.ret v) s₃) E' s₂) E' (St s h₂ tk₂)
  done : ∀ h₂ tk₂, Inv n h₂ → Q .next (St s h₂ tk₂)

theorem x_forS {x : Str} {px pos : Pos} {iter : Expr} {body : List Stmt} {Q : Flow → Shared → Prop} (hh : A.handled = none)
    (hq : wpAny (model prog w) A (eval iter env) (fun xv s₁ => ∃ r a b t u v h₁ tk₁ Inv, xv = .ref r ∧ s₁ = St s h₁ tk₁ ∧ IsRange h₁ r a b 1 t u v ∧ (-(2 ^ 62) ≤ a ∧ a < 2 ^ 62 ∧ -(2 ^ 62) ≤ b ∧ b < 2 ^ 62) ∧
      LoopS prog w A s env x px body Q h₁ a (b - a).toNat Inv) E (St s h tk))
    (hs : ∀ x, foldedSetIterable iter env x = pure x) : wpAny (model prog w) A (exec (.For (.Name x px) iter body [] pos) env) Q E (St s h tk) := by
  refine wpAny_For (wpAny_mono hq (fun xv s₁ h₁ => ?_) fun _ _ e => e) hs
  obtain ⟨r, a, b, t, u, v, h₁, tk₁, Inv, rfl, rfl, hr, ⟨ha, ha', hb, hb'⟩, LR⟩ := h₁
  refine wpAny_pyIter_range (s := St s h₁ tk₁) hr (small_one ha ha' hb hb') ?_
  have e1 : Builtin.Range.rangeSize a b 1 = ((b - a).toNat : Int) := by rw [rangeSize_one]; split <;> omega
  rw [e1]
  generalize (b - a).toNat = n at LR
  have hI0 : h₁.get? h₁.objs.size = none := get_none_of_le (Nat.le_refl _)
  refine codeAny_forLoop (fun k s' => ∃ (i : Nat) (h₂ : Heap) (tk₂ : Nat), s' = St s h₂ tk₂ ∧ IsRangeIter h₂ h₁.objs.size (a + (i : Int)) ((n : Int) - (i : Int)) 1 ∧ Inv i h₂ ∧ i ≤ n ∧ k = n + 1 - i) ?_ (n + 1)
    ⟨0, _, tk₁, rfl, by
      have : a + ((0 : Nat) : Int) = a := by omega
      rw [this]
      have : (n : Int) - ((0 : Nat) : Int) = (n : Int) := by omega
      rw [this]; exact Heap.get?_push_size _ rfl, LR.init _ (Kept.push _ _), Nat.zero_le _, rfl⟩
  rintro k s' ⟨i, h₂, tk₂, rfl, hit, hinv, hi, rfl⟩
  by_cases hlt : i < n
  · refine wpAny_pyNext_range_item (s := St s h₂ tk₂) hit (by omega) fun h₃ hit₃ hs₃ => ?_
    have hinv₃ := LR.frame _ _ _ h₃ _ _ _ hI0 hinv hit fun b o hb e => hs₃.extBut b o hb e
    refine wpAny_mono (LR.turn _ i h₃ (tk₂ + 1) tk₂ _ _ _ _ hI0 hlt hinv₃ hit₃) (fun _ s₄ h₄ => wpAny_mono h₄ (fun f s₅ h₅ => ?_) fun _ _ z => z) fun _ _ z => z
    have e2 : a + (i : Int) + 1 = a + ((i + 1 : Nat) : Int) := by omega
    have e3 : (n : Int) - (i : Int) - 1 = (n : Int) - ((i + 1 : Nat) : Int) := by omega
    rw [e2, e3] at h₅
    cases f with
    | next =>
      obtain ⟨h₆, tk₆, rfl, hi₆, hI₆⟩ := h₅
      exact ⟨n + 1 - (i + 1), by omega, i + 1, h₆, tk₆, rfl, hI₆, hi₆, hlt, rfl⟩
    | cont =>
      obtain ⟨h₆, tk₆, rfl, hi₆, hI₆⟩ := h₅
      exact ⟨n + 1 - (i + 1), by omega, i + 1, h₆, tk₆, rfl, hI₆, hi₆, hlt, rfl⟩
    | brk => exact h₅.elim
    | ret v => exact h₅
  · have hin : i = n := by omega
    subst hin
    refine wpAny_pyNext_range_end (s := St s h₂ tk₂) hh hit (by omega) fun h₃ he₃ => ?_
    exact wpAny_execs_nil (LR.done h₃ _ (LR.frame _ _ _ h₃ _ _ _ hI0 hinv hit fun b o hb e => he₃ b o hb e))

/-- the iterator's own step touches nothing that the law's frame knows -/
theorem LS.step (S : LS h₀ h L fd m cm ps) {I : Addr} {p q r : Int} (hi : IsRangeIter h I p q r) (hk : ∀ b o, b ≠ I → h.get? b = some o → h'.get? b = some o) (h0 : h₀.get? I = none) : LS h₀ h' L fd m cm ps := by
  have hL : L ≠ I := by
    rintro rfl
    obtain ⟨o', es, ep, e', hd', _⟩ := S.F.ns
    rw [show h.get? L = _ from hi] at e'; cases e'; cases hd'
  have h73 : 73 ≠ I := by
    rintro rfl
    have := S.T; rw [show h.get? 73 = _ from hi] at this; cases this
  refine ⟨⟨?_, fun b o e => hk b o (fun q => by rw [q, h0] at e; cases e) (S.F.keep b o e), S.F.above⟩, ⟨fun n c e => ?_, S.X.apart, S.X.above⟩, hk _ _ h73 S.T, S.T0, S.l⟩
  · obtain ⟨o, es, ep, e, hd, hr⟩ := S.F.ns
    exact ⟨o, es, ep, hk _ _ hL e, hd, hr⟩
  · obtain ⟨o, e', hd⟩ := S.X.cell n c e
    refine ⟨o, hk _ _ (fun q => ?_) e', hd⟩
    rw [q, show h.get? I = _ from hi] at e'; cases e'; cases hd
theorem Rk.step {I : Addr} {p q r : Int} (hi : IsRangeIter h I p q r) (hk : ∀ b o, b ≠ I → h.get? b = some o → h'.get? b = some o) {a : Addr} {its : Array Value} (x : h.IsList a its) : h'.IsList a its := x.at fun o e => hk _ o (fun q => by
  obtain ⟨o', e', _, k, hd'⟩ := x; rw [q, show h.get? I = _ from hi] at e'; cases e'; cases hd') e
theorem LS.it (S : LS h₀ h L fd m cm ps) {I : Addr} {p q r : Int} (hi : IsRangeIter h I p q r) : I ∉ [L, 73] := by
  intro hm
  rcases List.mem_cons.mp hm with rfl | hm
  · obtain ⟨o', es, ep, e', hd', _⟩ := S.F.ns
    rw [show h.get? I = _ from hi] at e'; cases e'; cases hd'
  · rcases List.mem_cons.mp hm with rfl | hm
    · have := S.T; rw [show h.get? 73 = _ from hi] at this; cases this
    · cases hm
theorem Rk.it {B : List Addr} (n : Rk B h h') {I : Addr} {p q r : Int} (hi : IsRangeIter h I p q r) (hB : I ∉ B) : IsRangeIter h' I p q r := n _ _ hi hB (fun v q => by cases q)
end
end Mine

namespace Mine
/-- the law's code table knows at most the lambda's own code -/
def PsOk (h : Heap) (pos : Pos) (qual : Str) (ps : Array Value) : Prop := ps = #[] ∨ ∃ c o vs t, ps = #[rawInt pos.line, rawInt pos.col, .ref c] ∧ c ≠ 73 ∧ h.get? c = some o ∧ o.data = .fields vs ∧ vs[1]? = some (.str qual t)
/-- what the making of a function asks of the ground -/
def Bt (h : Heap) : Prop := ∃ mg bm ob, h.Ns mainGlobals mg ∧ mg "__builtins__" = some (.ref bm) ∧ bm ≠ builtinsNs ∧ h.get? bm = some ob ∧ ob.cls = .type "module" ∧ ob.dict = some builtinsNs ∧ ob.data = .plain
section
variable {prog : Program} {w : World} {A : Around} {E : Value → Shared → Prop} {s : Shared} {h h' h₀ : Heap} {tk : Nat} {L : Addr} {m cm : Str → Option Value} {ps : Array Value} {env : Env} {fd : FuncData} {pos : Pos} {qual : Str}
theorem PsOk.keeps (x : PsOk h pos qual ps) (hk : Kept h h') : PsOk h' pos qual ps := x.imp id fun ⟨c, o, vs, t, h1, h2, h3, h4⟩ => ⟨c, o, vs, t, h1, h2, hk _ _ h3, h4⟩
theorem PsOk.rk (S : LS h₀ h L fd m cm ps) {qs : Array Value} (x : PsOk h pos qual qs) (hk : Rk [L, 73] h h') : PsOk h' pos qual qs := x.imp id fun ⟨c, o, vs, t, h1, h2, h3, h4⟩ => ⟨c, o, vs, t, h1, h2, hk _ _ h3 (fun hm => by
  rcases List.mem_cons.mp hm with rfl | hm
  · obtain ⟨o', es, ep, e', hd', _⟩ := S.F.ns
    rw [h3] at e'; cases e'; rw [h4.1] at hd'; cases hd'
  · rcases List.mem_cons.mp hm with rfl | hm
    · exact h2 rfl
    · cases hm) (fun v q => by rw [h4.1] at q; cases q), h4⟩
theorem PsOk.step {I : Addr} {p q r : Int} (x : PsOk h pos qual ps) (hi : IsRangeIter h I p q r) (hk : ∀ b o, b ≠ I → h.get? b = some o → h'.get? b = some o) : PsOk h' pos qual ps := x.imp id fun ⟨c, o, vs, t, h1, h2, h3, h4⟩ => ⟨c, o, vs, t, h1, h2, hk _ _ (fun q => by
  rw [q, show h.get? I = _ from hi] at h3; cases h3; obtain ⟨h5, h6⟩ := h4; cases h5; simp [rawInt] at h6) h3, h4⟩
theorem PsOk.app {D : Addr} {its : Array Value} (x : PsOk h pos qual ps) (hl : h.IsList D its) (hk : ∀ b o, b ≠ D → h.get? b = some o → h'.get? b = some o) : PsOk h' pos qual ps := x.imp id fun ⟨c, o, vs, t, h1, h2, h3, h4⟩ => ⟨c, o, vs, t, h1, h2, hk _ _ (fun q => by
  obtain ⟨o', e, _, k, hd⟩ := hl
  rw [← q, h3] at e; cases e; rw [h4.1] at hd; cases hd) h3, h4⟩
theorem LS.app (S : LS h₀ h L fd m cm ps) {D : Addr} {its : Array Value} (hl : h.IsList D its) (h0 : h₀.get? D = none) (hk : ∀ b o, b ≠ D → h.get? b = some o → h'.get? b = some o) : LS h₀ h' L fd m cm ps := by
  have hB := S.apart hl
  refine ⟨⟨?_, fun b o e => hk b o (fun q => by rw [q, h0] at e; cases e) (S.F.keep b o e), S.F.above⟩, ⟨fun n c e => ?_, S.X.apart, S.X.above⟩, hk _ _ (fun q => hB (by rw [← q]; simp)) S.T, S.T0, S.l⟩
  · obtain ⟨o, es, ep, e, hd, hr⟩ := S.F.ns
    exact ⟨o, es, ep, hk _ _ (fun q => hB (by rw [← q]; simp)) e, hd, hr⟩
  · obtain ⟨o, e', hd⟩ := S.X.cell n c e
    refine ⟨o, hk _ _ (fun q => ?_) e', hd⟩
    obtain ⟨o', e2, _, k, hd2⟩ := hl
    rw [q, e2] at e'; cases e'; rw [hd] at hd2; cases hd2

theorem x_lam {params : Arguments} {body : Expr} {scope : Scope} {a : Addr} {Q : Value → Shared → Prop} (S : LS h₀ h L fd m cm ps) (B : Bt h₀) (C : CodeHd h₀ 75 73)
    (hp : PsOk h pos ((callEnvC fd L a).qual ++ "<lambda>") ps)
    (hq : ∀ f c' ctv pmv h' tk' ps', LS h₀ h' L fd m cm ps' → Rk [L, 73] h h' → PsOk h' pos ((callEnvC fd L a).qual ++ "<lambda>") ps' →
      h'.get? f = some (kla_obj "<lambda>" ((callEnvC fd L a).qual ++ "<lambda>") params body scope (clos (callEnvC fd L a) scope.names []) pmv c' ctv) → h'.CodeRec (.ref c') ((callEnvC fd L a).qual ++ "<lambda>") → Q (.ref f) (St s h' tk'))
    (hdef : defaultsOf params (callEnvC fd L a) = ([], [])) (hcl : (scope.names.all fun x => x.2 != .free || fd.scope.names.lookup x.1 == some .cell) = true) (hcode : fd.code = .ref 75) (hgl : fd.globals = mainGlobals) :
    wpAny (model prog w) A (eval (.Lambda params body scope pos) (callEnvC fd L a)) Q E (St s h tk) := by
  refine kla_eval hdef ?_
  obtain ⟨mg, bm, ob, b0, b1, b2, b3, b4, b5, b6⟩ := B
  have hgs := b0.keeps S.F.keep
  have hm := S.T
  have hgP : mainGlobals ≠ 73 := fun q => by
    obtain ⟨o, es, ep, e, hd, _⟩ := hgs
    rw [q, hm] at e; cases e; cases hd
  have hbP : bm ≠ 73 := fun q => by
    have e := S.F.keep _ _ b3
    rw [q, hm] at e; cases e; cases b4
  have hbG : bm ≠ mainGlobals := fun q => by
    obtain ⟨o, es, ep, e, hd, _⟩ := b0
    rw [q, e] at b3; cases b3; rw [hd] at b6; cases b6
  rcases hp with rfl | ⟨c, o, vs, t, rfl, h2, h3, h4⟩
  · refine kla_makeFunction (s := St s h tk) (mg := mg) (clos_ok hcl) hgl hgs hcode (C.keeps S.F.keep) hm trivial rfl hgP ⟨bm, ob, b1, b2, hbG, hbP, S.F.keep _ _ b3, b4, b5, b6⟩ fun c' ctv h' tk hx hge hlt hrec htb => ?_
    have hx' : ∀ b o, b ≠ 73 → h.get? b = some o → (h'.push (kla_obj "<lambda>" ((callEnvC fd L a).qual ++ "<lambda>") params body scope (clos (callEnvC fd L a) scope.names []) ((mg "__name__").getD .none) c' ctv)).get? b = some o := fun b o hb e => Heap.get?_push_of_some _ (hx b o hb e)
    obtain ⟨c₂, oc, vs, t, e2, hoc, hd, hv⟩ := id hrec
    cases e2
    have hc73 : c' ≠ 73 := by
      have : 73 < h.objs.size := Heap.lt_size hm
      have hge' : h.objs.size ≤ c' := hge
      omega
    refine hq h'.objs.size c' ctv _ _ tk _ ⟨⟨?_, fun b o e => hx' b o (fun q => by rw [q, S.T0] at e; cases e) (S.F.keep b o e), S.F.above⟩, ⟨fun n c e => ?_, S.X.apart, S.X.above⟩, Heap.get?_push_of_some _ htb, S.T0, S.l⟩ (fun b o e n _ => hx' b o (fun q => n (by rw [q]; simp)) e)
      (.inr ⟨c', oc, vs, t, by simp, hc73, Heap.get?_push_of_some _ hoc, hd, hv⟩) (Heap.get?_push_size _ rfl) (hrec.push _)
    · obtain ⟨o, es, ep, e, hd, hr⟩ := S.F.ns
      exact ⟨o, es, ep, hx' _ _ (Nat.ne_of_gt S.l) e, hd, hr⟩
    · obtain ⟨o, e', hd⟩ := S.X.cell n c e
      refine ⟨o, hx' _ _ (fun q => ?_) e', hd⟩
      rw [q, hm] at e'; cases e'; cases hd
  · refine kla_makeFunctionHit (s := St s h tk) (mg := mg) (cv := .ref c) (clos_ok hcl) hgl hgs hcode (C.keeps S.F.keep) hm (by simp [TriplesOk, rawInt]) (by simp [codeAmong, rawInt]) ⟨bm, ob, b1, b2, hbG, hbP, S.F.keep _ _ b3, b4, b5, b6⟩ fun ctv h' tk hk hsz => ?_
    have hk' : Kept h (h'.push (kla_obj "<lambda>" ((callEnvC fd L a).qual ++ "<lambda>") params body scope (clos (callEnvC fd L a) scope.names []) ((mg "__name__").getD .none) c ctv)) := fun b o e => Heap.get?_push_of_some _ (hk b o e)
    exact hq h'.objs.size c ctv _ _ tk _ (S.keeps hk') (Rk.of hk') (.inr ⟨c, o, vs, t, rfl, h2, hk' _ _ h3, h4⟩) (Heap.get?_push_size _ rfl) ⟨c, o, vs, t, rfl, hk' _ _ h3, h4⟩

/-- a call of the lambda -/
theorem x_lamcall {params : Arguments} {body : Expr} {scope : Scope} {cl : List (Str × Addr)} {f c' : Addr} {ctv pmv : Value} {args : List Value} {binds : List (Str × Value)} {Q : Value → Shared → Prop} (G : Gr h) (hroom : A.depth < recursionLimit)
    (ho : h.get? f = some (kla_obj "<lambda>" qual params body scope cl pmv c' ctv)) (hcd : h.CodeRec (.ref c') qual)
    (hbind : bindArgs (kla_fn "<lambda>" qual params body scope cl pmv (.ref c') ctv) ⟨args, []⟩ = pure binds) (hloc : ∀ y ∈ binds, scope.names.lookup y.1 = some .local)
    (hq : ∀ L' h₁ tk', Fr h L' h₁ (ups binds.reverse) → wpAny (model prog w) (A.deeper (envX qual scope L' f (.ref c') cl)) (eval body (envX qual scope L' f (.ref c') cl)) Q (fun _ _ => False) (St s h₁ tk'))
    (hco : scope.isCoroutine = false) (hgen : scope.isGenerator = false) (hk : scope.kind = .function) (hcell : ∀ x ∈ scope.names, x.2 ≠ .cell) :
    wpAny (model prog w) A (call (.ref f) args) Q E (St s h tk) := by
  refine wpAny_call (kla_callFunE (s := St s h tk) hroom ho rfl hco hgen rfl hcd ?_)
  rw [hbind]
  refine wpAny_pure (wpAny_newFunctionEnv hcell hloc (fun h₁ hns hsb => ⟨(G.nolimit).fresh _ hsb, ?_⟩) hk)
  show codeAny _ _ (.expr body (envX qual scope h.objs.size f (.ref c') cl)) _ _
  have hk₁ : Kept h h₁ := fun b o e => hsb.extBut b o (Nat.ne_of_lt (Heap.lt_size e)) (Heap.get?_push_of_some _ e)
  exact kla_codeExpr (wpAny_mono (hq h.objs.size h₁ _ ⟨ups_eq _ ▸ hns, hk₁, Nat.le_refl _⟩) (fun v s' hl => hl) fun _ _ y => y.elim)

theorem x_lfree {scope : Scope} {a L' f : Addr} {cd : Value} {x : Str} {px : Pos} {v : Value} {Q : Value → Shared → Prop} (X : Cs fd L h cm) (hv : cm x = some v) (hq : Q v (St s h tk))
    (hk : scope.kind = .function) (hl : fd.scope.names.lookup x = some .cell) (hf : scope.names.lookup x = some .free) (hd : (x == ("__debug__" : Str)) = false) (hn : (x == ("__classdict__" : Str)) = false) :
    wpAny (model prog w) A (eval (.Name x px) (envX qual scope L' f cd (clos (callEnvC fd L a) scope.names []))) Q E (St s h tk) := by
  obtain ⟨c, hc, hi⟩ := cell_at X hv hl
  refine wpAny_Name (wpAny_loadName_free (s := St s h tk) (c := c) hk hf ?_ hi hq hn) hd
  show (clos (callEnvC fd L a) scope.names []).lookup x = some c
  rw [clos_lookup scope.names [] (.inl (mem_of_lookupK hf))]
  show some (((cellsFrom (L + 1) fd.scope.names []).lookup x).getD 0) = some c
  rw [hc]; rfl
theorem x_lloc {scope : Scope} {L' f : Addr} {cd : Value} {cl : List (Str × Addr)} {x : Str} {px : Pos} {v : Value} {Q : Value → Shared → Prop} (F : Fr h₀ L' h m) (hv : m x = some v) (hq : Q v (St s h tk))
    (hk : scope.kind = .function) (hl : scope.names.lookup x = some .local) (hd : (x == ("__debug__" : Str)) = false) :
    wpAny (model prog w) A (eval (.Name x px) (envX qual scope L' f cd cl)) Q E (St s h tk) := wpAny_Name (wpAny_loadName_local (env := envX qual scope L' f cd cl) (s := St s h tk) hk hl F.ns hv hq) hd

/-- a table: a list of n lists, the j-th value of the i-th is told by val -/
def Tab (h : Heap) (T : Addr) (n : Nat) (val : Nat → Nat → Value → Prop) : Prop := ∃ items : Array Value, h.IsList T items ∧ items.size = n ∧ ∀ i, i < n → ∃ a its, items[i]? = some (.ref a) ∧ h.IsList a its ∧ ∀ j, j < 3 → ∃ v, its[j]? = some v ∧ val i j v
theorem Tab.at {T : Addr} {n : Nat} {val : Nat → Nat → Value → Prop} (x : Tab h T n val) (hk : ∀ a its, h.IsList a its → h'.IsList a its) : Tab h' T n val := by
  obtain ⟨items, hl, hs, hi⟩ := x
  exact ⟨items, hk _ _ hl, hs, fun i hin => by obtain ⟨a, its, h1, h2, h3⟩ := hi i hin; exact ⟨a, its, h1, hk _ _ h2, h3⟩⟩
theorem Tab.keeps {T : Addr} {n : Nat} {val : Nat → Nat → Value → Prop} (x : Tab h T n val) (hk : Kept h h') : Tab h' T n val := x.at fun _ _ y => lstK y hk
theorem Tab.rk (S : LS h₀ h L fd m cm ps) {T : Addr} {n : Nat} {val : Nat → Nat → Value → Prop} (x : Tab h T n val) (hk : Rk [L, 73] h h') : Tab h' T n val := x.at fun _ _ y => hk.list y (S.apart y)
theorem Tab.step {I : Addr} {p q r : Int} (hi : IsRangeIter h I p q r) (hk : ∀ b o, b ≠ I → h.get? b = some o → h'.get? b = some o) {T : Addr} {n : Nat} {val : Nat → Nat → Value → Prop} (x : Tab h T n val) : Tab h' T n val := x.at fun _ _ y => Rk.step hi hk y
end
end Mine

namespace Mine
section
variable {prog : Program} {w : World} {A : Around} {E : Value → Shared → Prop} {s : Shared} {h h' h₀ : Heap} {tk : Nat} {Q : Value → Shared → Prop}
theorem Ints.reads {a : Addr} {ns : List Int} (x : Ints h a ns) : Reads h (.ref a) (.list (ns.map PyData.int)) [a] := by
  obtain ⟨vs, hl, hi⟩ := x; exact reads_newData hl (ke_carried hi)
theorem pair_reads {T Y N : Addr} {ys ns : List Int} (ht : h.IsTuple T #[.ref Y, .ref N]) (hy : Ints h Y ys) (hn : Ints h N ns) : ∃ as, Reads h (.ref T) (.tuple [.list (ys.map PyData.int), .list (ns.map PyData.int)]) as := by
  obtain ⟨o, e, hc, k, hd⟩ := ht
  exact ⟨_, reads_tuple_at e hc hd (.cons hy.reads (.cons hn.reads .nil))⟩
theorem x_neT {T U Y N Y' N' : Addr} {ys ns ys' ns' : List Int} (ht : h.IsTuple T #[.ref Y, .ref N]) (hu : h.IsTuple U #[.ref Y', .ref N']) (hy : Ints h Y ys) (hn : Ints h N ns) (hy' : Ints h Y' ys') (hn' : Ints h N' ns')
    (e1 : ys = ys') (e2 : ns = ns') (hroom : A.units + 64 < cLine) (hq : Q (.bool false) (St s h tk)) : wpAny (model prog w) A (compareOp .NotEq (.ref T) (.ref U)) Q E (St s h tk) := by
  subst e1 e2
  obtain ⟨as, ra⟩ := pair_reads ht hy hn
  obtain ⟨bs, rb⟩ := pair_reads hu hy' hn'
  refine ne_dataH (s := St s h tk) ra rb ?_ ?_ hroom ?_
  · simp [SeqAt.shaped, PyData.canLay0, PyData.canLayAll0, PyData.depth, PyData.depthAll, ke_canLayAll0, ke_depthAll]
  · simp [SeqAt.shaped, PyData.canLay0, PyData.canLayAll0, PyData.depth, PyData.depthAll, ke_canLayAll0, ke_depthAll]
  · have : (!PyData.eqv (.tuple [.list (ys.map PyData.int), .list (ns.map PyData.int)]) (.tuple [.list (ys.map PyData.int), .list (ns.map PyData.int)])) = false := by
      simp [PyData.eqv, PyData.eqvAll, ked_eqvAll]
    rw [this]; exact hq
theorem x_neI {a b : Addr} {ns ms : List Int} (ha : Ints h a ns) (hb : Ints h b ms) (hu : A.units + 64 < cLine) (hq : Q (.bool (!decide (ns = ms))) (St s h tk)) :
    wpAny (model prog w) A (compareOp .NotEq (.ref a) (.ref b)) Q E (St s h tk) := by
  obtain ⟨vs, hl, hi⟩ := ha; obtain ⟨ws, hl', hi'⟩ := hb
  exact ke_ne_ints (s := St s h tk) hl hl' hi hi' hu hq
theorem x_neS {x y : Str} {t u : Tok} (e : x = y) (hq : Q (.bool false) (St s h tk)) : wpAny (model prog w) A (compareOp .NotEq (.str x t) (.str y u)) Q E (St s h tk) := by
  refine PyProof.Rows.ne_str (s := St s h tk) ?_
  subst e
  rw [bne_self_eq_false]; exact hq
theorem fold_prs (t1 t2 : Tok) : ∀ (k : Nat) (acc : Array Value), (List.foldl (fun x1 x2 => x1 ++ x2) acc (List.replicate k #[Value.str ".#" t1, Value.str "#." t2])).toList = acc.toList ++ prs t1 t2 k
  | 0, acc => by simp [prs]
  | k + 1, acc => by
    rw [List.replicate_succ, List.foldl_cons, fold_prs t1 t2 k]
    simp [prs]
theorem mulG {s : Shared} {l : Addr} {items : Array Value} {k : Nat} {x : Int} {u : Tok}
    (hl : s.heap.get? l = some { cls := .type "list", dict := none, data := .seq items k, slots := #[] })
    (hlo : -(2 ^ 63 : Int) ≤ x) (hhi : x < 2 ^ 63) (hsz : items.size * x.toNat ≤ 2 ^ 24)
    (h : Q (.ref s.heap.objs.size) { s with heap := s.heap.push { cls := .type "list", data := .seq (List.foldl (fun x1 x2 => x1 ++ x2) #[] (List.replicate (if items.isEmpty = true then 0 else x.toNat) items)) } }) :
    wpAny (model prog w) A (binaryOp .Mult (.ref l) (.int x u)) Q E s :=
  wpAny_binaryOp_repeat_ref (T := "list") (U := "int") (by decide) ⟨_, hl, rfl⟩ (fun s' => typeIs_int s' x u) noFill_list_mul F.fills_int_mul F.slot_int_rmul repeat_list F.slot_int_index.lookup
    (call_meets F.slot_int_rmul (typeIs_int s x u) F.entry_int_rmul (F.args_int_rmul_2 _ _) (int___rmul___int_list x u l items k)
      ⟨hl, rfl, ⟨_, hl, rfl⟩, call_meets F.slot_list_mul ⟨_, hl, rfl⟩ F.entry_list_mul (F.args_list_mul_2 _ _)
        (AutoListH.list___mul___list_int_3 l items k x u (by simp [Builtin.List.listFitsIndex]; omega) (by omega) (by simp [Builtin.List.listTooLong, sizeLine]; omega))
        ⟨hl, h⟩⟩)
theorem x_lmul {a : Addr} {t1 t2 u : Tok} {k : Nat} (hk : k ≤ 1000) (hl : h.get? a = some (lstO [.str ".#" t1, .str "#." t2]))
    (hq : ∀ b h' its, Kept h h' → h'.IsList b its → its.toList = prs t1 t2 k → Q (.ref b) (St s h' tk)) : wpAny (model prog w) A (binaryOp .Mult (.ref a) (.int (k : Int) u)) Q E (St s h tk) := by
  refine mulG (s := St s h tk) (items := #[.str ".#" t1, .str "#." t2]) (k := 0) hl (by omega) (by omega) (by show 2 * (k : Int).toNat ≤ 2 ^ 24; omega) ?_
  exact hq h.objs.size _ _ (Kept.push _ _) ⟨_, Heap.get?_push_size _ rfl, rfl, 0, rfl⟩ (by simpa using fold_prs t1 t2 k #[])
theorem x_star {a : Addr} {its : Array Value} {Q : List Value → Shared → Prop} (hl : h.IsList a its) (hz : its.size ≤ sizeLine) (hq : ∀ h', Kept h h' → Q its.toList (St s h' tk)) : StarOf (model prog w) A E (.ref a) Q (St s h tk) := by
  obtain ⟨o, D, hc, n, hd⟩ := hl
  have z : wpAny (model prog w) A (collect (.ref a)) Q E (St s h tk) := wpAny_collect_seq a (.inl rfl) (s := St s h tk) D hc hd (fun h' hk => hq h' hk) hz
  unfold StarOf notIterableAtAll
  exact wpAny_bind (wpAny_specialOf (s := St s h tk) ⟨o, D, hc⟩ PySem.F.slot_list_iter.lookup (wpAny_pure ⟨rfl, z⟩))
end
end Mine

namespace Mine
local macro_rules | `(tactic| walk_at "m get") => `(tactic| (repeat (first | (with_reducible exact up_eq) | (with_reducible refine (up_ne (by decide +kernel)).trans ?_))))
local macro_rules | `(tactic| walk_at "m lv") => `(tactic| (with_reducible refine x_lv (by assumption) (by walk_at "m get") ?_ (by kernel_rfl!) (by kernel_rfl!) (by decide +kernel)))
local macro_rules | `(tactic| walk_at "m sv") => `(tactic| ((with_reducible refine x_sv (by assumption) (by assumption) (by kernel_rfl!) (by kernel_rfl!) ?_); intro _ _ _ _; (try dsimp only)))
local macro_rules | `(tactic| walk_at "m flt") => `(tactic| (repeat' (first
  | (with_reducible refine wpAny_BinOp ?_) | walk_at "m lv" | ((with_reducible refine x_fconst ?_); intro _ _) | ((with_reducible refine x_fadd ?_); intro _ _) | ((with_reducible refine x_fsub ?_); intro _ _) | ((with_reducible refine x_fmul ?_); intro _ _))))
local macro_rules | `(tactic| walk_at "m set") => `(tactic| ((with_reducible refine wpAny_execs_cons ?_); (with_reducible refine wpAny_Assign_Name ?_ (by kernel_rfl!)); walk_at "m flt"))
local macro_rules | `(tactic| walk_at "m arg") => `(tactic| (with_reducible refine args_cons ?_ (by with_unfolding_all rfl)))
local macro_rules | `(tactic| walk_at "m gr") => `(tactic| first | assumption | exact grF (by assumption) (by assumption))
local macro_rules | `(tactic| walk_at "m gn") => `(tactic| first
  | (with_reducible refine x_gl (Gr.n_yiq (by walk_at "m gr")) ?_ (by kernel_rfl!) (by kernel_rfl!) (by kernel_rfl!) (by decide +kernel))
  | (with_reducible refine x_gl (Gr.n_hls (by walk_at "m gr")) ?_ (by kernel_rfl!) (by kernel_rfl!) (by kernel_rfl!) (by decide +kernel))
  | (with_reducible refine x_gl (Gr.n_hsv (by walk_at "m gr")) ?_ (by kernel_rfl!) (by kernel_rfl!) (by kernel_rfl!) (by decide +kernel))
  | (with_reducible refine x_gl (Gr.n_told (by walk_at "m gr")) ?_ (by kernel_rfl!) (by kernel_rfl!) (by kernel_rfl!) (by decide +kernel))
  | (with_reducible refine x_gl (Gr.n_whole (by walk_at "m gr")) ?_ (by kernel_rfl!) (by kernel_rfl!) (by kernel_rfl!) (by decide +kernel))
  | (with_reducible refine x_gl (Gr.n_place (by walk_at "m gr")) ?_ (by kernel_rfl!) (by kernel_rfl!) (by kernel_rfl!) (by decide +kernel))
  | (with_reducible refine x_gl (Gr.n_line (by walk_at "m gr")) ?_ (by kernel_rfl!) (by kernel_rfl!) (by kernel_rfl!) (by decide +kernel))
  | (with_reducible refine x_gl (Gr.n_split (by walk_at "m gr")) ?_ (by kernel_rfl!) (by kernel_rfl!) (by kernel_rfl!) (by decide +kernel))
  | (with_reducible refine x_gl (Gr.n_replace (by walk_at "m gr")) ?_ (by kernel_rfl!) (by kernel_rfl!) (by kernel_rfl!) (by decide +kernel))
  | (with_reducible refine x_bl (Gr.n_max (by walk_at "m gr")) ?_ (by kernel_rfl!) (by kernel_rfl!) (by kernel_rfl!) (by kernel_rfl!) (by decide +kernel))
  | (with_reducible refine x_bl (Gr.n_min (by walk_at "m gr")) ?_ (by kernel_rfl!) (by kernel_rfl!) (by kernel_rfl!) (by kernel_rfl!) (by decide +kernel))
  | (with_reducible refine x_bl (Gr.n_len (by walk_at "m gr")) ?_ (by kernel_rfl!) (by kernel_rfl!) (by kernel_rfl!) (by kernel_rfl!) (by decide +kernel))
  | (with_reducible refine x_bl (Gr.n_range (by walk_at "m gr")) ?_ (by kernel_rfl!) (by kernel_rfl!) (by kernel_rfl!) (by kernel_rfl!) (by decide +kernel)))
local macro_rules | `(tactic| walk_at "m as") => `(tactic| ((with_unfolding_all refine assignInOrder_cons ?_); dsimp only; (with_reducible refine PyProof.Rows.assign_Name ?_); walk_at "m sv"))
local macro_rules | `(tactic| walk_at "m cl") => `(tactic| (with_reducible refine x_cl (by assumption) (by walk_at "m get") ?_ (by kernel_rfl!) (by kernel_rfl!) (by decide +kernel)))
local macro_rules | `(tactic| walk_at "m lvC") => `(tactic| (with_reducible refine x_lvC (by assumption) (by walk_at "m get") ?_ (by kernel_rfl!) (by kernel_rfl!) (by decide +kernel)))
local macro_rules | `(tactic| walk_at "m cc") => `(tactic| (with_reducible refine x_cc (by assumption) (by walk_at "m get") ?_ (by kernel_rfl!) (by kernel_rfl!) (by kernel_rfl!) (by kernel_rfl!) (by decide +kernel)))
local macro_rules | `(tactic| walk_at "m cv") => `(tactic| (with_reducible refine x_cv (by assumption) (by assumption) ?_ (by kernel_rfl!) (by kernel_rfl!) (by decide +kernel)))
local macro_rules | `(tactic| walk_at "m sc") => `(tactic| (with_reducible refine x_sc (by assumption) (by assumption) (by kernel_rfl!) (by kernel_rfl!) ?_))
local macro_rules | `(tactic| walk_at "m svC") => `(tactic| ((with_reducible refine x_svC (by assumption) (by assumption) (by assumption) (by kernel_rfl!) (by kernel_rfl!) ?_); intro _ _ _ _ _; (try dsimp only)))

theorem ints_inj : ∀ {vs : List Value} {ns ms : List Int}, IntsAre vs ns → IntsAre vs ms → ns = ms
  | _, _, _, .nil, .nil => rfl
  | _, _, _, .cons _ _ r, .cons _ _ r' => by rw [ints_inj r r']
theorem Ints.inj {h : Heap} {a : Addr} {ns ms : List Int} (x : Ints h a ns) (y : Ints h a ms) : ns = ms := by
  obtain ⟨vs, ⟨o, e, _, k, hd⟩, hi⟩ := x
  obtain ⟨ws, ⟨o', e', _, k', hd'⟩, hi'⟩ := y
  rw [e] at e'; cases e'; rw [hd] at hd'
  have : vs = ws := by simpa using (Data.seq.inj hd').1
  subst this
  exact ints_inj hi hi'
theorem lineV_len (d : List Int) (n : Nat) (k : Int) : (lineV d n k).length = n := by
  have := congrArg List.length (lineV_row d n k)
  have hr : ∀ f, (row f 0 n).length = n := fun f => by unfold row; simp
  rw [hr] at this
  exact this
section
variable {prog : Program} {w : World} {A : Around} {E : Value → Shared → Prop} {s : Shared} {h h' h₀ : Heap} {tk : Nat} {L : Addr} {m cm : Str → Option Value} {ps : Array Value} {pm : Value} {fa : Addr}

/-- the line of a list of dark places -/
def IsLine (h : Heap) (n : Nat) (k : Int) (v y : Value) : Prop := ∃ d e u, v = .ref d ∧ Ints h d e ∧ y = .str (lineV e n k) u
theorem three {h : Heap} {n : Nat} {k : Int} {d1 d2 d3 : Addr} {e1 e2 e3 : List Int} {vs ys : List Value} (hd1 : Ints h d1 e1) (hd2 : Ints h d2 e2) (hd3 : Ints h d3 e3)
    (hv : vs = [.ref d1, .ref d2, .ref d3]) (hp : Paired (IsLine h n k) vs ys) : ∃ l, ys = strValues l ∧ l.map (·.1) = [lineV e1 n k, lineV e2 n k, lineV e3 n k] := by
  subst hv
  obtain ⟨y1, r1, rfl, ⟨_, f1, u1, z1, i1, rfl⟩, hp1⟩ := paired_one hp
  obtain ⟨y2, r2, rfl, ⟨_, f2, u2, z2, i2, rfl⟩, hp2⟩ := paired_one hp1
  obtain ⟨y3, r3, rfl, ⟨_, f3, u3, z3, i3, rfl⟩, hp3⟩ := paired_one hp2
  cases z1; cases z2; cases z3
  have e := paired_nil hp3
  subst e
  rw [← hd1.inj i1, ← hd2.inj i2, ← hd3.inj i3]
  exact ⟨[(lineV e1 n k, u1), (lineV e2 n k, u2), (lineV e3 n k, u3)], rfl, rfl⟩

set_option maxHeartbeats 4000000 in
theorem law_7 {n : Nat} {tn : Tok} {D d1 d2 d3 : Addr} {e1 e2 e3 : List Int} {Q : Flow → Shared → Prop} (S : LS h₀ h L (fdOf 12 (.ref 75) pm) m cm ps) (G : Gr h₀) (hh : A.handled = none) (hroom : A.depth + 1 < recursionLimit)
    (hsize : cm "size" = some (.int n tn)) (hdarks : m "darks" = some (.ref D)) (hD : h.IsList D #[.ref d1, .ref d2, .ref d3]) (hd1 : Ints h d1 e1) (hd2 : Ints h d2 e2) (hd3 : Ints h d3 e3)
    (l1 : e1.length ≤ 1000) (l2 : e2.length ≤ 1000) (l3 : e3.length ≤ 1000) (hn : n ≤ 100)
    (hq : ∀ h' tk' m' t, LS h₀ h' L (fdOf 12 (.ref 75) pm) m' cm ps → m' "lines" = some (.str (linesV e1 e2 e3 n 0) t) → m' "darks" = some (.ref D) → h'.IsList D #[.ref d1, .ref d2, .ref d3] → Ints h' d1 e1 → Ints h' d2 e2 → Ints h' d3 e3 →
      wpAny (model prog w) A (execs (lawRest 8) (callEnvC (fdOf 12 (.ref 75) pm) L fa)) Q E (St s h' tk')) :
    wpAny (model prog w) A (execs (lawRest 7) (callEnvC (fdOf 12 (.ref 75) pm) L fa)) Q E (St s h tk) := by
  refine x_rest (k := 7) rfl ?_
  (with_reducible refine wpAny_Assign_Name ?_ (by kernel_rfl!))
  refine x_join (by kernel_rfl!) (by kernel_rfl!) (by kernel_rfl!) ?_
  intro tk₁
  refine x_comp (cl := clos (callEnvC (fdOf 12 (.ref 75) pm) L fa) _ []) (fun _ => true) (IsLine h n 0) (clos_ok (by kernel_rfl!)) (by decide +kernel) (by kernel_rfl!) (by decide +kernel) (by kernel_rfl!) ?_ (by intro _; rfl)
  refine x_lvC S.F hdarks ?_ (by kernel_rfl!) (by kernel_rfl!) (by decide +kernel)
  refine ⟨_, _, rfl, ?_⟩
  refine src_list hh hD ?_
  intro I h₂ tk₂ hsrc
  refine ⟨I, h₂, tk₂, _, _, rfl, rfl, hsrc, by size_fits, ⟨fun s C i v h₃ tk₃ m₃ E' hP hn hm hk => x_tests0 ⟨rfl, _, _, rfl, Kept.refl _⟩, fun s C i v h₃ tk₃ m₃ E' hP _ hns hm hk => ?_⟩, ?_⟩
  · have hv : ∃ d e, v = .ref d ∧ Ints h d e ∧ e.length ≤ 1000 := by
      rcases i with _ | _ | _ | i
      · simp at hP; exact ⟨_, _, hP.symm, hd1, l1⟩
      · simp at hP; exact ⟨_, _, hP.symm, hd2, l2⟩
      · simp at hP; exact ⟨_, _, hP.symm, hd3, l3⟩
      · simp at hP
    obtain ⟨d, e, rfl, hde, hle⟩ := hv
    have X₃ := Cs.keeps S.X hk
    have G₃ := (S.gr G).keeps hk
    (with_reducible refine Call_ ?_ (by with_unfolding_all rfl))
    walk_at "m gn"
    (with_reducible refine x_with (Gr.fns (by walk_at "m gr")).2.2.2.2.2.2.2.2 ?_ (by with_unfolding_all rfl))
    walk_at "m arg"; walk_at "m cv"
    walk_at "m arg"; (with_reducible refine x_cc X₃ hsize ?_ (by kernel_rfl!) (by kernel_rfl!) (by kernel_rfl!) (by kernel_rfl!) (by decide +kernel))
    walk_at "m arg"; (with_reducible refine x_iconst ?_); intro _ _
    (with_reducible refine args_nil ?_)
    refine ⟨Kept.refl _, ?_⟩
    refine line_spec G₃ hroom hh (hde.keeps hk) hle (by omega) (by omega) (by omega) ?_
    intro h₆ tk₆ u hk₆
    exact ⟨⟨d, e, u, rfl, hde, rfl⟩, _, _, rfl, hk₆⟩
  · intro D' h₅ tk₅ ys ws hD' hlD hlen' hP hF hks
    rw [filter_true] at hF
    obtain ⟨l, el, hl⟩ := three hd1 hd2 hd3 (list_of_get hlen' hP) hF
    refine ⟨D', l, _, h₅, tk₅, rfl, rfl, by rw [← el]; simpa using hlD, hl, ?_, ?_⟩
    · have : (PySem.Str.ofString "\n").length = 1 := by decide +kernel
      simp only [List.map_cons, List.map_nil, List.sum_cons, List.sum_nil, List.length_cons, List.length_nil, lineV_len, this]
      omega
    · intro t' tk'
      refine x_lsv (S.keeps hks) (by kernel_rfl!) (by kernel_rfl!) ?_
      intro h₆ tk₆ S₆ hrk
      have S₅ := S.keeps hks
      dsimp only
      exact hq _ _ _ t' S₆ up_eq ((up_ne (by decide +kernel)).trans hdarks) (hrk.list (lstK hD hks) (S₅.apart (lstK hD hks))) (hrk.ints (hd1.keeps hks) (S₅.apartI (hd1.keeps hks))) (hrk.ints (hd2.keeps hks) (S₅.apartI (hd2.keeps hks))) (hrk.ints (hd3.keeps hks) (S₅.apartI (hd3.keeps hks)))

set_option maxHeartbeats 8000000 in
theorem law_8 {n : Nat} {tn tl : Tok} {D d1 d2 d3 : Addr} {e1 e2 e3 : List Int} {Q : Flow → Shared → Prop} (S : LS h₀ h L (fdOf 12 (.ref 75) pm) m cm ps) (G : Gr h₀) (hh : A.handled = none) (hroom : A.depth + 1 < recursionLimit)
    (hsize : cm "size" = some (.int n tn)) (hlines : m "lines" = some (.str (linesV e1 e2 e3 n 0) tl)) (hdarks : m "darks" = some (.ref D)) (hD : h.IsList D #[.ref d1, .ref d2, .ref d3]) (hd1 : Ints h d1 e1) (hd2 : Ints h d2 e2) (hd3 : Ints h d3 e3)
    (l1 : e1.length ≤ 1000) (l2 : e2.length ≤ 1000) (l3 : e3.length ≤ 1000) (hn : n ≤ 100) (g1 : Good e1 n) (g2 : Good e2 n) (g3 : Good e3 n)
    (hq : ∀ h' tk' m' cm' ps', LS h₀ h' L (fdOf 12 (.ref 75) pm) m' cm' ps' → Q (.ret (.bool true)) (St s h' tk')) :
    wpAny (model prog w) A (execs (lawRest 8) (callEnvC (fdOf 12 (.ref 75) pm) L fa)) Q E (St s h tk) := by
  refine x_rest (k := 8) rfl ?_
  refine x_forS hh ?_ (by intro _; rfl)
  have G₁ := S.gr G
  (with_reducible refine Call_ ?_ (by with_unfolding_all rfl))
  walk_at "m gn"
  (with_reducible refine callWith_type1 ?_ (by with_unfolding_all rfl) (by with_unfolding_all rfl))
  walk_at "m arg"
  (with_reducible refine wpAny_BinOp ?_)
  refine x_cl S.X hsize ?_ (by kernel_rfl!) (by kernel_rfl!) (by decide +kernel)
  (with_reducible refine x_iconst ?_); intro _ _
  (with_reducible refine x_iadd ?_); intro _ _
  (with_reducible refine args_nil ?_)
  refine x_rng1 ?_
  intro r h₁ tk₁ t₁ u₁ v₁ hk₁ hr₁ hr
  refine ⟨r, 0, (n : Int) + 1, t₁, u₁, v₁, h₁, tk₁, fun _ h₂ => ∃ m cm ps, LS h₀ h₂ L (fdOf 12 (.ref 75) pm) m cm ps ∧ cm "size" = some (.int n tn) ∧ m "lines" = some (.str (linesV e1 e2 e3 n 0) tl) ∧ m "darks" = some (.ref D) ∧
    h₂.IsList D #[.ref d1, .ref d2, .ref d3] ∧ Ints h₂ d1 e1 ∧ Ints h₂ d2 e2 ∧ Ints h₂ d3 e3, rfl, rfl, hr, ⟨by omega, by omega, by omega, by omega⟩, ?_⟩
  have S₁ := S.keeps hk₁
  refine ⟨?_, ?_, ?_, ?_⟩
  · intro h₂ hk₂
    have hk := Kept.trans hk₁ hk₂
    exact ⟨m, cm, ps, S.keeps hk, hsize, hlines, hdarks, lstK hD hk, hd1.keeps hk, hd2.keeps hk, hd3.keeps hk⟩
  · rintro I i h₂ h₃ p q r hI ⟨m, cm, ps, S₂, hs₂, hl₂, hda₂, hD₂, i1, i2, i3⟩ hit hk
    have st : ∀ {d e}, Ints h₂ d e → Ints h₃ d e := fun ⟨vs, a, b⟩ => ⟨vs, Rk.step hit hk a, b⟩
    exact ⟨m, cm, ps, S₂.step hit hk (none_of_kept S₁.F.keep hI), hs₂, hl₂, hda₂, Rk.step hit hk hD₂, st i1, st i2, st i3⟩
  · rintro I i h₂ tk₂ t p q r E' hI hi ⟨m, cm, ps, S₂, hs₂, hl₂, hda₂, hD₂, i1, i2, i3⟩ hit
    rw [Int.zero_add]
    have hin : i ≤ n := by omega
    (with_reducible refine PyProof.Rows.assign_Name ?_)
    refine x_lsc S₂ (by kernel_rfl!) (by kernel_rfl!) ?_
    intro h₃ tk₃ S₃ rk₃
    have hit₃ := rk₃.it hit (S₂.it hit)
    replace hs₂ : up cm "turns" (.int (i : Int) t) "size" = some (.int n tn) := (up_ne (by decide +kernel)).trans hs₂
    have ht₃ : up cm "turns" (.int (i : Int) t) "turns" = some (.int (i : Int) t) := up_eq
    replace hD₂ := rk₃.list hD₂ (S₂.apart hD₂)
    replace i1 := rk₃.ints i1 (S₂.apartI i1); replace i2 := rk₃.ints i2 (S₂.apartI i2); replace i3 := rk₃.ints i3 (S₂.apartI i3)
    clear rk₃ hit S₂
    generalize up cm "turns" (.int (i : Int) t) = cm at hs₂ ht₃ S₃
    (with_reducible refine wpAny_execs_cons ?_)
    (with_reducible refine wpAny_Assign_Name ?_ (by kernel_rfl!))
    refine x_join (by kernel_rfl!) (by kernel_rfl!) (by kernel_rfl!) ?_
    intro tk₁
    refine x_comp (cl := clos (callEnvC (fdOf 12 (.ref 75) pm) L fa) _ []) (fun _ => true) (IsLine h₃ n (i : Int)) (clos_ok (by kernel_rfl!)) (by decide +kernel) (by kernel_rfl!) (by decide +kernel) (by kernel_rfl!) ?_ (by intro _; rfl)
    refine x_lvC S₃.F hda₂ ?_ (by kernel_rfl!) (by kernel_rfl!) (by decide +kernel)
    refine ⟨_, _, rfl, ?_⟩
    refine src_list hh hD₂ ?_
    intro I' h₄ tk₄ hsrc
    refine ⟨I', h₄, tk₄, _, _, rfl, rfl, hsrc, by size_fits, ⟨fun s C i v h₃ tk₃ m₃ E' hP hn hm hk => x_tests0 ⟨rfl, _, _, rfl, Kept.refl _⟩, fun s C j v h₅ tk₅ m₃ E' hP _ hns hm hk => ?_⟩, ?_⟩
    · have hv : ∃ d e, v = .ref d ∧ Ints h₃ d e ∧ e.length ≤ 1000 := by
        rcases j with _ | _ | _ | j
        · simp at hP; exact ⟨_, _, hP.symm, i1, l1⟩
        · simp at hP; exact ⟨_, _, hP.symm, i2, l2⟩
        · simp at hP; exact ⟨_, _, hP.symm, i3, l3⟩
        · simp at hP
      obtain ⟨d, e, rfl, hde, hle⟩ := hv
      have X₅ := Cs.keeps S₃.X hk
      have G₅ := (S₃.gr G).keeps hk
      (with_reducible refine Call_ ?_ (by with_unfolding_all rfl))
      walk_at "m gn"
      (with_reducible refine x_with (Gr.fns (by walk_at "m gr")).2.2.2.2.2.2.2.2 ?_ (by with_unfolding_all rfl))
      walk_at "m arg"; walk_at "m cv"
      walk_at "m arg"; (with_reducible refine x_cc X₅ hs₂ ?_ (by kernel_rfl!) (by kernel_rfl!) (by kernel_rfl!) (by kernel_rfl!) (by decide +kernel))
      walk_at "m arg"; (with_reducible refine x_cc X₅ ht₃ ?_ (by kernel_rfl!) (by kernel_rfl!) (by kernel_rfl!) (by kernel_rfl!) (by decide +kernel))
      (with_reducible refine args_nil ?_)
      refine ⟨Kept.refl _, ?_⟩
      refine line_spec G₅ hroom hh (hde.keeps hk) hle (by omega) (by omega) (by omega) ?_
      intro h₆ tk₆ u hk₆
      exact ⟨⟨d, e, u, rfl, hde, rfl⟩, _, _, rfl, hk₆⟩
    · intro D' h₅ tk₅ ys ws hD' hlD hlen' hP hF hks
      rw [filter_true] at hF
      obtain ⟨l, el, hl⟩ := three i1 i2 i3 (list_of_get hlen' hP) hF
      refine ⟨D', l, _, h₅, tk₅, rfl, rfl, by rw [← el]; simpa using hlD, hl, ?_, ?_⟩
      · have : (PySem.Str.ofString "\n").length = 1 := by decide +kernel
        simp only [List.map_cons, List.map_nil, List.sum_cons, List.sum_nil, List.length_cons, List.length_nil, lineV_len, this]
        omega
      · intro t' tk'
        replace S₃ := S₃.keeps hks
        replace hit₃ : IsRangeIter h₅ I p q r := hks _ _ hit₃
        replace i1 := i1.keeps hks; replace i2 := i2.keeps hks; replace i3 := i3.keeps hks; replace hD₂ := lstK hD₂ hks
        refine x_lsv S₃ (by kernel_rfl!) (by kernel_rfl!) ?_
        intro h₆ tk₆ S₆ rk
        have hit₆ := rk.it hit₃ (S₃.it hit₃)
        replace i1 := rk.ints i1 (S₃.apartI i1); replace i2 := rk.ints i2 (S₃.apartI i2); replace i3 := rk.ints i3 (S₃.apartI i3); replace hD₂ := rk.list hD₂ (S₃.apart hD₂)
        dsimp only
        replace hl₂ : up m "due" (.str (Txt.join "\n" [lineV e1 n i, lineV e2 n i, lineV e3 n i]) t') "lines" = some (.str (linesV e1 e2 e3 n 0) tl) := (up_ne (by decide +kernel)).trans hl₂
        replace hda₂ : up m "due" (.str (Txt.join "\n" [lineV e1 n i, lineV e2 n i, lineV e3 n i]) t') "darks" = some (.ref D) := (up_ne (by decide +kernel)).trans hda₂
        have hdue : up m "due" (.str (Txt.join "\n" [lineV e1 n i, lineV e2 n i, lineV e3 n i]) t') "due" = some (.str (linesV e1 e2 e3 n i) t') := up_eq
        change LS h₀ h₆ L (fdOf 12 (.ref 75) pm) (up m "due" (.str (Txt.join "\n" [lineV e1 n i, lineV e2 n i, lineV e3 n i]) t')) cm ps at S₆
        generalize up m "due" (.str (Txt.join "\n" [lineV e1 n i, lineV e2 n i, lineV e3 n i]) t') = m₆ at hl₂ hda₂ hdue S₆
        have G₆ := S₆.gr G
        (with_reducible refine wpAny_execs_cons ?_)
        (with_reducible refine wpAny_If ?_)
        (with_reducible refine wpAny_isTrue_Compare1 ?_ (by with_unfolding_all rfl))
        (with_reducible refine Call_ ?_ (by with_unfolding_all rfl))
        walk_at "m gn"
        (with_reducible refine x_with G₆.fns.1 ?_ (by with_unfolding_all rfl))
        walk_at "m arg"; (with_reducible refine x_lvC S₆.F hl₂ ?_ (by kernel_rfl!) (by kernel_rfl!) (by decide +kernel))
        (with_reducible refine items_star ?_ (by with_unfolding_all rfl))
        (with_reducible refine wpAny_BinOp ?_)
        (with_reducible refine x_list ?_)
        walk_at "m arg"; (with_reducible refine x_sconst ?_); intro ta _
        walk_at "m arg"; (with_reducible refine x_sconst ?_); intro tb _
        refine args_nil ⟨by size_fits, _, _, rfl, ?_⟩
        refine x_cl (S₆.X.keeps (Kept.push _ _)) ht₃ ?_ (by kernel_rfl!) (by kernel_rfl!) (by decide +kernel)
        refine x_lmul (t1 := ta) (t2 := tb) (by omega) (Heap.get?_push_size _ rfl) ?_
        intro b h₇ its hk₇ hb hits
        refine x_star hb (by
          have := congrArg List.length hits
          rw [prs_len] at this
          rw [← Array.length_toList, this, sizeLine_eq]; omega) ?_
        intro h₈ hk₈
        refine args_nil ?_
        have hk₆ : Kept h₆ h₈ := Kept.trans (Kept.push _ _) (Kept.trans hk₇ hk₈)
        refine ⟨hk₆, ?_⟩
        rw [List.append_nil, hits]
        refine replace_spec (G₆.keeps hk₆) (by omega) (by rw [linesV_length]; omega) (by omega) ?_
        intro h₉ tk₉ t₉ hk₉
        have hk := Kept.trans hk₆ hk₉
        replace S₆ := S₆.keeps hk
        refine x_lvC S₆.F hdue ?_ (by kernel_rfl!) (by kernel_rfl!) (by decide +kernel)
        refine x_neS (lines_law g1 g2 g3 i) ?_
        (with_reducible refine wpAny_truthy_bool ?_)
        rw [if_neg (by decide)]
        (with_reducible refine wpAny_execs_nil ?_)
        dsimp only
        (with_reducible refine wpAny_execs_nil ?_)
        exact ⟨h₉, _, rfl, ⟨m₆, cm, ps, S₆, hs₂, hl₂, hda₂, lstK hD₂ hk, i1.keeps hk, i2.keeps hk, i3.keeps hk⟩, hk _ _ hit₆⟩
  · rintro h₂ tk₂ ⟨m, cm, ps, S₂, -⟩
    dsimp only
    refine x_rest (k := 9) rfl ?_
    (with_reducible refine wpAny_Return_some ?_)
    (with_reducible refine wpAny_Constant_bool ?_)
    dsimp only
    exact hq _ _ _ _ _ S₂
end
end Mine

namespace Mine
local macro_rules | `(tactic| walk_at "m get") => `(tactic| (repeat (first | (with_reducible exact up_eq) | (with_reducible refine (up_ne (by decide +kernel)).trans ?_))))
local macro_rules | `(tactic| walk_at "m lv") => `(tactic| (with_reducible refine x_lv (by assumption) (by walk_at "m get") ?_ (by kernel_rfl!) (by kernel_rfl!) (by decide +kernel)))
local macro_rules | `(tactic| walk_at "m sv") => `(tactic| ((with_reducible refine x_sv (by assumption) (by assumption) (by kernel_rfl!) (by kernel_rfl!) ?_); intro _ _ _ _; (try dsimp only)))
local macro_rules | `(tactic| walk_at "m flt") => `(tactic| (repeat' (first
  | (with_reducible refine wpAny_BinOp ?_) | walk_at "m lv" | ((with_reducible refine x_fconst ?_); intro _ _) | ((with_reducible refine x_fadd ?_); intro _ _) | ((with_reducible refine x_fsub ?_); intro _ _) | ((with_reducible refine x_fmul ?_); intro _ _))))
local macro_rules | `(tactic| walk_at "m set") => `(tactic| ((with_reducible refine wpAny_execs_cons ?_); (with_reducible refine wpAny_Assign_Name ?_ (by kernel_rfl!)); walk_at "m flt"))
local macro_rules | `(tactic| walk_at "m arg") => `(tactic| (with_reducible refine args_cons ?_ (by with_unfolding_all rfl)))
local macro_rules | `(tactic| walk_at "m gr") => `(tactic| first | assumption | exact grF (by assumption) (by assumption))
local macro_rules | `(tactic| walk_at "m gn") => `(tactic| first
  | (with_reducible refine x_gl (Gr.n_yiq (by walk_at "m gr")) ?_ (by kernel_rfl!) (by kernel_rfl!) (by kernel_rfl!) (by decide +kernel))
  | (with_reducible refine x_gl (Gr.n_hls (by walk_at "m gr")) ?_ (by kernel_rfl!) (by kernel_rfl!) (by kernel_rfl!) (by decide +kernel))
  | (with_reducible refine x_gl (Gr.n_hsv (by walk_at "m gr")) ?_ (by kernel_rfl!) (by kernel_rfl!) (by kernel_rfl!) (by decide +kernel))
  | (with_reducible refine x_gl (Gr.n_told (by walk_at "m gr")) ?_ (by kernel_rfl!) (by kernel_rfl!) (by kernel_rfl!) (by decide +kernel))
  | (with_reducible refine x_gl (Gr.n_whole (by walk_at "m gr")) ?_ (by kernel_rfl!) (by kernel_rfl!) (by kernel_rfl!) (by decide +kernel))
  | (with_reducible refine x_gl (Gr.n_place (by walk_at "m gr")) ?_ (by kernel_rfl!) (by kernel_rfl!) (by kernel_rfl!) (by decide +kernel))
  | (with_reducible refine x_gl (Gr.n_line (by walk_at "m gr")) ?_ (by kernel_rfl!) (by kernel_rfl!) (by kernel_rfl!) (by decide +kernel))
  | (with_reducible refine x_gl (Gr.n_split (by walk_at "m gr")) ?_ (by kernel_rfl!) (by kernel_rfl!) (by kernel_rfl!) (by decide +kernel))
  | (with_reducible refine x_gl (Gr.n_replace (by walk_at "m gr")) ?_ (by kernel_rfl!) (by kernel_rfl!) (by kernel_rfl!) (by decide +kernel))
  | (with_reducible refine x_bl (Gr.n_max (by walk_at "m gr")) ?_ (by kernel_rfl!) (by kernel_rfl!) (by kernel_rfl!) (by kernel_rfl!) (by decide +kernel))
  | (with_reducible refine x_bl (Gr.n_min (by walk_at "m gr")) ?_ (by kernel_rfl!) (by kernel_rfl!) (by kernel_rfl!) (by kernel_rfl!) (by decide +kernel))
  | (with_reducible refine x_bl (Gr.n_len (by walk_at "m gr")) ?_ (by kernel_rfl!) (by kernel_rfl!) (by kernel_rfl!) (by kernel_rfl!) (by decide +kernel))
  | (with_reducible refine x_bl (Gr.n_range (by walk_at "m gr")) ?_ (by kernel_rfl!) (by kernel_rfl!) (by kernel_rfl!) (by kernel_rfl!) (by decide +kernel)))
local macro_rules | `(tactic| walk_at "m as") => `(tactic| ((with_unfolding_all refine assignInOrder_cons ?_); dsimp only; (with_reducible refine PyProof.Rows.assign_Name ?_); walk_at "m sv"))
local macro_rules | `(tactic| walk_at "m cl") => `(tactic| (with_reducible refine x_cl (by assumption) (by walk_at "m get") ?_ (by kernel_rfl!) (by kernel_rfl!) (by decide +kernel)))
local macro_rules | `(tactic| walk_at "m lvC") => `(tactic| (with_reducible refine x_lvC (by assumption) (by walk_at "m get") ?_ (by kernel_rfl!) (by kernel_rfl!) (by decide +kernel)))
local macro_rules | `(tactic| walk_at "m cc") => `(tactic| (with_reducible refine x_cc (by assumption) (by walk_at "m get") ?_ (by kernel_rfl!) (by kernel_rfl!) (by kernel_rfl!) (by kernel_rfl!) (by decide +kernel)))
local macro_rules | `(tactic| walk_at "m cv") => `(tactic| (with_reducible refine x_cv (by assumption) (by assumption) ?_ (by kernel_rfl!) (by kernel_rfl!) (by decide +kernel)))
local macro_rules | `(tactic| walk_at "m sc") => `(tactic| (with_reducible refine x_sc (by assumption) (by assumption) (by kernel_rfl!) (by kernel_rfl!) ?_))
local macro_rules | `(tactic| walk_at "m svC") => `(tactic| ((with_reducible refine x_svC (by assumption) (by assumption) (by assumption) (by kernel_rfl!) (by kernel_rfl!) ?_); intro _ _ _ _ _; (try dsimp only)))

/-- the colours' values -/
def cT (c : Nat → Int × Int × Int) (i j : Nat) (v : Value) : Prop := ∃ t, v = .float (toldF j (c i).1 (c i).2.1 (c i).2.2) t
def cW (c : Nat → Int × Int × Int) (i j : Nat) (v : Value) : Prop := ∃ t, v = .int (wholeI j (c i).1 (c i).2.1 (c i).2.2) t
def ok5 (c : Int × Int × Int) : Prop := small5 c.1 ∧ small5 c.2.1 ∧ small5 c.2.2
/-- place p is dark in system j -/
def bb (c : Nat → Int × Int × Int) (n j p : Nat) : Bool := decide (wholeI j (c p).1 (c p).2.1 (c p).2.2 < wholeI j (c (n / 2)).1 (c (n / 2)).2.1 (c (n / 2)).2.2)
theorem bb_flt {c : Nat → Int × Int × Int} {n j p : Nat} (hp : ok5 (c p)) (hm : ok5 (c (n / 2))) : flt (toldF j (c p).1 (c p).2.1 (c p).2.2) (toldF j (c (n / 2)).1 (c (n / 2)).2.1 (c (n / 2)).2.2) = bb c n j p :=
  col_law j hp.1 hp.2.1 hp.2.2 hm.1 hm.2.1 hm.2.2

/-- a test on places, as a test on values -/
def atP (b : Nat → Bool) : Value → Bool
  | .int i _ => b i.toNat
  | _ => false
theorem filt_ints {b : Nat → Bool} : ∀ {n k : Nat} {vs ys : List Value}, vs.length = n → (∀ (i : Nat) v, vs[i]? = some v → ∃ t, v = .int ((k + i : Nat) : Int) t) →
    Paired (fun v y => y = v) (vs.filter (atP b)) ys → IntsAre ys (((List.range' k n).filter b).map fun (i : Nat) => (i : Int))
  | 0, _, vs, ys, hl, _, hp => by
    have : vs = [] := List.eq_nil_of_length_eq_zero hl
    subst this; cases hp; exact .nil
  | n + 1, k, vs, ys, hl, hv, hp => by
    cases vs with
    | nil => cases hl
    | cons v vs =>
      obtain ⟨t, rfl⟩ := hv 0 v rfl
      have hrest : ∀ (i : Nat) v, vs[i]? = some v → ∃ t, v = .int ((k + 1 + i : Nat) : Int) t := fun i v hi => by
        obtain ⟨t, e⟩ := hv (i + 1) v (by simpa using hi)
        exact ⟨t, by rw [e]; congr 2; omega⟩
      have hl' : vs.length = n := by simpa using hl
      have eb : atP b (.int ((k + 0 : Nat) : Int) t) = b k := by show b ((k + 0 : Nat) : Int).toNat = b k; congr 1
      rw [List.filter_cons, eb] at hp
      rw [List.range'_succ, List.filter_cons]
      cases hb : b k with
      | true =>
        rw [hb, if_pos rfl] at hp
        rw [if_pos rfl, List.map_cons]
        obtain ⟨y, ys', rfl, rfl, hp'⟩ := paired_one hp
        exact .cons _ _ (filt_ints hl' hrest hp')
      | false =>
        rw [hb, if_neg Bool.false_ne_true] at hp
        rw [if_neg Bool.false_ne_true]
        exact filt_ints hl' hrest hp
theorem pick_mem {b : Nat → Bool} {n i : Nat} (hi : i < n) : decide ((i : Int) ∈ pick b n) = b i := by
  unfold pick
  cases hb : b i with
  | true => exact decide_eq_true (List.mem_map.mpr ⟨i, List.mem_filter.mpr ⟨List.mem_range.mpr hi, hb⟩, rfl⟩)
  | false =>
    refine decide_eq_false fun hm => ?_
    obtain ⟨j, hj, e⟩ := List.mem_map.mp hm
    have : j = i := by omega
    subst this
    have := (List.mem_filter.mp hj).2
    rw [hb] at this; cases this
theorem pick_congr {b b' : Nat → Bool} {n : Nat} (h : ∀ i, i < n → b i = b' i) : pick b n = pick b' n := by
  unfold pick
  rw [List.filter_congr fun i hi => h i (List.mem_range.mp hi)]
theorem pick_others (b : Nat → Bool) (n : Nat) : pick (fun i => !decide ((i : Int) ∈ pick b n)) n = pick (fun i => !b i) n := pick_congr fun i hi => by rw [pick_mem hi]

section
variable {prog : Program} {w : World} {A : Around} {E : Value → Shared → Prop} {s : Shared} {h h' h₀ : Heap} {tk : Nat} {L : Addr} {m cm : Str → Option Value} {ps : Array Value} {pm : Value} {fa : Addr} {env : Env} {fd : FuncData}

theorem x_withG {pos : Pos} {e : Expr} {rest : List Expr} {a : Addr} {j : Nat} {Q : Value → Shared → Prop} (hf : FnAt h a j)
    (hq : wpAny (model prog w) A (spliced (backTo pos (starEach (e :: rest) env))) (fun vs s₁ => (∀ o, h.get? a = some o → s₁.heap.get? a = some o) ∧ wpAny (model prog w) A (call (.ref a) vs) Q E s₁) E (St s h tk))
    (he : starEach (e :: rest) env = (false, eval e env) :: starEach rest env := by rfl) :
    wpAny (model prog w) A (callWith pos (.ref a) [] (backTo pos (starEach (e :: rest) env)) []) Q E (St s h tk) := by
  obtain ⟨o, cd, pm, ho, hd, _⟩ := hf
  exact callWith_def hd (wpAny_mono hq (fun vs s₁ h₁ => ⟨h₁.1 _ ho, h₁.2⟩) fun _ _ x => x) he

theorem LS.fromF {m' : Str → Option Value} (S : LS h₀ h L fd m cm ps) (F : Fr h₀ L h' m') (hk : ∀ b o, b ≠ L → h.get? b = some o → h'.get? b = some o) : LS h₀ h' L fd m' cm ps :=
  ⟨F, S.X.but hk, hk _ _ (Nat.ne_of_lt S.l) S.T, S.T0, S.l⟩
theorem Rk.butL (hk : ∀ b o, b ≠ L → h.get? b = some o → h'.get? b = some o) : Rk [L, 73] h h' := fun b o e n _ => hk b o (fun q => n (q ▸ List.mem_cons_self ..)) e

def lamPos : Pos := match lawBody.drop 6 with
  | .For _ _ (_ :: _ :: .Assign _ (.Call _ [_, .Lambda _ _ _ p] _ _) _ :: _) _ _ :: _ => p
  | _ => default
abbrev Lk (h h' : Heap) : Prop := ∀ a its, h.IsList a its → h'.IsList a its
theorem Lk.rk (S : LS h₀ h L fd m cm ps) {hB : Heap} (x : Lk hB h) (r : Rk [L, 73] h h') : Lk hB h' := fun a its y => r.list (x a its y) (S.apart (x a its y))
theorem Lk.of (hk : Kept h h') : Lk h h' := fun _ _ y => lstK y hk
theorem Lk.trans {h'' : Heap} (x : Lk h h') (y : Lk h' h'') : Lk h h'' := fun a its z => y _ _ (x _ _ z)
theorem Ints.lk {a : Addr} {ns : List Int} (x : Ints h a ns) (k : Lk h h') : Ints h' a ns := by obtain ⟨vs, a, b⟩ := x; exact ⟨vs, k _ _ a, b⟩

theorem fdiv_two (n : Nat) : (n : Int).fdiv 2 = ((n / 2 : Nat) : Int) := by
  rw [Int.fdiv_eq_ediv_of_nonneg _ (by omega)]; omega

/-- what a turn of the law's first loop keeps -/
def Inv6 (fa : Addr) (h₀ hB : Heap) (L : Addr) (pm : Value) (n : Nat) (c : Nat → Int × Int × Int) (T W D : Addr) (tn : Tok) (i : Nat) (h : Heap) : Prop :=
  ∃ (m cm : Str → Option Value) (ps : Array Value) (ds : List Addr), LS h₀ h L (fdOf 12 (.ref 75) pm) m cm ps ∧ cm "size" = some (.int n tn) ∧ cm "told" = some (.ref T) ∧ cm "whole" = some (.ref W) ∧ m "darks" = some (.ref D) ∧ Lk hB h ∧
    PsOk h lamPos ((callEnvC (fdOf 12 (.ref 75) pm) L fa).qual ++ "<lambda>") ps ∧ h.PlainList D (ds.map Value.ref).toArray ∧ ds.length = i ∧ ∀ j d, ds[j]? = some d → d ≠ D ∧ Ints h d (pick (bb c n j) n)

set_option maxHeartbeats 8000000 in
theorem law_6 {hB : Heap} {n : Nat} {tn : Tok} {c : Nat → Int × Int × Int} {T W D : Addr} {Q : Flow → Shared → Prop} (S : LS h₀ h L (fdOf 12 (.ref 75) pm) m cm ps) (G : Gr h₀) (B : Bt h₀) (C : CodeHd h₀ 75 73) (hh : A.handled = none) (hroom : A.depth + 1 < recursionLimit) (hu : A.units + 64 < cLine)
    (hsize : cm "size" = some (.int n tn)) (htold : cm "told" = some (.ref T)) (hwhole : cm "whole" = some (.ref W)) (hdarks : m "darks" = some (.ref D)) (hps : ps = #[])
    (hBD : hB.get? D = none) (h0D : h₀.get? D = none) (hLk : Lk hB h) (hT : Tab hB T n (cT c)) (hW : Tab hB W n (cW c)) (hD : h.PlainList D #[]) (hn1 : 1 ≤ n) (hn : n ≤ 100) (hc : ∀ i, i < n → ok5 (c i))
    (hq : ∀ h' tk', Inv6 fa h₀ hB L pm n c T W D tn 3 h' → wpAny (model prog w) A (execs (lawRest 7) (callEnvC (fdOf 12 (.ref 75) pm) L fa)) Q E (St s h' tk')) :
    wpAny (model prog w) A (execs (lawRest 6) (callEnvC (fdOf 12 (.ref 75) pm) L fa)) Q E (St s h tk) := by
  refine x_rest (k := 6) rfl ?_
  refine x_forS hh ?_ (by intro _; rfl)
  have G₁ := S.gr G
  (with_reducible refine Call_ ?_ (by with_unfolding_all rfl))
  walk_at "m gn"
  (with_reducible refine callWith_type1 ?_ (by with_unfolding_all rfl) (by with_unfolding_all rfl))
  walk_at "m arg"
  (with_reducible refine x_iconst ?_); intro _ _
  (with_reducible refine args_nil ?_)
  refine x_rng1 ?_
  intro r h₁ tk₁ t₁ u₁ v₁ hk₁ hr₁ hr
  refine ⟨r, 0, 3, t₁, u₁, v₁, h₁, tk₁, Inv6 fa h₀ hB L pm n c T W D tn, rfl, rfl, hr, ⟨by omega, by omega, by omega, by omega⟩, ?_⟩
  have S₁ := S.keeps hk₁
  have hhalf : n / 2 < n := by omega
  refine ⟨?_, ?_, ?_, ?_⟩
  · intro h₂ hk₂
    have hk := Kept.trans hk₁ hk₂
    exact ⟨m, cm, ps, [], S.keeps hk, hsize, htold, hwhole, hdarks, hLk.trans (Lk.of hk), .inl hps, hD.at fun o e => hk _ _ e, rfl, fun j d e => by simp at e⟩
  · rintro I i h₂ h₃ p q r hI ⟨m, cm, ps, ds, S₂, e1, e2, e3, e4, lk, pk, pl, len, hds⟩ hit hk
    have st : Lk h₂ h₃ := fun a its x => Rk.step hit hk x
    refine ⟨m, cm, ps, ds, S₂.step hit hk (none_of_kept S₁.F.keep hI), e1, e2, e3, e4, lk.trans st, pk.step hit hk, pl.at fun o e => hk _ _ (fun q => ?_) e, len, fun j d e => ⟨(hds j d e).1, (hds j d e).2.lk st⟩⟩
    obtain ⟨o', e'', _, k, hd'⟩ := pl.isList
    rw [q, show h₂.get? I = _ from hit] at e''; cases e''; cases hd'
  · rintro I i h₂ tk₂ t p q r E' hI hi ⟨m, cm, ps, ds, S₂, e1, e2, e3, e4, lk, pk, pl, len, hds⟩ hit
    have hi3 : i < 3 := hi
    rw [Int.zero_add]
    (with_reducible refine PyProof.Rows.assign_Name ?_)
    refine x_lsc S₂ (by kernel_rfl!) (by kernel_rfl!) ?_
    intro h₃ tk₃ S₃ rk
    replace hit := rk.it hit (S₂.it hit)
    replace lk := Lk.rk S₂ lk rk
    replace pk := PsOk.rk S₂ pk rk
    replace pl : h₃.PlainList D (ds.map Value.ref).toArray := pl.at fun o e => rk _ _ e (S₂.apart pl.isList) (by obtain ⟨k, e'⟩ := pl; rw [e'] at e; cases e; intro v q; cases q)
    replace hds := fun j d e => And.intro (hds j d e).1 (rk.ints (hds j d e).2 (S₂.apartI (hds j d e).2))
    replace e1 : up cm "system" (.int (i : Int) t) "size" = _ := (up_ne (by decide +kernel)).trans e1
    replace e2 : up cm "system" (.int (i : Int) t) "told" = _ := (up_ne (by decide +kernel)).trans e2
    replace e3 : up cm "system" (.int (i : Int) t) "whole" = _ := (up_ne (by decide +kernel)).trans e3
    have e5 : up cm "system" (.int (i : Int) t) "system" = some (.int (i : Int) t) := up_eq
    clear rk S₂
    generalize up cm "system" (.int (i : Int) t) = cm at e1 e2 e3 e5 S₃
    have G₃ := S₃.gr G
    -- the dark places
    (with_reducible refine wpAny_execs_cons ?_)
    (with_reducible refine wpAny_Assign_Name ?_ (by kernel_rfl!))
    refine x_comp (cl := clos (callEnvC (fdOf 12 (.ref 75) pm) L fa) _ []) (atP (bb c n i)) (fun v y => y = v) (clos_ok (by kernel_rfl!)) (by decide +kernel) (by kernel_rfl!) (by decide +kernel) (by kernel_rfl!) ?_ (by intro _; rfl)
    (with_reducible refine Call_ ?_ (by with_unfolding_all rfl))
    walk_at "m gn"
    (with_reducible refine callWith_type1 ?_ (by with_unfolding_all rfl) (by with_unfolding_all rfl))
    walk_at "m arg"; (with_reducible refine x_cl S₃.X e1 ?_ (by kernel_rfl!) (by kernel_rfl!) (by decide +kernel))
    (with_reducible refine args_nil ?_)
    refine x_rng1 ?_
    intro r' h₄ tk₄ t₄ u₄ v₄ hk₄ hr₄ hr'
    refine ⟨h₄, tk₄, rfl, ?_⟩
    refine src_range hh hr' (by omega) (by omega) (by omega) (by omega) ?_
    intro I' h₅ tk₅ hsrc
    refine ⟨I', h₅, tk₅, _, _, rfl, rfl, hsrc, by rw [sizeLine_eq]; omega, ⟨fun s C p v h₆ tk₆ m₃ E' hP hns hm hk => ?_, fun s C p v h₆ tk₆ m₃ E' hP _ hns hm hk => ?_⟩, ?_⟩
    · obtain ⟨hp, tp, rfl⟩ := hP
      have hp' : p < n := by omega
      have X₆ := Cs.keeps S₃.X (Kept.trans hk₄ hk)
      have lk₆ : Lk hB h₆ := lk.trans (Lk.of (Kept.trans hk₄ hk))
      rw [Int.zero_add] at hm
      have eP : atP (bb c n i) (.int (0 + (p : Int)) tp) = bb c n i p := by show bb c n i (0 + (p : Int)).toNat = _; congr 1; omega
      rw [eP]
      obtain ⟨items, hl, hsz, hrows⟩ := hW.at lk₆
      obtain ⟨a, its, ea, hla, hval⟩ := hrows p hp'
      obtain ⟨va, eva, ta, rfl⟩ := hval i hi3
      obtain ⟨b, jts, eb, hlb, hvbl⟩ := hrows (n / 2) hhalf
      obtain ⟨vb, evb, tb, rfl⟩ := hvbl i hi3
      refine x_tests1 ?_
      (with_reducible refine wpAny_isTrue_Compare1 ?_ (by with_unfolding_all rfl))
      (with_reducible refine Subscript_ ?_)
      (with_reducible refine Subscript_ ?_)
      (with_reducible refine x_cc X₆ e3 ?_ (by kernel_rfl!) (by kernel_rfl!) (by kernel_rfl!) (by kernel_rfl!) (by decide +kernel))
      walk_at "m cv"
      refine x_litem hl (by omega) (by omega) (by simpa using ea) ?_ (by with_unfolding_all rfl)
      (with_reducible refine x_cc X₆ e5 ?_ (by kernel_rfl!) (by kernel_rfl!) (by kernel_rfl!) (by kernel_rfl!) (by decide +kernel))
      refine x_litem hla (by omega) (by omega) (by simpa using eva) ?_ (by with_unfolding_all rfl)
      (with_reducible refine Subscript_ ?_)
      (with_reducible refine Subscript_ ?_)
      (with_reducible refine x_cc X₆ e3 ?_ (by kernel_rfl!) (by kernel_rfl!) (by kernel_rfl!) (by kernel_rfl!) (by decide +kernel))
      (with_reducible refine wpAny_BinOp ?_)
      (with_reducible refine x_cc X₆ e1 ?_ (by kernel_rfl!) (by kernel_rfl!) (by kernel_rfl!) (by kernel_rfl!) (by decide +kernel))
      (with_reducible refine x_iconst ?_); intro _ _
      refine x_idiv (by decide) (by decide) ?_
      intro _ _
      rw [fdiv_two]
      refine x_litem hl (by omega) (by omega) (by rw [Int.toNat_natCast]; exact eb) ?_ (by with_unfolding_all rfl)
      (with_reducible refine x_cc X₆ e5 ?_ (by kernel_rfl!) (by kernel_rfl!) (by kernel_rfl!) (by kernel_rfl!) (by decide +kernel))
      refine x_litem hlb (by omega) (by omega) (by simpa using evb) ?_ (by with_unfolding_all rfl)
      refine x_ilt ?_
      (with_reducible refine wpAny_truthy_bool ?_)
      exact ⟨rfl, _, _, rfl, Kept.refl _⟩
    · walk_at "m cv"
      exact ⟨rfl, _, _, rfl, Kept.refl _⟩
    intro dk h₆ tk₆ ys vs hdk hldk hlen hP hF hks
    have hdkD : dk ≠ D := fun q => by
      obtain ⟨k, e'⟩ := pl
      rw [q, hk₄ _ _ e'] at hdk; cases hdk
    have en : ((n : Int) - 0).toNat = n := by omega
    rw [en] at hlen
    have hIy := filt_ints (b := bb c n i) (k := 0) hlen (fun p v hv => by obtain ⟨_, t, e⟩ := hP p v hv; exact ⟨t, by rw [e]; congr 1; (try omega)⟩) hF
    have hdI : Ints h₆ dk (pick (bb c n i) n) := ⟨ys.toList, by simpa using hldk, by unfold pick; rw [List.range_eq_range']; exact hIy⟩
    clear hIy hF hP hldk hsrc
    have hk₆ := Kept.trans hk₄ hks
    replace S₃ := S₃.keeps hk₆
    replace lk := lk.trans (Lk.of hk₆)
    replace pk := pk.keeps hk₆
    replace pl := pl.at fun o e => hk₆ _ o e
    replace hds := fun j d e => And.intro (hds j d e).1 ((hds j d e).2.keeps hk₆)
    replace hit : IsRangeIter h₆ I p q r := hk₆ _ _ hit
    refine x_lsc S₃ (by kernel_rfl!) (by kernel_rfl!) ?_
    intro h₇ tk₇ S₇ rk
    replace hit := rk.it hit (S₃.it hit)
    replace lk := Lk.rk S₃ lk rk
    replace pk := PsOk.rk S₃ pk rk
    replace pl : h₇.PlainList D (ds.map Value.ref).toArray := pl.at fun o e => rk _ _ e (S₃.apart pl.isList) (by obtain ⟨k, e'⟩ := pl; rw [e'] at e; cases e; intro v q; cases q)
    replace hds := fun j d e => And.intro (hds j d e).1 (rk.ints (hds j d e).2 (S₃.apartI (hds j d e).2))
    replace hdI := rk.ints hdI (S₃.apartI hdI)
    replace e1 : up cm "dark" (.ref dk) "size" = _ := (up_ne (by decide +kernel)).trans e1
    replace e2 : up cm "dark" (.ref dk) "told" = _ := (up_ne (by decide +kernel)).trans e2
    replace e3 : up cm "dark" (.ref dk) "whole" = _ := (up_ne (by decide +kernel)).trans e3
    replace e5 : up cm "dark" (.ref dk) "system" = _ := (up_ne (by decide +kernel)).trans e5
    have e6 : up cm "dark" (.ref dk) "dark" = some (.ref dk) := up_eq
    clear rk S₃ G₃ hks hk₆ hk₄ hdk hr'
    generalize up cm "dark" (.ref dk) = cm at e1 e2 e3 e5 e6 S₇
    have G₇ := S₇.gr G
    dsimp only
    -- the other places
    (with_reducible refine wpAny_execs_cons ?_)
    refine x_acomp (h₀ := h₀) (m := m) (news := []) (cl := clos (callEnvC (fdOf 12 (.ref 75) pm) L fa) _ []) (atP fun p => !decide ((p : Int) ∈ pick (bb c n i) n)) (fun v y => y = v) (by kernel_rfl!) (clos_ok (by kernel_rfl!)) (by decide +kernel) (by kernel_rfl!) (by decide +kernel) (by kernel_rfl!) (by kernel_rfl!) (by kernel_rfl!) (L := L) (by kernel_rfl!) ?_ (by intro _; rfl)
    (with_reducible refine Call_ ?_ (by with_unfolding_all rfl))
    walk_at "m gn"
    (with_reducible refine callWith_type1 ?_ (by with_unfolding_all rfl) (by with_unfolding_all rfl))
    walk_at "m arg"; (with_reducible refine x_cl S₇.X e1 ?_ (by kernel_rfl!) (by kernel_rfl!) (by decide +kernel))
    (with_reducible refine args_nil ?_)
    refine x_rng1 ?_
    intro r' h₈ tk₈ t₈ u₈ v₈ hk₈ hr₈ hr'
    refine ⟨h₈, tk₈, rfl, (S₇.keeps hk₈).F, News.nil, ?_⟩
    refine src_range hh hr' (by omega) (by omega) (by omega) (by omega) ?_
    intro I' h₅ tk₅ hsrc
    refine ⟨I', h₅, tk₅, _, _, rfl, rfl, hsrc, by rw [sizeLine_eq]; omega, ⟨fun s C p v h₆ tk₆ m₃ E' hP hns hm hk => ?_, fun s C p v h₆ tk₆ m₃ E' hP _ hns hm hk => ?_⟩, ?_⟩
    · obtain ⟨hp, tp, rfl⟩ := hP
      have hp' : p < n := by omega
      have X₆ := Cs.keeps S₇.X (Kept.trans hk₈ hk)
      rw [Int.zero_add] at hm
      have eP : atP (fun p => !decide ((p : Int) ∈ pick (bb c n i) n)) (.int (0 + (p : Int)) tp) = !decide ((p : Int) ∈ pick (bb c n i) n) := by
        show (!decide (((0 + (p : Int)).toNat : Int) ∈ pick (bb c n i) n)) = _
        rw [show ((0 + (p : Int)).toNat : Int) = (p : Int) from by omega]
      rw [eP]
      refine x_tests1 ?_
      (with_reducible refine wpAny_isTrue_Compare1 ?_ (by with_unfolding_all rfl))
      walk_at "m cv"
      (with_reducible refine x_cc X₆ e6 ?_ (by kernel_rfl!) (by kernel_rfl!) (by kernel_rfl!) (by kernel_rfl!) (by decide +kernel))
      refine x_notin (hdI.keeps (Kept.trans hk₈ hk)) ?_
      (with_reducible refine wpAny_truthy_bool ?_)
      exact ⟨rfl, _, _, rfl, Kept.refl _⟩
    · walk_at "m cv"
      exact ⟨rfl, _, _, rfl, Kept.refl _⟩
    intro ot h₉ tk₉ ys' vs' hot hlot hlen' hP' hF' hkL F₉ _
    rw [en] at hlen'
    have hIo := filt_ints (b := fun p => !decide ((p : Int) ∈ pick (bb c n i) n)) (k := 0) hlen' (fun p v hv => by obtain ⟨_, t, e⟩ := hP' p v hv; exact ⟨t, by rw [e]; congr 1; (try omega)⟩) hF'
    have hoI : Ints h₉ ot (pick (fun p => !bb c n i p) n) := ⟨ys'.toList, by simpa using hlot, by rw [← pick_others]; unfold pick; rw [List.range_eq_range']; unfold pick at hIo; rw [List.range_eq_range'] at hIo; exact hIo⟩
    clear hIo hF' hP' hlot hsrc
    have S₈ := S₇.keeps hk₈
    have S₉ := S₈.fromF F₉ hkL
    have rk : Rk [L, 73] h₇ h₉ := (Rk.of hk₈).trans (Rk.butL hkL)
    replace hit := rk.it hit (S₇.it hit)
    replace lk := Lk.rk S₇ lk rk
    replace pk := PsOk.rk S₇ pk rk
    replace pl : h₉.PlainList D (ds.map Value.ref).toArray := pl.at fun o e => rk _ _ e (S₇.apart pl.isList) (by obtain ⟨k, e'⟩ := pl; rw [e'] at e; cases e; intro v q; cases q)
    replace hds := fun j d e => And.intro (hds j d e).1 (rk.ints (hds j d e).2 (S₇.apartI (hds j d e).2))
    replace hdI := rk.ints hdI (S₇.apartI hdI)
    replace e4 : up m "others" (.ref ot) "darks" = _ := (up_ne (by decide +kernel)).trans e4
    have e7 : up m "others" (.ref ot) "others" = some (.ref ot) := up_eq
    clear rk S₇ S₈ G₇ hkL hk₈ hot hr' F₉
    generalize up m "others" (.ref ot) = m at e4 e7 S₉
    have G₉ := S₉.gr G
    dsimp only
    -- the parting
    (with_reducible refine wpAny_execs_cons ?_)
    (with_reducible refine wpAny_Assign_Name ?_ (by kernel_rfl!))
    (with_reducible refine Call_ ?_ (by with_unfolding_all rfl))
    walk_at "m gn"
    (with_reducible refine x_withG G₉.fns.2.1 ?_ (by with_unfolding_all rfl))
    walk_at "m arg"
    (with_reducible refine Call_ ?_ (by with_unfolding_all rfl))
    walk_at "m gn"
    (with_reducible refine callWith_type1 ?_ (by with_unfolding_all rfl) (by with_unfolding_all rfl))
    walk_at "m arg"; (with_reducible refine x_cl S₉.X e1 ?_ (by kernel_rfl!) (by kernel_rfl!) (by decide +kernel))
    (with_reducible refine args_nil ?_)
    refine x_rng1 ?_
    intro r' h₁₀ tk₁₀ t₁₀ u₁₀ v₁₀ hk₁₀ hr₁₀ hr'
    walk_at "m arg"
    refine x_lam (S₉.keeps hk₁₀) B C (pk.keeps hk₁₀) ?_ (by kernel_rfl!) (by kernel_rfl!) (by kernel_rfl!) (by kernel_rfl!)
    intro f c' ctv pmv h₁₁ tk₁₁ ps' S₁₁ rk pk' hf hcd
    refine args_nil ?_
    have S₁₀ := S₉.keeps hk₁₀
    replace hit := rk.it (hk₁₀ _ _ hit) (S₁₀.it (hk₁₀ _ _ hit))
    replace lk := Lk.rk S₁₀ (lk.trans (Lk.of hk₁₀)) rk
    replace pl := pl.at fun o e => hk₁₀ _ o e
    replace pl : h₁₁.PlainList D (ds.map Value.ref).toArray := pl.at fun o e => rk _ _ e (S₁₀.apart pl.isList) (by obtain ⟨k, e'⟩ := pl; rw [e'] at e; cases e; intro v q; cases q)
    replace hds := fun j d e => And.intro (hds j d e).1 (rk.ints ((hds j d e).2.keeps hk₁₀) (S₁₀.apartI ((hds j d e).2.keeps hk₁₀)))
    replace hdI := rk.ints (hdI.keeps hk₁₀) (S₁₀.apartI (hdI.keeps hk₁₀))
    replace hoI := rk.ints (hoI.keeps hk₁₀) (S₁₀.apartI (hoI.keeps hk₁₀))
    have hrL : r' ∉ [L, 73] := by
      intro hm
      rcases List.mem_cons.mp hm with rfl | hm
      · obtain ⟨o', es, ep, e', hd', _⟩ := S₉.F.ns
        rw [hr₁₀] at e'; cases e'
      · rcases List.mem_cons.mp hm with rfl | hm
        · have := S₉.T; rw [hr₁₀] at this; cases this
        · cases hm
    replace hr' : IsRange h₁₁ r' 0 n 1 t₁₀ u₁₀ v₁₀ := rk _ _ hr' hrL (fun v q => by cases q)
    have G₁₁ := S₁₁.gr G
    refine ⟨fun o e => by
      obtain ⟨o₂, cd₂, pm₂, ho₂, _⟩ := G.fns.2.1
      have := S₉.F.keep _ _ ho₂
      rw [e] at this; cases this
      exact S₁₁.F.keep _ _ ho₂, ?_⟩
    clear rk S₁₀ S₉ G₉ hk₁₀ hr₁₀ hrL pk
    refine split_spec (b := bb c n i) G₁₁ (by omega) hh (by omega) hr' ⟨_, _, hf, rfl⟩ ?_ ?_
    · intro A' s' h' tk' p t' Q' E'' hdep hh' hp hk' hQ'
      refine x_lamcall (binds := [("place", .int (p : Int) t')]) (G₁₁.keeps hk') (by omega) (hk' _ _ hf) (hcd.keeps hk') (by kernel_rfl!) (fun y hy => by rcases List.mem_singleton.mp hy with rfl; kernel_rfl!) ?_ (by kernel_rfl!) (by kernel_rfl!) (by kernel_rfl!) (by decide +kernel)
      intro L' h₁₂ tk₁₂ F₁₂
      dsimp only [List.reverse, List.reverseAux, ups] at F₁₂
      have X₁₂ := Cs.keeps (Cs.keeps S₁₁.X hk') F₁₂.keep
      have lk₁₂ : Lk hB h₁₂ := lk.trans (Lk.of (Kept.trans hk' F₁₂.keep))
      obtain ⟨items, hl, hsz, hrows⟩ := hT.at lk₁₂
      obtain ⟨a, its, ea, hla, hval⟩ := hrows p hp
      obtain ⟨va, eva, ta, rfl⟩ := hval i hi3
      obtain ⟨b, jts, eb, hlb, hvbl⟩ := hrows (n / 2) hhalf
      obtain ⟨vb, evb, tb, rfl⟩ := hvbl i hi3
      (with_reducible refine wpAny_Compare1 ?_ (by with_unfolding_all rfl))
      (with_reducible refine Subscript_ ?_)
      (with_reducible refine Subscript_ ?_)
      refine x_lfree X₁₂ e2 ?_ (by kernel_rfl!) (by kernel_rfl!) (by kernel_rfl!) (by decide +kernel) (by decide +kernel)
      refine x_lloc F₁₂ (by walk_at "m get") ?_ (by kernel_rfl!) (by kernel_rfl!) (by decide +kernel)
      refine x_litem hl (by omega) (by omega) (by simpa using ea) ?_ (by with_unfolding_all rfl)
      refine x_lfree X₁₂ e5 ?_ (by kernel_rfl!) (by kernel_rfl!) (by kernel_rfl!) (by decide +kernel) (by decide +kernel)
      refine x_litem hla (by omega) (by omega) (by simpa using eva) ?_ (by with_unfolding_all rfl)
      (with_reducible refine Subscript_ ?_)
      (with_reducible refine Subscript_ ?_)
      refine x_lfree X₁₂ e2 ?_ (by kernel_rfl!) (by kernel_rfl!) (by kernel_rfl!) (by decide +kernel) (by decide +kernel)
      (with_reducible refine wpAny_BinOp ?_)
      refine x_lfree X₁₂ e1 ?_ (by kernel_rfl!) (by kernel_rfl!) (by kernel_rfl!) (by decide +kernel) (by decide +kernel)
      (with_reducible refine x_iconst ?_); intro _ _
      refine x_idiv (by decide) (by decide) ?_
      intro _ _
      rw [fdiv_two]
      refine x_litem hl (by omega) (by omega) (by rw [Int.toNat_natCast]; exact eb) ?_ (by with_unfolding_all rfl)
      refine x_lfree X₁₂ e5 ?_ (by kernel_rfl!) (by kernel_rfl!) (by kernel_rfl!) (by decide +kernel) (by decide +kernel)
      refine x_litem hlb (by omega) (by omega) (by simpa using evb) ?_ (by with_unfolding_all rfl)
      refine x_flt ?_
      rw [bb_flt (hc p hp) (hc _ hhalf)]
      exact hQ' _ _ F₁₂.keep
    intro PT Y N h₁₃ tk₁₃ hk₁₃ hPT hY hN
    replace S₁₁ := S₁₁.keeps hk₁₃
    replace hit : IsRangeIter h₁₃ I p q r := hk₁₃ _ _ hit
    replace lk := lk.trans (Lk.of hk₁₃)
    replace pk' := pk'.keeps hk₁₃
    replace pl := pl.at fun o e => hk₁₃ _ o e
    replace hds := fun j d e => And.intro (hds j d e).1 ((hds j d e).2.keeps hk₁₃)
    replace hdI := hdI.keeps hk₁₃
    replace hoI := hoI.keeps hk₁₃
    clear hk₁₃ hr' hf hcd G₁₁
    refine x_lsv S₁₁ (by kernel_rfl!) (by kernel_rfl!) ?_
    intro h₁₄ tk₁₄ S₁₄ rk
    replace hit := rk.it hit (S₁₁.it hit)
    replace lk := Lk.rk S₁₁ lk rk
    replace pk' := PsOk.rk S₁₁ pk' rk
    replace pl : h₁₄.PlainList D (ds.map Value.ref).toArray := pl.at fun o e => rk _ _ e (S₁₁.apart pl.isList) (by obtain ⟨k, e'⟩ := pl; rw [e'] at e; cases e; intro v q; cases q)
    replace hds := fun j d e => And.intro (hds j d e).1 (rk.ints (hds j d e).2 (S₁₁.apartI (hds j d e).2))
    replace hdI := rk.ints hdI (S₁₁.apartI hdI)
    replace hoI := rk.ints hoI (S₁₁.apartI hoI)
    replace hY := rk.ints hY (S₁₁.apartI hY)
    replace hN := rk.ints hN (S₁₁.apartI hN)
    have hPL : PT ∉ [L, 73] := by
      obtain ⟨o, e, _, k, hd⟩ := hPT
      intro hm
      rcases List.mem_cons.mp hm with rfl | hm
      · obtain ⟨o', es, ep, e', hd', _⟩ := S₁₁.F.ns
        rw [e] at e'; cases e'; rw [hd] at hd'; cases hd'
      · rcases List.mem_cons.mp hm with rfl | hm
        · have := S₁₁.T; rw [e] at this; cases this; cases hd
        · cases hm
    replace hPT : h₁₄.IsTuple PT #[.ref Y, .ref N] := hPT.at fun o e => rk _ _ e hPL fun v q => by
      obtain ⟨o', e', _, k, hd⟩ := hPT
      rw [e] at e'; cases e'; rw [q] at hd; cases hd
    replace e4 : up m "parted" (.ref PT) "darks" = _ := (up_ne (by decide +kernel)).trans e4
    replace e7 : up m "parted" (.ref PT) "others" = _ := (up_ne (by decide +kernel)).trans e7
    have e8 : up m "parted" (.ref PT) "parted" = some (.ref PT) := up_eq
    clear rk S₁₁ hPL
    generalize up m "parted" (.ref PT) = m at e4 e7 e8 S₁₄
    dsimp only
    (with_reducible refine wpAny_execs_cons ?_)
    (with_reducible refine wpAny_If ?_)
    (with_reducible refine wpAny_isTrue_Compare1 ?_ (by with_unfolding_all rfl))
    (with_reducible refine x_lvC S₁₄.F e8 ?_ (by kernel_rfl!) (by kernel_rfl!) (by decide +kernel))
    refine x_tuple ?_
    walk_at "m arg"; (with_reducible refine x_cl S₁₄.X e6 ?_ (by kernel_rfl!) (by kernel_rfl!) (by decide +kernel))
    walk_at "m arg"; (with_reducible refine x_lvC S₁₄.F e7 ?_ (by kernel_rfl!) (by kernel_rfl!) (by decide +kernel))
    refine args_nil ⟨by size_fits, _, _, rfl, ?_⟩
    have hk₁₅ : Kept h₁₄ (h₁₄.push (tupO [.ref dk, .ref ot])) := Kept.push _ _
    refine x_neT (hPT.at fun o e => hk₁₅ _ _ e) (tupO_is h₁₄ [.ref dk, .ref ot]) (hY.keeps hk₁₅) (hN.keeps hk₁₅) (hdI.keeps hk₁₅) (hoI.keeps hk₁₅) rfl rfl hu ?_
    (with_reducible refine wpAny_truthy_bool ?_)
    rw [if_neg (by decide)]
    (with_reducible refine wpAny_execs_nil ?_)
    dsimp only
    replace S₁₄ := S₁₄.keeps hk₁₅
    replace hit : IsRangeIter _ I p q r := hk₁₅ _ _ hit
    replace lk := lk.trans (Lk.of hk₁₅)
    replace pk' := pk'.keeps hk₁₅
    replace pl := pl.at fun o e => hk₁₅ _ o e
    replace hds := fun j d e => And.intro (hds j d e).1 ((hds j d e).2.keeps hk₁₅)
    replace hdI := hdI.keeps hk₁₅
    generalize h₁₄.push (tupO [.ref dk, .ref ot]) = h₁₆ at S₁₄ hit lk pk' pl hds hdI
    (with_reducible refine wpAny_execs_cons ?_)
    refine x_append (l := D) (by kernel_rfl!) (by kernel_rfl!) (by kernel_rfl!) (by kernel_rfl!) (by kernel_rfl!) (fun Q' hQ' => x_lvC S₁₄.F e4 (hQ' _) (by kernel_rfl!) (by kernel_rfl!) (by decide +kernel)) pl (by simp; omega) ?_
    intro tk₁₇
    refine x_cl S₁₄.X e6 ?_ (by kernel_rfl!) (by kernel_rfl!) (by decide +kernel)
    refine ⟨_, _, rfl, pl, ?_⟩
    intro h₁₈ tk₁₈ pl₁₈ hb
    have nd : ∀ {d ns}, d ≠ D → Ints h₁₆ d ns → Ints h₁₈ d ns := fun hd ⟨vs, a, b⟩ => ⟨vs, a.at fun o e => hb _ o hd e, b⟩
    have hlD := pl.isList
    refine wpAny_execs_nil ⟨h₁₈, tk₁₈, rfl, ⟨m, cm, ps', ds ++ [dk], S₁₄.app hlD h0D hb, e1, e2, e3, e4, fun a its x => (lk a its x).at fun o e => hb _ o (fun q => ?_) e, pk'.app hlD hb, by simpa using pl₁₈, by simp [len], fun j d e => ?_⟩, hb _ _ (fun q => ?_) hit⟩
    · obtain ⟨o', e', _⟩ := x
      rw [q, hBD] at e'; cases e'
    · by_cases hj : j < ds.length
      · rw [List.getElem?_append_left hj] at e
        exact ⟨(hds j d e).1, nd (hds j d e).1 (hds j d e).2⟩
      · rw [List.getElem?_append_right (by omega)] at e
        have hj0 : j - ds.length = 0 := by
          rcases hz : j - ds.length with _ | z
          · rfl
          · rw [hz] at e; simp at e
        rw [hj0] at e
        have ed : d = dk := by simpa using e.symm
        have ej : j = i := by omega
        subst ed ej
        exact ⟨hdkD, nd hdkD hdI⟩
    · obtain ⟨o', e'', _, k, hd'⟩ := hlD
      rw [← q, show h₁₆.get? I = _ from hit] at e''; cases e''; cases hd'
  · intro h₂ tk₂ hv
    dsimp only
    exact hq _ _ hv
end
end Mine

namespace Mine
local macro_rules | `(tactic| walk_at "m get") => `(tactic| (repeat (first | (with_reducible exact up_eq) | (with_reducible refine (up_ne (by decide +kernel)).trans ?_))))
local macro_rules | `(tactic| walk_at "m lv") => `(tactic| (with_reducible refine x_lv (by assumption) (by walk_at "m get") ?_ (by kernel_rfl!) (by kernel_rfl!) (by decide +kernel)))
local macro_rules | `(tactic| walk_at "m sv") => `(tactic| ((with_reducible refine x_sv (by assumption) (by assumption) (by kernel_rfl!) (by kernel_rfl!) ?_); intro _ _ _ _; (try dsimp only)))
local macro_rules | `(tactic| walk_at "m flt") => `(tactic| (repeat' (first
  | (with_reducible refine wpAny_BinOp ?_) | walk_at "m lv" | ((with_reducible refine x_fconst ?_); intro _ _) | ((with_reducible refine x_fadd ?_); intro _ _) | ((with_reducible refine x_fsub ?_); intro _ _) | ((with_reducible refine x_fmul ?_); intro _ _))))
local macro_rules | `(tactic| walk_at "m set") => `(tactic| ((with_reducible refine wpAny_execs_cons ?_); (with_reducible refine wpAny_Assign_Name ?_ (by kernel_rfl!)); walk_at "m flt"))
local macro_rules | `(tactic| walk_at "m arg") => `(tactic| (with_reducible refine args_cons ?_ (by with_unfolding_all rfl)))
local macro_rules | `(tactic| walk_at "m gr") => `(tactic| first | assumption | exact grF (by assumption) (by assumption))
local macro_rules | `(tactic| walk_at "m gn") => `(tactic| first
  | (with_reducible refine x_gl (Gr.n_yiq (by walk_at "m gr")) ?_ (by kernel_rfl!) (by kernel_rfl!) (by kernel_rfl!) (by decide +kernel))
  | (with_reducible refine x_gl (Gr.n_hls (by walk_at "m gr")) ?_ (by kernel_rfl!) (by kernel_rfl!) (by kernel_rfl!) (by decide +kernel))
  | (with_reducible refine x_gl (Gr.n_hsv (by walk_at "m gr")) ?_ (by kernel_rfl!) (by kernel_rfl!) (by kernel_rfl!) (by decide +kernel))
  | (with_reducible refine x_gl (Gr.n_told (by walk_at "m gr")) ?_ (by kernel_rfl!) (by kernel_rfl!) (by kernel_rfl!) (by decide +kernel))
  | (with_reducible refine x_gl (Gr.n_whole (by walk_at "m gr")) ?_ (by kernel_rfl!) (by kernel_rfl!) (by kernel_rfl!) (by decide +kernel))
  | (with_reducible refine x_gl (Gr.n_place (by walk_at "m gr")) ?_ (by kernel_rfl!) (by kernel_rfl!) (by kernel_rfl!) (by decide +kernel))
  | (with_reducible refine x_gl (Gr.n_line (by walk_at "m gr")) ?_ (by kernel_rfl!) (by kernel_rfl!) (by kernel_rfl!) (by decide +kernel))
  | (with_reducible refine x_gl (Gr.n_split (by walk_at "m gr")) ?_ (by kernel_rfl!) (by kernel_rfl!) (by kernel_rfl!) (by decide +kernel))
  | (with_reducible refine x_gl (Gr.n_replace (by walk_at "m gr")) ?_ (by kernel_rfl!) (by kernel_rfl!) (by kernel_rfl!) (by decide +kernel))
  | (with_reducible refine x_bl (Gr.n_max (by walk_at "m gr")) ?_ (by kernel_rfl!) (by kernel_rfl!) (by kernel_rfl!) (by kernel_rfl!) (by decide +kernel))
  | (with_reducible refine x_bl (Gr.n_min (by walk_at "m gr")) ?_ (by kernel_rfl!) (by kernel_rfl!) (by kernel_rfl!) (by kernel_rfl!) (by decide +kernel))
  | (with_reducible refine x_bl (Gr.n_len (by walk_at "m gr")) ?_ (by kernel_rfl!) (by kernel_rfl!) (by kernel_rfl!) (by kernel_rfl!) (by decide +kernel))
  | (with_reducible refine x_bl (Gr.n_range (by walk_at "m gr")) ?_ (by kernel_rfl!) (by kernel_rfl!) (by kernel_rfl!) (by kernel_rfl!) (by decide +kernel)))
local macro_rules | `(tactic| walk_at "m as") => `(tactic| ((with_unfolding_all refine assignInOrder_cons ?_); dsimp only; (with_reducible refine PyProof.Rows.assign_Name ?_); walk_at "m sv"))
local macro_rules | `(tactic| walk_at "m cl") => `(tactic| (with_reducible refine x_cl (by assumption) (by walk_at "m get") ?_ (by kernel_rfl!) (by kernel_rfl!) (by decide +kernel)))
local macro_rules | `(tactic| walk_at "m lvC") => `(tactic| (with_reducible refine x_lvC (by assumption) (by walk_at "m get") ?_ (by kernel_rfl!) (by kernel_rfl!) (by decide +kernel)))
local macro_rules | `(tactic| walk_at "m cc") => `(tactic| (with_reducible refine x_cc (by assumption) (by walk_at "m get") ?_ (by kernel_rfl!) (by kernel_rfl!) (by kernel_rfl!) (by kernel_rfl!) (by decide +kernel)))
local macro_rules | `(tactic| walk_at "m cv") => `(tactic| (with_reducible refine x_cv (by assumption) (by assumption) ?_ (by kernel_rfl!) (by kernel_rfl!) (by decide +kernel)))
local macro_rules | `(tactic| walk_at "m sc") => `(tactic| (with_reducible refine x_sc (by assumption) (by assumption) (by kernel_rfl!) (by kernel_rfl!) ?_))
local macro_rules | `(tactic| walk_at "m svC") => `(tactic| ((with_reducible refine x_svC (by assumption) (by assumption) (by assumption) (by kernel_rfl!) (by kernel_rfl!) ?_); intro _ _ _ _ _; (try dsimp only)))

theorem paired_get {F : Value → Value → Prop} : ∀ {xs ys : List Value}, Paired F xs ys → ∀ (i : Nat) x, xs[i]? = some x → ∃ y, ys[i]? = some y ∧ F x y
  | _, _, .cons hf r, 0, x, e => by cases e; exact ⟨_, rfl, hf⟩
  | _, _, .cons _ r, i + 1, x, e => by simpa using paired_get r i x (by simpa using e)
theorem ints_map {f : Int → Int} : ∀ {vs ys : List Value} {ns : List Int}, IntsAre vs ns → Paired (fun v y => ∃ b t u, v = Value.int b t ∧ y = Value.int (f b) u) vs ys → IntsAre ys (ns.map f)
  | _, _, _, .nil, .nil => .nil
  | _, _, _, .cons _ _ r, .cons hf p => by
    obtain ⟨b, t, u, e, rfl⟩ := hf
    cases e
    exact .cons _ _ (ints_map r p)
theorem ints_at : ∀ {vs : List Value} {ns : List Int}, IntsAre vs ns → ∀ (i : Nat) v, vs[i]? = some v → ∃ t, v = .int (ns.getD i 0) t
  | _, _, .cons _ t _, 0, v, e => by cases e; exact ⟨t, rfl⟩
  | _, _, .cons _ _ r, i + 1, v, e => by simpa using ints_at r i v (by simpa using e)

/-- the colour of a number -/
def colOf (x : Int) : Int × Int × Int := (x.fmod 5, (x.fdiv 5).fmod 5, x.fdiv 25)
theorem colOf_ok {x : Int} (h0 : 0 ≤ x) (h1 : x < 125) : ok5 (colOf x) := by
  have e1 : x.fmod 5 = x % 5 := Int.fmod_eq_emod_of_nonneg _ (by omega)
  have e2 : x.fdiv 5 = x / 5 := Int.fdiv_eq_ediv_of_nonneg _ (by omega)
  have e3 : (x / 5).fmod 5 = (x / 5) % 5 := Int.fmod_eq_emod_of_nonneg _ (by omega)
  have e4 : x.fdiv 25 = x / 25 := Int.fdiv_eq_ediv_of_nonneg _ (by omega)
  unfold ok5 colOf small5
  dsimp only
  rw [e1, e2, e3, e4]
  omega
/-- the spots: a list of n lists of three -/
def SpT (h : Heap) (P : Addr) (n : Nat) (c : Nat → Int × Int × Int) : Prop := ∃ items : Array Value, h.IsList P items ∧ items.size = n ∧ ∀ i, i < n → ∃ sp ta tb tc, items[i]? = some (.ref sp) ∧ h.IsList sp #[.int (c i).1 ta, .int (c i).2.1 tb, .int (c i).2.2 tc]
theorem SpT.lk {h h' : Heap} {P : Addr} {n : Nat} {c : Nat → Int × Int × Int} (x : SpT h P n c) (k : Lk h h') : SpT h' P n c := by
  obtain ⟨items, hl, hs, hr⟩ := x
  exact ⟨items, k _ _ hl, hs, fun i hi => by obtain ⟨sp, ta, tb, tc, e, hl⟩ := hr i hi; exact ⟨sp, ta, tb, tc, e, k _ _ hl⟩⟩
theorem isList_inj {h : Heap} {a : Addr} {xs ys : Array Value} (x : h.IsList a xs) (y : h.IsList a ys) : xs = ys := by
  obtain ⟨o, e, _, k, hd⟩ := x
  obtain ⟨o', e', _, k', hd'⟩ := y
  rw [e] at e'; cases e'; rw [hd] at hd'
  exact (Data.seq.inj hd').1
theorem Lk.rks {h₀ h h' : Heap} {L : Addr} {fd : FuncData} {m cm : Str → Option Value} {ps : Array Value} (S : LS h₀ h L fd m cm ps) (r : Rk [L, 73] h h') : Lk h h' := fun _ _ y => r.list y (S.apart y)

section
variable {prog : Program} {w : World} {A : Around} {E : Value → Shared → Prop} {s : Shared} {h h' h₀ : Heap} {tk : Nat} {L : Addr} {m cm : Str → Option Value} {ps : Array Value} {pm : Value} {fa : Addr} {env : Env} {fd : FuncData}

/-- «l[:8]» -/
theorem x_upto {value : Expr} {p pos cp : Pos} {k : Nat} {l : Addr} {ns : List Int} {Q : Value → Shared → Prop}
    (hv : ∀ Q' : Value → Shared → Prop, Q' (.ref l) (St s h tk) → wpAny (model prog w) A (eval value env) Q' E (St s h tk)) (hl : Ints h l ns) (hsz : ns.length ≤ 1000)
    (hq : ∀ D h' tk', Kept h h' → Ints h' D (ns.take 8) → Q (.ref D) (St s h' tk'))
    (ht : ∀ o r, letTemporaryGo value o r = pure ()) :
    wpAny (model prog w) A (eval (.Subscript value (.Slice none (some (.Constant (.int 8) k cp)) none p) pos) env) Q E (St s h tk) := by
  obtain ⟨vs, hl, hi⟩ := hl
  refine wpAny_Subscript_list_slice (hv _ (wpAny_evalPart_none (wpAny_evalPart_some (x_iconst fun t8 tk' => ?_)))) ht
  refine ⟨l, _, none, some 8, rfl, hl, by have := hi.length; simp [sizeLine_eq]; omega, .none, .int 8 t8, ?_⟩
  refine hq (h.objs.size + 1) _ _ (Kept.trans (Kept.push _ _) (Kept.push _ _)) ⟨(slicePick vs.toArray none (some 8) none).toList, ?_, slice_ints_uptoW hi (by decide)⟩
  refine ⟨{ cls := .type "list", data := .seq (slicePick vs.toArray none (some 8) none) }, ?_, rfl, 0, by simp⟩
  have e1 := Heap.get?_push_size (h.push { cls := .type "slice", data := .fields #[.none, .int 8 t8, .none] }) (o := { cls := .type "list", data := .seq (slicePick vs.toArray none (some 8) none) }) rfl
  rw [Heap.size_push] at e1
  exact e1

set_option maxHeartbeats 4000000 in
theorem law_0 {sc : Addr} {ns : List Int} {Q : Flow → Shared → Prop} (S : LS h₀ h L (fdOf 12 (.ref 75) pm) m cm ps) (hh : A.handled = none) (hu : A.units + 64 < cLine)
    (hsc : m "script" = some (.ref sc)) (hns : Ints h sc ns) (hlen : ns.length ≤ 1000)
    (hq : ∀ h' tk' N nums, LS h₀ h' L (fdOf 12 (.ref 75) pm) (up m "numbers" (.ref N)) cm ps → Ints h' N nums → 1 ≤ nums.length → nums.length ≤ 8 → (∀ i, i < nums.length → 0 ≤ nums.getD i 0 ∧ nums.getD i 0 < 125) →
      wpAny (model prog w) A (execs (lawRest 1) (callEnvC (fdOf 12 (.ref 75) pm) L fa)) Q E (St s h' tk')) :
    wpAny (model prog w) A (execs (lawRest 0) (callEnvC (fdOf 12 (.ref 75) pm) L fa)) Q E (St s h tk) := by
  refine x_rest (k := 0) rfl ?_
  (with_reducible refine wpAny_Assign_Name ?_ (by kernel_rfl!))
  have fin : ∀ h' tk' N nums, Kept h h' → Ints h' N nums → 1 ≤ nums.length → nums.length ≤ 8 → (∀ i, i < nums.length → 0 ≤ nums.getD i 0 ∧ nums.getD i 0 < 125) →
      wpAny (model prog w) A (storeName (callEnvC (fdOf 12 (.ref 75) pm) L fa) "numbers" (.ref N)) (fun _ s' => wpAny (model prog w) A (execs (lawRest 1) (callEnvC (fdOf 12 (.ref 75) pm) L fa)) Q E s') E (St s h' tk') := by
    intro h' tk' N nums hk hI l1 l2 hr
    refine x_lsv (S.keeps hk) (by kernel_rfl!) (by kernel_rfl!) ?_
    intro h₂ tk₂ S₂ rk
    exact hq _ _ _ _ S₂ (rk.ints hI ((S.keeps hk).apartI hI)) l1 l2 hr
  (with_reducible refine wpAny_IfExp ?_)
  (with_reducible refine wpAny_isTrue_Compare1 ?_ (by with_unfolding_all rfl))
  (with_reducible refine x_lvC S.F hsc ?_ (by kernel_rfl!) (by kernel_rfl!) (by decide +kernel))
  (with_reducible refine x_list ?_)
  refine args_nil ⟨by size_fits, _, _, rfl, ?_⟩
  have hk₁ : Kept h (h.push (lstO [])) := Kept.push _ _
  refine x_neI (hns.keeps hk₁) ⟨[], lstO_is h [], .nil⟩ hu ?_
  (with_reducible refine wpAny_truthy_bool ?_)
  generalize h.push (lstO []) = h₁ at hk₁
  by_cases hne : ns = []
  · rw [if_neg (by simp [hne])]
    (with_reducible refine x_list ?_)
    walk_at "m arg"; (with_reducible refine x_iconst ?_); intro _ _
    walk_at "m arg"; (with_reducible refine x_iconst ?_); intro _ _
    walk_at "m arg"; (with_reducible refine x_iconst ?_); intro _ _
    walk_at "m arg"; (with_reducible refine x_iconst ?_); intro _ _
    walk_at "m arg"; (with_reducible refine x_iconst ?_); intro _ _
    walk_at "m arg"; (with_reducible refine x_iconst ?_); intro _ _
    walk_at "m arg"; (with_reducible refine x_iconst ?_); intro _ _
    walk_at "m arg"; (with_reducible refine x_iconst ?_); intro _ _
    refine args_nil ⟨by size_fits, _, _, rfl, ?_⟩
    refine fin _ _ _ [62, 4, 15, 10, 82, 75, 18, 106] (Kept.trans hk₁ (Kept.push _ _)) ⟨_, lstO_is _ _, .cons _ _ (.cons _ _ (.cons _ _ (.cons _ _ (.cons _ _ (.cons _ _ (.cons _ _ (.cons _ _ .nil)))))))⟩ (by decide) (by decide) (by decide)
  · rw [if_pos (by simp [hne])]
    refine x_comp (cl := clos (callEnvC (fdOf 12 (.ref 75) pm) L fa) _ []) (fun _ => true) (fun v y => ∃ b t u, v = Value.int b t ∧ y = Value.int (b.fmod 125) u) (clos_ok (by kernel_rfl!)) (by decide +kernel) (by kernel_rfl!) (by decide +kernel) (by kernel_rfl!) ?_ (by intro _; rfl)
    have S₁ := S.keeps hk₁
    refine x_upto (l := sc) (ns := ns) (fun Q' hQ' => x_lvC S₁.F hsc hQ' (by kernel_rfl!) (by kernel_rfl!) (by decide +kernel)) (hns.keeps hk₁) hlen ?_ (by intro _ _; with_unfolding_all rfl)
    intro D h₂ tk₂ hk₂ hDI
    refine ⟨_, _, rfl, ?_⟩
    obtain ⟨vs, hl, hi⟩ := hDI
    refine src_list hh hl ?_
    intro I h₃ tk₃ hsrc
    have hlv := hi.length
    have hle : vs.length ≤ 8 := by rw [hlv, List.length_take]; omega
    refine ⟨I, h₃, tk₃, _, _, rfl, rfl, hsrc, by rw [sizeLine_eq]; simp; omega, ⟨fun s C i v h₃ tk₃ m₃ E' hP hn hm hk => x_tests0 ⟨rfl, _, _, rfl, Kept.refl _⟩, fun s C i v h₃ tk₃ m₃ E' hP _ hn hm hk => ?_⟩, ?_⟩
    · obtain ⟨t, rfl⟩ := ints_at hi i v (by simpa using hP)
      (with_reducible refine wpAny_BinOp ?_)
      walk_at "m cv"
      (with_reducible refine x_iconst ?_); intro _ _
      refine x_imod (by decide) ?_
      intro u tk'
      exact ⟨⟨_, t, u, rfl, rfl⟩, _, _, rfl, Kept.refl _⟩
    · intro N h₄ tk₄ ys ws hN hlN hlen' hP hF hks
      rw [filter_true, list_of_get hlen' hP] at hF
      have hI := ints_map (f := fun b => b.fmod 125) hi (by simpa using hF)
      have h1 : 1 ≤ ns.length := Nat.pos_of_ne_zero fun q => hne (List.eq_nil_of_length_eq_zero q)
      refine fin _ _ N _ (Kept.trans hk₁ (Kept.trans hk₂ hks)) ⟨ys.toList, by simpa using hlN, hI⟩ (by rw [List.length_map, List.length_take]; omega) (by rw [List.length_map, List.length_take]; omega) ?_
      intro i hi'
      rw [List.getD_eq_getElem?_getD, List.getElem?_eq_getElem hi', Option.getD_some, List.getElem_map]
      rw [Int.fmod_eq_emod_of_nonneg _ (show (0 : Int) ≤ 125 by omega)]; omega

set_option maxHeartbeats 4000000 in
theorem law_1 {N : Addr} {nums : List Int} {Q : Flow → Shared → Prop} (S : LS h₀ h L (fdOf 12 (.ref 75) pm) m cm ps) (G : Gr h₀) (hh : A.handled = none)
    (hnm : m "numbers" = some (.ref N)) (hI : Ints h N nums) (hlen : nums.length ≤ 8)
    (hq : ∀ h' tk' P tn m', LS h₀ h' L (fdOf 12 (.ref 75) pm) m' (up cm "size" (.int nums.length tn)) ps → m' "spots" = some (.ref P) → SpT h' P nums.length (fun i => colOf (nums.getD i 0)) →
      wpAny (model prog w) A (execs (lawRest 3) (callEnvC (fdOf 12 (.ref 75) pm) L fa)) Q E (St s h' tk')) :
    wpAny (model prog w) A (execs (lawRest 1) (callEnvC (fdOf 12 (.ref 75) pm) L fa)) Q E (St s h tk) := by
  refine x_rest (k := 1) rfl ?_
  obtain ⟨vs, hl, hi⟩ := hI
  have hlv := hi.length
  refine x_acompL (h₀ := h₀) (m := m) (news := []) (cl := clos (callEnvC (fdOf 12 (.ref 75) pm) L fa) _ []) (fun _ => true) (fun v its => ∃ b t ta tb tc, v = Value.int b t ∧ its = #[.int (colOf b).1 ta, .int (colOf b).2.1 tb, .int (colOf b).2.2 tc]) (by kernel_rfl!) (clos_ok (by kernel_rfl!)) (by decide +kernel) (by kernel_rfl!) (by decide +kernel) (by kernel_rfl!) (by kernel_rfl!) (by kernel_rfl!) (L := L) (by kernel_rfl!) ?_ (by intro _; rfl)
  (with_reducible refine x_lvC S.F hnm ?_ (by kernel_rfl!) (by kernel_rfl!) (by decide +kernel))
  refine ⟨_, _, rfl, S.F, News.nil, ?_⟩
  refine src_list hh hl ?_
  intro I h₂ tk₂ hsrc
  refine ⟨I, h₂, tk₂, _, _, rfl, rfl, hsrc, by rw [sizeLine_eq]; simp; omega, ⟨fun s C i v h₃ tk₃ m₃ E' hP hn hm hk => x_tests0 ⟨rfl, _, _, rfl, Kept.refl _⟩, fun s C i v h₃ tk₃ m₃ E' hP _ hn hm hk => ?_⟩, ?_⟩
  · obtain ⟨t, rfl⟩ := ints_at hi i v (by simpa using hP)
    generalize nums.getD i 0 = b at hm
    refine x_list ?_
    walk_at "m arg"
    (with_reducible refine wpAny_BinOp ?_)
    walk_at "m cv"
    (with_reducible refine x_iconst ?_); intro _ _
    refine x_imod (by decide) ?_
    intro ta _
    walk_at "m arg"
    (with_reducible refine wpAny_BinOp ?_)
    (with_reducible refine wpAny_BinOp ?_)
    walk_at "m cv"
    (with_reducible refine x_iconst ?_); intro _ _
    refine x_idiv (by decide) (by decide) ?_
    intro _ _
    (with_reducible refine x_iconst ?_); intro _ _
    refine x_imod (by decide) ?_
    intro tb _
    walk_at "m arg"
    (with_reducible refine wpAny_BinOp ?_)
    walk_at "m cv"
    (with_reducible refine x_iconst ?_); intro _ _
    refine x_idiv (by decide) (by decide) ?_
    intro tc _
    refine args_nil ⟨by size_fits, _, _, rfl, ?_⟩
    exact ⟨_, _, _, _, rfl, rfl, Kept.push _ _, get_none_of_le (Nat.le_refl _), lstO_is _ _, b, t, ta, tb, tc, rfl, rfl⟩
  · intro P h₄ tk₄ ys ws hP hlP hlen' hPP hF hkL F₄ _
    rw [filter_true, list_of_get hlen' hPP] at hF
    have S₄ := S.fromF F₄ hkL
    have hysl : ys.size = nums.length := by have := hF.length; simp at this; omega
    have hsp : SpT h₄ P nums.length (fun i => colOf (nums.getD i 0)) := by
      refine ⟨ys, hlP, hysl, fun i hi' => ?_⟩
      obtain ⟨v, hv⟩ : ∃ v, vs[i]? = some v := ⟨vs[i]'(by omega), List.getElem?_eq_getElem _⟩
      obtain ⟨t, rfl⟩ := ints_at hi i v hv
      obtain ⟨y, hy, T, its, rfl, _, hlT, b, t', ta, tb, tc, e, rfl⟩ := paired_get hF i _ (by simpa using hv)
      cases e
      exact ⟨T, ta, tb, tc, by simpa using hy, hlT⟩
    dsimp only
    refine x_rest (k := 2) rfl ?_
    have G₄ := S₄.gr G
    (with_reducible refine wpAny_Assign_Name ?_ (by kernel_rfl!))
    (with_reducible refine Call_ ?_ (by with_unfolding_all rfl))
    walk_at "m gn"
    (with_reducible refine callWith_builtin1 ?_ (by with_unfolding_all rfl) (by with_unfolding_all rfl))
    walk_at "m arg"; (with_reducible refine x_lvC S₄.F up_eq ?_ (by kernel_rfl!) (by kernel_rfl!) (by decide +kernel))
    (with_reducible refine args_nil ?_)
    refine x_len hlP (by rw [hysl]; omega) ?_
    intro tn tk₅
    rw [hysl]
    refine x_lsc S₄ (by kernel_rfl!) (by kernel_rfl!) ?_
    intro h₆ tk₆ S₆ rk
    exact hq _ _ P tn _ S₆ up_eq (hsp.lk (Lk.rks S₄ rk))

theorem tab_of {h h₁ : Heap} {P D : Addr} {n : Nat} {c : Nat → Int × Int × Int} {items ys : Array Value} {GG : Value → Array Value → Prop} {val : Nat → Nat → Value → Prop}
    (hsz : items.size = n) (hF : Paired (LstIs h GG h₁) items.toList ys.toList) (hD : h₁.IsList D ys)
    (hv : ∀ i, i < n → ∀ v its, items[i]? = some v → GG v its → ∀ j, j < 3 → ∃ x, its[j]? = some x ∧ val i j x) : Tab h₁ D n val := by
  have hysl : ys.size = n := by have := hF.length; simp at this; omega
  refine ⟨ys, hD, hysl, fun i hi => ?_⟩
  obtain ⟨v, hv'⟩ : ∃ v, items[i]? = some v := ⟨items[i]'(by omega), Array.getElem?_eq_getElem _⟩
  obtain ⟨y, hy, T, its, rfl, _, hlT, hg⟩ := paired_get hF i v (by simpa using hv')
  exact ⟨T, its, by simpa using hy, hlT, hv i hi v its hv' hg⟩

set_option maxHeartbeats 4000000 in
theorem law_3 {P : Addr} {n : Nat} {c : Nat → Int × Int × Int} {Q : Flow → Shared → Prop} (S : LS h₀ h L (fdOf 12 (.ref 75) pm) m cm ps) (G : Gr h₀) (hh : A.handled = none) (hroom : A.depth + 1 < recursionLimit)
    (hspm : m "spots" = some (.ref P)) (hsp : SpT h P n c) (hn : n ≤ 8) (hc : ∀ i, i < n → ok5 (c i))
    (hq : ∀ h' tk' T W, LS h₀ h' L (fdOf 12 (.ref 75) pm) m (up (up cm "told" (.ref T)) "whole" (.ref W)) ps → Tab h' T n (cT c) → Tab h' W n (cW c) →
      wpAny (model prog w) A (execs (lawRest 5) (callEnvC (fdOf 12 (.ref 75) pm) L fa)) Q E (St s h' tk')) :
    wpAny (model prog w) A (execs (lawRest 3) (callEnvC (fdOf 12 (.ref 75) pm) L fa)) Q E (St s h tk) := by
  refine x_rest (k := 3) rfl ?_
  (with_reducible refine wpAny_Assign_Name ?_ (by kernel_rfl!))
  obtain ⟨items, hl, hsz, hr⟩ := id hsp
  refine x_compL (cl := clos (callEnvC (fdOf 12 (.ref 75) pm) L fa) _ []) (fun _ => true) (fun v its => ∃ sp a b c ta tb tc t1 t2 t3, v = Value.ref sp ∧ h.IsList sp #[.int a ta, .int b tb, .int c tc] ∧ its = #[.float (luma (qf a) (qf b) (qf c)) t1, .float (light (qf a) (qf b) (qf c)) t2, .float (maxc (qf a) (qf b) (qf c)) t3])
    (clos_ok (by kernel_rfl!)) (by decide +kernel) (by kernel_rfl!) (by decide +kernel) (by kernel_rfl!) ?_ (by intro _; rfl)
  (with_reducible refine x_lvC S.F hspm ?_ (by kernel_rfl!) (by kernel_rfl!) (by decide +kernel))
  refine ⟨_, _, rfl, ?_⟩
  refine src_list hh hl ?_
  intro I h₂ tk₂ hsrc
  refine ⟨I, h₂, tk₂, _, _, rfl, rfl, hsrc, by rw [sizeLine_eq]; omega, ⟨fun s C i v h₃ tk₃ m₃ E' hP hn hm hk => x_tests0 ⟨rfl, _, _, rfl, Kept.refl _⟩, fun s C i v h₃ tk₃ m₃ E' hP _ hns hm hk => ?_⟩, ?_⟩
  · have hi : i < n := by
      rw [← hsz]
      exact (Array.getElem?_eq_some_iff.mp hP).1
    obtain ⟨sp, ta, tb, tc, e, hls⟩ := hr i hi
    dsimp only at hP; rw [e] at hP; cases hP
    have G₃ := (S.gr G).keeps hk
    (with_reducible refine Call_ ?_ (by with_unfolding_all rfl))
    walk_at "m gn"
    (with_reducible refine x_with (Gr.fns (by walk_at "m gr")).2.2.2.2.2.1 ?_ (by with_unfolding_all rfl))
    walk_at "m arg"; walk_at "m cv"
    (with_reducible refine args_nil ?_)
    refine ⟨Kept.refl _, ?_⟩
    refine told_spec G₃ hroom hh (hc i hi).1 (hc i hi).2.1 (hc i hi).2.2 (lstK hls hk) ?_
    intro T h₄ tk₄ t1 t2 t3 hk₄ hT hlT
    exact ⟨T, _, _, _, rfl, rfl, hk₄, hT, hlT, sp, _, _, _, ta, tb, tc, t1, t2, t3, rfl, hls, rfl⟩
  intro T h₄ tk₄ ys ws hT hlT hlen' hPP hF hks
  rw [filter_true, list_of_get hlen' hPP] at hF
  have hTab : Tab h₄ T n (cT c) := tab_of (P := P) (c := c) hsz hF hlT (fun i hi v its hv hg j hj => by
    obtain ⟨sp, ta, tb, tc, e, hls⟩ := hr i hi
    rw [e] at hv; cases hv
    obtain ⟨sp', a, b, d, ta', tb', tc', t1, t2, t3, e', hls', rfl⟩ := hg
    cases e'
    have := isList_inj hls hls'
    simp at this
    obtain ⟨⟨rfl, _⟩, ⟨rfl, _⟩, rfl, _⟩ := this
    match j, hj with
    | 0, _ => exact ⟨_, rfl, t1, rfl⟩
    | 1, _ => exact ⟨_, rfl, t2, rfl⟩
    | 2, _ => exact ⟨_, rfl, t3, rfl⟩)
  have S₄ := S.keeps hks
  replace hsp := hsp.lk (Lk.of hks)
  clear hl hsz hr items hF hlT hlen' hPP hsrc hT
  refine x_lsc S₄ (by kernel_rfl!) (by kernel_rfl!) ?_
  intro h₅ tk₅ S₅ rk
  replace hsp := hsp.lk (Lk.rks S₄ rk)
  replace hTab := hTab.rk S₄ rk
  dsimp only
  clear rk S₄ hks
  refine x_rest (k := 4) rfl ?_
  (with_reducible refine wpAny_Assign_Name ?_ (by kernel_rfl!))
  obtain ⟨items, hl, hsz, hr⟩ := id hsp
  refine x_compL (cl := clos (callEnvC (fdOf 12 (.ref 75) pm) L fa) _ []) (fun _ => true) (fun v its => ∃ sp a b c ta tb tc t1 t2 t3, v = Value.ref sp ∧ h₅.IsList sp #[.int a ta, .int b tb, .int c tc] ∧ its = #[.int (wsum a b c) t1, .int (wmax a b c + wmin a b c) t2, .int (wmax a b c) t3])
    (clos_ok (by kernel_rfl!)) (by decide +kernel) (by kernel_rfl!) (by decide +kernel) (by kernel_rfl!) ?_ (by intro _; rfl)
  (with_reducible refine x_lvC S₅.F hspm ?_ (by kernel_rfl!) (by kernel_rfl!) (by decide +kernel))
  refine ⟨_, _, rfl, ?_⟩
  refine src_list hh hl ?_
  intro I h₂ tk₂ hsrc
  refine ⟨I, h₂, tk₂, _, _, rfl, rfl, hsrc, by rw [sizeLine_eq]; omega, ⟨fun s C i v h₃ tk₃ m₃ E' hP hn hm hk => x_tests0 ⟨rfl, _, _, rfl, Kept.refl _⟩, fun s C i v h₃ tk₃ m₃ E' hP _ hns hm hk => ?_⟩, ?_⟩
  · have hi : i < n := by
      rw [← hsz]
      exact (Array.getElem?_eq_some_iff.mp hP).1
    obtain ⟨sp, ta, tb, tc, e, hls⟩ := hr i hi
    dsimp only at hP; rw [e] at hP; cases hP
    have G₃ := (S₅.gr G).keeps hk
    (with_reducible refine Call_ ?_ (by with_unfolding_all rfl))
    walk_at "m gn"
    (with_reducible refine x_with (Gr.fns (by walk_at "m gr")).2.2.2.2.2.2.1 ?_ (by with_unfolding_all rfl))
    walk_at "m arg"; walk_at "m cv"
    (with_reducible refine args_nil ?_)
    refine ⟨Kept.refl _, ?_⟩
    refine whole_spec G₃ (by omega) hh (hc i hi).1 (hc i hi).2.1 (hc i hi).2.2 (lstK hls hk) ?_
    intro T h₄ tk₄ t1 t2 t3 hk₄ hT hlT
    exact ⟨T, _, _, _, rfl, rfl, hk₄, hT, hlT, sp, _, _, _, ta, tb, tc, t1, t2, t3, rfl, hls, rfl⟩
  intro W h₄ tk₄ ys ws hW hlW hlen' hPP hF hks
  rw [filter_true, list_of_get hlen' hPP] at hF
  have hTabW : Tab h₄ W n (cW c) := tab_of (P := P) (c := c) hsz hF hlW (fun i hi v its hv hg j hj => by
    obtain ⟨sp, ta, tb, tc, e, hls⟩ := hr i hi
    rw [e] at hv; cases hv
    obtain ⟨sp', a, b, d, ta', tb', tc', t1, t2, t3, e', hls', rfl⟩ := hg
    cases e'
    have := isList_inj hls hls'
    simp at this
    obtain ⟨⟨rfl, _⟩, ⟨rfl, _⟩, rfl, _⟩ := this
    match j, hj with
    | 0, _ => exact ⟨_, rfl, t1, rfl⟩
    | 1, _ => exact ⟨_, rfl, t2, rfl⟩
    | 2, _ => exact ⟨_, rfl, t3, rfl⟩)
  have S₆ := S₅.keeps hks
  replace hTab := hTab.keeps hks
  refine x_lsc S₆ (by kernel_rfl!) (by kernel_rfl!) ?_
  intro h₇ tk₇ S₇ rk
  dsimp only
  exact hq _ _ T W S₇ (hTab.rk S₆ rk) (hTabW.rk S₆ rk)

/-- dark places stand in order, below n -/
theorem sorted_pick (b : Nat → Bool) (n : Nat) : ((List.range n).filter b).Pairwise (· < ·) := (List.pairwise_lt_range).filter b
theorem good_pick (b : Nat → Bool) (n : Nat) : Good (pick b n) n := by
  have hs := sorted_pick b n
  have hb : ∀ x ∈ (List.range n).filter b, x < n := fun x hx => List.mem_range.mp (List.mem_filter.mp hx).1
  unfold Good pick
  generalize (List.range n).filter b = l at hs hb
  have hg : ∀ i (hi : i < l.length), (l.map fun (i : Nat) => (i : Int)).getD i 0 = ((l[i] : Nat) : Int) := fun i hi => by
    rw [List.getD_eq_getElem?_getD, List.getElem?_map, List.getElem?_eq_getElem hi]; rfl
  refine ⟨fun i hi => ?_, fun i hi => ?_⟩
  · rw [List.length_map] at hi
    rw [hg i (by omega), hg (i + 1) hi]
    have := List.pairwise_iff_getElem.mp hs i (i + 1) (by omega) hi (by omega)
    omega
  · rw [List.length_map] at hi
    rw [hg i hi]
    have := hb _ (List.getElem_mem hi)
    omega

set_option maxHeartbeats 4000000 in
theorem law_all {sc : Addr} {ns : List Int} {Q : Flow → Shared → Prop} (S : LS h₀ h L (fdOf 12 (.ref 75) pm) m cm #[]) (G : Gr h₀) (B : Bt h₀) (C : CodeHd h₀ 75 73) (hh : A.handled = none) (hroom : A.depth + 1 < recursionLimit) (hu : A.units + 64 < cLine)
    (hsc : m "script" = some (.ref sc)) (hns : Ints h sc ns) (hlen : ns.length ≤ 1000)
    (hq : ∀ h' tk' m' cm' ps', LS h₀ h' L (fdOf 12 (.ref 75) pm) m' cm' ps' → Q (.ret (.bool true)) (St s h' tk')) :
    wpAny (model prog w) A (execs (lawRest 0) (callEnvC (fdOf 12 (.ref 75) pm) L fa)) Q E (St s h tk) := by
  refine law_0 S hh hu hsc hns hlen ?_
  intro h₁ tk₁ N nums S₁ hI l1 l2 hr
  refine law_1 S₁ G hh up_eq hI l2 ?_
  intro h₂ tk₂ P tn m₂ S₂ hsp hspt
  have hc : ∀ i, i < nums.length → ok5 ((fun i => colOf (nums.getD i 0)) i) := fun i hi => colOf_ok (hr i hi).1 (hr i hi).2
  refine law_3 S₂ G hh hroom hsp hspt l2 hc ?_
  generalize hcol : (fun i => colOf (nums.getD i 0)) = c at hc
  intro h₃ tk₃ T W S₃ hT hW
  refine x_rest (k := 5) rfl ?_
  (with_reducible refine wpAny_Assign_Name ?_ (by kernel_rfl!))
  (with_reducible refine x_list ?_)
  refine args_nil ⟨by size_fits, _, _, rfl, ?_⟩
  have hk₄ : Kept h₃ (h₃.push (lstO [])) := Kept.push _ _
  have hD : (h₃.push (lstO [])).PlainList h₃.objs.size #[] := ⟨0, Heap.get?_push_size _ rfl⟩
  have hBD : h₃.get? h₃.objs.size = none := get_none_of_le (Nat.le_refl _)
  have h0D : h₀.get? h₃.objs.size = none := none_of_kept S₃.F.keep hBD
  generalize h₃.objs.size = D at hD hBD h0D
  have S₄ := S₃.keeps hk₄
  refine x_lsv S₄ (by kernel_rfl!) (by kernel_rfl!) ?_
  intro h₅ tk₅ S₅ rk
  dsimp only
  refine law_6 (hB := h₃) S₅ G B C hh hroom hu (tn := tn) ((up_ne (by decide +kernel)).trans ((up_ne (by decide +kernel)).trans up_eq)) ((up_ne (by decide +kernel)).trans up_eq) up_eq up_eq rfl hBD h0D ((Lk.of hk₄).trans (Lk.rks S₄ rk)) hT hW (hD.at fun o e => rk _ _ e (S₄.apart hD.isList) (by obtain ⟨k, e'⟩ := hD; rw [e'] at e; cases e; intro v q; cases q)) l1 (by omega) hc ?_
  rintro h₆ tk₆ ⟨m₆, cm₆, ps₆, ds, S₆, e1, e2, e3, e4, lk, pk, pl, len, hds⟩
  obtain ⟨d1, d2, d3, rfl⟩ : ∃ d1 d2 d3, ds = [d1, d2, d3] := by
    match ds, len with
    | [a, b, c], _ => exact ⟨a, b, c, rfl⟩
  have i1 := (hds 0 d1 rfl).2
  have i2 := (hds 1 d2 rfl).2
  have i3 := (hds 2 d3 rfl).2
  have hpl : ∀ b, (pick b nums.length).length ≤ 1000 := fun b => by have := pick_len b nums.length; omega
  refine law_7 S₆ G hh hroom e1 e4 pl.isList i1 i2 i3 (hpl _) (hpl _) (hpl _) (by omega) ?_
  intro h₇ tk₇ m₇ t S₇ f1 f2 hl₇ j1 j2 j3
  exact law_8 S₇ G hh hroom e1 f1 f2 hl₇ j1 j2 j3 (hpl _) (hpl _) (hpl _) (by omega) (good_pick _ _) (good_pick _ _) (good_pick _ _) hq
end
end Mine

set_option maxHeartbeats 8000000
namespace Mine
open_top hd for PySem.Challenge.rw_mq0118_01
end Mine

namespace Mine
section
variable {h : Heap} {mg mb : Str → Option Value} {p : Program} {loose : List Str} {mean : ExcName → Option Value} {q : Params}
theorem fn21 (X : (hd.heap_39 q).In h) : FnAt h 21 1 := ⟨_, _, _, X 21 _ rfl, rfl, _, _, _, _, rfl, X _ _ rfl, rfl, rfl⟩
theorem fn28 (X : (hd.heap_39 q).In h) : FnAt h 28 2 := ⟨_, _, _, X 28 _ rfl, rfl, _, _, _, _, rfl, X _ _ rfl, rfl, rfl⟩
theorem fn35 (X : (hd.heap_39 q).In h) : FnAt h 35 4 := ⟨_, _, _, X 35 _ rfl, rfl, _, _, _, _, rfl, X _ _ rfl, rfl, rfl⟩
theorem fn42 (X : (hd.heap_39 q).In h) : FnAt h 42 5 := ⟨_, _, _, X 42 _ rfl, rfl, _, _, _, _, rfl, X _ _ rfl, rfl, rfl⟩
theorem fn49 (X : (hd.heap_39 q).In h) : FnAt h 49 6 := ⟨_, _, _, X 49 _ rfl, rfl, _, _, _, _, rfl, X _ _ rfl, rfl, rfl⟩
theorem fn54 (X : (hd.heap_39 q).In h) : FnAt h 54 8 := ⟨_, _, _, X 54 _ rfl, rfl, _, _, _, _, rfl, X _ _ rfl, rfl, rfl⟩
theorem fn61 (X : (hd.heap_39 q).In h) : FnAt h 61 9 := ⟨_, _, _, X 61 _ rfl, rfl, _, _, _, _, rfl, X _ _ rfl, rfl, rfl⟩
theorem fn66 (X : (hd.heap_39 q).In h) : FnAt h 66 10 := ⟨_, _, _, X 66 _ rfl, rfl, _, _, _, _, rfl, X _ _ rfl, rfl, rfl⟩
theorem fn71 (X : (hd.heap_39 q).In h) : FnAt h 71 11 := ⟨_, _, _, X 71 _ rfl, rfl, _, _, _, _, rfl, X _ _ rfl, rfl, rfl⟩
theorem gr_of (X : (hd.heap_39 q).In h) (T : Top p loose mean mg mb h) : Gr h := by
  refine ⟨⟨mg, T.g, mg_of X T.g (by kernel_rfl!), mg_of X T.g (by kernel_rfl!), mg_of X T.g (by kernel_rfl!), mg_of X T.g (by kernel_rfl!), mg_of X T.g (by kernel_rfl!), mg_of X T.g (by kernel_rfl!), mg_of X T.g (by kernel_rfl!), mg_of X T.g (by kernel_rfl!), mg_of X T.g (by kernel_rfl!), mg_none_of X T.g (by kernel_rfl!), mg_none_of X T.g (by kernel_rfl!), mg_none_of X T.g (by kernel_rfl!), mg_none_of X T.g (by kernel_rfl!)⟩, ⟨mb, T.b, ?_, ?_, ?_, ?_⟩, T.nolimit, fn21 X, fn28 X, fn35 X, fn42 X, fn49 X, fn54 X, fn61 X, fn66 X, fn71 X⟩
  · rw [T.builtins "max" (by decide +kernel)]; boot_fast
  · rw [T.builtins "min" (by decide +kernel)]; boot_fast
  · rw [T.builtins "len" (by decide +kernel)]; boot_fast
  · rw [T.builtins "range" (by decide +kernel)]; boot_fast
theorem bt_of (T : Top p loose mean mg mb h) : Bt h := by
  obtain ⟨bm, ob, b1, b2, b3, b4, b5, b6⟩ := T.bmain
  exact ⟨mg, bm, ob, T.g, b1, b2, b3, b4, b5, b6⟩
end
end Mine
namespace Mine
section
variable {g h₁ : Heap} {L fa : Addr} {cm m : Str → Option Value} {cells : List (Addr × Obj)}
theorem six (L c : Nat) (h : c ∈ [L + 1 + 1 + 1 + 1 + 1 + 1, L + 1 + 1 + 1 + 1 + 1, L + 1 + 1 + 1 + 1, L + 1 + 1 + 1, L + 1 + 1, L + 1]) : L < c := by
  simp only [List.mem_cons, List.not_mem_nil, or_false] at h; omega
theorem six_apart (L : Nat) : [L + 1 + 1 + 1 + 1 + 1 + 1, L + 1 + 1 + 1 + 1 + 1, L + 1 + 1 + 1 + 1, L + 1 + 1 + 1, L + 1 + 1, L + 1].Pairwise (· ≠ ·) := by
  simp only [List.pairwise_cons, List.mem_cons, List.not_mem_nil, or_false]
  refine ⟨?_, ?_, ?_, ?_, ?_, ?_, List.Pairwise.nil⟩ <;> intro a ha <;> first | omega | exact ha.elim
theorem ls_of {news : List (Addr × Obj)} (F : Fr g L h₁ m) (N : News g L h₁ news) (X : CellsAre cm (cellsFrom (L + 1) (fdOf 12 (.ref 75) .none).scope.names []) cells) (hn : news = cells ++ [(73, tabObj #[])]) (l0 : 73 < L) :
    LS g h₁ L (fdOf 12 (.ref 75) .none) m cm #[] := by
  subst hn
  have hT := N (73, tabObj #[]) (by simp)
  have e : (cellsFrom (L + 1) (fdOf 12 (.ref 75) .none).scope.names []).map (·.2) = [L + 1 + 1 + 1 + 1 + 1 + 1, L + 1 + 1 + 1 + 1 + 1, L + 1 + 1 + 1 + 1, L + 1 + 1 + 1, L + 1 + 1, L + 1] := by kernel_rfl!
  refine ⟨F, Cl.of_news (own := []) (cells := cells) (fun p hp => N p (List.mem_append_left _ hp)) X ?_ ?_, hT.1, hT.2.2, l0⟩
  · have hp : ((cellsFrom (L + 1) (fdOf 12 (.ref 75) .none).scope.names []).map (·.2)).Pairwise (· ≠ ·) := by rw [e]; exact six_apart L
    exact List.pairwise_map.mp hp
  · intro n c hm
    have hm' : c ∈ (cellsFrom (L + 1) (fdOf 12 (.ref 75) .none).scope.names []).map (·.2) := List.mem_map.mpr ⟨_, hm, rfl⟩
    rw [e] at hm'
    exact six L c hm'
end
end Mine

theorem PySem.Challenge.cw_mq0118_01_holds : PySem.Challenge.rw_mq0118_01.Holds :=
  Mine.hd (by w_strict (k_go0; (all_goals try k_fold); (rename Shared => s1); (rename Fr _ _ _ _ => F0); (rename News _ _ _ _ => N0); (rename CellsAre _ _ _ => X0); (rename Top topProg _ _ _ _ _ => T0); (rename Frag.In _ _ => K0); (rename CodeHd _ _ _ => C0); (rename IntsAre _ _ => I0); (rename Heap.IsList (ghostOf _ _) _ _ => L0); (rename (73 : Nat) < _ => l0); (rename s1.gens = #[] => g0); (have S0 := Mine.ls_of F0 N0 X0 rfl l0); (refine Mine.law_all (s := s1) (pm := .none) S0 (Mine.gr_of K0 T0) (Mine.bt_of T0) C0 rfl (show callerA.depth + 1 + 1 < recursionLimit by decide +kernel) (show callerA.units + 3 + 64 < cLine by decide +kernel) rfl ⟨_, (L0.at fun o e => F0.keep _ o e), I0⟩ (by omega) ?_); (intro h' tk' m' cm' ps' S'); (dsimp only); (refine ⟨goodW_bool S'.F g0 (raisesW_false ?_) ?_, ⟨ps', S'.T⟩, trivial⟩); (· wrow_none_raised); (· wrow_post)))
