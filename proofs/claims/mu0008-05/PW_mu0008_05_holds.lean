import PyProof.Rows.All
import Wide.All
import OpenK.AllK
import Wide.FinOn
import Lean
import PySem.Challenge.RW_mu0008_05
open PySem PySem.Calls PyProof.Rows PySem.W
set_option maxRecDepth 100000
set_option maxHeartbeats 8000000
set_option Elab.async false
set_option linter.unusedVariables false
namespace Mine
/-- each c of l written as z -/
noncomputable def rep (c : Nat) (z l : List Nat) : List Nat := l.flatMap fun a => if a = c then z else [a]
theorem rep_append (c : Nat) (z a b : List Nat) : rep c z (a ++ b) = rep c z a ++ rep c z b := by simp [rep]
theorem rep_free (c : Nat) (z : List Nat) : ∀ l : List Nat, c ∉ l → rep c z l = l
  | [], _ => rfl
  | a :: l, h => by
    have h1 : a ≠ c := fun e => h (by simp [e])
    have h2 : c ∉ l := fun e => h (by simp [e])
    have := rep_free c z l h2
    simp only [rep, List.flatMap_cons, if_neg h1] at this ⊢
    rw [this]; rfl
theorem rep_join (c : Nat) (z : List Nat) : ∀ parts : List Str, (∀ p ∈ parts, c ∉ p.cps.toList) → rep c z (Str.join ⟨#[c]⟩ parts).cps.toList = (Str.join ⟨z.toArray⟩ parts).cps.toList
  | [], _ => rfl
  | [x], h => by
    show rep c z x.cps.toList = x.cps.toList
    exact rep_free c z _ (h x (by simp))
  | x :: y :: r, h => by
    have ih := rep_join c z (y :: r) (fun p hp => h p (by simp [hp]))
    have hx := rep_free c z x.cps.toList (h x (by simp))
    show rep c z (x ++ ⟨#[c]⟩ ++ Str.join ⟨#[c]⟩ (y :: r)).cps.toList = (x ++ ⟨z.toArray⟩ ++ Str.join ⟨z.toArray⟩ (y :: r)).cps.toList
    simp only [Str.cps_append, Array.toList_append, rep_append, hx, ih]
    simp [rep]
theorem replace_rep (x : Str) (c : Nat) (z : List Nat) : (Txt.replace x ⟨#[c]⟩ ⟨z.toArray⟩).cps.toList = rep c z x.cps.toList := by
  rw [StrLaws.replace_one, ← rep_join c z (Txt.split x ⟨#[c]⟩) (fun p hp => StrLaws.split_free x c p hp), StrLaws.join_split]
theorem rep_length_le (c : Nat) (z : List Nat) (k : Nat) (hz : z.length ≤ k) (hk : 1 ≤ k) : ∀ l : List Nat, (rep c z l).length ≤ k * l.length
  | [] => by simp [rep]
  | a :: l => by
    have ih := rep_length_le c z k hz hk l
    simp only [rep, List.flatMap_cons, List.length_append, List.length_cons] at ih ⊢
    rw [Nat.mul_succ]
    by_cases h : a = c
    · rw [if_pos h]; omega
    · rw [if_neg h]; simp only [List.length_cons, List.length_nil]; omega
/-- a text by the list of its signs' numbers -/
noncomputable abbrev St (l : List Nat) : Str := ⟨l.toArray⟩
theorem St_toList (l : List Nat) : (St l).cps.toList = l := by simp
theorem St_of (x : Str) : St x.cps.toList = x := by simp
theorem replace_St (l : List Nat) (c : Nat) (z : List Nat) : Txt.replace (St l) ⟨#[c]⟩ (St z) = St (rep c z l) := by
  have := replace_rep (St l) c z
  rw [St_toList] at this
  rw [← this, St_of]
/-- what html.escape writes -/
noncomputable def esc (quote : Bool) (l : List Nat) : List Nat :=
  let l := rep 62 [38, 103, 116, 59] (rep 60 [38, 108, 116, 59] (rep 38 [38, 97, 109, 112, 59] l))
  if quote then rep 39 [38, 35, 120, 50, 55, 59] (rep 34 [38, 113, 117, 111, 116, 59] l) else l
/-- the writing of one sign -/
noncomputable def wr (quote : Bool) (a : Nat) : List Nat :=
  if a = 38 then [38, 97, 109, 112, 59] else if a = 60 then [38, 108, 116, 59] else if a = 62 then [38, 103, 116, 59]
  else if quote ∧ a = 34 then [38, 113, 117, 111, 116, 59] else if quote ∧ a = 39 then [38, 35, 120, 50, 55, 59] else [a]
theorem rep_cons (c : Nat) (z : List Nat) (a : Nat) (l : List Nat) : rep c z (a :: l) = (if a = c then z else [a]) ++ rep c z l := rfl
theorem esc_append (quote : Bool) (a b : List Nat) : esc quote (a ++ b) = esc quote a ++ esc quote b := by
  unfold esc; cases quote <;> simp [rep_append]
theorem esc_one (quote : Bool) (a : Nat) : esc quote [a] = wr quote a := by
  unfold esc wr
  by_cases h1 : a = 38
  · subst h1; cases quote <;> simp [rep]
  by_cases h2 : a = 60
  · subst h2; cases quote <;> simp [rep]
  by_cases h3 : a = 62
  · subst h3; cases quote <;> simp [rep]
  by_cases h4 : a = 34
  · subst h4; cases quote <;> simp [rep]
  by_cases h5 : a = 39
  · subst h5; cases quote <;> simp [rep]
  cases quote <;> simp [rep, h1, h2, h3, h4, h5]
theorem esc_eq (quote : Bool) : ∀ l : List Nat, esc quote l = l.flatMap (wr quote)
  | [] => by cases quote <;> rfl
  | a :: l => by
    have := esc_append quote [a] l
    rw [esc_one, esc_eq quote l] at this
    exact this
theorem wr_length_le (quote : Bool) (a : Nat) : (wr quote a).length ≤ 6 := by unfold wr; (repeat' split) <;> simp

/-- every object of h stands in h' as it was -/
noncomputable abbrev Kp (h h' : Heap) : Prop := ∀ b o, h.get? b = some o → h'.get? b = some o
section core
variable {prog : Program} {w : World} {A : Around} {E : Value → Shared → Prop} {s : Shared} {h₀ : Heap} {L f : Addr} {qual : Str} {scope : Scope} {cd : Value}

/-- the locals of a frame as a list of pairs -/
noncomputable def lk (l : List (Str × Value)) (x : Str) : Option Value := l.lookup x

theorem lk_cons (x : Str) (v : Value) (l : List (Str × Value)) : (fun y => if y = x then some v else lk l y) = lk ((x, v) :: l) := by
  funext y
  unfold lk
  by_cases h : y = x
  · subst h; simp
  · have hb : (y == x) = false := beq_eq_false_iff_ne.mpr h
    simp [List.lookup_cons, hb, h]

theorem enter {o : Obj} {fd : FuncData} {body : List Stmt} {pos : List Value} {kw : List (Str × Value)} {binds : List (Str × Value)} {Q : Value → Shared → Prop}
    (hA : A.depth < recursionLimit) (ho : s.heap.get? f = some o) (hd : o.data = .func fd) (hlim : s.heap.NoLimit) (hcd : s.heap.CodeRec fd.code fd.qualname) (hbody : fd.body = .stmts body)
    (hb : BindsTo s fd ⟨pos, kw⟩ binds) (hcell : ∀ x ∈ fd.scope.names, x.2 ≠ .cell) (hloc : ∀ x ∈ binds, fd.scope.names.lookup x.1 = some .local)
    (hco : fd.scope.isCoroutine = false) (hgen : fd.scope.isGenerator = false) (hk : fd.scope.kind = .function)
    (hg : fd.globals = mainGlobals) (hcl : fd.closure = []) (hbu : fd.builtins = builtinsNs)
    (h : ∀ h₁, Fr s.heap s.heap.objs.size h₁ (lk binds.reverse) →
      wpAny (model prog w) (A.deeper (envOf fd.qualname fd.scope s.heap.objs.size f fd.code)) (execs body (envOf fd.qualname fd.scope s.heap.objs.size f fd.code))
        (fun fl s' => Q (match fl with | .ret v => v | _ => .none) s') (fun _ _ => False) { s with heap := h₁, toks := s.toks + binds.length }) :
    wpAny (model prog w) A (call (.ref f) pos kw) Q E s := by
  have he : callEnv fd s.heap.objs.size f = envOf fd.qualname fd.scope s.heap.objs.size f fd.code := by
    unfold callEnv envOf
    rw [hg, hcl, hbu]
    rfl
  refine wpAny_call (codeAny_call_def hA ho hd hlim hcd hbody hb hcell hloc (fun h₁ hN hK => ?_) hco hgen hk)
  rw [he]
  exact wpAny_mono (h h₁ ⟨hN, hK, Nat.le_refl _⟩) (fun fl s' q => q) fun _ _ x => x.elim

theorem nm {l : List (Str × Value)} {x : Str} {pos : Pos} {v : Value} {Q : Value → Shared → Prop} (F : Fr h₀ L s.heap (lk l)) (hv : lk l x = some v) (h : Q v s)
    (hk : scope.kind = .function := by kernel_rfl) (hl : (envOf qual scope L f cd).kindOf x = some .local := by kernel_rfl) (hd : (x == ("__debug__" : Str)) = false := by kernel_rfl) :
    wpAny (model prog w) A (eval (.Name x pos) (envOf qual scope L f cd)) Q E s := ld F hv h hk hl hd
theorem nmn {l : List (Str × Value)} {x : Str} {v : Value} {Q : Value → Shared → Prop} (F : Fr h₀ L s.heap (lk l)) (hv : lk l x = some v) (h : Q v s)
    (hk : scope.kind = .function := by kernel_rfl) (hl : (envOf qual scope L f cd).kindOf x = some .local := by kernel_rfl) :
    wpAny (model prog w) A (loadName (envOf qual scope L f cd) x) Q E s := ldn F hv h hk hl

theorem sto {l : List (Str × Value)} {x : Str} {v : Value} {Q : Unit → Shared → Prop} {news : List (Addr × Obj)} (F : Fr h₀ L s.heap (lk l)) (N : News h₀ L s.heap news)
    (h : ∀ h', Fr h₀ L h' (lk ((x, v) :: l)) → News h₀ L h' news → Q () { s with heap := h', toks := s.toks + 1 })
    (hk : scope.kind = .function := by kernel_rfl) (hl : (envOf qual scope L f cd).kindOf x = some .local := by kernel_rfl) :
    wpAny (model prog w) A (storeName (envOf qual scope L f cd) x v) Q E s :=
  stN F N (fun h' F' N' => h h' (by rw [← lk_cons]; exact F') N') hk hl

section clean
variable {h : Heap} {g : Array GenState} {d : Drawn} {tk : Nat} {os : OsState} {M : Model} {env : Env}
theorem k_str {x : Str} {k : Nat} {pos : Pos} {Q : Value → Shared → Prop} (q : Q (.str x tk) ⟨h, g, d, tk + 1, os⟩) : wpAny M A (eval (.Constant (.str x) k pos) env) Q E ⟨h, g, d, tk, os⟩ := Constant_str q
theorem k_int {i : Int} {k : Nat} {pos : Pos} {Q : Value → Shared → Prop} (q : Q (.int i tk) ⟨h, g, d, tk + 1, os⟩) : wpAny M A (eval (.Constant (.int i) k pos) env) Q E ⟨h, g, d, tk, os⟩ := wpAny_Constant_int q
theorem k_sto {l : List (Str × Value)} {x : Str} {v : Value} {Q : Unit → Shared → Prop} {news : List (Addr × Obj)} (F : Fr h₀ L h (lk l)) (N : News h₀ L h news)
    (q : ∀ h', Fr h₀ L h' (lk ((x, v) :: l)) → News h₀ L h' news → Q () ⟨h', g, d, tk + 1, os⟩)
    (hk : scope.kind = .function := by kernel_rfl) (hl : (envOf qual scope L f cd).kindOf x = some .local := by kernel_rfl) :
    wpAny (model prog w) A (storeName (envOf qual scope L f cd) x v) Q E ⟨h, g, d, tk, os⟩ := sto F N q hk hl
theorem k_nm {l : List (Str × Value)} {x : Str} {pos : Pos} {v : Value} {Q : Value → Shared → Prop} (F : Fr h₀ L h (lk l)) (hv : lk l x = some v) (q : Q v ⟨h, g, d, tk, os⟩)
    (hk : scope.kind = .function := by kernel_rfl) (hl : (envOf qual scope L f cd).kindOf x = some .local := by kernel_rfl) (hd : (x == ("__debug__" : Str)) = false := by kernel_rfl) :
    wpAny (model prog w) A (eval (.Name x pos) (envOf qual scope L f cd)) Q E ⟨h, g, d, tk, os⟩ := nm F hv q hk hl hd
/-- the stores of an unpacking, name by name -/
theorem k_unpack {elts : List PySem.Expr} {k : Nat} {pos : Pos} {T : Addr} {items : List Value} {l : List (Str × Value)} {news : List (Addr × Obj)} {Q : Unit → Shared → Prop} (F : Fr h₀ L h (lk l)) (N : News h₀ L h news) (ht : IsTup h T items.toArray) (hh : A.handled = none)
    (hn : (assignEach elts (envOf qual scope L f cd)).length = items.length) (hstar : (assignEach elts (envOf qual scope L f cd)).findIdx? (·.1) = none)
    (q : ∀ h', Fr h₀ L h' (lk l) → News h₀ L h' news → wpAny (model prog w) A (assignInOrder ((assignEach elts (envOf qual scope L f cd)).map (·.2)) items) Q E ⟨h', g, d, tk, os⟩) :
    wpAny (model prog w) A (assign (.Tuple elts k pos) (envOf qual scope L f cd) (.ref T)) Q E ⟨h, g, d, tk, os⟩ :=
  unpackN_ F N ht hh (by simpa using hn) hstar fun h' F' N' => by simpa using q h' F' N'
theorem k_ord {x : Str} {p : Pos} {ts : List (Value → Sem Unit)} {v : Value} {vs : List Value} {l : List (Str × Value)} {news : List (Addr × Obj)} {Q : Unit → Shared → Prop} (F : Fr h₀ L h (lk l)) (N : News h₀ L h news)
    (q : ∀ h', Fr h₀ L h' (lk ((x, v) :: l)) → News h₀ L h' news → wpAny (model prog w) A (assignInOrder ts vs) Q E ⟨h', g, d, tk + 1, os⟩)
    (hk : scope.kind = .function := by kernel_rfl) (hl : (envOf qual scope L f cd).kindOf x = some .local := by kernel_rfl) :
    wpAny (model prog w) A (assignInOrder ((fun u => assign (.Name x p) (envOf qual scope L f cd) u) :: ts) (v :: vs)) Q E ⟨h, g, d, tk, os⟩ :=
  assignInOrder_cons (assign_Name (k_sto F N q hk hl))
theorem each_names {env : Env} {x : Str} {p : Pos} {r : List PySem.Expr} : (assignEach (.Name x p :: r) env).map (·.2) = (fun u => assign (.Name x p) env u) :: (assignEach r env).map (·.2) := rfl
theorem k_unpack3 {x y z : Str} {px py pz : Pos} {k : Nat} {pos : Pos} {T : Addr} {a b c : Value} {l : List (Str × Value)} {news : List (Addr × Obj)} {Q : Unit → Shared → Prop} (F : Fr h₀ L h (lk l)) (N : News h₀ L h news) (ht : IsTup h T #[a, b, c]) (hh : A.handled = none)
    (q : ∀ h', Fr h₀ L h' (lk ((z, c) :: (y, b) :: (x, a) :: l)) → News h₀ L h' news → Q () ⟨h', g, d, tk + 3, os⟩)
    (hk : scope.kind = .function := by kernel_rfl) (hx : (envOf qual scope L f cd).kindOf x = some .local := by kernel_rfl) (hy : (envOf qual scope L f cd).kindOf y = some .local := by kernel_rfl) (hz : (envOf qual scope L f cd).kindOf z = some .local := by kernel_rfl) :
    wpAny (model prog w) A (assign (.Tuple [.Name x px, .Name y py, .Name z pz] k pos) (envOf qual scope L f cd) (.ref T)) Q E ⟨h, g, d, tk, os⟩ :=
  k_unpack (items := [a, b, c]) F N ht hh rfl rfl fun h' F' N' => k_ord F' N' (fun h2 F2 N2 => k_ord F2 N2 (fun h3 F3 N3 => k_ord F3 N3 (fun h4 F4 N4 => assignInOrder_nil (q h4 F4 N4)) hk hz) hk hy) hk hx
theorem k_unpack4 {x y z u : Str} {px py pz pu : Pos} {k : Nat} {pos : Pos} {T : Addr} {a b c e : Value} {l : List (Str × Value)} {news : List (Addr × Obj)} {Q : Unit → Shared → Prop} (F : Fr h₀ L h (lk l)) (N : News h₀ L h news) (ht : IsTup h T #[a, b, c, e]) (hh : A.handled = none)
    (q : ∀ h', Fr h₀ L h' (lk ((u, e) :: (z, c) :: (y, b) :: (x, a) :: l)) → News h₀ L h' news → Q () ⟨h', g, d, tk + 4, os⟩)
    (hk : scope.kind = .function := by kernel_rfl) (hx : (envOf qual scope L f cd).kindOf x = some .local := by kernel_rfl) (hy : (envOf qual scope L f cd).kindOf y = some .local := by kernel_rfl) (hz : (envOf qual scope L f cd).kindOf z = some .local := by kernel_rfl) (hu : (envOf qual scope L f cd).kindOf u = some .local := by kernel_rfl) :
    wpAny (model prog w) A (assign (.Tuple [.Name x px, .Name y py, .Name z pz, .Name u pu] k pos) (envOf qual scope L f cd) (.ref T)) Q E ⟨h, g, d, tk, os⟩ :=
  k_unpack (items := [a, b, c, e]) F N ht hh rfl rfl fun h' F' N' => k_ord F' N' (fun h2 F2 N2 => k_ord F2 N2 (fun h3 F3 N3 => k_ord F3 N3 (fun h4 F4 N4 => k_ord F4 N4 (fun h5 F5 N5 => assignInOrder_nil (q h5 F5 N5)) hk hu) hk hz) hk hy) hk hx
theorem k_tup {vs : List Value} {news : List (Addr × Obj)} {m : Str → Option Value} {Q : Value → Shared → Prop} (F : Fr h₀ L h m) (N : News h₀ L h news)
    (q : ∀ D h', Fr h₀ L h' m → News h₀ L h' ((D, { cls := .type "tuple", data := .seq vs.toArray }) :: news) → (∀ p ∈ news, p.1 < D) → Q (.ref D) ⟨h', g, d, tk, os⟩) (hsz : vs.length ≤ sizeLine := by size_fits) :
    wpAny M A (newTuple vs) Q E ⟨h, g, d, tk, os⟩ := newTuple_N F N (fun h' F' N' => q _ h' F' N' fun p hp => Heap.lt_size (N p hp).1) hsz
theorem a_swap3 {x y z : Str} {px py pz tp pos : Pos} {k : Nat} {value : PySem.Expr} {s : Shared} {Q : Flow → Shared → Prop}
    (q : wpAny M A (eval value env) (fun v s₁ => wpAny M A (unpackItems v 3 none) (fun items s₂ => wpAny M A (assignInOrder [bindName env z, bindName env y, bindName env x] items.reverse) (fun _ => Q .next) E s₂) E s₁) E s)
    (hs : swapsWithSole [.Tuple [.Name x px, .Name y py, .Name z pz] k tp] value pos.line env = pure false := by kernel_rfl)
    (hw : swappedStores [.Tuple [.Name x px, .Name y py, .Name z pz] k tp] value env = pure (some [x, y, z]) := by kernel_rfl) :
    wpAny M A (exec (.Assign [.Tuple [.Name x px, .Name y py, .Name z pz] k tp] value pos) env) Q E s := Assign_Tuple_swapped (names := [x, y, z]) q hs hw
theorem k_unp3 {x y z : Str} {T : Addr} {a b c : Value} {l : List (Str × Value)} {news : List (Addr × Obj)} {Q : Unit → Shared → Prop} (F : Fr h₀ L h (lk l)) (N : News h₀ L h news) (ht : IsTup h T #[a, b, c]) (hh : A.handled = none)
    (q : ∀ h', Fr h₀ L h' (lk ((x, a) :: (y, b) :: (z, c) :: l)) → News h₀ L h' news → Q () ⟨h', g, d, tk + 3, os⟩)
    (hk : scope.kind = .function := by kernel_rfl) (hx : (envOf qual scope L f cd).kindOf x = some .local := by kernel_rfl) (hy : (envOf qual scope L f cd).kindOf y = some .local := by kernel_rfl) (hz : (envOf qual scope L f cd).kindOf z = some .local := by kernel_rfl) :
    wpAny (model prog w) A (unpackItems (.ref T) 3 none) (fun items s₂ => wpAny (model prog w) A (assignInOrder [bindName (envOf qual scope L f cd) z, bindName (envOf qual scope L f cd) y, bindName (envOf qual scope L f cd) x] items.reverse) Q E s₂) E ⟨h, g, d, tk, os⟩ :=
  unpackItemsN_ F N ht hh rfl fun h' F' N' => assignInOrder_cons (wpAny_bindName (k_sto F' N' (fun h2 F2 N2 => assignInOrder_cons (wpAny_bindName (k_sto F2 N2 (fun h3 F3 N3 => assignInOrder_cons (wpAny_bindName (k_sto F3 N3 (fun h4 F4 N4 => assignInOrder_nil (q h4 F4 N4)) hk hx))) hk hy))) hk hz))
end clean

/-- what follows a statement -/
noncomputable def Cont (M : Model) (A : Around) (rest : List Stmt) (env : Env) (Q : Flow → Shared → Prop) (E : Value → Shared → Prop) (fl : Flow) (s : Shared) : Prop :=
  match fl with | .next => wpAny M A (execs rest env) Q E s | f => Q f s
variable {M : Model} {env : Env} {rest : List Stmt} {Q : Flow → Shared → Prop}
theorem x_cons {st : Stmt} (h : wpAny M A (exec st env) (Cont M A rest env Q E) E s) : wpAny M A (execs (st :: rest) env) Q E s := wpAny_execs_cons h
theorem c_next (h : wpAny M A (execs rest env) Q E s) : Cont M A rest env Q E .next s := h
theorem c_ret {v : Value} (h : Q (.ret v) s) : Cont M A rest env Q E (.ret v) s := h
theorem c_brk (h : Q .brk s) : Cont M A rest env Q E .brk s := h
theorem c_cont (h : Q .cont s) : Cont M A rest env Q E .cont s := h
theorem x_doc {hp : Heap} {g : Array GenState} {d : Drawn} {tk : Nat} {os : OsState} {x : Str} {k : Nat} {p pos : Pos} (h : wpAny M A (execs rest env) Q E ⟨hp, g, d, tk + 1, os⟩) (hi : interactive env = false := by kernel_rfl) (hs : swapsWith (.Constant (.str x) k p) none pos.line env = pure false := by kernel_rfl) :
    wpAny M A (execs (.Expr (.Constant (.str x) k p) pos :: rest) env) Q E ⟨hp, g, d, tk, os⟩ := wpAny_execs_cons (wpAny_Expr (Constant_str h) hi hs)
theorem x_if {c : Bool} {a b : Prop} (ha : c = true → a) (hb : c = false → b) : if c then a else b := by cases c; exact hb rfl; exact ha rfl
end core

section sim
/-- what a run gives: its value, the objects that it loaded (address and object), what it pushed, what is left of the oracle, the heap's size, the tokens -/
noncomputable abbrev Out (α : Type) := α × List (Addr × Obj) × List Obj × List (Option Obj) × Nat × Nat
noncomputable def sLoad {α : Type} (Kf : Frag) (a : Addr) (r : Obj → List (Option Obj) → Nat → Nat → Option (Out α)) : List (Option Obj) → Nat → Nat → Option (Out α)
  | [], _, _ => none
  | some o :: os, nx, tk => (r o os nx tk).map fun x => (x.1, (a, o) :: x.2.1, x.2.2)
  | none :: os, nx, tk => (Kf.lookup a).bind fun o => r o os nx tk
noncomputable def sCall {α : Type} (o : Option (Out Flow)) (r : Result → List (Option Obj) → Nat → Nat → Option (Out α)) : Option (Out α) :=
  o.bind fun y => (r (.ok y.1) y.2.2.2.1 y.2.2.2.2.1 y.2.2.2.2.2).map fun x => (x.1, y.2.1 ++ x.2.1, y.2.2.1 ++ x.2.2.1, x.2.2.2)
noncomputable def simIn {α : Type} (Kf : Frag) (S : Setting) (run : Code → List (Option Obj) → Nat → Nat → Option (Out Flow)) : Sem α → List (Option Obj) → Nat → Nat → Option (Out α)
  | .pure a => fun os nx tk => some (a, [], [], os, nx, tk)
  | .rule _ k => simIn Kf S run (k ())
  | .at _ k => simIn Kf S run (k ())
  | .point _ k => simIn Kf S run (k ())
  | .ask k => simIn Kf S run (k S)
  | .fresh k => fun os nx tk => simIn Kf S run (k tk) os nx (tk + 1)
  | .handled own k => fun os nx tk => cond own none (simIn Kf S run (k none) os nx tk)
  | .load a _ k => sLoad Kf a fun o => simIn Kf S run (k o)
  | .alloc o k => fun os nx tk => (simIn Kf S run (k nx) os (nx + 1) tk).map fun x => (x.1, x.2.1, o :: x.2.2.1, x.2.2.2)
  | .call c hd _ _ k => fun os nx tk => cond hd.isSome none (sCall (run c os nx tk) fun r => simIn Kf S run (k r))
  | _ => fun _ _ _ => none
noncomputable def simC (Kf : Frag) (den : Code → Sem PySem.Fin) (S : Setting) : Nat → Code → List (Option Obj) → Nat → Nat → Option (Out Flow)
  | 0, _, _, _, _ => none
  | n + 1, c, os, nx, tk => match simIn Kf S (simC Kf den S n) (den c) os nx tk with
    | some (.done f, r) => some (f, r)
    | some (.again c', tr, al, os', nx', tk') => (match c'.quiet with
      | true => (match simC Kf den S n c' os' nx' tk' with
        | some (f, tr', al', r) => some (f, tr ++ tr', al ++ al', r)
        | none => none)
      | false => none)
    | none => none
noncomputable def pushAll (h : Heap) (al : List Obj) : Heap := al.foldl Heap.push h
theorem pushAll_append (h : Heap) (a b : List Obj) : pushAll h (a ++ b) = pushAll (pushAll h a) b := by unfold pushAll; rw [List.foldl_append]
theorem pushAll_kp : ∀ (al : List Obj) (h : Heap), Kp h (pushAll h al)
  | [], _ => fun _ _ e => e
  | o :: al, h => fun b x e => pushAll_kp al (h.push o) b x (Heap.get?_push_of_some _ e)
theorem pushAll_size : ∀ (al : List Obj) (h : Heap), (pushAll h al).objs.size = h.objs.size + al.length
  | [], _ => rfl
  | o :: al, h => by
    show (pushAll (h.push o) al).objs.size = _
    rw [pushAll_size al, Heap.size_push, List.length_cons]; omega
variable {prog : Program} {w : World} {E : Value → Shared → Prop}
noncomputable def RunOk (Kf : Frag) (prog : Program) (w : World) (run : Code → List (Option Obj) → Nat → Nat → Option (Out Flow)) : Prop :=
  ∀ (c : Code) (os : List (Option Obj)) (nx tk : Nat) (f : Flow) (tr : List (Addr × Obj)) (al : List Obj) (os' : List (Option Obj)) (nx' tk' : Nat), run c os nx tk = some (f, tr, al, os', nx', tk') →
    ∀ (A : Around) (R : Result → Shared → Prop) (s : Shared), Kf.In s.heap → A.handled = none → s.heap.objs.size = nx → s.toks = tk → (∀ p ∈ tr, s.heap.get? p.1 = some p.2) →
      (nx' = nx + al.length → R (.ok f) { s with heap := pushAll s.heap al, toks := tk' }) → codeAny (model prog w) A c R s
theorem simIn_ok {α : Type} {Kf : Frag} {run : Code → List (Option Obj) → Nat → Nat → Option (Out Flow)} (hr : RunOk Kf prog w run) : ∀ (t : Sem α) (os : List (Option Obj)) (nx tk : Nat) (v : α) (tr : List (Addr × Obj)) (al : List Obj) (os' : List (Option Obj)) (nx' tk' : Nat),
    simIn Kf ⟨prog, w.params⟩ run t os nx tk = some (v, tr, al, os', nx', tk') →
    ∀ (A : Around) (Q : α → Shared → Prop) (E : Value → Shared → Prop) (s : Shared), Kf.In s.heap → A.handled = none → s.heap.objs.size = nx → s.toks = tk → (∀ p ∈ tr, s.heap.get? p.1 = some p.2) →
      (nx' = nx + al.length → Q v { s with heap := pushAll s.heap al, toks := tk' }) → wpAny (model prog w) A t Q E s := by
  intro t
  induction t with
  | pure a =>
    intro os nx tk v tr al os' nx' tk' e A Q E s X hA hn ht htr q
    cases e
    have := q rfl
    subst ht
    exact wpAny_pure this
  | rule _ k ih => intro os nx tk v tr al os' nx' tk' e A Q E s X hA hn ht htr q; exact fun Γ p hΓ => ih () os nx tk v tr al os' nx' tk' e A Q E s X hA hn ht htr q Γ p hΓ
  | «at» _ k ih => intro os nx tk v tr al os' nx' tk' e A Q E s X hA hn ht htr q; exact fun Γ p hΓ => ih () os nx tk v tr al os' nx' tk' e A Q E s X hA hn ht htr q Γ _ hΓ
  | point _ k ih => intro os nx tk v tr al os' nx' tk' e A Q E s X hA hn ht htr q; exact fun Γ p hΓ => ih () os nx tk v tr al os' nx' tk' e A Q E s X hA hn ht htr q Γ p hΓ
  | ask k ih => intro os nx tk v tr al os' nx' tk' e A Q E s X hA hn ht htr q; exact fun Γ p hΓ => ih _ os nx tk v tr al os' nx' tk' e A Q E s X hA hn ht htr q Γ p hΓ
  | fresh k ih =>
    intro os nx tk v tr al os' nx' tk' e A Q E s X hA hn ht htr q
    subst ht
    exact fun Γ p hΓ => ih s.toks os nx (s.toks + 1) v tr al os' nx' tk' e A Q E { s with toks := s.toks + 1 } X hA hn rfl htr q Γ p hΓ
  | handled own k ih =>
    intro os nx tk v tr al os' nx' tk' e A Q E s X hA hn ht htr q
    cases own with
    | true => cases e
    | false =>
      intro Γ p hΓ
      show Sem.wp _ Γ (k Γ.handled) _ _ p s
      rw [hΓ.1, hA]
      exact ih none os nx tk v tr al os' nx' tk' e A Q E s X hA hn ht htr q Γ p hΓ
  | load a _ k ih =>
    intro os nx tk v tr al os' nx' tk' e A Q E s X hA hn ht htr q
    cases os with
    | nil => cases e
    | cons oo os =>
      cases oo with
      | none =>
        obtain ⟨o, hlk, e⟩ := Option.bind_eq_some_iff.mp (show (Kf.lookup a).bind _ = _ from e)
        exact fun Γ p hΓ => ⟨o, X _ _ hlk, ih o os nx tk _ tr al os' nx' tk' e A Q E s X hA hn ht htr q Γ p hΓ⟩
      | some o =>
        obtain ⟨⟨v1, tr1, r1⟩, h1, e⟩ := Option.map_eq_some_iff.mp (show Option.map _ _ = _ from e)
        cases e
        exact fun Γ p hΓ => ⟨o, htr (a, o) (.head _), ih o os nx tk _ tr1 al os' nx' tk' h1 A Q E s X hA hn ht (fun p hp => htr p (.tail _ hp)) q Γ p hΓ⟩
  | alloc o k ih =>
    intro os nx tk v tr al os' nx' tk' e A Q E s X hA hn ht htr q
    obtain ⟨⟨v1, tr1, al1, r1⟩, h1, e⟩ := Option.map_eq_some_iff.mp (show Option.map _ _ = _ from e)
    cases e
    subst hn
    intro Γ p hΓ
    exact ih s.heap.objs.size os _ tk _ _ al1 os' nx' tk' h1 A Q E { s with heap := s.heap.push o } (X.keeps fun b o e => Heap.get?_push_of_some _ e) hA (Heap.size_push _ _) ht (fun p hp => Heap.get?_push_of_some _ (htr p hp)) (fun hx => q (by rw [hx, List.length_cons, Nat.add_assoc, Nat.add_comm 1])) Γ p hΓ
  | call c hd g l k ih =>
    intro os nx tk v tr al os' nx' tk' e A Q E s X hA hn ht htr q
    cases hd with
    | some _ => cases e
    | none =>
      obtain ⟨⟨f, tr1, al1, os1, nx1, tk1⟩, h1, e⟩ := Option.bind_eq_some_iff.mp (show (run c os nx tk).bind _ = _ from e)
      obtain ⟨⟨v2, tr2, al2, r2⟩, h2, e⟩ := Option.map_eq_some_iff.mp e
      cases e
      have hc := hr c os nx tk f tr1 al1 os1 nx1 tk1 h1 A (fun r s' => wpAny (model prog w) A (k r) Q E s') s X hA hn ht (fun p hp => htr p (List.mem_append_left _ hp)) (fun hx => ?_)
      · intro Γ p hΓ
        show wpCode _ (Γ.enter c none p) (fun r s' => Sem.wp _ Γ (k r) _ _ p s') p s
        exact wpCode_mono (fun r s' hr' => hr' Γ p hΓ) (hc _ p rfl (hΓ.enter c none p (by intro x; cases x)))
      · refine ih (.ok f) os1 nx1 tk1 _ tr2 al2 os' nx' tk' h2 A Q E _ (X.keeps (pushAll_kp al1 _)) hA (by rw [pushAll_size, hn, hx]) rfl (fun p hp => pushAll_kp al1 _ _ _ (htr p (List.mem_append_right _ hp))) fun hx2 => ?_
        have := q (by rw [hx2, hx, List.length_append, Nat.add_assoc])
        rw [pushAll_append] at this
        exact this
  | _ => intro os nx tk v tr al os' nx' tk' e; cases e
theorem simC_ok {Kf : Frag} : ∀ n, RunOk Kf prog w (simC Kf (denote table) ⟨prog, w.params⟩ n)
  | 0 => fun _ _ _ _ _ _ _ _ _ _ e => by cases e
  | n + 1 => by
    intro c os nx tk f tr al os' nx' tk' e A R s X hA hn ht htr q
    simp only [simC] at e
    refine codeAny_of_tree ?_
    show wpAny (model prog w) (A.under c) (denote table c) _ _ s
    split at e
    · rename_i f1 r1 h1
      simp only [Option.some.injEq, Prod.mk.injEq] at e
      obtain ⟨rfl, rfl⟩ := e
      exact simIn_ok (simC_ok n) _ os nx tk _ tr al os' nx' tk' h1 _ _ _ s X hA hn ht htr fun hx => q hx
    · rename_i c1 tr1 al1 os1 nx1 tk1 h1
      split at e
      · rename_i hq
        split at e
        · rename_i f2 tr2 al2 r2 h2
          simp only [Option.some.injEq, Prod.mk.injEq] at e
          obtain ⟨rfl, rfl, rfl, rfl⟩ := e
          refine simIn_ok (simC_ok n) _ os nx tk _ tr1 al1 os1 nx1 tk1 h1 _ _ _ s X hA hn ht (fun p hp => htr p (by simp [hp])) fun hx => ?_
          refine ⟨hq, simC_ok n c1 os1 nx1 tk1 f2 tr2 al2 os' nx' tk' h2 A R _ (X.keeps (pushAll_kp al1 _)) hA (by rw [pushAll_size, hn, hx]) rfl (fun p hp => pushAll_kp al1 _ _ _ (htr p (by simp [hp]))) fun hx2 => ?_⟩
          have := q (by rw [hx2, hx, List.length_append]; omega)
          rw [pushAll_append] at this
          exact this
        · cases e
      · cases e
    · cases e
/-- the library's quick reading of the table -/
noncomputable def denQ : Code → Sem PySem.Fin := PySem.W.Fast.tw11892475500146522536 PySem.W.Fast.tw14364793385576792824
theorem denQ_eq : denote table = denQ := by
  rw [table_eq_tree, PySem.W.Fast.te14364793385576792824, PySem.W.Fast.te11892475500146522536]; rfl
/-- a tree by its run; loads in the oracle's order: some o: this object, none: the object that the fragment Kf has there -/
theorem by_simK {Kf : Frag} {α : Type} {A : Around} {Q : α → Shared → Prop} {t : Sem α} {h : Heap} {g : Array GenState} {d : Drawn} {tk : Nat} {os' : OsState} (X : Kf.In h) (n : Nat) (os : List (Option Obj)) {v : α} {tr : List (Addr × Obj)} {al : List Obj} {k : Nat} {os2 : List (Option Obj)} {nx' : Nat}
    (e : simIn Kf ⟨prog, w.params⟩ (simC Kf denQ ⟨prog, w.params⟩ n) t os h.objs.size tk = some (v, tr, al, os2, nx', k)) (hA : A.handled = none) (htr : ∀ p ∈ tr, h.get? p.1 = some p.2)
    (q : Q v ⟨pushAll h al, g, d, k, os'⟩) : wpAny (model prog w) A t Q E ⟨h, g, d, tk, os'⟩ :=
  simIn_ok (simC_ok n) t os _ tk v tr al os2 nx' k (denQ_eq ▸ e) A Q E ⟨h, g, d, tk, os'⟩ X hA rfl rfl htr fun _ => q
theorem by_sim {α : Type} {A : Around} {Q : α → Shared → Prop} {t : Sem α} {h : Heap} {g : Array GenState} {d : Drawn} {tk : Nat} {os' : OsState} (n : Nat) (os : List Obj) {v : α} {tr : List (Addr × Obj)} {al : List Obj} {k : Nat} {os2 : List (Option Obj)} {nx' : Nat}
    (e : simIn [] ⟨prog, w.params⟩ (simC [] denQ ⟨prog, w.params⟩ n) t (os.map some) h.objs.size tk = some (v, tr, al, os2, nx', k)) (hA : A.handled = none) (htr : ∀ p ∈ tr, h.get? p.1 = some p.2)
    (q : Q v ⟨pushAll h al, g, d, k, os'⟩) : wpAny (model prog w) A t Q E ⟨h, g, d, tk, os'⟩ :=
  by_simK (Kf := []) (fun _ _ e => nomatch e) n _ e hA htr q
end sim

section loops
variable {prog : Program} {w : World} {A : Around} {E : Value → Shared → Prop} {h : Heap} {g : Array GenState} {d : Drawn} {tk : Nat} {os : OsState} {env : Env}
noncomputable abbrev Bot : Value → Shared → Prop := fun _ _ => False
/-- how a turn's body may end: on to the next turn (J), a break, a return -/
noncomputable def TurnEnd (g : Array GenState) (d : Drawn) (os : OsState) (J : Heap → Nat → Prop) (Q : Flow → Shared → Prop) (f : Flow) (s : Shared) : Prop := match f with
  | .next | .cont => ∃ h tk, s = ⟨h, g, d, tk, os⟩ ∧ J h tk
  | .brk => Q .next s
  | .ret v => Q (.ret v) s
theorem TurnEnd.next {J : Heap → Nat → Prop} {Q : Flow → Shared → Prop} (j : J h tk) : TurnEnd g d os J Q .next ⟨h, g, d, tk, os⟩ := ⟨h, tk, rfl, j⟩
theorem TurnEnd.cont {J : Heap → Nat → Prop} {Q : Flow → Shared → Prop} (j : J h tk) : TurnEnd g d os J Q .cont ⟨h, g, d, tk, os⟩ := ⟨h, tk, rfl, j⟩
/-- a for over an iterator that walks, by an invariant J of the turn's number, the heap and the tokens -/
theorem for_walk {x : Str} {px : Pos} {body : List Stmt} {I : Addr} {fp wr : List Addr} {n : Nat} {P : Nat → Value → Prop} {St : Nat → Heap → Prop} {Q : Flow → Shared → Prop} (W : Walks prog w A I fp wr n P St) (J : Nat → Heap → Nat → Prop)
    (hst : ∀ i h tk, J i h tk → St i h) (h0 : J 0 h tk)
    (turn : ∀ i h tk v h' tk', i < n → J i h tk → P i v → St (i + 1) h' → (∀ b o, b ∉ wr → h.get? b = some o → h'.get? b = some o) → tk ≤ tk' →
      wpAny (model prog w) A (storeName env x v) (fun _ s₂ => wpAny (model prog w) A (execs body env) (TurnEnd g d os (J (i + 1)) Q) Bot s₂) Bot ⟨h', g, d, tk', os⟩)
    (done : ∀ h tk h' tk', J n h tk → (∀ b o, b ∉ wr → h.get? b = some o → h'.get? b = some o) → tk ≤ tk' → Q .next ⟨h', g, d, tk', os⟩) :
    codeAny (model prog w) A (.forLoop (.Name x px) (.ref I) body [] env) (fun r s' => match r with | .ok f => Q f s' | .error e => cameBackBy (model prog w) A env E e s') ⟨h, g, d, tk, os⟩ := by
  refine codeAny_forLoop (fun k s => ∃ i h tk, s = ⟨h, g, d, tk, os⟩ ∧ i ≤ n ∧ k = n - i ∧ J i h tk) ?_ n ⟨0, h, tk, rfl, Nat.zero_le _, rfl, h0⟩
  rintro k s ⟨i, h, tk, rfl, hi, rfl, j⟩
  by_cases hlt : i < n
  · refine wpAny_with_toks (n := tk) (Nat.le_refl _) (W.item i _ _ _ hlt (hst i h tk j) fun v h' tk' hP st' hk htk => ?_)
    refine wpAny_assign_Name (wpAny_mono (turn i h tk v h' tk' hlt j hP st' hk htk) (fun _ s₂ h₂ => wpAny_mono h₂ (fun f s₃ h₃ => ?_) fun _ _ x => x.elim) fun _ _ x => x.elim)
    cases f with
    | next => obtain ⟨h3, tk3, rfl, j3⟩ := h₃; exact ⟨n - (i + 1), by omega, i + 1, h3, tk3, rfl, hlt, rfl, j3⟩
    | cont => obtain ⟨h3, tk3, rfl, j3⟩ := h₃; exact ⟨n - (i + 1), by omega, i + 1, h3, tk3, rfl, hlt, rfl, j3⟩
    | brk => exact h₃
    | ret v => exact h₃
  · obtain rfl : i = n := by omega
    refine wpAny_with_toks (n := tk) (Nat.le_refl _) (W.done _ _ _ (hst i h tk j) fun h' tk' hk htk => ?_)
    exact wpAny_execs_nil (done h tk h' tk' j hk htk)
/-- a while by an invariant and a measure -/
theorem while_inv {test : PySem.Expr} {body : List Stmt} {pos : Pos} {Q : Flow → Shared → Prop} (J : Nat → Heap → Nat → Prop) (n : Nat) (h0 : J n h tk)
    (turn : ∀ k h tk, J k h tk → wpAny (model prog w) A (isTrue test env (eval test env)) (fun b s₂ =>
      if b then wpAny (model prog w) A (execs body env) (TurnEnd g d os (fun h tk => ∃ k', k' < k ∧ J k' h tk) Q) Bot s₂ else Q .next s₂) Bot ⟨h, g, d, tk, os⟩) :
    wpAny (model prog w) A (exec (.While test body [] pos) env) Q E ⟨h, g, d, tk, os⟩ := by
  refine wpAny_While (codeAny_whileLoop (fun k s => ∃ h tk, s = ⟨h, g, d, tk, os⟩ ∧ J k h tk) ?_ n ⟨h, tk, rfl, h0⟩)
  rintro k s ⟨h, tk, rfl, j⟩
  refine wpAny_mono (turn k h tk j) (fun b s₂ h₂ => ?_) fun _ _ x => x.elim
  cases b with
  | false => exact wpAny_execs_nil h₂
  | true =>
    refine wpAny_mono h₂ (fun f s₃ h₃ => ?_) fun _ _ x => x.elim
    cases f with
    | next => obtain ⟨h3, tk3, rfl, k', hk', j3⟩ := h₃; exact ⟨k', hk', h3, tk3, rfl, j3⟩
    | cont => obtain ⟨h3, tk3, rfl, k', hk', j3⟩ := h₃; exact ⟨k', hk', h3, tk3, rfl, j3⟩
    | brk => exact h₃
    | ret v => exact h₃
end loops

noncomputable section
def anyF {α : Type} (as : Array α) (p : α → Bool) (start : Nat := 0) (stop : Nat := as.size) : Bool :=
  @Bool.rec (fun _ => Bool) (as.any p start stop) (R.anyR as.toList p) (and (Nat.beq start 0) (Nat.beq stop as.size))
theorem anyF_eq : @Array.any.{0} = @anyF := by
  funext α as p start stop
  unfold anyF
  cases h : (Nat.beq start 0 && Nat.beq stop as.size) with
  | false => rfl
  | true =>
    obtain ⟨h1, h2⟩ := Bool.and_eq_true_iff.mp h
    have e1 := Nat.eq_of_beq_eq_true h1
    have e2 := Nat.eq_of_beq_eq_true h2
    subst e1 e2
    show as.any p 0 as.size = R.anyR as.toList p
    rw [← R.anyR_eq]
    simp
def qTabOf (tn : Builtin) (id : String) : Option Builtin := @Bool.rec (fun _ => Option Builtin) (PySem.W.Fast.tw14364793385576792824 id) (some tn) (Nat.beq (code id) 29827186395103491166823348853)
theorem tree_tn : entriesT.find 29827186395103491166823348853 = some Builtin.«type.__new__» := by kernel_rfl
theorem qTabOf_eq {tn : Builtin} (key : Builtin.«type.__new__» = tn) : treeTable = qTabOf tn := by
  funext id
  unfold qTabOf
  rw [← PySem.W.Fast.te14364793385576792824]
  cases h : Nat.beq (code id) 29827186395103491166823348853 with
  | false => rfl
  | true =>
    show entriesT.find (code id) = some tn
    rw [Nat.eq_of_beq_eq_true h, ← key]
    exact tree_tn
-- printed by wip/GenHead.lean
abbrev pw : Program := PySem.Challenge.pw_mu0008_05
abbrev tops : List Stmt := pw.main.body
noncomputable def sAt (l : List Stmt) (i : Nat) : Stmt := l.getD i (.Pass ⟨0, 0, 0, 0⟩)
def cBod : Stmt → List Stmt
  | .ClassDef _ _ _ b _ _ _ _ _ _ _ => b
  | _ => []
def fPar : Stmt → Arguments
  | .FunctionDef _ a _ _ _ _ _ _ _ _ => a
  | _ => default
def fBod : Stmt → List Stmt
  | .FunctionDef _ _ b _ _ _ _ _ _ _ => b
  | _ => []
def fSco : Stmt → Scope
  | .FunctionDef _ _ _ _ _ _ sc _ _ _ => sc
  | _ => default
def dIn : List Stmt → Str
  | .Expr (.Constant (.str s) _ _) _ :: _ => s
  | _ => .empty
def dOf : Stmt → Str
  | .FunctionDef _ _ b _ _ _ _ _ _ _ => dIn b
  | .ClassDef _ _ _ b _ _ _ _ _ _ _ => dIn b
  | _ => .empty
noncomputable def docCS : { l : List Char // dOf (sAt tops 5) = Str.ofString (String.ofList l) } := ⟨_, rfl⟩
noncomputable def docT : Str := ⟨⟨PySem.W.R.mapR Char.toNat docCS.1⟩⟩
theorem doc_eq : dOf (sAt tops 5) = docT := by
  rw [docCS.2, Fast.ofString_ofList]
  unfold docT
  rw [← PySem.W.R.mapR_eq]
def setDoc (t : Str) : Stmt → Stmt
  | .ClassDef n bs ks (.Expr (.Constant (.str _) k p) p' :: r) ds tps sc a b c d => .ClassDef n bs ks (.Expr (.Constant (.str t) k p) p' :: r) ds tps sc a b c d
  | s => s
theorem st5_eq : sAt tops 5 = setDoc docT (sAt tops 5) := by
  have h : sAt tops 5 = setDoc (dOf (sAt tops 5)) (sAt tops 5) := by kernel_rfl
  rw [doc_eq] at h
  exact h
noncomputable def o11 (P : Params) : Obj := ⟨(.type "tuple"), none, (.seq ([] : List Value).toArray 0), ([] : List (Option Value)).toArray⟩
noncomputable def o12 (P : Params) : Obj := ⟨.none, none, (.fields ([] : List Value).toArray), ([] : List (Option Value)).toArray⟩
noncomputable def o13 (P : Params) : Obj := ⟨(.type "code"), none, (.fields ([(.str (.ofString "<module>") 182), (.str (.ofString "<module>") 183), (.str (.ofString "/claim/cut.py") 184), (.int 1 0), (.int 0 0), (.int 0 0), (.int 0 0), (.int 0 0), (.ref 11), (.bool false), (.int 181 0), (.ref 12), .none, .none, .none, .none, (.int 185 0), (.int 1 0), (.str (.ofString "/claim/cut.py") 186)] : List Value).toArray), ([] : List (Option Value)).toArray⟩
noncomputable def o14 (P : Params) : Obj := ⟨(.type "frame"), none, .plain, ([(some (.ref 13)), (some (.ref 3)), (some (.ref 3)), none, (some (.str (.ofString "__main__") 164)), none, (some (.ref 0))] : List (Option Value)).toArray⟩
noncomputable def hA (P : Params) : Heap := ⟨⟨[boot_o_0 P, boot_o_1 P, boot_o_2 P, boot_o_3 P, boot_o_4 P, boot_o_5 P, boot_o_6 P, boot_o_7 P, boot_o_8 P, boot_o_9 P, boot_o_10 P, o11 P, o12 P, o13 P, o14 P]⟩, (boot_heap P).life⟩
noncomputable def sA (w : World) (os : OsState) : Shared := ⟨hA w.params, ⟨[]⟩, boot_drawn, 187, os⟩
def m0 : Nat := 11
def ann0 : Option Value := (some (.ref 6))
noncomputable def envT : Env := { scope := pw.main.scope, locals := mainNs, globals := mainNs, cells := [], code := (.ref 13), frame := some 14 }
def posF : Pos := ⟨0, 0, 0, 0⟩
def posA : Pos := ⟨0, 0, 0, 0⟩
def nPre : Nat := 12
def nBlock : Nat := 1
def nFin : Nat := 2
noncomputable def t0 (P : Params) : BT := (.node (boot_o_0 P) (.node (boot_o_1 P) (.node (boot_o_3 P) (.node (boot_o_7 P) .nil .nil) (.node (o11 P) .nil .nil)) (.node (boot_o_5 P) (.node (boot_o_9 P) .nil .nil) (.node (o13 P) .nil .nil))) (.node (boot_o_2 P) (.node (boot_o_4 P) (.node (boot_o_8 P) .nil .nil) (.node (o12 P) .nil .nil)) (.node (boot_o_6 P) (.node (boot_o_10 P) .nil .nil) (.node (o14 P) .nil .nil))))
noncomputable def s0 (w : World) (os : OsState) : SharedT := ⟨t0 w.params, 15, (boot_heap w.params).life, ⟨[]⟩, ⟨0, 0, 0, 0⟩, 187, os⟩
def pos0 : Pos := ⟨0, 0, 0, 0⟩
noncomputable def o3 (P : Params) : Obj := ⟨(.type "dict"), none, (.dict ([⟨PyData.keyHash P (.ofString "__name__"), (.str (.ofString "__name__") 165), (.str (.ofString "cpy313.difflib") 194)⟩, ⟨PyData.keyHash P (.ofString "__doc__"), (.str (.ofString "__doc__") 166), .none⟩, ⟨PyData.keyHash P (.ofString "__package__"), (.str (.ofString "__package__") 167), .none⟩, ⟨PyData.keyHash P (.ofString "__loader__"), (.str (.ofString "__loader__") 168), (.builtin "__main__.__loader__#opaque")⟩, ⟨PyData.keyHash P (.ofString "__spec__"), (.str (.ofString "__spec__") 169), .none⟩, ⟨PyData.keyHash P (.ofString "__annotations__"), (.str (.ofString "__annotations__") 170), (.ref 6)⟩, ⟨PyData.keyHash P (.ofString "__builtins__"), (.str (.ofString "__builtins__") 171), (.ref 4)⟩, ⟨PyData.keyHash P (.ofString "__file__"), (.str (.ofString "__file__") 173), (.str (.ofString "/claim/cut.py") 172)⟩, ⟨PyData.keyHash P (.ofString "__cached__"), (.str (.ofString "__cached__") 174), .none⟩, ⟨PyData.keyHash P (.ofString "_wall"), (.str (.ofString "_wall") 193), (.ref 21)⟩, ⟨PyData.keyHash P (.ofString "_tuplegetter"), (.str (.ofString "_tuplegetter") 252), (.ref 60)⟩] : List DictEntry).toArray 11), ([] : List (Option Value)).toArray⟩
noncomputable def o12v1 (P : Params) : Obj := ⟨.none, none, (.fields ([(.int 1 0), (.int 0 0), (.ref 20), (.int 5 0), (.int 0 0), (.ref 27)] : List Value).toArray), ([] : List (Option Value)).toArray⟩
noncomputable def o15 (P : Params) : Obj := ⟨(.type "tuple"), none, (.seq ([] : List Value).toArray 0), ([] : List (Option Value)).toArray⟩
noncomputable def o16 (P : Params) : Obj := ⟨.none, none, (.fields ([] : List Value).toArray), ([] : List (Option Value)).toArray⟩
noncomputable def o17 (P : Params) : Obj := ⟨(.type "tuple"), none, (.seq ([(.str (.ofString "k") 190)] : List Value).toArray 0), ([] : List (Option Value)).toArray⟩
noncomputable def o18 (P : Params) : Obj := ⟨(.type "tuple"), none, (.seq ([] : List Value).toArray 0), ([] : List (Option Value)).toArray⟩
noncomputable def o19 (P : Params) : Obj := ⟨.none, none, (.func ⟨(.ofString "_wall"), (.ofString "_wall"), fPar (sAt tops 0), .stmts (fBod (sAt tops 0)), fSco (sAt tops 0), 0, [], .none, .none, .none, .none, none, .none, .none, 0⟩), ([] : List (Option Value)).toArray⟩
noncomputable def o20 (P : Params) : Obj := ⟨(.type "code"), none, (.fields ([(.str (.ofString "_wall") 187), (.str (.ofString "_wall") 188), (.str (.ofString "/claim/cut.py") 189), (.int 1 0), (.int 1 0), (.int 0 0), (.int 0 0), (.int 3 0), (.ref 15), (.bool true), (.int 181 0), (.ref 16), .none, (.ref 17), (.ref 18), (.ref 19), (.int 191 0), (.int 1 0), (.str (.ofString "/claim/cut.py") 192)] : List Value).toArray), ([] : List (Option Value)).toArray⟩
noncomputable def o21 (P : Params) : Obj := ⟨(.type "function"), none, (.func ⟨(.ofString "_wall"), (.ofString "_wall"), fPar (sAt tops 0), .stmts (fBod (sAt tops 0)), fSco (sAt tops 0), 3, [], .none, .none, .none, (.str (.ofString "__main__") 164), none, (.ref 20), .none, 0⟩), ([] : List (Option Value)).toArray⟩
noncomputable def o22 (P : Params) : Obj := ⟨(.type "tuple"), none, (.seq ([] : List Value).toArray 0), ([] : List (Option Value)).toArray⟩
noncomputable def o23 (P : Params) : Obj := ⟨(.type "builtin_function_or_method"), none, (.fields ([(.builtin "type.__prepare__"), (.type "type")] : List Value).toArray), ([] : List (Option Value)).toArray⟩
noncomputable def o24 (P : Params) : Obj := ⟨(.type "dict"), none, (.dict ([⟨PyData.keyHash P (.ofString "__module__"), (.str (.ofString "__module__") 203), (.str (.ofString "cpy313.difflib") 194)⟩, ⟨PyData.keyHash P (.ofString "__qualname__"), (.str (.ofString "__qualname__") 205), (.str (.ofString "_tuplegetter") 204)⟩, ⟨PyData.keyHash P (.ofString "__firstlineno__"), (.str (.ofString "__firstlineno__") 207), (.int 5 206)⟩, ⟨PyData.keyHash P (.ofString "__init__"), (.str (.ofString "__init__") 216), (.ref 35)⟩, ⟨PyData.keyHash P (.ofString "__get__"), (.str (.ofString "__get__") 225), (.ref 43)⟩, ⟨PyData.keyHash P (.ofString "__set__"), (.str (.ofString "__set__") 234), (.ref 50)⟩, ⟨PyData.keyHash P (.ofString "__delete__"), (.str (.ofString "__delete__") 242), (.ref 57)⟩, ⟨PyData.keyHash P (.ofString "__static_attributes__"), (.str (.ofString "__static_attributes__") 245), (.ref 58)⟩] : List DictEntry).toArray 8), ([] : List (Option Value)).toArray⟩
noncomputable def o25 (P : Params) : Obj := ⟨(.type "tuple"), none, (.seq ([] : List Value).toArray 0), ([] : List (Option Value)).toArray⟩
noncomputable def o26 (P : Params) : Obj := ⟨.none, none, (.fields ([(.int 7 0), (.int 4 0), (.ref 34), (.int 11 0), (.int 4 0), (.ref 42), (.int 18 0), (.int 4 0), (.ref 49), (.int 21 0), (.int 4 0), (.ref 56)] : List Value).toArray), ([] : List (Option Value)).toArray⟩
noncomputable def o27 (P : Params) : Obj := ⟨(.type "code"), none, (.fields ([(.str (.ofString "_tuplegetter") 198), (.str (.ofString "_tuplegetter") 199), (.str (.ofString "/claim/cut.py") 200), (.int 5 0), (.int 0 0), (.int 0 0), (.int 0 0), (.int 0 0), (.ref 25), (.bool false), (.int 181 0), (.ref 26), .none, .none, .none, .none, (.int 201 0), (.int 5 0), (.str (.ofString "/claim/cut.py") 202)] : List Value).toArray), ([] : List (Option Value)).toArray⟩
noncomputable def o28 (P : Params) : Obj := ⟨(.type "frame"), none, .plain, ([(some (.ref 27)), (some (.ref 3)), (some (.ref 24)), none, (some (.str (.ofString "cpy313.difflib") 194)), none, (some (.ref 0))] : List (Option Value)).toArray⟩
noncomputable def o29 (P : Params) : Obj := ⟨(.type "tuple"), none, (.seq ([] : List Value).toArray 0), ([] : List (Option Value)).toArray⟩
noncomputable def o30 (P : Params) : Obj := ⟨.none, none, (.fields ([] : List Value).toArray), ([] : List (Option Value)).toArray⟩
noncomputable def o31 (P : Params) : Obj := ⟨(.type "tuple"), none, (.seq ([(.str (.ofString "self") 211), (.str (.ofString "index") 212), (.str (.ofString "doc") 213)] : List Value).toArray 0), ([] : List (Option Value)).toArray⟩
noncomputable def o32 (P : Params) : Obj := ⟨(.type "tuple"), none, (.seq ([] : List Value).toArray 0), ([] : List (Option Value)).toArray⟩
noncomputable def o33 (P : Params) : Obj := ⟨.none, none, (.func ⟨(.ofString "__init__"), (.ofString "_tuplegetter.__init__"), fPar (sAt (cBod (sAt tops 2)) 0), .stmts (fBod (sAt (cBod (sAt tops 2)) 0)), fSco (sAt (cBod (sAt tops 2)) 0), 0, [], .none, .none, .none, .none, none, .none, .none, 0⟩), ([] : List (Option Value)).toArray⟩
noncomputable def o34 (P : Params) : Obj := ⟨(.type "code"), none, (.fields ([(.str (.ofString "__init__") 208), (.str (.ofString "_tuplegetter.__init__") 209), (.str (.ofString "/claim/cut.py") 210), (.int 7 0), (.int 3 0), (.int 0 0), (.int 0 0), (.int 3 0), (.ref 29), (.bool true), (.int 181 0), (.ref 30), .none, (.ref 31), (.ref 32), (.ref 33), (.int 214 0), (.int 7 0), (.str (.ofString "/claim/cut.py") 215)] : List Value).toArray), ([] : List (Option Value)).toArray⟩
noncomputable def o35 (P : Params) : Obj := ⟨(.type "function"), none, (.func ⟨(.ofString "__init__"), (.ofString "_tuplegetter.__init__"), fPar (sAt (cBod (sAt tops 2)) 0), .stmts (fBod (sAt (cBod (sAt tops 2)) 0)), fSco (sAt (cBod (sAt tops 2)) 0), 3, [], .none, .none, .none, (.str (.ofString "cpy313.difflib") 194), none, (.ref 34), .none, 0⟩), ([] : List (Option Value)).toArray⟩
noncomputable def o36 (P : Params) : Obj := ⟨(.type "tuple"), none, (.seq ([.none] : List Value).toArray 0), ([] : List (Option Value)).toArray⟩
noncomputable def o37 (P : Params) : Obj := ⟨(.type "tuple"), none, (.seq ([] : List Value).toArray 0), ([] : List (Option Value)).toArray⟩
noncomputable def o38 (P : Params) : Obj := ⟨.none, none, (.fields ([] : List Value).toArray), ([] : List (Option Value)).toArray⟩
noncomputable def o39 (P : Params) : Obj := ⟨(.type "tuple"), none, (.seq ([(.str (.ofString "self") 220), (.str (.ofString "obj") 221), (.str (.ofString "objtype") 222)] : List Value).toArray 0), ([] : List (Option Value)).toArray⟩
noncomputable def o40 (P : Params) : Obj := ⟨(.type "tuple"), none, (.seq ([] : List Value).toArray 0), ([] : List (Option Value)).toArray⟩
noncomputable def o41 (P : Params) : Obj := ⟨.none, none, (.func ⟨(.ofString "__get__"), (.ofString "_tuplegetter.__get__"), fPar (sAt (cBod (sAt tops 2)) 1), .stmts (fBod (sAt (cBod (sAt tops 2)) 1)), fSco (sAt (cBod (sAt tops 2)) 1), 0, [], .none, .none, .none, .none, none, .none, .none, 0⟩), ([] : List (Option Value)).toArray⟩
noncomputable def o42 (P : Params) : Obj := ⟨(.type "code"), none, (.fields ([(.str (.ofString "__get__") 217), (.str (.ofString "_tuplegetter.__get__") 218), (.str (.ofString "/claim/cut.py") 219), (.int 11 0), (.int 3 0), (.int 0 0), (.int 0 0), (.int 3 0), (.ref 37), (.bool true), (.int 181 0), (.ref 38), .none, (.ref 39), (.ref 40), (.ref 41), (.int 223 0), (.int 11 0), (.str (.ofString "/claim/cut.py") 224)] : List Value).toArray), ([] : List (Option Value)).toArray⟩
noncomputable def o43 (P : Params) : Obj := ⟨(.type "function"), none, (.func ⟨(.ofString "__get__"), (.ofString "_tuplegetter.__get__"), fPar (sAt (cBod (sAt tops 2)) 1), .stmts (fBod (sAt (cBod (sAt tops 2)) 1)), fSco (sAt (cBod (sAt tops 2)) 1), 3, [], (.ref 36), .none, .none, (.str (.ofString "cpy313.difflib") 194), none, (.ref 42), .none, 0⟩), ([] : List (Option Value)).toArray⟩
noncomputable def o44 (P : Params) : Obj := ⟨(.type "tuple"), none, (.seq ([] : List Value).toArray 0), ([] : List (Option Value)).toArray⟩
noncomputable def o45 (P : Params) : Obj := ⟨.none, none, (.fields ([] : List Value).toArray), ([] : List (Option Value)).toArray⟩
noncomputable def o46 (P : Params) : Obj := ⟨(.type "tuple"), none, (.seq ([(.str (.ofString "self") 229), (.str (.ofString "obj") 230), (.str (.ofString "value") 231)] : List Value).toArray 0), ([] : List (Option Value)).toArray⟩
noncomputable def o47 (P : Params) : Obj := ⟨(.type "tuple"), none, (.seq ([] : List Value).toArray 0), ([] : List (Option Value)).toArray⟩
noncomputable def o48 (P : Params) : Obj := ⟨.none, none, (.func ⟨(.ofString "__set__"), (.ofString "_tuplegetter.__set__"), fPar (sAt (cBod (sAt tops 2)) 2), .stmts (fBod (sAt (cBod (sAt tops 2)) 2)), fSco (sAt (cBod (sAt tops 2)) 2), 0, [], .none, .none, .none, .none, none, .none, .none, 0⟩), ([] : List (Option Value)).toArray⟩
noncomputable def o49 (P : Params) : Obj := ⟨(.type "code"), none, (.fields ([(.str (.ofString "__set__") 226), (.str (.ofString "_tuplegetter.__set__") 227), (.str (.ofString "/claim/cut.py") 228), (.int 18 0), (.int 3 0), (.int 0 0), (.int 0 0), (.int 3 0), (.ref 44), (.bool true), (.int 181 0), (.ref 45), .none, (.ref 46), (.ref 47), (.ref 48), (.int 232 0), (.int 18 0), (.str (.ofString "/claim/cut.py") 233)] : List Value).toArray), ([] : List (Option Value)).toArray⟩
noncomputable def o50 (P : Params) : Obj := ⟨(.type "function"), none, (.func ⟨(.ofString "__set__"), (.ofString "_tuplegetter.__set__"), fPar (sAt (cBod (sAt tops 2)) 2), .stmts (fBod (sAt (cBod (sAt tops 2)) 2)), fSco (sAt (cBod (sAt tops 2)) 2), 3, [], .none, .none, .none, (.str (.ofString "cpy313.difflib") 194), none, (.ref 49), .none, 0⟩), ([] : List (Option Value)).toArray⟩
noncomputable def o51 (P : Params) : Obj := ⟨(.type "tuple"), none, (.seq ([] : List Value).toArray 0), ([] : List (Option Value)).toArray⟩
noncomputable def o52 (P : Params) : Obj := ⟨.none, none, (.fields ([] : List Value).toArray), ([] : List (Option Value)).toArray⟩
noncomputable def o53 (P : Params) : Obj := ⟨(.type "tuple"), none, (.seq ([(.str (.ofString "self") 238), (.str (.ofString "obj") 239)] : List Value).toArray 0), ([] : List (Option Value)).toArray⟩
noncomputable def o54 (P : Params) : Obj := ⟨(.type "tuple"), none, (.seq ([] : List Value).toArray 0), ([] : List (Option Value)).toArray⟩
noncomputable def o55 (P : Params) : Obj := ⟨.none, none, (.func ⟨(.ofString "__delete__"), (.ofString "_tuplegetter.__delete__"), fPar (sAt (cBod (sAt tops 2)) 3), .stmts (fBod (sAt (cBod (sAt tops 2)) 3)), fSco (sAt (cBod (sAt tops 2)) 3), 0, [], .none, .none, .none, .none, none, .none, .none, 0⟩), ([] : List (Option Value)).toArray⟩
noncomputable def o56 (P : Params) : Obj := ⟨(.type "code"), none, (.fields ([(.str (.ofString "__delete__") 235), (.str (.ofString "_tuplegetter.__delete__") 236), (.str (.ofString "/claim/cut.py") 237), (.int 21 0), (.int 2 0), (.int 0 0), (.int 0 0), (.int 3 0), (.ref 51), (.bool true), (.int 181 0), (.ref 52), .none, (.ref 53), (.ref 54), (.ref 55), (.int 240 0), (.int 21 0), (.str (.ofString "/claim/cut.py") 241)] : List Value).toArray), ([] : List (Option Value)).toArray⟩
noncomputable def o57 (P : Params) : Obj := ⟨(.type "function"), none, (.func ⟨(.ofString "__delete__"), (.ofString "_tuplegetter.__delete__"), fPar (sAt (cBod (sAt tops 2)) 3), .stmts (fBod (sAt (cBod (sAt tops 2)) 3)), fSco (sAt (cBod (sAt tops 2)) 3), 3, [], .none, .none, .none, (.str (.ofString "cpy313.difflib") 194), none, (.ref 56), .none, 0⟩), ([] : List (Option Value)).toArray⟩
noncomputable def o58 (P : Params) : Obj := ⟨(.type "tuple"), none, (.seq ([(.str (.ofString "__doc__") 243), (.str (.ofString "index") 244)] : List Value).toArray 0), ([] : List (Option Value)).toArray⟩
noncomputable def o59 (P : Params) : Obj := ⟨(.type "dict"), none, (.dict ([⟨PyData.keyHash P (.ofString "__module__"), (.str (.ofString "__module__") 203), (.str (.ofString "cpy313.difflib") 194)⟩, ⟨PyData.keyHash P (.ofString "__firstlineno__"), (.str (.ofString "__firstlineno__") 207), (.int 5 206)⟩, ⟨PyData.keyHash P (.ofString "__init__"), (.str (.ofString "__init__") 216), (.ref 35)⟩, ⟨PyData.keyHash P (.ofString "__get__"), (.str (.ofString "__get__") 225), (.ref 43)⟩, ⟨PyData.keyHash P (.ofString "__set__"), (.str (.ofString "__set__") 234), (.ref 50)⟩, ⟨PyData.keyHash P (.ofString "__delete__"), (.str (.ofString "__delete__") 242), (.ref 57)⟩, ⟨PyData.keyHash P (.ofString "__static_attributes__"), (.str (.ofString "__static_attributes__") 245), (.ref 58)⟩, ⟨PyData.keyHash P (.ofString "__dict__"), (.str (.ofString "__dict__") 247), (.ref 61)⟩, ⟨PyData.keyHash P (.ofString "__weakref__"), (.str (.ofString "__weakref__") 249), (.ref 62)⟩, ⟨PyData.keyHash P (.ofString "__doc__"), (.str (.ofString "__doc__") 250), .none⟩] : List DictEntry).toArray 4), ([] : List (Option Value)).toArray⟩
noncomputable def o60 (P : Params) : Obj := ⟨(.type "type"), none, (.cls ⟨(.ofString "_tuplegetter"), [(.type "object")], [(.ref 60), (.type "object")], 59, (.ofString "_tuplegetter"), true, [], [], false, none, false⟩), ([none, none, (some (.str (.ofString "_tuplegetter") 196)), (some (.str (.ofString "_tuplegetter") 204)), (some (.builtin "object.__new__")), (some (.bool true))] : List (Option Value)).toArray⟩
noncomputable def o61 (P : Params) : Obj := ⟨(.type "getset_descriptor"), none, (.fields ([(.str (.ofString "__dict__") 246), (.ref 60), (.builtin "function.__dict__"), (.builtin "function.__dict__#set")] : List Value).toArray), ([] : List (Option Value)).toArray⟩
noncomputable def o62 (P : Params) : Obj := ⟨(.type "getset_descriptor"), none, (.fields ([(.str (.ofString "__weakref__") 248), (.ref 60), (.builtin "ExceptionGroup.__weakref__"), .none] : List Value).toArray), ([] : List (Option Value)).toArray⟩
noncomputable def o63 (P : Params) : Obj := ⟨(.type "super"), none, (.fields ([(.ref 60), (.ref 60), (.ref 60)] : List Value).toArray), ([] : List (Option Value)).toArray⟩
noncomputable def o64 (P : Params) : Obj := ⟨(.type "builtin_function_or_method"), none, (.fields ([(.builtin "object.__init_subclass__"), (.ref 60)] : List Value).toArray), ([] : List (Option Value)).toArray⟩
noncomputable def t1 (P : Params) : BT := (.node (boot_o_0 P) (.node (boot_o_1 P) (.node (o3 P) (.node (boot_o_7 P) (.node (o15 P) (.node (o31 P) (.node (o63 P) .nil .nil) .nil) (.node (o47 P) .nil .nil)) (.node (o23 P) (.node (o39 P) .nil .nil) (.node (o55 P) .nil .nil))) (.node (o11 P) (.node (o19 P) (.node (o35 P) .nil .nil) (.node (o51 P) .nil .nil)) (.node (o27 P) (.node (o43 P) .nil .nil) (.node (o59 P) .nil .nil)))) (.node (boot_o_5 P) (.node (boot_o_9 P) (.node (o17 P) (.node (o33 P) .nil .nil) (.node (o49 P) .nil .nil)) (.node (o25 P) (.node (o41 P) .nil .nil) (.node (o57 P) .nil .nil))) (.node (o13 P) (.node (o21 P) (.node (o37 P) .nil .nil) (.node (o53 P) .nil .nil)) (.node (o29 P) (.node (o45 P) .nil .nil) (.node (o61 P) .nil .nil))))) (.node (boot_o_2 P) (.node (boot_o_4 P) (.node (boot_o_8 P) (.node (o16 P) (.node (o32 P) (.node (o64 P) .nil .nil) .nil) (.node (o48 P) .nil .nil)) (.node (o24 P) (.node (o40 P) .nil .nil) (.node (o56 P) .nil .nil))) (.node (o12v1 P) (.node (o20 P) (.node (o36 P) .nil .nil) (.node (o52 P) .nil .nil)) (.node (o28 P) (.node (o44 P) .nil .nil) (.node (o60 P) .nil .nil)))) (.node (boot_o_6 P) (.node (boot_o_10 P) (.node (o18 P) (.node (o34 P) .nil .nil) (.node (o50 P) .nil .nil)) (.node (o26 P) (.node (o42 P) .nil .nil) (.node (o58 P) .nil .nil))) (.node (o14 P) (.node (o22 P) (.node (o38 P) .nil .nil) (.node (o54 P) .nil .nil)) (.node (o30 P) (.node (o46 P) .nil .nil) (.node (o62 P) .nil .nil))))))
def s1 (w : World) (os : OsState) : SharedT := ⟨t1 w.params, 65, (boot_heap w.params).life, ⟨[]⟩, ⟨0, 0, 0, 0⟩, 253, os⟩
def pos1 : Pos := ⟨5, 0, 22, 54⟩
def g1 : List Stmt := (tops.drop 0).take 3
def n1 : Nat := 362
noncomputable def o3v1 (P : Params) : Obj := ⟨(.type "dict"), none, (.dict ([⟨PyData.keyHash P (.ofString "__name__"), (.str (.ofString "__name__") 165), (.str (.ofString "cpy313.difflib") 194)⟩, ⟨PyData.keyHash P (.ofString "__doc__"), (.str (.ofString "__doc__") 166), .none⟩, ⟨PyData.keyHash P (.ofString "__package__"), (.str (.ofString "__package__") 167), .none⟩, ⟨PyData.keyHash P (.ofString "__loader__"), (.str (.ofString "__loader__") 168), (.builtin "__main__.__loader__#opaque")⟩, ⟨PyData.keyHash P (.ofString "__spec__"), (.str (.ofString "__spec__") 169), .none⟩, ⟨PyData.keyHash P (.ofString "__annotations__"), (.str (.ofString "__annotations__") 170), (.ref 6)⟩, ⟨PyData.keyHash P (.ofString "__builtins__"), (.str (.ofString "__builtins__") 171), (.ref 4)⟩, ⟨PyData.keyHash P (.ofString "__file__"), (.str (.ofString "__file__") 173), (.str (.ofString "/claim/cut.py") 172)⟩, ⟨PyData.keyHash P (.ofString "__cached__"), (.str (.ofString "__cached__") 174), .none⟩, ⟨PyData.keyHash P (.ofString "_wall"), (.str (.ofString "_wall") 193), (.ref 21)⟩, ⟨PyData.keyHash P (.ofString "_tuplegetter"), (.str (.ofString "_tuplegetter") 252), (.ref 60)⟩, ⟨PyData.keyHash P (.ofString "Match"), (.str (.ofString "Match") 380), (.ref 135)⟩] : List DictEntry).toArray 12), ([] : List (Option Value)).toArray⟩
noncomputable def o12v2 (P : Params) : Obj := ⟨.none, none, (.fields ([(.int 1 0), (.int 0 0), (.ref 20), (.int 5 0), (.int 0 0), (.ref 27), (.int 23 0), (.int 0 0), (.ref 71)] : List Value).toArray), ([] : List (Option Value)).toArray⟩
noncomputable def o65 (P : Params) : Obj := ⟨(.type "tuple"), none, (.seq ([(.type "tuple")] : List Value).toArray 0), ([] : List (Option Value)).toArray⟩
noncomputable def o66 (P : Params) : Obj := ⟨(.type "builtin_function_or_method"), none, (.fields ([(.builtin "type.__prepare__"), (.type "type")] : List Value).toArray), ([] : List (Option Value)).toArray⟩
noncomputable def o67 (P : Params) : Obj := ⟨(.type "dict"), none, (.dict ([⟨PyData.keyHash P (.ofString "__module__"), (.str (.ofString "__module__") 260), (.str (.ofString "cpy313.difflib") 194)⟩, ⟨PyData.keyHash P (.ofString "__qualname__"), (.str (.ofString "__qualname__") 262), (.str (.ofString "Match") 261)⟩, ⟨PyData.keyHash P (.ofString "__firstlineno__"), (.str (.ofString "__firstlineno__") 264), (.int 23 263)⟩, ⟨PyData.keyHash P (.ofString "__doc__"), (.str (.ofString "__doc__") 266), (.str (.ofString "Match(a, b, size)") 265)⟩, ⟨PyData.keyHash P (.ofString "__slots__"), (.str (.ofString "__slots__") 268), (.ref 73)⟩, ⟨PyData.keyHash P (.ofString "_fields"), (.str (.ofString "_fields") 272), (.ref 74)⟩, ⟨PyData.keyHash P (.ofString "_field_defaults"), (.str (.ofString "_field_defaults") 273), (.ref 75)⟩, ⟨PyData.keyHash P (.ofString "__new__"), (.str (.ofString "__new__") 284), (.ref 82)⟩, ⟨PyData.keyHash P (.ofString "_make"), (.str (.ofString "_make") 306), (.ref 91)⟩, ⟨PyData.keyHash P (.ofString "_replace"), (.str (.ofString "_replace") 317), (.ref 100)⟩, ⟨PyData.keyHash P (.ofString "__replace__"), (.str (.ofString "__replace__") 318), (.ref 100)⟩, ⟨PyData.keyHash P (.ofString "__repr__"), (.str (.ofString "__repr__") 326), (.ref 107)⟩, ⟨PyData.keyHash P (.ofString "_asdict"), (.str (.ofString "_asdict") 333), (.ref 114)⟩, ⟨PyData.keyHash P (.ofString "__getnewargs__"), (.str (.ofString "__getnewargs__") 341), (.ref 121)⟩, ⟨PyData.keyHash P (.ofString "__match_args__"), (.str (.ofString "__match_args__") 345), (.ref 122)⟩, ⟨PyData.keyHash P (.ofString "a"), (.str (.ofString "a") 355), (.ref 124)⟩, ⟨PyData.keyHash P (.ofString "b"), (.str (.ofString "b") 365), (.ref 127)⟩, ⟨PyData.keyHash P (.ofString "size"), (.str (.ofString "size") 375), (.ref 130)⟩, ⟨PyData.keyHash P (.ofString "__static_attributes__"), (.str (.ofString "__static_attributes__") 376), (.ref 132)⟩, ⟨PyData.keyHash P (.ofString "__classcell__"), (.str (.ofString "__classcell__") 377), (.ref 68)⟩] : List DictEntry).toArray 20), ([] : List (Option Value)).toArray⟩
noncomputable def o68 (P : Params) : Obj := ⟨(.type "cell"), none, (.cell (some (.ref 135))), ([] : List (Option Value)).toArray⟩
noncomputable def o69 (P : Params) : Obj := ⟨(.type "tuple"), none, (.seq ([] : List Value).toArray 0), ([] : List (Option Value)).toArray⟩
noncomputable def o70 (P : Params) : Obj := ⟨.none, none, (.fields ([(.int 29 0), (.int 4 0), (.ref 81), (.int 34 0), (.int 4 0), (.ref 88), (.int 41 0), (.int 4 0), (.ref 99), (.int 52 0), (.int 4 0), (.ref 106), (.int 56 0), (.int 4 0), (.ref 113), (.int 59 0), (.int 4 0), (.ref 120)] : List Value).toArray), ([] : List (Option Value)).toArray⟩
noncomputable def o71 (P : Params) : Obj := ⟨(.type "code"), none, (.fields ([(.str (.ofString "Match") 255), (.str (.ofString "Match") 256), (.str (.ofString "/claim/cut.py") 257), (.int 23 0), (.int 0 0), (.int 0 0), (.int 0 0), (.int 0 0), (.ref 69), (.bool false), (.int 181 0), (.ref 70), .none, .none, .none, .none, (.int 258 0), (.int 23 0), (.str (.ofString "/claim/cut.py") 259)] : List Value).toArray), ([] : List (Option Value)).toArray⟩
noncomputable def o72 (P : Params) : Obj := ⟨(.type "frame"), none, .plain, ([(some (.ref 71)), (some (.ref 3)), (some (.ref 67)), none, (some (.str (.ofString "cpy313.difflib") 194)), none, (some (.ref 0))] : List (Option Value)).toArray⟩
noncomputable def o73 (P : Params) : Obj := ⟨(.type "tuple"), none, (.seq ([] : List Value).toArray 0), ([] : List (Option Value)).toArray⟩
noncomputable def o74 (P : Params) : Obj := ⟨(.type "tuple"), none, (.seq ([(.str (.ofString "a") 269), (.str (.ofString "b") 270), (.str (.ofString "size") 271)] : List Value).toArray 0), ([] : List (Option Value)).toArray⟩
noncomputable def o75 (P : Params) : Obj := ⟨(.type "dict"), none, (.dict ([] : List DictEntry).toArray 0), ([] : List (Option Value)).toArray⟩
noncomputable def o76 (P : Params) : Obj := ⟨(.type "tuple"), none, (.seq ([] : List Value).toArray 0), ([] : List (Option Value)).toArray⟩
noncomputable def o77 (P : Params) : Obj := ⟨.none, none, (.fields ([] : List Value).toArray), ([] : List (Option Value)).toArray⟩
noncomputable def o78 (P : Params) : Obj := ⟨(.type "tuple"), none, (.seq ([(.str (.ofString "_cls") 277), (.str (.ofString "a") 278), (.str (.ofString "b") 279), (.str (.ofString "size") 280)] : List Value).toArray 0), ([] : List (Option Value)).toArray⟩
noncomputable def o79 (P : Params) : Obj := ⟨(.type "tuple"), none, (.seq ([] : List Value).toArray 0), ([] : List (Option Value)).toArray⟩
noncomputable def o80 (P : Params) : Obj := ⟨.none, none, (.func ⟨(.ofString "__new__"), (.ofString "Match.__new__"), fPar (sAt (cBod (sAt tops 3)) 4), .stmts (fBod (sAt (cBod (sAt tops 3)) 4)), fSco (sAt (cBod (sAt tops 3)) 4), 0, [], .none, .none, .none, .none, none, .none, .none, 0⟩), ([] : List (Option Value)).toArray⟩
noncomputable def o81 (P : Params) : Obj := ⟨(.type "code"), none, (.fields ([(.str (.ofString "__new__") 274), (.str (.ofString "Match.__new__") 275), (.str (.ofString "/claim/cut.py") 276), (.int 29 0), (.int 4 0), (.int 0 0), (.int 0 0), (.int 3 0), (.ref 76), (.bool true), (.int 181 0), (.ref 77), .none, (.ref 78), (.ref 79), (.ref 80), (.int 281 0), (.int 29 0), (.str (.ofString "/claim/cut.py") 282)] : List Value).toArray), ([] : List (Option Value)).toArray⟩
noncomputable def o82 (P : Params) : Obj := ⟨(.type "function"), none, (.func ⟨(.ofString "__new__"), (.ofString "Match.__new__"), fPar (sAt (cBod (sAt tops 3)) 4), .stmts (fBod (sAt (cBod (sAt tops 3)) 4)), fSco (sAt (cBod (sAt tops 3)) 4), 3, [], .none, .none, (.str (dOf (sAt (cBod (sAt tops 3)) 4)) 283), (.str (.ofString "cpy313.difflib") 194), none, (.ref 81), .none, 0⟩), ([] : List (Option Value)).toArray⟩
noncomputable def o83 (P : Params) : Obj := ⟨(.type "tuple"), none, (.seq ([] : List Value).toArray 0), ([] : List (Option Value)).toArray⟩
noncomputable def o84 (P : Params) : Obj := ⟨.none, none, (.fields ([] : List Value).toArray), ([] : List (Option Value)).toArray⟩
noncomputable def o85 (P : Params) : Obj := ⟨(.type "tuple"), none, (.seq ([(.str (.ofString "cls") 288), (.str (.ofString "iterable") 289), (.str (.ofString "result") 290)] : List Value).toArray 0), ([] : List (Option Value)).toArray⟩
noncomputable def o86 (P : Params) : Obj := ⟨(.type "tuple"), none, (.seq ([] : List Value).toArray 0), ([] : List (Option Value)).toArray⟩
noncomputable def o87 (P : Params) : Obj := ⟨.none, none, (.func ⟨(.ofString "_make"), (.ofString "Match._make"), fPar (sAt (cBod (sAt tops 3)) 5), .stmts (fBod (sAt (cBod (sAt tops 3)) 5)), fSco (sAt (cBod (sAt tops 3)) 5), 0, [], .none, .none, .none, .none, none, .none, .none, 0⟩), ([] : List (Option Value)).toArray⟩
noncomputable def o88 (P : Params) : Obj := ⟨(.type "code"), none, (.fields ([(.str (.ofString "_make") 285), (.str (.ofString "Match._make") 286), (.str (.ofString "/claim/cut.py") 287), (.int 33 0), (.int 2 0), (.int 0 0), (.int 0 0), (.int 3 0), (.ref 83), (.bool true), (.int 181 0), (.ref 84), .none, (.ref 85), (.ref 86), (.ref 87), (.int 291 0), (.int 33 0), (.str (.ofString "/claim/cut.py") 292)] : List Value).toArray), ([] : List (Option Value)).toArray⟩
noncomputable def o89 (P : Params) : Obj := ⟨(.type "function"), none, (.func ⟨(.ofString "_make"), (.ofString "Match._make"), fPar (sAt (cBod (sAt tops 3)) 5), .stmts (fBod (sAt (cBod (sAt tops 3)) 5)), fSco (sAt (cBod (sAt tops 3)) 5), 3, [], .none, .none, (.str (dOf (sAt (cBod (sAt tops 3)) 5)) 293), (.str (.ofString "cpy313.difflib") 194), (some 92), (.ref 88), .none, 0⟩), ([] : List (Option Value)).toArray⟩
noncomputable def o90 (P : Params) : Obj := ⟨(.type "dict"), none, (.dict ([⟨PyData.keyHash P (.ofString "__module__"), (.str (.ofString "__module__") 295), (.str (.ofString "cpy313.difflib") 194)⟩, ⟨PyData.keyHash P (.ofString "__name__"), (.str (.ofString "__name__") 298), (.str (.ofString "_make") 297)⟩, ⟨PyData.keyHash P (.ofString "__qualname__"), (.str (.ofString "__qualname__") 301), (.str (.ofString "Match._make") 300)⟩, ⟨PyData.keyHash P (.ofString "__doc__"), (.str (.ofString "__doc__") 303), (.str (dOf (sAt (cBod (sAt tops 3)) 5)) 293)⟩, ⟨PyData.keyHash P (.ofString "__annotations__"), (.str (.ofString "__annotations__") 305), (.ref 92)⟩] : List DictEntry).toArray 5), ([] : List (Option Value)).toArray⟩
noncomputable def o91 (P : Params) : Obj := ⟨(.type "classmethod"), (some 90), (.fields ([(.ref 89), (.bool false)] : List Value).toArray), ([] : List (Option Value)).toArray⟩
noncomputable def o92 (P : Params) : Obj := ⟨(.type "dict"), none, (.dict ([] : List DictEntry).toArray 0), ([] : List (Option Value)).toArray⟩
noncomputable def o93 (P : Params) : Obj := ⟨(.type "tuple"), none, (.seq ([(.ref 68)] : List Value).toArray 0), ([] : List (Option Value)).toArray⟩
noncomputable def o94 (P : Params) : Obj := ⟨(.type "tuple"), none, (.seq ([(.str (.ofString "__class__") 310)] : List Value).toArray 0), ([] : List (Option Value)).toArray⟩
noncomputable def o95 (P : Params) : Obj := ⟨.none, none, (.fields ([] : List Value).toArray), ([] : List (Option Value)).toArray⟩
noncomputable def o96 (P : Params) : Obj := ⟨(.type "tuple"), none, (.seq ([(.str (.ofString "self") 311), (.str (.ofString "kwds") 312), (.str (.ofString "result") 313)] : List Value).toArray 0), ([] : List (Option Value)).toArray⟩
noncomputable def o97 (P : Params) : Obj := ⟨(.type "tuple"), none, (.seq ([] : List Value).toArray 0), ([] : List (Option Value)).toArray⟩
noncomputable def o98 (P : Params) : Obj := ⟨.none, none, (.func ⟨(.ofString "_replace"), (.ofString "Match._replace"), fPar (sAt (cBod (sAt tops 3)) 6), .stmts (fBod (sAt (cBod (sAt tops 3)) 6)), fSco (sAt (cBod (sAt tops 3)) 6), 0, [], .none, .none, .none, .none, none, .none, .none, 0⟩), ([] : List (Option Value)).toArray⟩
noncomputable def o99 (P : Params) : Obj := ⟨(.type "code"), none, (.fields ([(.str (.ofString "_replace") 307), (.str (.ofString "Match._replace") 308), (.str (.ofString "/claim/cut.py") 309), (.int 41 0), (.int 1 0), (.int 1 0), (.int 0 0), (.int 11 0), (.ref 94), (.bool true), (.int 181 0), (.ref 95), .none, (.ref 96), (.ref 97), (.ref 98), (.int 314 0), (.int 41 0), (.str (.ofString "/claim/cut.py") 315)] : List Value).toArray), ([] : List (Option Value)).toArray⟩
noncomputable def o100 (P : Params) : Obj := ⟨(.type "function"), none, (.func ⟨(.ofString "_replace"), (.ofString "Match._replace"), fPar (sAt (cBod (sAt tops 3)) 6), .stmts (fBod (sAt (cBod (sAt tops 3)) 6)), fSco (sAt (cBod (sAt tops 3)) 6), 3, [((.ofString "__class__"), 68)], .none, .none, (.str (dOf (sAt (cBod (sAt tops 3)) 6)) 316), (.str (.ofString "cpy313.difflib") 194), none, (.ref 99), (.ref 93), 0⟩), ([] : List (Option Value)).toArray⟩
noncomputable def o101 (P : Params) : Obj := ⟨(.type "tuple"), none, (.seq ([] : List Value).toArray 0), ([] : List (Option Value)).toArray⟩
noncomputable def o102 (P : Params) : Obj := ⟨.none, none, (.fields ([] : List Value).toArray), ([] : List (Option Value)).toArray⟩
noncomputable def o103 (P : Params) : Obj := ⟨(.type "tuple"), none, (.seq ([(.str (.ofString "self") 322)] : List Value).toArray 0), ([] : List (Option Value)).toArray⟩
noncomputable def o104 (P : Params) : Obj := ⟨(.type "tuple"), none, (.seq ([] : List Value).toArray 0), ([] : List (Option Value)).toArray⟩
noncomputable def o105 (P : Params) : Obj := ⟨.none, none, (.func ⟨(.ofString "__repr__"), (.ofString "Match.__repr__"), fPar (sAt (cBod (sAt tops 3)) 8), .stmts (fBod (sAt (cBod (sAt tops 3)) 8)), fSco (sAt (cBod (sAt tops 3)) 8), 0, [], .none, .none, .none, .none, none, .none, .none, 0⟩), ([] : List (Option Value)).toArray⟩
noncomputable def o106 (P : Params) : Obj := ⟨(.type "code"), none, (.fields ([(.str (.ofString "__repr__") 319), (.str (.ofString "Match.__repr__") 320), (.str (.ofString "/claim/cut.py") 321), (.int 52 0), (.int 1 0), (.int 0 0), (.int 0 0), (.int 3 0), (.ref 101), (.bool true), (.int 181 0), (.ref 102), .none, (.ref 103), (.ref 104), (.ref 105), (.int 323 0), (.int 52 0), (.str (.ofString "/claim/cut.py") 324)] : List Value).toArray), ([] : List (Option Value)).toArray⟩
noncomputable def o107 (P : Params) : Obj := ⟨(.type "function"), none, (.func ⟨(.ofString "__repr__"), (.ofString "Match.__repr__"), fPar (sAt (cBod (sAt tops 3)) 8), .stmts (fBod (sAt (cBod (sAt tops 3)) 8)), fSco (sAt (cBod (sAt tops 3)) 8), 3, [], .none, .none, (.str (dOf (sAt (cBod (sAt tops 3)) 8)) 325), (.str (.ofString "cpy313.difflib") 194), none, (.ref 106), .none, 0⟩), ([] : List (Option Value)).toArray⟩
noncomputable def o108 (P : Params) : Obj := ⟨(.type "tuple"), none, (.seq ([] : List Value).toArray 0), ([] : List (Option Value)).toArray⟩
noncomputable def o109 (P : Params) : Obj := ⟨.none, none, (.fields ([] : List Value).toArray), ([] : List (Option Value)).toArray⟩
noncomputable def o110 (P : Params) : Obj := ⟨(.type "tuple"), none, (.seq ([(.str (.ofString "self") 330)] : List Value).toArray 0), ([] : List (Option Value)).toArray⟩
noncomputable def o111 (P : Params) : Obj := ⟨(.type "tuple"), none, (.seq ([] : List Value).toArray 0), ([] : List (Option Value)).toArray⟩
noncomputable def o112 (P : Params) : Obj := ⟨.none, none, (.func ⟨(.ofString "_asdict"), (.ofString "Match._asdict"), fPar (sAt (cBod (sAt tops 3)) 9), .stmts (fBod (sAt (cBod (sAt tops 3)) 9)), fSco (sAt (cBod (sAt tops 3)) 9), 0, [], .none, .none, .none, .none, none, .none, .none, 0⟩), ([] : List (Option Value)).toArray⟩
noncomputable def o113 (P : Params) : Obj := ⟨(.type "code"), none, (.fields ([(.str (.ofString "_asdict") 327), (.str (.ofString "Match._asdict") 328), (.str (.ofString "/claim/cut.py") 329), (.int 56 0), (.int 1 0), (.int 0 0), (.int 0 0), (.int 3 0), (.ref 108), (.bool true), (.int 181 0), (.ref 109), .none, (.ref 110), (.ref 111), (.ref 112), (.int 331 0), (.int 56 0), (.str (.ofString "/claim/cut.py") 332)] : List Value).toArray), ([] : List (Option Value)).toArray⟩
noncomputable def o114 (P : Params) : Obj := ⟨(.type "function"), none, (.func ⟨(.ofString "_asdict"), (.ofString "Match._asdict"), fPar (sAt (cBod (sAt tops 3)) 9), .stmts (fBod (sAt (cBod (sAt tops 3)) 9)), fSco (sAt (cBod (sAt tops 3)) 9), 3, [], .none, .none, .none, (.str (.ofString "cpy313.difflib") 194), none, (.ref 113), .none, 0⟩), ([] : List (Option Value)).toArray⟩
noncomputable def o115 (P : Params) : Obj := ⟨(.type "tuple"), none, (.seq ([] : List Value).toArray 0), ([] : List (Option Value)).toArray⟩
noncomputable def o116 (P : Params) : Obj := ⟨.none, none, (.fields ([] : List Value).toArray), ([] : List (Option Value)).toArray⟩
noncomputable def o117 (P : Params) : Obj := ⟨(.type "tuple"), none, (.seq ([(.str (.ofString "self") 337)] : List Value).toArray 0), ([] : List (Option Value)).toArray⟩
noncomputable def o118 (P : Params) : Obj := ⟨(.type "tuple"), none, (.seq ([] : List Value).toArray 0), ([] : List (Option Value)).toArray⟩
noncomputable def o119 (P : Params) : Obj := ⟨.none, none, (.func ⟨(.ofString "__getnewargs__"), (.ofString "Match.__getnewargs__"), fPar (sAt (cBod (sAt tops 3)) 10), .stmts (fBod (sAt (cBod (sAt tops 3)) 10)), fSco (sAt (cBod (sAt tops 3)) 10), 0, [], .none, .none, .none, .none, none, .none, .none, 0⟩), ([] : List (Option Value)).toArray⟩
noncomputable def o120 (P : Params) : Obj := ⟨(.type "code"), none, (.fields ([(.str (.ofString "__getnewargs__") 334), (.str (.ofString "Match.__getnewargs__") 335), (.str (.ofString "/claim/cut.py") 336), (.int 59 0), (.int 1 0), (.int 0 0), (.int 0 0), (.int 3 0), (.ref 115), (.bool true), (.int 181 0), (.ref 116), .none, (.ref 117), (.ref 118), (.ref 119), (.int 338 0), (.int 59 0), (.str (.ofString "/claim/cut.py") 339)] : List Value).toArray), ([] : List (Option Value)).toArray⟩
noncomputable def o121 (P : Params) : Obj := ⟨(.type "function"), none, (.func ⟨(.ofString "__getnewargs__"), (.ofString "Match.__getnewargs__"), fPar (sAt (cBod (sAt tops 3)) 10), .stmts (fBod (sAt (cBod (sAt tops 3)) 10)), fSco (sAt (cBod (sAt tops 3)) 10), 3, [], .none, .none, (.str (dOf (sAt (cBod (sAt tops 3)) 10)) 340), (.str (.ofString "cpy313.difflib") 194), none, (.ref 120), .none, 0⟩), ([] : List (Option Value)).toArray⟩
noncomputable def o122 (P : Params) : Obj := ⟨(.type "tuple"), none, (.seq ([(.str (.ofString "a") 342), (.str (.ofString "b") 343), (.str (.ofString "size") 344)] : List Value).toArray 0), ([] : List (Option Value)).toArray⟩
noncomputable def o123 (P : Params) : Obj := ⟨(.type "dict"), none, (.dict ([⟨PyData.keyHash P (.ofString "index"), (.str (.ofString "index") 352), (.int 0 346)⟩, ⟨PyData.keyHash P (.ofString "__doc__"), (.str (.ofString "__doc__") 354), (.str (.ofString "Alias for field number 0") 347)⟩] : List DictEntry).toArray 2), ([] : List (Option Value)).toArray⟩
noncomputable def o124 (P : Params) : Obj := ⟨(.ref 60), (some 123), .plain, ([] : List (Option Value)).toArray⟩
noncomputable def o125 (P : Params) : Obj := ⟨(.type "frame"), none, (.dict ([⟨PyData.keyHash P (.ofString "self"), (.str (.ofString "self") 348), (.ref 124)⟩, ⟨PyData.keyHash P (.ofString "index"), (.str (.ofString "index") 349), (.int 0 346)⟩, ⟨PyData.keyHash P (.ofString "doc"), (.str (.ofString "doc") 350), (.str (.ofString "Alias for field number 0") 347)⟩] : List DictEntry).toArray 3), ([] : List (Option Value)).toArray⟩
noncomputable def o126 (P : Params) : Obj := ⟨(.type "dict"), none, (.dict ([⟨PyData.keyHash P (.ofString "index"), (.str (.ofString "index") 362), (.int 1 356)⟩, ⟨PyData.keyHash P (.ofString "__doc__"), (.str (.ofString "__doc__") 364), (.str (.ofString "Alias for field number 1") 357)⟩] : List DictEntry).toArray 2), ([] : List (Option Value)).toArray⟩
noncomputable def o127 (P : Params) : Obj := ⟨(.ref 60), (some 126), .plain, ([] : List (Option Value)).toArray⟩
noncomputable def o128 (P : Params) : Obj := ⟨(.type "frame"), none, (.dict ([⟨PyData.keyHash P (.ofString "self"), (.str (.ofString "self") 358), (.ref 127)⟩, ⟨PyData.keyHash P (.ofString "index"), (.str (.ofString "index") 359), (.int 1 356)⟩, ⟨PyData.keyHash P (.ofString "doc"), (.str (.ofString "doc") 360), (.str (.ofString "Alias for field number 1") 357)⟩] : List DictEntry).toArray 3), ([] : List (Option Value)).toArray⟩
noncomputable def o129 (P : Params) : Obj := ⟨(.type "dict"), none, (.dict ([⟨PyData.keyHash P (.ofString "index"), (.str (.ofString "index") 372), (.int 2 366)⟩, ⟨PyData.keyHash P (.ofString "__doc__"), (.str (.ofString "__doc__") 374), (.str (.ofString "Alias for field number 2") 367)⟩] : List DictEntry).toArray 2), ([] : List (Option Value)).toArray⟩
noncomputable def o130 (P : Params) : Obj := ⟨(.ref 60), (some 129), .plain, ([] : List (Option Value)).toArray⟩
noncomputable def o131 (P : Params) : Obj := ⟨(.type "frame"), none, (.dict ([⟨PyData.keyHash P (.ofString "self"), (.str (.ofString "self") 368), (.ref 130)⟩, ⟨PyData.keyHash P (.ofString "index"), (.str (.ofString "index") 369), (.int 2 366)⟩, ⟨PyData.keyHash P (.ofString "doc"), (.str (.ofString "doc") 370), (.str (.ofString "Alias for field number 2") 367)⟩] : List DictEntry).toArray 3), ([] : List (Option Value)).toArray⟩
noncomputable def o132 (P : Params) : Obj := ⟨(.type "tuple"), none, (.seq ([] : List Value).toArray 0), ([] : List (Option Value)).toArray⟩
noncomputable def o133 (P : Params) : Obj := ⟨(.type "list"), none, (.seq ([] : List Value).toArray 0), ([] : List (Option Value)).toArray⟩
noncomputable def o134 (P : Params) : Obj := ⟨(.type "dict"), none, (.dict ([⟨PyData.keyHash P (.ofString "__module__"), (.str (.ofString "__module__") 260), (.str (.ofString "cpy313.difflib") 194)⟩, ⟨PyData.keyHash P (.ofString "__firstlineno__"), (.str (.ofString "__firstlineno__") 264), (.int 23 263)⟩, ⟨PyData.keyHash P (.ofString "__doc__"), (.str (.ofString "__doc__") 266), (.str (.ofString "Match(a, b, size)") 265)⟩, ⟨PyData.keyHash P (.ofString "__slots__"), (.str (.ofString "__slots__") 268), (.ref 73)⟩, ⟨PyData.keyHash P (.ofString "_fields"), (.str (.ofString "_fields") 272), (.ref 74)⟩, ⟨PyData.keyHash P (.ofString "_field_defaults"), (.str (.ofString "_field_defaults") 273), (.ref 75)⟩, ⟨PyData.keyHash P (.ofString "__new__"), (.str (.ofString "__new__") 284), (.ref 136)⟩, ⟨PyData.keyHash P (.ofString "_make"), (.str (.ofString "_make") 306), (.ref 91)⟩, ⟨PyData.keyHash P (.ofString "_replace"), (.str (.ofString "_replace") 317), (.ref 100)⟩, ⟨PyData.keyHash P (.ofString "__replace__"), (.str (.ofString "__replace__") 318), (.ref 100)⟩, ⟨PyData.keyHash P (.ofString "__repr__"), (.str (.ofString "__repr__") 326), (.ref 107)⟩, ⟨PyData.keyHash P (.ofString "_asdict"), (.str (.ofString "_asdict") 333), (.ref 114)⟩, ⟨PyData.keyHash P (.ofString "__getnewargs__"), (.str (.ofString "__getnewargs__") 341), (.ref 121)⟩, ⟨PyData.keyHash P (.ofString "__match_args__"), (.str (.ofString "__match_args__") 345), (.ref 122)⟩, ⟨PyData.keyHash P (.ofString "a"), (.str (.ofString "a") 355), (.ref 124)⟩, ⟨PyData.keyHash P (.ofString "b"), (.str (.ofString "b") 365), (.ref 127)⟩, ⟨PyData.keyHash P (.ofString "size"), (.str (.ofString "size") 375), (.ref 130)⟩, ⟨PyData.keyHash P (.ofString "__static_attributes__"), (.str (.ofString "__static_attributes__") 376), (.ref 132)⟩] : List DictEntry).toArray 2), ([] : List (Option Value)).toArray⟩
noncomputable def o135 (P : Params) : Obj := ⟨(.type "type"), none, (.cls ⟨(.ofString "Match"), [(.type "tuple")], [(.ref 135), (.type "tuple"), (.type "object")], 134, (.ofString "Match"), false, [], [], false, none, false⟩), ([(some (.ref 65)), none, (some (.str (.ofString "Match") 253)), (some (.str (.ofString "Match") 261)), (some .none), (some (.bool false))] : List (Option Value)).toArray⟩
noncomputable def o136 (P : Params) : Obj := ⟨(.type "staticmethod"), none, (.fields ([(.ref 82)] : List Value).toArray), ([] : List (Option Value)).toArray⟩
noncomputable def o137 (P : Params) : Obj := ⟨(.type "super"), none, (.fields ([(.ref 135), (.ref 135), (.ref 135)] : List Value).toArray), ([] : List (Option Value)).toArray⟩
noncomputable def o138 (P : Params) : Obj := ⟨(.type "builtin_function_or_method"), none, (.fields ([(.builtin "object.__init_subclass__"), (.ref 135)] : List Value).toArray), ([] : List (Option Value)).toArray⟩
noncomputable def t2 (P : Params) : BT := (.node (boot_o_0 P) (.node (boot_o_1 P) (.node (o3v1 P) (.node (boot_o_7 P) (.node (o15 P) (.node (o31 P) (.node (o63 P) (.node (o127 P) .nil .nil) .nil) (.node (o95 P) .nil .nil)) (.node (o47 P) (.node (o79 P) .nil .nil) (.node (o111 P) .nil .nil))) (.node (o23 P) (.node (o39 P) (.node (o71 P) (.node (o135 P) .nil .nil) .nil) (.node (o103 P) .nil .nil)) (.node (o55 P) (.node (o87 P) .nil .nil) (.node (o119 P) .nil .nil)))) (.node (o11 P) (.node (o19 P) (.node (o35 P) (.node (o67 P) (.node (o131 P) .nil .nil) .nil) (.node (o99 P) .nil .nil)) (.node (o51 P) (.node (o83 P) .nil .nil) (.node (o115 P) .nil .nil))) (.node (o27 P) (.node (o43 P) (.node (o75 P) .nil .nil) (.node (o107 P) .nil .nil)) (.node (o59 P) (.node (o91 P) .nil .nil) (.node (o123 P) .nil .nil))))) (.node (boot_o_5 P) (.node (boot_o_9 P) (.node (o17 P) (.node (o33 P) (.node (o65 P) (.node (o129 P) .nil .nil) .nil) (.node (o97 P) .nil .nil)) (.node (o49 P) (.node (o81 P) .nil .nil) (.node (o113 P) .nil .nil))) (.node (o25 P) (.node (o41 P) (.node (o73 P) (.node (o137 P) .nil .nil) .nil) (.node (o105 P) .nil .nil)) (.node (o57 P) (.node (o89 P) .nil .nil) (.node (o121 P) .nil .nil)))) (.node (o13 P) (.node (o21 P) (.node (o37 P) (.node (o69 P) (.node (o133 P) .nil .nil) .nil) (.node (o101 P) .nil .nil)) (.node (o53 P) (.node (o85 P) .nil .nil) (.node (o117 P) .nil .nil))) (.node (o29 P) (.node (o45 P) (.node (o77 P) .nil .nil) (.node (o109 P) .nil .nil)) (.node (o61 P) (.node (o93 P) .nil .nil) (.node (o125 P) .nil .nil)))))) (.node (boot_o_2 P) (.node (boot_o_4 P) (.node (boot_o_8 P) (.node (o16 P) (.node (o32 P) (.node (o64 P) (.node (o128 P) .nil .nil) .nil) (.node (o96 P) .nil .nil)) (.node (o48 P) (.node (o80 P) .nil .nil) (.node (o112 P) .nil .nil))) (.node (o24 P) (.node (o40 P) (.node (o72 P) (.node (o136 P) .nil .nil) .nil) (.node (o104 P) .nil .nil)) (.node (o56 P) (.node (o88 P) .nil .nil) (.node (o120 P) .nil .nil)))) (.node (o12v2 P) (.node (o20 P) (.node (o36 P) (.node (o68 P) (.node (o132 P) .nil .nil) .nil) (.node (o100 P) .nil .nil)) (.node (o52 P) (.node (o84 P) .nil .nil) (.node (o116 P) .nil .nil))) (.node (o28 P) (.node (o44 P) (.node (o76 P) .nil .nil) (.node (o108 P) .nil .nil)) (.node (o60 P) (.node (o92 P) .nil .nil) (.node (o124 P) .nil .nil))))) (.node (boot_o_6 P) (.node (boot_o_10 P) (.node (o18 P) (.node (o34 P) (.node (o66 P) (.node (o130 P) .nil .nil) .nil) (.node (o98 P) .nil .nil)) (.node (o50 P) (.node (o82 P) .nil .nil) (.node (o114 P) .nil .nil))) (.node (o26 P) (.node (o42 P) (.node (o74 P) (.node (o138 P) .nil .nil) .nil) (.node (o106 P) .nil .nil)) (.node (o58 P) (.node (o90 P) .nil .nil) (.node (o122 P) .nil .nil)))) (.node (o14 P) (.node (o22 P) (.node (o38 P) (.node (o70 P) (.node (o134 P) .nil .nil) .nil) (.node (o102 P) .nil .nil)) (.node (o54 P) (.node (o86 P) .nil .nil) (.node (o118 P) .nil .nil))) (.node (o30 P) (.node (o46 P) (.node (o78 P) .nil .nil) (.node (o110 P) .nil .nil)) (.node (o62 P) (.node (o94 P) .nil .nil) (.node (o126 P) .nil .nil)))))))
def s2 (w : World) (os : OsState) : SharedT := ⟨t2 w.params, 139, (boot_heap w.params).life, ⟨[]⟩, ⟨0, 0, 0, 0⟩, 381, os⟩
def pos2 : Pos := ⟨23, 0, 65, 54⟩
def g2 : List Stmt := (tops.drop 3).take 1
def n2 : Nat := 1047
noncomputable def o3v2 (P : Params) : Obj := ⟨(.type "dict"), none, (.dict ([⟨PyData.keyHash P (.ofString "__name__"), (.str (.ofString "__name__") 165), (.str (.ofString "cpy313.difflib") 194)⟩, ⟨PyData.keyHash P (.ofString "__doc__"), (.str (.ofString "__doc__") 166), .none⟩, ⟨PyData.keyHash P (.ofString "__package__"), (.str (.ofString "__package__") 167), .none⟩, ⟨PyData.keyHash P (.ofString "__loader__"), (.str (.ofString "__loader__") 168), (.builtin "__main__.__loader__#opaque")⟩, ⟨PyData.keyHash P (.ofString "__spec__"), (.str (.ofString "__spec__") 169), .none⟩, ⟨PyData.keyHash P (.ofString "__annotations__"), (.str (.ofString "__annotations__") 170), (.ref 6)⟩, ⟨PyData.keyHash P (.ofString "__builtins__"), (.str (.ofString "__builtins__") 171), (.ref 4)⟩, ⟨PyData.keyHash P (.ofString "__file__"), (.str (.ofString "__file__") 173), (.str (.ofString "/claim/cut.py") 172)⟩, ⟨PyData.keyHash P (.ofString "__cached__"), (.str (.ofString "__cached__") 174), .none⟩, ⟨PyData.keyHash P (.ofString "_wall"), (.str (.ofString "_wall") 193), (.ref 21)⟩, ⟨PyData.keyHash P (.ofString "_tuplegetter"), (.str (.ofString "_tuplegetter") 252), (.ref 60)⟩, ⟨PyData.keyHash P (.ofString "Match"), (.str (.ofString "Match") 380), (.ref 135)⟩, ⟨PyData.keyHash P (.ofString "_calculate_ratio"), (.str (.ofString "_calculate_ratio") 388), (.ref 145)⟩, ⟨PyData.keyHash P (.ofString "SequenceMatcher"), (.str (.ofString "SequenceMatcher") 574), (.ref 242)⟩] : List DictEntry).toArray 14), ([] : List (Option Value)).toArray⟩
noncomputable def o12v3 (P : Params) : Obj := ⟨.none, none, (.fields ([(.int 1 0), (.int 0 0), (.ref 20), (.int 5 0), (.int 0 0), (.ref 27), (.int 23 0), (.int 0 0), (.ref 71), (.int 66 0), (.int 0 0), (.ref 144), (.int 70 0), (.int 0 0), (.ref 151)] : List Value).toArray), ([] : List (Option Value)).toArray⟩
noncomputable def o139 (P : Params) : Obj := ⟨(.type "tuple"), none, (.seq ([] : List Value).toArray 0), ([] : List (Option Value)).toArray⟩
noncomputable def o140 (P : Params) : Obj := ⟨.none, none, (.fields ([] : List Value).toArray), ([] : List (Option Value)).toArray⟩
noncomputable def o141 (P : Params) : Obj := ⟨(.type "tuple"), none, (.seq ([(.str (.ofString "matches") 384), (.str (.ofString "length") 385)] : List Value).toArray 0), ([] : List (Option Value)).toArray⟩
noncomputable def o142 (P : Params) : Obj := ⟨(.type "tuple"), none, (.seq ([] : List Value).toArray 0), ([] : List (Option Value)).toArray⟩
noncomputable def o143 (P : Params) : Obj := ⟨.none, none, (.func ⟨(.ofString "_calculate_ratio"), (.ofString "_calculate_ratio"), fPar (sAt tops 4), .stmts (fBod (sAt tops 4)), fSco (sAt tops 4), 0, [], .none, .none, .none, .none, none, .none, .none, 0⟩), ([] : List (Option Value)).toArray⟩
noncomputable def o144 (P : Params) : Obj := ⟨(.type "code"), none, (.fields ([(.str (.ofString "_calculate_ratio") 381), (.str (.ofString "_calculate_ratio") 382), (.str (.ofString "/claim/cut.py") 383), (.int 66 0), (.int 2 0), (.int 0 0), (.int 0 0), (.int 3 0), (.ref 139), (.bool true), (.int 181 0), (.ref 140), .none, (.ref 141), (.ref 142), (.ref 143), (.int 386 0), (.int 66 0), (.str (.ofString "/claim/cut.py") 387)] : List Value).toArray), ([] : List (Option Value)).toArray⟩
noncomputable def o145 (P : Params) : Obj := ⟨(.type "function"), none, (.func ⟨(.ofString "_calculate_ratio"), (.ofString "_calculate_ratio"), fPar (sAt tops 4), .stmts (fBod (sAt tops 4)), fSco (sAt tops 4), 3, [], .none, .none, .none, (.str (.ofString "cpy313.difflib") 194), none, (.ref 144), .none, 0⟩), ([] : List (Option Value)).toArray⟩
noncomputable def o146 (P : Params) : Obj := ⟨(.type "tuple"), none, (.seq ([] : List Value).toArray 0), ([] : List (Option Value)).toArray⟩
noncomputable def o147 (P : Params) : Obj := ⟨(.type "builtin_function_or_method"), none, (.fields ([(.builtin "type.__prepare__"), (.type "type")] : List Value).toArray), ([] : List (Option Value)).toArray⟩
noncomputable def o148 (P : Params) : Obj := ⟨(.type "dict"), none, (.dict ([⟨PyData.keyHash P (.ofString "__module__"), (.str (.ofString "__module__") 396), (.str (.ofString "cpy313.difflib") 194)⟩, ⟨PyData.keyHash P (.ofString "__qualname__"), (.str (.ofString "__qualname__") 398), (.str (.ofString "SequenceMatcher") 397)⟩, ⟨PyData.keyHash P (.ofString "__firstlineno__"), (.str (.ofString "__firstlineno__") 400), (.int 70 399)⟩, ⟨PyData.keyHash P (.ofString "__doc__"), (.str (.ofString "__doc__") 402), (.str docT 401)⟩, ⟨PyData.keyHash P (.ofString "__init__"), (.str (.ofString "__init__") 417), (.ref 160)⟩, ⟨PyData.keyHash P (.ofString "set_seqs"), (.str (.ofString "set_seqs") 427), (.ref 167)⟩, ⟨PyData.keyHash P (.ofString "set_seq1"), (.str (.ofString "set_seq1") 436), (.ref 174)⟩, ⟨PyData.keyHash P (.ofString "set_seq2"), (.str (.ofString "set_seq2") 445), (.ref 181)⟩, ⟨PyData.keyHash P (.ofString "_SequenceMatcher__chain_b"), (.str (.ofString "_SequenceMatcher__chain_b") 463), (.ref 188)⟩, ⟨PyData.keyHash P (.ofString "find_longest_match"), (.str (.ofString "find_longest_match") 491), (.ref 196)⟩, ⟨PyData.keyHash P (.ofString "get_matching_blocks"), (.str (.ofString "get_matching_blocks") 518), (.ref 203)⟩, ⟨PyData.keyHash P (.ofString "get_opcodes"), (.str (.ofString "get_opcodes") 525), (.ref 210)⟩, ⟨PyData.keyHash P (.ofString "get_grouped_opcodes"), (.str (.ofString "get_grouped_opcodes") 534), (.ref 218)⟩, ⟨PyData.keyHash P (.ofString "ratio"), (.str (.ofString "ratio") 543), (.ref 225)⟩, ⟨PyData.keyHash P (.ofString "quick_ratio"), (.str (.ofString "quick_ratio") 550), (.ref 232)⟩, ⟨PyData.keyHash P (.ofString "real_quick_ratio"), (.str (.ofString "real_quick_ratio") 557), (.ref 239)⟩, ⟨PyData.keyHash P (.ofString "__static_attributes__"), (.str (.ofString "__static_attributes__") 568), (.ref 240)⟩] : List DictEntry).toArray 17), ([] : List (Option Value)).toArray⟩
noncomputable def o149 (P : Params) : Obj := ⟨(.type "tuple"), none, (.seq ([] : List Value).toArray 0), ([] : List (Option Value)).toArray⟩
noncomputable def o150 (P : Params) : Obj := ⟨.none, none, (.fields ([(.int 145 0), (.int 4 0), (.ref 159), (.int 173 0), (.int 4 0), (.ref 166), (.int 184 0), (.int 4 0), (.ref 173), (.int 209 0), (.int 4 0), (.ref 180), (.int 236 0), (.int 4 0), (.ref 187), (.int 260 0), (.int 4 0), (.ref 195), (.int 335 0), (.int 4 0), (.ref 202), (.int 383 0), (.int 4 0), (.ref 209), (.int 386 0), (.int 4 0), (.ref 217), (.int 389 0), (.int 4 0), (.ref 224), (.int 413 0), (.int 4 0), (.ref 231), (.int 416 0), (.int 4 0), (.ref 238)] : List Value).toArray), ([] : List (Option Value)).toArray⟩
noncomputable def o151 (P : Params) : Obj := ⟨(.type "code"), none, (.fields ([(.str (.ofString "SequenceMatcher") 391), (.str (.ofString "SequenceMatcher") 392), (.str (.ofString "/claim/cut.py") 393), (.int 70 0), (.int 0 0), (.int 0 0), (.int 0 0), (.int 0 0), (.ref 149), (.bool false), (.int 181 0), (.ref 150), .none, .none, .none, .none, (.int 394 0), (.int 70 0), (.str (.ofString "/claim/cut.py") 395)] : List Value).toArray), ([] : List (Option Value)).toArray⟩
noncomputable def o152 (P : Params) : Obj := ⟨(.type "frame"), none, .plain, ([(some (.ref 151)), (some (.ref 3)), (some (.ref 148)), none, (some (.str (.ofString "cpy313.difflib") 194)), none, (some (.ref 0))] : List (Option Value)).toArray⟩
noncomputable def o153 (P : Params) : Obj := ⟨(.type "tuple"), none, (.seq ([.none, (.str (.ofString "") 404), (.str (.ofString "") 405), (.bool true)] : List Value).toArray 0), ([] : List (Option Value)).toArray⟩
noncomputable def o154 (P : Params) : Obj := ⟨(.type "tuple"), none, (.seq ([] : List Value).toArray 0), ([] : List (Option Value)).toArray⟩
noncomputable def o155 (P : Params) : Obj := ⟨.none, none, (.fields ([] : List Value).toArray), ([] : List (Option Value)).toArray⟩
noncomputable def o156 (P : Params) : Obj := ⟨(.type "tuple"), none, (.seq ([(.str (.ofString "self") 409), (.str (.ofString "isjunk") 410), (.str (.ofString "a") 411), (.str (.ofString "b") 412), (.str (.ofString "autojunk") 413)] : List Value).toArray 0), ([] : List (Option Value)).toArray⟩
noncomputable def o157 (P : Params) : Obj := ⟨(.type "tuple"), none, (.seq ([] : List Value).toArray 0), ([] : List (Option Value)).toArray⟩
noncomputable def o158 (P : Params) : Obj := ⟨.none, none, (.func ⟨(.ofString "__init__"), (.ofString "SequenceMatcher.__init__"), fPar (sAt (cBod (sAt tops 5)) 1), .stmts (fBod (sAt (cBod (sAt tops 5)) 1)), fSco (sAt (cBod (sAt tops 5)) 1), 0, [], .none, .none, .none, .none, none, .none, .none, 0⟩), ([] : List (Option Value)).toArray⟩
noncomputable def o159 (P : Params) : Obj := ⟨(.type "code"), none, (.fields ([(.str (.ofString "__init__") 406), (.str (.ofString "SequenceMatcher.__init__") 407), (.str (.ofString "/claim/cut.py") 408), (.int 145 0), (.int 5 0), (.int 0 0), (.int 0 0), (.int 3 0), (.ref 154), (.bool true), (.int 181 0), (.ref 155), .none, (.ref 156), (.ref 157), (.ref 158), (.int 414 0), (.int 145 0), (.str (.ofString "/claim/cut.py") 415)] : List Value).toArray), ([] : List (Option Value)).toArray⟩
noncomputable def o160 (P : Params) : Obj := ⟨(.type "function"), none, (.func ⟨(.ofString "__init__"), (.ofString "SequenceMatcher.__init__"), fPar (sAt (cBod (sAt tops 5)) 1), .stmts (fBod (sAt (cBod (sAt tops 5)) 1)), fSco (sAt (cBod (sAt tops 5)) 1), 3, [], (.ref 153), .none, (.str (dOf (sAt (cBod (sAt tops 5)) 1)) 416), (.str (.ofString "cpy313.difflib") 194), none, (.ref 159), .none, 0⟩), ([] : List (Option Value)).toArray⟩
noncomputable def o161 (P : Params) : Obj := ⟨(.type "tuple"), none, (.seq ([] : List Value).toArray 0), ([] : List (Option Value)).toArray⟩
noncomputable def o162 (P : Params) : Obj := ⟨.none, none, (.fields ([] : List Value).toArray), ([] : List (Option Value)).toArray⟩
noncomputable def o163 (P : Params) : Obj := ⟨(.type "tuple"), none, (.seq ([(.str (.ofString "self") 421), (.str (.ofString "a") 422), (.str (.ofString "b") 423)] : List Value).toArray 0), ([] : List (Option Value)).toArray⟩
noncomputable def o164 (P : Params) : Obj := ⟨(.type "tuple"), none, (.seq ([] : List Value).toArray 0), ([] : List (Option Value)).toArray⟩
noncomputable def o165 (P : Params) : Obj := ⟨.none, none, (.func ⟨(.ofString "set_seqs"), (.ofString "SequenceMatcher.set_seqs"), fPar (sAt (cBod (sAt tops 5)) 2), .stmts (fBod (sAt (cBod (sAt tops 5)) 2)), fSco (sAt (cBod (sAt tops 5)) 2), 0, [], .none, .none, .none, .none, none, .none, .none, 0⟩), ([] : List (Option Value)).toArray⟩
noncomputable def o166 (P : Params) : Obj := ⟨(.type "code"), none, (.fields ([(.str (.ofString "set_seqs") 418), (.str (.ofString "SequenceMatcher.set_seqs") 419), (.str (.ofString "/claim/cut.py") 420), (.int 173 0), (.int 3 0), (.int 0 0), (.int 0 0), (.int 3 0), (.ref 161), (.bool true), (.int 181 0), (.ref 162), .none, (.ref 163), (.ref 164), (.ref 165), (.int 424 0), (.int 173 0), (.str (.ofString "/claim/cut.py") 425)] : List Value).toArray), ([] : List (Option Value)).toArray⟩
noncomputable def o167 (P : Params) : Obj := ⟨(.type "function"), none, (.func ⟨(.ofString "set_seqs"), (.ofString "SequenceMatcher.set_seqs"), fPar (sAt (cBod (sAt tops 5)) 2), .stmts (fBod (sAt (cBod (sAt tops 5)) 2)), fSco (sAt (cBod (sAt tops 5)) 2), 3, [], .none, .none, (.str (dOf (sAt (cBod (sAt tops 5)) 2)) 426), (.str (.ofString "cpy313.difflib") 194), none, (.ref 166), .none, 0⟩), ([] : List (Option Value)).toArray⟩
noncomputable def o168 (P : Params) : Obj := ⟨(.type "tuple"), none, (.seq ([] : List Value).toArray 0), ([] : List (Option Value)).toArray⟩
noncomputable def o169 (P : Params) : Obj := ⟨.none, none, (.fields ([] : List Value).toArray), ([] : List (Option Value)).toArray⟩
noncomputable def o170 (P : Params) : Obj := ⟨(.type "tuple"), none, (.seq ([(.str (.ofString "self") 431), (.str (.ofString "a") 432)] : List Value).toArray 0), ([] : List (Option Value)).toArray⟩
noncomputable def o171 (P : Params) : Obj := ⟨(.type "tuple"), none, (.seq ([] : List Value).toArray 0), ([] : List (Option Value)).toArray⟩
noncomputable def o172 (P : Params) : Obj := ⟨.none, none, (.func ⟨(.ofString "set_seq1"), (.ofString "SequenceMatcher.set_seq1"), fPar (sAt (cBod (sAt tops 5)) 3), .stmts (fBod (sAt (cBod (sAt tops 5)) 3)), fSco (sAt (cBod (sAt tops 5)) 3), 0, [], .none, .none, .none, .none, none, .none, .none, 0⟩), ([] : List (Option Value)).toArray⟩
noncomputable def o173 (P : Params) : Obj := ⟨(.type "code"), none, (.fields ([(.str (.ofString "set_seq1") 428), (.str (.ofString "SequenceMatcher.set_seq1") 429), (.str (.ofString "/claim/cut.py") 430), (.int 184 0), (.int 2 0), (.int 0 0), (.int 0 0), (.int 3 0), (.ref 168), (.bool true), (.int 181 0), (.ref 169), .none, (.ref 170), (.ref 171), (.ref 172), (.int 433 0), (.int 184 0), (.str (.ofString "/claim/cut.py") 434)] : List Value).toArray), ([] : List (Option Value)).toArray⟩
noncomputable def o174 (P : Params) : Obj := ⟨(.type "function"), none, (.func ⟨(.ofString "set_seq1"), (.ofString "SequenceMatcher.set_seq1"), fPar (sAt (cBod (sAt tops 5)) 3), .stmts (fBod (sAt (cBod (sAt tops 5)) 3)), fSco (sAt (cBod (sAt tops 5)) 3), 3, [], .none, .none, (.str (dOf (sAt (cBod (sAt tops 5)) 3)) 435), (.str (.ofString "cpy313.difflib") 194), none, (.ref 173), .none, 0⟩), ([] : List (Option Value)).toArray⟩
noncomputable def o175 (P : Params) : Obj := ⟨(.type "tuple"), none, (.seq ([] : List Value).toArray 0), ([] : List (Option Value)).toArray⟩
noncomputable def o176 (P : Params) : Obj := ⟨.none, none, (.fields ([] : List Value).toArray), ([] : List (Option Value)).toArray⟩
noncomputable def o177 (P : Params) : Obj := ⟨(.type "tuple"), none, (.seq ([(.str (.ofString "self") 440), (.str (.ofString "b") 441)] : List Value).toArray 0), ([] : List (Option Value)).toArray⟩
noncomputable def o178 (P : Params) : Obj := ⟨(.type "tuple"), none, (.seq ([] : List Value).toArray 0), ([] : List (Option Value)).toArray⟩
noncomputable def o179 (P : Params) : Obj := ⟨.none, none, (.func ⟨(.ofString "set_seq2"), (.ofString "SequenceMatcher.set_seq2"), fPar (sAt (cBod (sAt tops 5)) 4), .stmts (fBod (sAt (cBod (sAt tops 5)) 4)), fSco (sAt (cBod (sAt tops 5)) 4), 0, [], .none, .none, .none, .none, none, .none, .none, 0⟩), ([] : List (Option Value)).toArray⟩
noncomputable def o180 (P : Params) : Obj := ⟨(.type "code"), none, (.fields ([(.str (.ofString "set_seq2") 437), (.str (.ofString "SequenceMatcher.set_seq2") 438), (.str (.ofString "/claim/cut.py") 439), (.int 209 0), (.int 2 0), (.int 0 0), (.int 0 0), (.int 3 0), (.ref 175), (.bool true), (.int 181 0), (.ref 176), .none, (.ref 177), (.ref 178), (.ref 179), (.int 442 0), (.int 209 0), (.str (.ofString "/claim/cut.py") 443)] : List Value).toArray), ([] : List (Option Value)).toArray⟩
noncomputable def o181 (P : Params) : Obj := ⟨(.type "function"), none, (.func ⟨(.ofString "set_seq2"), (.ofString "SequenceMatcher.set_seq2"), fPar (sAt (cBod (sAt tops 5)) 4), .stmts (fBod (sAt (cBod (sAt tops 5)) 4)), fSco (sAt (cBod (sAt tops 5)) 4), 3, [], .none, .none, (.str (dOf (sAt (cBod (sAt tops 5)) 4)) 444), (.str (.ofString "cpy313.difflib") 194), none, (.ref 180), .none, 0⟩), ([] : List (Option Value)).toArray⟩
noncomputable def o182 (P : Params) : Obj := ⟨(.type "tuple"), none, (.seq ([] : List Value).toArray 0), ([] : List (Option Value)).toArray⟩
noncomputable def o183 (P : Params) : Obj := ⟨.none, none, (.fields ([] : List Value).toArray), ([] : List (Option Value)).toArray⟩
noncomputable def o184 (P : Params) : Obj := ⟨(.type "tuple"), none, (.seq ([(.str (.ofString "self") 449), (.str (.ofString "b") 450), (.str (.ofString "b2j") 451), (.str (.ofString "i") 452), (.str (.ofString "elt") 453), (.str (.ofString "indices") 454), (.str (.ofString "junk") 455), (.str (.ofString "isjunk") 456), (.str (.ofString "popular") 457), (.str (.ofString "n") 458), (.str (.ofString "ntest") 459), (.str (.ofString "idxs") 460)] : List Value).toArray 0), ([] : List (Option Value)).toArray⟩
noncomputable def o185 (P : Params) : Obj := ⟨(.type "tuple"), none, (.seq ([] : List Value).toArray 0), ([] : List (Option Value)).toArray⟩
noncomputable def o186 (P : Params) : Obj := ⟨.none, none, (.func ⟨(.ofString "__chain_b"), (.ofString "SequenceMatcher.__chain_b"), fPar (sAt (cBod (sAt tops 5)) 5), .stmts (fBod (sAt (cBod (sAt tops 5)) 5)), fSco (sAt (cBod (sAt tops 5)) 5), 0, [], .none, .none, .none, .none, none, .none, .none, 0⟩), ([] : List (Option Value)).toArray⟩
noncomputable def o187 (P : Params) : Obj := ⟨(.type "code"), none, (.fields ([(.str (.ofString "__chain_b") 446), (.str (.ofString "SequenceMatcher.__chain_b") 447), (.str (.ofString "/claim/cut.py") 448), (.int 236 0), (.int 1 0), (.int 0 0), (.int 0 0), (.int 3 0), (.ref 182), (.bool true), (.int 181 0), (.ref 183), .none, (.ref 184), (.ref 185), (.ref 186), (.int 461 0), (.int 236 0), (.str (.ofString "/claim/cut.py") 462)] : List Value).toArray), ([] : List (Option Value)).toArray⟩
noncomputable def o188 (P : Params) : Obj := ⟨(.type "function"), none, (.func ⟨(.ofString "__chain_b"), (.ofString "SequenceMatcher.__chain_b"), fPar (sAt (cBod (sAt tops 5)) 5), .stmts (fBod (sAt (cBod (sAt tops 5)) 5)), fSco (sAt (cBod (sAt tops 5)) 5), 3, [], .none, .none, .none, (.str (.ofString "cpy313.difflib") 194), none, (.ref 187), .none, 0⟩), ([] : List (Option Value)).toArray⟩
noncomputable def o189 (P : Params) : Obj := ⟨(.type "tuple"), none, (.seq ([(.int 0 464), .none, (.int 0 465), .none] : List Value).toArray 0), ([] : List (Option Value)).toArray⟩
noncomputable def o190 (P : Params) : Obj := ⟨(.type "tuple"), none, (.seq ([] : List Value).toArray 0), ([] : List (Option Value)).toArray⟩
noncomputable def o191 (P : Params) : Obj := ⟨.none, none, (.fields ([] : List Value).toArray), ([] : List (Option Value)).toArray⟩
noncomputable def o192 (P : Params) : Obj := ⟨(.type "tuple"), none, (.seq ([(.str (.ofString "self") 469), (.str (.ofString "alo") 470), (.str (.ofString "ahi") 471), (.str (.ofString "blo") 472), (.str (.ofString "bhi") 473), (.str (.ofString "a") 474), (.str (.ofString "b") 475), (.str (.ofString "b2j") 476), (.str (.ofString "isbjunk") 477), (.str (.ofString "besti") 478), (.str (.ofString "bestj") 479), (.str (.ofString "bestsize") 480), (.str (.ofString "j2len") 481), (.str (.ofString "nothing") 482), (.str (.ofString "i") 483), (.str (.ofString "j2lenget") 484), (.str (.ofString "newj2len") 485), (.str (.ofString "j") 486), (.str (.ofString "k") 487)] : List Value).toArray 0), ([] : List (Option Value)).toArray⟩
noncomputable def o193 (P : Params) : Obj := ⟨(.type "tuple"), none, (.seq ([] : List Value).toArray 0), ([] : List (Option Value)).toArray⟩
noncomputable def o194 (P : Params) : Obj := ⟨.none, none, (.func ⟨(.ofString "find_longest_match"), (.ofString "SequenceMatcher.find_longest_match"), fPar (sAt (cBod (sAt tops 5)) 6), .stmts (fBod (sAt (cBod (sAt tops 5)) 6)), fSco (sAt (cBod (sAt tops 5)) 6), 0, [], .none, .none, .none, .none, none, .none, .none, 0⟩), ([] : List (Option Value)).toArray⟩
noncomputable def o195 (P : Params) : Obj := ⟨(.type "code"), none, (.fields ([(.str (.ofString "find_longest_match") 466), (.str (.ofString "SequenceMatcher.find_longest_match") 467), (.str (.ofString "/claim/cut.py") 468), (.int 260 0), (.int 5 0), (.int 0 0), (.int 0 0), (.int 3 0), (.ref 190), (.bool true), (.int 181 0), (.ref 191), .none, (.ref 192), (.ref 193), (.ref 194), (.int 488 0), (.int 260 0), (.str (.ofString "/claim/cut.py") 489)] : List Value).toArray), ([] : List (Option Value)).toArray⟩
noncomputable def o196 (P : Params) : Obj := ⟨(.type "function"), none, (.func ⟨(.ofString "find_longest_match"), (.ofString "SequenceMatcher.find_longest_match"), fPar (sAt (cBod (sAt tops 5)) 6), .stmts (fBod (sAt (cBod (sAt tops 5)) 6)), fSco (sAt (cBod (sAt tops 5)) 6), 3, [], (.ref 189), .none, (.str (dOf (sAt (cBod (sAt tops 5)) 6)) 490), (.str (.ofString "cpy313.difflib") 194), none, (.ref 195), .none, 0⟩), ([] : List (Option Value)).toArray⟩
noncomputable def o197 (P : Params) : Obj := ⟨(.type "tuple"), none, (.seq ([] : List Value).toArray 0), ([] : List (Option Value)).toArray⟩
noncomputable def o198 (P : Params) : Obj := ⟨.none, none, (.fields ([] : List Value).toArray), ([] : List (Option Value)).toArray⟩
noncomputable def o199 (P : Params) : Obj := ⟨(.type "tuple"), none, (.seq ([(.str (.ofString "self") 495), (.str (.ofString "la") 496), (.str (.ofString "lb") 497), (.str (.ofString "queue") 498), (.str (.ofString "matching_blocks") 499), (.str (.ofString "alo") 500), (.str (.ofString "ahi") 501), (.str (.ofString "blo") 502), (.str (.ofString "bhi") 503), (.str (.ofString "i") 504), (.str (.ofString "j") 505), (.str (.ofString "k") 506), (.str (.ofString "x") 507), (.str (.ofString "i1") 508), (.str (.ofString "j1") 509), (.str (.ofString "k1") 510), (.str (.ofString "non_adjacent") 511), (.str (.ofString "i2") 512), (.str (.ofString "j2") 513), (.str (.ofString "k2") 514)] : List Value).toArray 0), ([] : List (Option Value)).toArray⟩
noncomputable def o200 (P : Params) : Obj := ⟨(.type "tuple"), none, (.seq ([] : List Value).toArray 0), ([] : List (Option Value)).toArray⟩
noncomputable def o201 (P : Params) : Obj := ⟨.none, none, (.func ⟨(.ofString "get_matching_blocks"), (.ofString "SequenceMatcher.get_matching_blocks"), fPar (sAt (cBod (sAt tops 5)) 7), .stmts (fBod (sAt (cBod (sAt tops 5)) 7)), fSco (sAt (cBod (sAt tops 5)) 7), 0, [], .none, .none, .none, .none, none, .none, .none, 0⟩), ([] : List (Option Value)).toArray⟩
noncomputable def o202 (P : Params) : Obj := ⟨(.type "code"), none, (.fields ([(.str (.ofString "get_matching_blocks") 492), (.str (.ofString "SequenceMatcher.get_matching_blocks") 493), (.str (.ofString "/claim/cut.py") 494), (.int 335 0), (.int 1 0), (.int 0 0), (.int 0 0), (.int 3 0), (.ref 197), (.bool true), (.int 181 0), (.ref 198), .none, (.ref 199), (.ref 200), (.ref 201), (.int 515 0), (.int 335 0), (.str (.ofString "/claim/cut.py") 516)] : List Value).toArray), ([] : List (Option Value)).toArray⟩
noncomputable def o203 (P : Params) : Obj := ⟨(.type "function"), none, (.func ⟨(.ofString "get_matching_blocks"), (.ofString "SequenceMatcher.get_matching_blocks"), fPar (sAt (cBod (sAt tops 5)) 7), .stmts (fBod (sAt (cBod (sAt tops 5)) 7)), fSco (sAt (cBod (sAt tops 5)) 7), 3, [], .none, .none, (.str (dOf (sAt (cBod (sAt tops 5)) 7)) 517), (.str (.ofString "cpy313.difflib") 194), none, (.ref 202), .none, 0⟩), ([] : List (Option Value)).toArray⟩
noncomputable def o204 (P : Params) : Obj := ⟨(.type "tuple"), none, (.seq ([] : List Value).toArray 0), ([] : List (Option Value)).toArray⟩
noncomputable def o205 (P : Params) : Obj := ⟨.none, none, (.fields ([] : List Value).toArray), ([] : List (Option Value)).toArray⟩
noncomputable def o206 (P : Params) : Obj := ⟨(.type "tuple"), none, (.seq ([(.str (.ofString "self") 522)] : List Value).toArray 0), ([] : List (Option Value)).toArray⟩
noncomputable def o207 (P : Params) : Obj := ⟨(.type "tuple"), none, (.seq ([] : List Value).toArray 0), ([] : List (Option Value)).toArray⟩
noncomputable def o208 (P : Params) : Obj := ⟨.none, none, (.func ⟨(.ofString "get_opcodes"), (.ofString "SequenceMatcher.get_opcodes"), fPar (sAt (cBod (sAt tops 5)) 8), .stmts (fBod (sAt (cBod (sAt tops 5)) 8)), fSco (sAt (cBod (sAt tops 5)) 8), 0, [], .none, .none, .none, .none, none, .none, .none, 0⟩), ([] : List (Option Value)).toArray⟩
noncomputable def o209 (P : Params) : Obj := ⟨(.type "code"), none, (.fields ([(.str (.ofString "get_opcodes") 519), (.str (.ofString "SequenceMatcher.get_opcodes") 520), (.str (.ofString "/claim/cut.py") 521), (.int 383 0), (.int 1 0), (.int 0 0), (.int 0 0), (.int 3 0), (.ref 204), (.bool true), (.int 181 0), (.ref 205), .none, (.ref 206), (.ref 207), (.ref 208), (.int 523 0), (.int 383 0), (.str (.ofString "/claim/cut.py") 524)] : List Value).toArray), ([] : List (Option Value)).toArray⟩
noncomputable def o210 (P : Params) : Obj := ⟨(.type "function"), none, (.func ⟨(.ofString "get_opcodes"), (.ofString "SequenceMatcher.get_opcodes"), fPar (sAt (cBod (sAt tops 5)) 8), .stmts (fBod (sAt (cBod (sAt tops 5)) 8)), fSco (sAt (cBod (sAt tops 5)) 8), 3, [], .none, .none, .none, (.str (.ofString "cpy313.difflib") 194), none, (.ref 209), .none, 0⟩), ([] : List (Option Value)).toArray⟩
noncomputable def o211 (P : Params) : Obj := ⟨(.type "tuple"), none, (.seq ([(.int 3 526)] : List Value).toArray 0), ([] : List (Option Value)).toArray⟩
noncomputable def o212 (P : Params) : Obj := ⟨(.type "tuple"), none, (.seq ([] : List Value).toArray 0), ([] : List (Option Value)).toArray⟩
noncomputable def o213 (P : Params) : Obj := ⟨.none, none, (.fields ([] : List Value).toArray), ([] : List (Option Value)).toArray⟩
noncomputable def o214 (P : Params) : Obj := ⟨(.type "tuple"), none, (.seq ([(.str (.ofString "self") 530), (.str (.ofString "n") 531)] : List Value).toArray 0), ([] : List (Option Value)).toArray⟩
noncomputable def o215 (P : Params) : Obj := ⟨(.type "tuple"), none, (.seq ([] : List Value).toArray 0), ([] : List (Option Value)).toArray⟩
noncomputable def o216 (P : Params) : Obj := ⟨.none, none, (.func ⟨(.ofString "get_grouped_opcodes"), (.ofString "SequenceMatcher.get_grouped_opcodes"), fPar (sAt (cBod (sAt tops 5)) 9), .stmts (fBod (sAt (cBod (sAt tops 5)) 9)), fSco (sAt (cBod (sAt tops 5)) 9), 0, [], .none, .none, .none, .none, none, .none, .none, 0⟩), ([] : List (Option Value)).toArray⟩
noncomputable def o217 (P : Params) : Obj := ⟨(.type "code"), none, (.fields ([(.str (.ofString "get_grouped_opcodes") 527), (.str (.ofString "SequenceMatcher.get_grouped_opcodes") 528), (.str (.ofString "/claim/cut.py") 529), (.int 386 0), (.int 2 0), (.int 0 0), (.int 0 0), (.int 3 0), (.ref 212), (.bool true), (.int 181 0), (.ref 213), .none, (.ref 214), (.ref 215), (.ref 216), (.int 532 0), (.int 386 0), (.str (.ofString "/claim/cut.py") 533)] : List Value).toArray), ([] : List (Option Value)).toArray⟩
noncomputable def o218 (P : Params) : Obj := ⟨(.type "function"), none, (.func ⟨(.ofString "get_grouped_opcodes"), (.ofString "SequenceMatcher.get_grouped_opcodes"), fPar (sAt (cBod (sAt tops 5)) 9), .stmts (fBod (sAt (cBod (sAt tops 5)) 9)), fSco (sAt (cBod (sAt tops 5)) 9), 3, [], (.ref 211), .none, .none, (.str (.ofString "cpy313.difflib") 194), none, (.ref 217), .none, 0⟩), ([] : List (Option Value)).toArray⟩
noncomputable def o219 (P : Params) : Obj := ⟨(.type "tuple"), none, (.seq ([] : List Value).toArray 0), ([] : List (Option Value)).toArray⟩
noncomputable def o220 (P : Params) : Obj := ⟨.none, none, (.fields ([] : List Value).toArray), ([] : List (Option Value)).toArray⟩
noncomputable def o221 (P : Params) : Obj := ⟨(.type "tuple"), none, (.seq ([(.str (.ofString "self") 538), (.str (.ofString "matches") 539)] : List Value).toArray 0), ([] : List (Option Value)).toArray⟩
noncomputable def o222 (P : Params) : Obj := ⟨(.type "tuple"), none, (.seq ([] : List Value).toArray 0), ([] : List (Option Value)).toArray⟩
noncomputable def o223 (P : Params) : Obj := ⟨.none, none, (.func ⟨(.ofString "ratio"), (.ofString "SequenceMatcher.ratio"), fPar (sAt (cBod (sAt tops 5)) 10), .stmts (fBod (sAt (cBod (sAt tops 5)) 10)), fSco (sAt (cBod (sAt tops 5)) 10), 0, [], .none, .none, .none, .none, none, .none, .none, 0⟩), ([] : List (Option Value)).toArray⟩
noncomputable def o224 (P : Params) : Obj := ⟨(.type "code"), none, (.fields ([(.str (.ofString "ratio") 535), (.str (.ofString "SequenceMatcher.ratio") 536), (.str (.ofString "/claim/cut.py") 537), (.int 389 0), (.int 1 0), (.int 0 0), (.int 0 0), (.int 3 0), (.ref 219), (.bool true), (.int 181 0), (.ref 220), .none, (.ref 221), (.ref 222), (.ref 223), (.int 540 0), (.int 389 0), (.str (.ofString "/claim/cut.py") 541)] : List Value).toArray), ([] : List (Option Value)).toArray⟩
noncomputable def o225 (P : Params) : Obj := ⟨(.type "function"), none, (.func ⟨(.ofString "ratio"), (.ofString "SequenceMatcher.ratio"), fPar (sAt (cBod (sAt tops 5)) 10), .stmts (fBod (sAt (cBod (sAt tops 5)) 10)), fSco (sAt (cBod (sAt tops 5)) 10), 3, [], .none, .none, (.str (dOf (sAt (cBod (sAt tops 5)) 10)) 542), (.str (.ofString "cpy313.difflib") 194), none, (.ref 224), .none, 0⟩), ([] : List (Option Value)).toArray⟩
noncomputable def o226 (P : Params) : Obj := ⟨(.type "tuple"), none, (.seq ([] : List Value).toArray 0), ([] : List (Option Value)).toArray⟩
noncomputable def o227 (P : Params) : Obj := ⟨.none, none, (.fields ([] : List Value).toArray), ([] : List (Option Value)).toArray⟩
noncomputable def o228 (P : Params) : Obj := ⟨(.type "tuple"), none, (.seq ([(.str (.ofString "self") 547)] : List Value).toArray 0), ([] : List (Option Value)).toArray⟩
noncomputable def o229 (P : Params) : Obj := ⟨(.type "tuple"), none, (.seq ([] : List Value).toArray 0), ([] : List (Option Value)).toArray⟩
noncomputable def o230 (P : Params) : Obj := ⟨.none, none, (.func ⟨(.ofString "quick_ratio"), (.ofString "SequenceMatcher.quick_ratio"), fPar (sAt (cBod (sAt tops 5)) 11), .stmts (fBod (sAt (cBod (sAt tops 5)) 11)), fSco (sAt (cBod (sAt tops 5)) 11), 0, [], .none, .none, .none, .none, none, .none, .none, 0⟩), ([] : List (Option Value)).toArray⟩
noncomputable def o231 (P : Params) : Obj := ⟨(.type "code"), none, (.fields ([(.str (.ofString "quick_ratio") 544), (.str (.ofString "SequenceMatcher.quick_ratio") 545), (.str (.ofString "/claim/cut.py") 546), (.int 413 0), (.int 1 0), (.int 0 0), (.int 0 0), (.int 3 0), (.ref 226), (.bool true), (.int 181 0), (.ref 227), .none, (.ref 228), (.ref 229), (.ref 230), (.int 548 0), (.int 413 0), (.str (.ofString "/claim/cut.py") 549)] : List Value).toArray), ([] : List (Option Value)).toArray⟩
noncomputable def o232 (P : Params) : Obj := ⟨(.type "function"), none, (.func ⟨(.ofString "quick_ratio"), (.ofString "SequenceMatcher.quick_ratio"), fPar (sAt (cBod (sAt tops 5)) 11), .stmts (fBod (sAt (cBod (sAt tops 5)) 11)), fSco (sAt (cBod (sAt tops 5)) 11), 3, [], .none, .none, .none, (.str (.ofString "cpy313.difflib") 194), none, (.ref 231), .none, 0⟩), ([] : List (Option Value)).toArray⟩
noncomputable def o233 (P : Params) : Obj := ⟨(.type "tuple"), none, (.seq ([] : List Value).toArray 0), ([] : List (Option Value)).toArray⟩
noncomputable def o234 (P : Params) : Obj := ⟨.none, none, (.fields ([] : List Value).toArray), ([] : List (Option Value)).toArray⟩
noncomputable def o235 (P : Params) : Obj := ⟨(.type "tuple"), none, (.seq ([(.str (.ofString "self") 554)] : List Value).toArray 0), ([] : List (Option Value)).toArray⟩
noncomputable def o236 (P : Params) : Obj := ⟨(.type "tuple"), none, (.seq ([] : List Value).toArray 0), ([] : List (Option Value)).toArray⟩
noncomputable def o237 (P : Params) : Obj := ⟨.none, none, (.func ⟨(.ofString "real_quick_ratio"), (.ofString "SequenceMatcher.real_quick_ratio"), fPar (sAt (cBod (sAt tops 5)) 12), .stmts (fBod (sAt (cBod (sAt tops 5)) 12)), fSco (sAt (cBod (sAt tops 5)) 12), 0, [], .none, .none, .none, .none, none, .none, .none, 0⟩), ([] : List (Option Value)).toArray⟩
noncomputable def o238 (P : Params) : Obj := ⟨(.type "code"), none, (.fields ([(.str (.ofString "real_quick_ratio") 551), (.str (.ofString "SequenceMatcher.real_quick_ratio") 552), (.str (.ofString "/claim/cut.py") 553), (.int 416 0), (.int 1 0), (.int 0 0), (.int 0 0), (.int 3 0), (.ref 233), (.bool true), (.int 181 0), (.ref 234), .none, (.ref 235), (.ref 236), (.ref 237), (.int 555 0), (.int 416 0), (.str (.ofString "/claim/cut.py") 556)] : List Value).toArray), ([] : List (Option Value)).toArray⟩
noncomputable def o239 (P : Params) : Obj := ⟨(.type "function"), none, (.func ⟨(.ofString "real_quick_ratio"), (.ofString "SequenceMatcher.real_quick_ratio"), fPar (sAt (cBod (sAt tops 5)) 12), .stmts (fBod (sAt (cBod (sAt tops 5)) 12)), fSco (sAt (cBod (sAt tops 5)) 12), 3, [], .none, .none, .none, (.str (.ofString "cpy313.difflib") 194), none, (.ref 238), .none, 0⟩), ([] : List (Option Value)).toArray⟩
noncomputable def o240 (P : Params) : Obj := ⟨(.type "tuple"), none, (.seq ([(.str (.ofString "a") 558), (.str (.ofString "autojunk") 559), (.str (.ofString "b") 560), (.str (.ofString "b2j") 561), (.str (.ofString "bjunk") 562), (.str (.ofString "bpopular") 563), (.str (.ofString "fullbcount") 564), (.str (.ofString "isjunk") 565), (.str (.ofString "matching_blocks") 566), (.str (.ofString "opcodes") 567)] : List Value).toArray 0), ([] : List (Option Value)).toArray⟩
noncomputable def o241 (P : Params) : Obj := ⟨(.type "dict"), none, (.dict ([⟨PyData.keyHash P (.ofString "__module__"), (.str (.ofString "__module__") 396), (.str (.ofString "cpy313.difflib") 194)⟩, ⟨PyData.keyHash P (.ofString "__firstlineno__"), (.str (.ofString "__firstlineno__") 400), (.int 70 399)⟩, ⟨PyData.keyHash P (.ofString "__doc__"), (.str (.ofString "__doc__") 402), (.str docT 401)⟩, ⟨PyData.keyHash P (.ofString "__init__"), (.str (.ofString "__init__") 417), (.ref 160)⟩, ⟨PyData.keyHash P (.ofString "set_seqs"), (.str (.ofString "set_seqs") 427), (.ref 167)⟩, ⟨PyData.keyHash P (.ofString "set_seq1"), (.str (.ofString "set_seq1") 436), (.ref 174)⟩, ⟨PyData.keyHash P (.ofString "set_seq2"), (.str (.ofString "set_seq2") 445), (.ref 181)⟩, ⟨PyData.keyHash P (.ofString "_SequenceMatcher__chain_b"), (.str (.ofString "_SequenceMatcher__chain_b") 463), (.ref 188)⟩, ⟨PyData.keyHash P (.ofString "find_longest_match"), (.str (.ofString "find_longest_match") 491), (.ref 196)⟩, ⟨PyData.keyHash P (.ofString "get_matching_blocks"), (.str (.ofString "get_matching_blocks") 518), (.ref 203)⟩, ⟨PyData.keyHash P (.ofString "get_opcodes"), (.str (.ofString "get_opcodes") 525), (.ref 210)⟩, ⟨PyData.keyHash P (.ofString "get_grouped_opcodes"), (.str (.ofString "get_grouped_opcodes") 534), (.ref 218)⟩, ⟨PyData.keyHash P (.ofString "ratio"), (.str (.ofString "ratio") 543), (.ref 225)⟩, ⟨PyData.keyHash P (.ofString "quick_ratio"), (.str (.ofString "quick_ratio") 550), (.ref 232)⟩, ⟨PyData.keyHash P (.ofString "real_quick_ratio"), (.str (.ofString "real_quick_ratio") 557), (.ref 239)⟩, ⟨PyData.keyHash P (.ofString "__static_attributes__"), (.str (.ofString "__static_attributes__") 568), (.ref 240)⟩, ⟨PyData.keyHash P (.ofString "__dict__"), (.str (.ofString "__dict__") 570), (.ref 243)⟩, ⟨PyData.keyHash P (.ofString "__weakref__"), (.str (.ofString "__weakref__") 572), (.ref 244)⟩] : List DictEntry).toArray 3), ([] : List (Option Value)).toArray⟩
noncomputable def o242 (P : Params) : Obj := ⟨(.type "type"), none, (.cls ⟨(.ofString "SequenceMatcher"), [(.type "object")], [(.ref 242), (.type "object")], 241, (.ofString "SequenceMatcher"), true, [], [], false, none, false⟩), ([none, none, (some (.str (.ofString "SequenceMatcher") 389)), (some (.str (.ofString "SequenceMatcher") 397)), (some (.builtin "object.__new__")), (some (.bool true))] : List (Option Value)).toArray⟩
noncomputable def o243 (P : Params) : Obj := ⟨(.type "getset_descriptor"), none, (.fields ([(.str (.ofString "__dict__") 569), (.ref 242), (.builtin "function.__dict__"), (.builtin "function.__dict__#set")] : List Value).toArray), ([] : List (Option Value)).toArray⟩
noncomputable def o244 (P : Params) : Obj := ⟨(.type "getset_descriptor"), none, (.fields ([(.str (.ofString "__weakref__") 571), (.ref 242), (.builtin "ExceptionGroup.__weakref__"), .none] : List Value).toArray), ([] : List (Option Value)).toArray⟩
noncomputable def o245 (P : Params) : Obj := ⟨(.type "super"), none, (.fields ([(.ref 242), (.ref 242), (.ref 242)] : List Value).toArray), ([] : List (Option Value)).toArray⟩
noncomputable def o246 (P : Params) : Obj := ⟨(.type "builtin_function_or_method"), none, (.fields ([(.builtin "object.__init_subclass__"), (.ref 242)] : List Value).toArray), ([] : List (Option Value)).toArray⟩
noncomputable def t3 (P : Params) : BT := (.node (boot_o_0 P) (.node (boot_o_1 P) (.node (o3v2 P) (.node (boot_o_7 P) (.node (o15 P) (.node (o31 P) (.node (o63 P) (.node (o127 P) .nil .nil) (.node (o191 P) .nil .nil)) (.node (o95 P) (.node (o159 P) .nil .nil) (.node (o223 P) .nil .nil))) (.node (o47 P) (.node (o79 P) (.node (o143 P) .nil .nil) (.node (o207 P) .nil .nil)) (.node (o111 P) (.node (o175 P) .nil .nil) (.node (o239 P) .nil .nil)))) (.node (o23 P) (.node (o39 P) (.node (o71 P) (.node (o135 P) .nil .nil) (.node (o199 P) .nil .nil)) (.node (o103 P) (.node (o167 P) .nil .nil) (.node (o231 P) .nil .nil))) (.node (o55 P) (.node (o87 P) (.node (o151 P) .nil .nil) (.node (o215 P) .nil .nil)) (.node (o119 P) (.node (o183 P) .nil .nil) .nil)))) (.node (o11 P) (.node (o19 P) (.node (o35 P) (.node (o67 P) (.node (o131 P) .nil .nil) (.node (o195 P) .nil .nil)) (.node (o99 P) (.node (o163 P) .nil .nil) (.node (o227 P) .nil .nil))) (.node (o51 P) (.node (o83 P) (.node (o147 P) .nil .nil) (.node (o211 P) .nil .nil)) (.node (o115 P) (.node (o179 P) .nil .nil) (.node (o243 P) .nil .nil)))) (.node (o27 P) (.node (o43 P) (.node (o75 P) (.node (o139 P) .nil .nil) (.node (o203 P) .nil .nil)) (.node (o107 P) (.node (o171 P) .nil .nil) (.node (o235 P) .nil .nil))) (.node (o59 P) (.node (o91 P) (.node (o155 P) .nil .nil) (.node (o219 P) .nil .nil)) (.node (o123 P) (.node (o187 P) .nil .nil) .nil))))) (.node (boot_o_5 P) (.node (boot_o_9 P) (.node (o17 P) (.node (o33 P) (.node (o65 P) (.node (o129 P) .nil .nil) (.node (o193 P) .nil .nil)) (.node (o97 P) (.node (o161 P) .nil .nil) (.node (o225 P) .nil .nil))) (.node (o49 P) (.node (o81 P) (.node (o145 P) .nil .nil) (.node (o209 P) .nil .nil)) (.node (o113 P) (.node (o177 P) .nil .nil) (.node (o241 P) .nil .nil)))) (.node (o25 P) (.node (o41 P) (.node (o73 P) (.node (o137 P) .nil .nil) (.node (o201 P) .nil .nil)) (.node (o105 P) (.node (o169 P) .nil .nil) (.node (o233 P) .nil .nil))) (.node (o57 P) (.node (o89 P) (.node (o153 P) .nil .nil) (.node (o217 P) .nil .nil)) (.node (o121 P) (.node (o185 P) .nil .nil) .nil)))) (.node (o13 P) (.node (o21 P) (.node (o37 P) (.node (o69 P) (.node (o133 P) .nil .nil) (.node (o197 P) .nil .nil)) (.node (o101 P) (.node (o165 P) .nil .nil) (.node (o229 P) .nil .nil))) (.node (o53 P) (.node (o85 P) (.node (o149 P) .nil .nil) (.node (o213 P) .nil .nil)) (.node (o117 P) (.node (o181 P) .nil .nil) (.node (o245 P) .nil .nil)))) (.node (o29 P) (.node (o45 P) (.node (o77 P) (.node (o141 P) .nil .nil) (.node (o205 P) .nil .nil)) (.node (o109 P) (.node (o173 P) .nil .nil) (.node (o237 P) .nil .nil))) (.node (o61 P) (.node (o93 P) (.node (o157 P) .nil .nil) (.node (o221 P) .nil .nil)) (.node (o125 P) (.node (o189 P) .nil .nil) .nil)))))) (.node (boot_o_2 P) (.node (boot_o_4 P) (.node (boot_o_8 P) (.node (o16 P) (.node (o32 P) (.node (o64 P) (.node (o128 P) .nil .nil) (.node (o192 P) .nil .nil)) (.node (o96 P) (.node (o160 P) .nil .nil) (.node (o224 P) .nil .nil))) (.node (o48 P) (.node (o80 P) (.node (o144 P) .nil .nil) (.node (o208 P) .nil .nil)) (.node (o112 P) (.node (o176 P) .nil .nil) (.node (o240 P) .nil .nil)))) (.node (o24 P) (.node (o40 P) (.node (o72 P) (.node (o136 P) .nil .nil) (.node (o200 P) .nil .nil)) (.node (o104 P) (.node (o168 P) .nil .nil) (.node (o232 P) .nil .nil))) (.node (o56 P) (.node (o88 P) (.node (o152 P) .nil .nil) (.node (o216 P) .nil .nil)) (.node (o120 P) (.node (o184 P) .nil .nil) .nil)))) (.node (o12v3 P) (.node (o20 P) (.node (o36 P) (.node (o68 P) (.node (o132 P) .nil .nil) (.node (o196 P) .nil .nil)) (.node (o100 P) (.node (o164 P) .nil .nil) (.node (o228 P) .nil .nil))) (.node (o52 P) (.node (o84 P) (.node (o148 P) .nil .nil) (.node (o212 P) .nil .nil)) (.node (o116 P) (.node (o180 P) .nil .nil) (.node (o244 P) .nil .nil)))) (.node (o28 P) (.node (o44 P) (.node (o76 P) (.node (o140 P) .nil .nil) (.node (o204 P) .nil .nil)) (.node (o108 P) (.node (o172 P) .nil .nil) (.node (o236 P) .nil .nil))) (.node (o60 P) (.node (o92 P) (.node (o156 P) .nil .nil) (.node (o220 P) .nil .nil)) (.node (o124 P) (.node (o188 P) .nil .nil) .nil))))) (.node (boot_o_6 P) (.node (boot_o_10 P) (.node (o18 P) (.node (o34 P) (.node (o66 P) (.node (o130 P) .nil .nil) (.node (o194 P) .nil .nil)) (.node (o98 P) (.node (o162 P) .nil .nil) (.node (o226 P) .nil .nil))) (.node (o50 P) (.node (o82 P) (.node (o146 P) .nil .nil) (.node (o210 P) .nil .nil)) (.node (o114 P) (.node (o178 P) .nil .nil) (.node (o242 P) .nil .nil)))) (.node (o26 P) (.node (o42 P) (.node (o74 P) (.node (o138 P) .nil .nil) (.node (o202 P) .nil .nil)) (.node (o106 P) (.node (o170 P) .nil .nil) (.node (o234 P) .nil .nil))) (.node (o58 P) (.node (o90 P) (.node (o154 P) .nil .nil) (.node (o218 P) .nil .nil)) (.node (o122 P) (.node (o186 P) .nil .nil) .nil)))) (.node (o14 P) (.node (o22 P) (.node (o38 P) (.node (o70 P) (.node (o134 P) .nil .nil) (.node (o198 P) .nil .nil)) (.node (o102 P) (.node (o166 P) .nil .nil) (.node (o230 P) .nil .nil))) (.node (o54 P) (.node (o86 P) (.node (o150 P) .nil .nil) (.node (o214 P) .nil .nil)) (.node (o118 P) (.node (o182 P) .nil .nil) (.node (o246 P) .nil .nil)))) (.node (o30 P) (.node (o46 P) (.node (o78 P) (.node (o142 P) .nil .nil) (.node (o206 P) .nil .nil)) (.node (o110 P) (.node (o174 P) .nil .nil) (.node (o238 P) .nil .nil))) (.node (o62 P) (.node (o94 P) (.node (o158 P) .nil .nil) (.node (o222 P) .nil .nil)) (.node (o126 P) (.node (o190 P) .nil .nil) .nil)))))))
def s3 (w : World) (os : OsState) : SharedT := ⟨t3 w.params, 247, (boot_heap w.params).life, ⟨[]⟩, ⟨0, 0, 0, 0⟩, 575, os⟩
def pos3 : Pos := ⟨70, 0, 417, 16⟩
def g3 : List Stmt := (tops.drop 4).take 2
def n3 : Nat := 679
noncomputable def o3v3 (P : Params) : Obj := ⟨(.type "dict"), none, (.dict ([⟨PyData.keyHash P (.ofString "__name__"), (.str (.ofString "__name__") 165), (.str (.ofString "law_mu0008_05") 586)⟩, ⟨PyData.keyHash P (.ofString "__doc__"), (.str (.ofString "__doc__") 166), .none⟩, ⟨PyData.keyHash P (.ofString "__package__"), (.str (.ofString "__package__") 167), .none⟩, ⟨PyData.keyHash P (.ofString "__loader__"), (.str (.ofString "__loader__") 168), (.builtin "__main__.__loader__#opaque")⟩, ⟨PyData.keyHash P (.ofString "__spec__"), (.str (.ofString "__spec__") 169), .none⟩, ⟨PyData.keyHash P (.ofString "__annotations__"), (.str (.ofString "__annotations__") 170), (.ref 6)⟩, ⟨PyData.keyHash P (.ofString "__builtins__"), (.str (.ofString "__builtins__") 171), (.ref 4)⟩, ⟨PyData.keyHash P (.ofString "__file__"), (.str (.ofString "__file__") 173), (.str (.ofString "/claim/cut.py") 172)⟩, ⟨PyData.keyHash P (.ofString "__cached__"), (.str (.ofString "__cached__") 174), .none⟩, ⟨PyData.keyHash P (.ofString "_wall"), (.str (.ofString "_wall") 193), (.ref 21)⟩, ⟨PyData.keyHash P (.ofString "_tuplegetter"), (.str (.ofString "_tuplegetter") 252), (.ref 60)⟩, ⟨PyData.keyHash P (.ofString "Match"), (.str (.ofString "Match") 380), (.ref 135)⟩, ⟨PyData.keyHash P (.ofString "_calculate_ratio"), (.str (.ofString "_calculate_ratio") 388), (.ref 145)⟩, ⟨PyData.keyHash P (.ofString "SequenceMatcher"), (.str (.ofString "SequenceMatcher") 574), (.ref 242)⟩, ⟨PyData.keyHash P (.ofString "escape"), (.str (.ofString "escape") 585), (.ref 254)⟩, ⟨PyData.keyHash P (.ofString "_law_reach"), (.str (.ofString "_law_reach") 600), (.ref 261)⟩, ⟨PyData.keyHash P (.ofString "_law_longest"), (.str (.ofString "_law_longest") 616), (.ref 268)⟩, ⟨PyData.keyHash P (.ofString "law"), (.str (.ofString "law") 622), (.ref 273)⟩] : List DictEntry).toArray 18), ([] : List (Option Value)).toArray⟩
noncomputable def o12v4 (P : Params) : Obj := ⟨.none, none, (.fields ([(.int 1 0), (.int 0 0), (.ref 20), (.int 5 0), (.int 0 0), (.ref 27), (.int 23 0), (.int 0 0), (.ref 71), (.int 66 0), (.int 0 0), (.ref 144), (.int 70 0), (.int 0 0), (.ref 151), (.int 419 0), (.int 0 0), (.ref 253), (.int 434 0), (.int 0 0), (.ref 260), (.int 443 0), (.int 0 0), (.ref 267), (.int 452 0), (.int 0 0), (.ref 272)] : List Value).toArray), ([] : List (Option Value)).toArray⟩
noncomputable def o247 (P : Params) : Obj := ⟨(.type "tuple"), none, (.seq ([(.bool true)] : List Value).toArray 0), ([] : List (Option Value)).toArray⟩
noncomputable def o248 (P : Params) : Obj := ⟨(.type "tuple"), none, (.seq ([] : List Value).toArray 0), ([] : List (Option Value)).toArray⟩
noncomputable def o249 (P : Params) : Obj := ⟨.none, none, (.fields ([] : List Value).toArray), ([] : List (Option Value)).toArray⟩
noncomputable def o250 (P : Params) : Obj := ⟨(.type "tuple"), none, (.seq ([(.str (.ofString "s") 580), (.str (.ofString "quote") 581)] : List Value).toArray 0), ([] : List (Option Value)).toArray⟩
noncomputable def o251 (P : Params) : Obj := ⟨(.type "tuple"), none, (.seq ([] : List Value).toArray 0), ([] : List (Option Value)).toArray⟩
noncomputable def o252 (P : Params) : Obj := ⟨.none, none, (.func ⟨(.ofString "escape"), (.ofString "escape"), fPar (sAt tops 7), .stmts (fBod (sAt tops 7)), fSco (sAt tops 7), 0, [], .none, .none, .none, .none, none, .none, .none, 0⟩), ([] : List (Option Value)).toArray⟩
noncomputable def o253 (P : Params) : Obj := ⟨(.type "code"), none, (.fields ([(.str (.ofString "escape") 577), (.str (.ofString "escape") 578), (.str (.ofString "/claim/cut.py") 579), (.int 419 0), (.int 2 0), (.int 0 0), (.int 0 0), (.int 3 0), (.ref 248), (.bool true), (.int 181 0), (.ref 249), .none, (.ref 250), (.ref 251), (.ref 252), (.int 582 0), (.int 419 0), (.str (.ofString "/claim/cut.py") 583)] : List Value).toArray), ([] : List (Option Value)).toArray⟩
noncomputable def o254 (P : Params) : Obj := ⟨(.type "function"), none, (.func ⟨(.ofString "escape"), (.ofString "escape"), fPar (sAt tops 7), .stmts (fBod (sAt tops 7)), fSco (sAt tops 7), 3, [], (.ref 247), .none, (.str (dOf (sAt tops 7)) 584), (.str (.ofString "cpy313.html") 575), none, (.ref 253), .none, 0⟩), ([] : List (Option Value)).toArray⟩
noncomputable def o255 (P : Params) : Obj := ⟨(.type "tuple"), none, (.seq ([] : List Value).toArray 0), ([] : List (Option Value)).toArray⟩
noncomputable def o256 (P : Params) : Obj := ⟨.none, none, (.fields ([] : List Value).toArray), ([] : List (Option Value)).toArray⟩
noncomputable def o257 (P : Params) : Obj := ⟨(.type "tuple"), none, (.seq ([(.str (.ofString "ones") 591), (.str (.ofString "others") 592), (.str (.ofString "sizes") 593), (.str (.ofString "tails") 594), (.str (.ofString "far") 595), (.str (.ofString "one") 596), (.str (.ofString "other") 597)] : List Value).toArray 0), ([] : List (Option Value)).toArray⟩
noncomputable def o258 (P : Params) : Obj := ⟨(.type "tuple"), none, (.seq ([] : List Value).toArray 0), ([] : List (Option Value)).toArray⟩
noncomputable def o259 (P : Params) : Obj := ⟨.none, none, (.func ⟨(.ofString "_law_reach"), (.ofString "_law_reach"), fPar (sAt tops 9), .stmts (fBod (sAt tops 9)), fSco (sAt tops 9), 0, [], .none, .none, .none, .none, none, .none, .none, 0⟩), ([] : List (Option Value)).toArray⟩
noncomputable def o260 (P : Params) : Obj := ⟨(.type "code"), none, (.fields ([(.str (.ofString "_law_reach") 588), (.str (.ofString "_law_reach") 589), (.str (.ofString "/claim/cut.py") 590), (.int 434 0), (.int 4 0), (.int 0 0), (.int 0 0), (.int 3 0), (.ref 255), (.bool true), (.int 181 0), (.ref 256), .none, (.ref 257), (.ref 258), (.ref 259), (.int 598 0), (.int 434 0), (.str (.ofString "/claim/cut.py") 599)] : List Value).toArray), ([] : List (Option Value)).toArray⟩
noncomputable def o261 (P : Params) : Obj := ⟨(.type "function"), none, (.func ⟨(.ofString "_law_reach"), (.ofString "_law_reach"), fPar (sAt tops 9), .stmts (fBod (sAt tops 9)), fSco (sAt tops 9), 3, [], .none, .none, .none, (.str (.ofString "law_mu0008_05") 586), none, (.ref 260), .none, 0⟩), ([] : List (Option Value)).toArray⟩
noncomputable def o262 (P : Params) : Obj := ⟨(.type "tuple"), none, (.seq ([] : List Value).toArray 0), ([] : List (Option Value)).toArray⟩
noncomputable def o263 (P : Params) : Obj := ⟨.none, none, (.fields ([] : List Value).toArray), ([] : List (Option Value)).toArray⟩
noncomputable def o264 (P : Params) : Obj := ⟨(.type "tuple"), none, (.seq ([(.str (.ofString "ones") 604), (.str (.ofString "here") 605), (.str (.ofString "others") 606), (.str (.ofString "there") 607), (.str (.ofString "sizes") 608), (.str (.ofString "best") 609), (.str (.ofString "i") 610), (.str (.ofString "j") 611), (.str (.ofString "back") 612), (.str (.ofString "size") 613)] : List Value).toArray 0), ([] : List (Option Value)).toArray⟩
noncomputable def o265 (P : Params) : Obj := ⟨(.type "tuple"), none, (.seq ([] : List Value).toArray 0), ([] : List (Option Value)).toArray⟩
noncomputable def o266 (P : Params) : Obj := ⟨.none, none, (.func ⟨(.ofString "_law_longest"), (.ofString "_law_longest"), fPar (sAt tops 10), .stmts (fBod (sAt tops 10)), fSco (sAt tops 10), 0, [], .none, .none, .none, .none, none, .none, .none, 0⟩), ([] : List (Option Value)).toArray⟩
noncomputable def o267 (P : Params) : Obj := ⟨(.type "code"), none, (.fields ([(.str (.ofString "_law_longest") 601), (.str (.ofString "_law_longest") 602), (.str (.ofString "/claim/cut.py") 603), (.int 443 0), (.int 5 0), (.int 0 0), (.int 0 0), (.int 3 0), (.ref 262), (.bool true), (.int 181 0), (.ref 263), .none, (.ref 264), (.ref 265), (.ref 266), (.int 614 0), (.int 443 0), (.str (.ofString "/claim/cut.py") 615)] : List Value).toArray), ([] : List (Option Value)).toArray⟩
noncomputable def o268 (P : Params) : Obj := ⟨(.type "function"), none, (.func ⟨(.ofString "_law_longest"), (.ofString "_law_longest"), fPar (sAt tops 10), .stmts (fBod (sAt tops 10)), fSco (sAt tops 10), 3, [], .none, .none, .none, (.str (.ofString "law_mu0008_05") 586), none, (.ref 267), .none, 0⟩), ([] : List (Option Value)).toArray⟩
noncomputable def o269 (P : Params) : Obj := ⟨(.type "tuple"), none, (.seq ([] : List Value).toArray 0), ([] : List (Option Value)).toArray⟩
noncomputable def o270 (P : Params) : Obj := ⟨.none, none, (.fields ([] : List Value).toArray), ([] : List (Option Value)).toArray⟩
noncomputable def o271 (P : Params) : Obj := ⟨.none, none, (.func ⟨(.ofString "law"), (.ofString "law"), fPar (sAt tops 11), .stmts (fBod (sAt tops 11)), fSco (sAt tops 11), 0, [], .none, .none, .none, .none, none, .none, .none, 0⟩), ([] : List (Option Value)).toArray⟩
noncomputable def o272 (P : Params) : Obj := ⟨(.type "code"), none, (.fields ([(.str (.ofString "law") 617), (.str (.ofString "law") 618), (.str (.ofString "/claim/cut.py") 619), (.int 452 0), (.int 1 0), (.int 0 0), (.int 0 0), (.int 3 0), (.ref 269), (.bool true), (.int 181 0), (.ref 270), .none, .none, .none, (.ref 271), (.int 620 0), (.int 452 0), (.str (.ofString "/claim/cut.py") 621)] : List Value).toArray), ([] : List (Option Value)).toArray⟩
noncomputable def o273 (P : Params) : Obj := ⟨(.type "function"), none, (.func ⟨(.ofString "law"), (.ofString "law"), fPar (sAt tops 11), .stmts (fBod (sAt tops 11)), fSco (sAt tops 11), 3, [], .none, .none, .none, (.str (.ofString "law_mu0008_05") 586), none, (.ref 272), .none, 0⟩), ([] : List (Option Value)).toArray⟩
noncomputable def t4 (P : Params) : BT := (.node (boot_o_0 P) (.node (boot_o_1 P) (.node (o3v3 P) (.node (boot_o_7 P) (.node (o15 P) (.node (o31 P) (.node (o63 P) (.node (o127 P) (.node (o255 P) .nil .nil) .nil) (.node (o191 P) .nil .nil)) (.node (o95 P) (.node (o159 P) .nil .nil) (.node (o223 P) .nil .nil))) (.node (o47 P) (.node (o79 P) (.node (o143 P) (.node (o271 P) .nil .nil) .nil) (.node (o207 P) .nil .nil)) (.node (o111 P) (.node (o175 P) .nil .nil) (.node (o239 P) .nil .nil)))) (.node (o23 P) (.node (o39 P) (.node (o71 P) (.node (o135 P) (.node (o263 P) .nil .nil) .nil) (.node (o199 P) .nil .nil)) (.node (o103 P) (.node (o167 P) .nil .nil) (.node (o231 P) .nil .nil))) (.node (o55 P) (.node (o87 P) (.node (o151 P) .nil .nil) (.node (o215 P) .nil .nil)) (.node (o119 P) (.node (o183 P) .nil .nil) (.node (o247 P) .nil .nil))))) (.node (o11 P) (.node (o19 P) (.node (o35 P) (.node (o67 P) (.node (o131 P) (.node (o259 P) .nil .nil) .nil) (.node (o195 P) .nil .nil)) (.node (o99 P) (.node (o163 P) .nil .nil) (.node (o227 P) .nil .nil))) (.node (o51 P) (.node (o83 P) (.node (o147 P) .nil .nil) (.node (o211 P) .nil .nil)) (.node (o115 P) (.node (o179 P) .nil .nil) (.node (o243 P) .nil .nil)))) (.node (o27 P) (.node (o43 P) (.node (o75 P) (.node (o139 P) (.node (o267 P) .nil .nil) .nil) (.node (o203 P) .nil .nil)) (.node (o107 P) (.node (o171 P) .nil .nil) (.node (o235 P) .nil .nil))) (.node (o59 P) (.node (o91 P) (.node (o155 P) .nil .nil) (.node (o219 P) .nil .nil)) (.node (o123 P) (.node (o187 P) .nil .nil) (.node (o251 P) .nil .nil)))))) (.node (boot_o_5 P) (.node (boot_o_9 P) (.node (o17 P) (.node (o33 P) (.node (o65 P) (.node (o129 P) (.node (o257 P) .nil .nil) .nil) (.node (o193 P) .nil .nil)) (.node (o97 P) (.node (o161 P) .nil .nil) (.node (o225 P) .nil .nil))) (.node (o49 P) (.node (o81 P) (.node (o145 P) (.node (o273 P) .nil .nil) .nil) (.node (o209 P) .nil .nil)) (.node (o113 P) (.node (o177 P) .nil .nil) (.node (o241 P) .nil .nil)))) (.node (o25 P) (.node (o41 P) (.node (o73 P) (.node (o137 P) (.node (o265 P) .nil .nil) .nil) (.node (o201 P) .nil .nil)) (.node (o105 P) (.node (o169 P) .nil .nil) (.node (o233 P) .nil .nil))) (.node (o57 P) (.node (o89 P) (.node (o153 P) .nil .nil) (.node (o217 P) .nil .nil)) (.node (o121 P) (.node (o185 P) .nil .nil) (.node (o249 P) .nil .nil))))) (.node (o13 P) (.node (o21 P) (.node (o37 P) (.node (o69 P) (.node (o133 P) (.node (o261 P) .nil .nil) .nil) (.node (o197 P) .nil .nil)) (.node (o101 P) (.node (o165 P) .nil .nil) (.node (o229 P) .nil .nil))) (.node (o53 P) (.node (o85 P) (.node (o149 P) .nil .nil) (.node (o213 P) .nil .nil)) (.node (o117 P) (.node (o181 P) .nil .nil) (.node (o245 P) .nil .nil)))) (.node (o29 P) (.node (o45 P) (.node (o77 P) (.node (o141 P) (.node (o269 P) .nil .nil) .nil) (.node (o205 P) .nil .nil)) (.node (o109 P) (.node (o173 P) .nil .nil) (.node (o237 P) .nil .nil))) (.node (o61 P) (.node (o93 P) (.node (o157 P) .nil .nil) (.node (o221 P) .nil .nil)) (.node (o125 P) (.node (o189 P) .nil .nil) (.node (o253 P) .nil .nil))))))) (.node (boot_o_2 P) (.node (boot_o_4 P) (.node (boot_o_8 P) (.node (o16 P) (.node (o32 P) (.node (o64 P) (.node (o128 P) (.node (o256 P) .nil .nil) .nil) (.node (o192 P) .nil .nil)) (.node (o96 P) (.node (o160 P) .nil .nil) (.node (o224 P) .nil .nil))) (.node (o48 P) (.node (o80 P) (.node (o144 P) (.node (o272 P) .nil .nil) .nil) (.node (o208 P) .nil .nil)) (.node (o112 P) (.node (o176 P) .nil .nil) (.node (o240 P) .nil .nil)))) (.node (o24 P) (.node (o40 P) (.node (o72 P) (.node (o136 P) (.node (o264 P) .nil .nil) .nil) (.node (o200 P) .nil .nil)) (.node (o104 P) (.node (o168 P) .nil .nil) (.node (o232 P) .nil .nil))) (.node (o56 P) (.node (o88 P) (.node (o152 P) .nil .nil) (.node (o216 P) .nil .nil)) (.node (o120 P) (.node (o184 P) .nil .nil) (.node (o248 P) .nil .nil))))) (.node (o12v4 P) (.node (o20 P) (.node (o36 P) (.node (o68 P) (.node (o132 P) (.node (o260 P) .nil .nil) .nil) (.node (o196 P) .nil .nil)) (.node (o100 P) (.node (o164 P) .nil .nil) (.node (o228 P) .nil .nil))) (.node (o52 P) (.node (o84 P) (.node (o148 P) .nil .nil) (.node (o212 P) .nil .nil)) (.node (o116 P) (.node (o180 P) .nil .nil) (.node (o244 P) .nil .nil)))) (.node (o28 P) (.node (o44 P) (.node (o76 P) (.node (o140 P) (.node (o268 P) .nil .nil) .nil) (.node (o204 P) .nil .nil)) (.node (o108 P) (.node (o172 P) .nil .nil) (.node (o236 P) .nil .nil))) (.node (o60 P) (.node (o92 P) (.node (o156 P) .nil .nil) (.node (o220 P) .nil .nil)) (.node (o124 P) (.node (o188 P) .nil .nil) (.node (o252 P) .nil .nil)))))) (.node (boot_o_6 P) (.node (boot_o_10 P) (.node (o18 P) (.node (o34 P) (.node (o66 P) (.node (o130 P) (.node (o258 P) .nil .nil) .nil) (.node (o194 P) .nil .nil)) (.node (o98 P) (.node (o162 P) .nil .nil) (.node (o226 P) .nil .nil))) (.node (o50 P) (.node (o82 P) (.node (o146 P) .nil .nil) (.node (o210 P) .nil .nil)) (.node (o114 P) (.node (o178 P) .nil .nil) (.node (o242 P) .nil .nil)))) (.node (o26 P) (.node (o42 P) (.node (o74 P) (.node (o138 P) (.node (o266 P) .nil .nil) .nil) (.node (o202 P) .nil .nil)) (.node (o106 P) (.node (o170 P) .nil .nil) (.node (o234 P) .nil .nil))) (.node (o58 P) (.node (o90 P) (.node (o154 P) .nil .nil) (.node (o218 P) .nil .nil)) (.node (o122 P) (.node (o186 P) .nil .nil) (.node (o250 P) .nil .nil))))) (.node (o14 P) (.node (o22 P) (.node (o38 P) (.node (o70 P) (.node (o134 P) (.node (o262 P) .nil .nil) .nil) (.node (o198 P) .nil .nil)) (.node (o102 P) (.node (o166 P) .nil .nil) (.node (o230 P) .nil .nil))) (.node (o54 P) (.node (o86 P) (.node (o150 P) .nil .nil) (.node (o214 P) .nil .nil)) (.node (o118 P) (.node (o182 P) .nil .nil) (.node (o246 P) .nil .nil)))) (.node (o30 P) (.node (o46 P) (.node (o78 P) (.node (o142 P) (.node (o270 P) .nil .nil) .nil) (.node (o206 P) .nil .nil)) (.node (o110 P) (.node (o174 P) .nil .nil) (.node (o238 P) .nil .nil))) (.node (o62 P) (.node (o94 P) (.node (o158 P) .nil .nil) (.node (o222 P) .nil .nil)) (.node (o126 P) (.node (o190 P) .nil .nil) (.node (o254 P) .nil .nil))))))))
def s4 (w : World) (os : OsState) : SharedT := ⟨t4 w.params, 274, (boot_heap w.params).life, ⟨[]⟩, ⟨0, 0, 0, 0⟩, 623, os⟩
def pos4 : Pos := ⟨452, 0, 479, 15⟩
def g4 : List Stmt := (tops.drop 6).take 6
def n4 : Nat := 150
noncomputable def hF (P : Params) : Heap := ⟨⟨[boot_o_0 P, boot_o_1 P, boot_o_2 P, o3v3 P, boot_o_4 P, boot_o_5 P, boot_o_6 P, boot_o_7 P, boot_o_8 P, boot_o_9 P, boot_o_10 P, o11 P, o12v4 P, o13 P, o14 P, o15 P, o16 P, o17 P, o18 P, o19 P, o20 P, o21 P, o22 P, o23 P, o24 P, o25 P, o26 P, o27 P, o28 P, o29 P, o30 P, o31 P, o32 P, o33 P, o34 P, o35 P, o36 P, o37 P, o38 P, o39 P, o40 P, o41 P, o42 P, o43 P, o44 P, o45 P, o46 P, o47 P, o48 P, o49 P, o50 P, o51 P, o52 P, o53 P, o54 P, o55 P, o56 P, o57 P, o58 P, o59 P, o60 P, o61 P, o62 P, o63 P, o64 P, o65 P, o66 P, o67 P, o68 P, o69 P, o70 P, o71 P, o72 P, o73 P, o74 P, o75 P, o76 P, o77 P, o78 P, o79 P, o80 P, o81 P, o82 P, o83 P, o84 P, o85 P, o86 P, o87 P, o88 P, o89 P, o90 P, o91 P, o92 P, o93 P, o94 P, o95 P, o96 P, o97 P, o98 P, o99 P, o100 P, o101 P, o102 P, o103 P, o104 P, o105 P, o106 P, o107 P, o108 P, o109 P, o110 P, o111 P, o112 P, o113 P, o114 P, o115 P, o116 P, o117 P, o118 P, o119 P, o120 P, o121 P, o122 P, o123 P, o124 P, o125 P, o126 P, o127 P, o128 P, o129 P, o130 P, o131 P, o132 P, o133 P, o134 P, o135 P, o136 P, o137 P, o138 P, o139 P, o140 P, o141 P, o142 P, o143 P, o144 P, o145 P, o146 P, o147 P, o148 P, o149 P, o150 P, o151 P, o152 P, o153 P, o154 P, o155 P, o156 P, o157 P, o158 P, o159 P, o160 P, o161 P, o162 P, o163 P, o164 P, o165 P, o166 P, o167 P, o168 P, o169 P, o170 P, o171 P, o172 P, o173 P, o174 P, o175 P, o176 P, o177 P, o178 P, o179 P, o180 P, o181 P, o182 P, o183 P, o184 P, o185 P, o186 P, o187 P, o188 P, o189 P, o190 P, o191 P, o192 P, o193 P, o194 P, o195 P, o196 P, o197 P, o198 P, o199 P, o200 P, o201 P, o202 P, o203 P, o204 P, o205 P, o206 P, o207 P, o208 P, o209 P, o210 P, o211 P, o212 P, o213 P, o214 P, o215 P, o216 P, o217 P, o218 P, o219 P, o220 P, o221 P, o222 P, o223 P, o224 P, o225 P, o226 P, o227 P, o228 P, o229 P, o230 P, o231 P, o232 P, o233 P, o234 P, o235 P, o236 P, o237 P, o238 P, o239 P, o240 P, o241 P, o242 P, o243 P, o244 P, o245 P, o246 P, o247 P, o248 P, o249 P, o250 P, o251 P, o252 P, o253 P, o254 P, o255 P, o256 P, o257 P, o258 P, o259 P, o260 P, o261 P, o262 P, o263 P, o264 P, o265 P, o266 P, o267 P, o268 P, o269 P, o270 P, o271 P, o272 P, o273 P]⟩, (boot_heap P).life⟩
def toksF : Nat := 623
def drawnF : Drawn := ⟨0, 0, 0, 0⟩
noncomputable def K (P : Params) : Frag := [(2, boot_o_2 P), (3, o3v3 P), (15, o15 P), (17, o17 P), (18, o18 P), (20, o20 P), (21, o21 P), (29, o29 P), (31, o31 P), (32, o32 P), (34, o34 P), (35, o35 P), (36, o36 P), (37, o37 P), (39, o39 P), (40, o40 P), (42, o42 P), (43, o43 P), (44, o44 P), (46, o46 P), (47, o47 P), (49, o49 P), (50, o50 P), (51, o51 P), (53, o53 P), (54, o54 P), (56, o56 P), (57, o57 P), (58, o58 P), (59, o59 P), (60, o60 P), (61, o61 P), (62, o62 P), (65, o65 P), (68, o68 P), (73, o73 P), (74, o74 P), (75, o75 P), (76, o76 P), (78, o78 P), (79, o79 P), (81, o81 P), (82, o82 P), (83, o83 P), (85, o85 P), (86, o86 P), (88, o88 P), (89, o89 P), (90, o90 P), (91, o91 P), (92, o92 P), (93, o93 P), (94, o94 P), (96, o96 P), (97, o97 P), (99, o99 P), (100, o100 P), (101, o101 P), (103, o103 P), (104, o104 P), (106, o106 P), (107, o107 P), (108, o108 P), (110, o110 P), (111, o111 P), (113, o113 P), (114, o114 P), (115, o115 P), (117, o117 P), (118, o118 P), (120, o120 P), (121, o121 P), (122, o122 P), (123, o123 P), (124, o124 P), (126, o126 P), (127, o127 P), (129, o129 P), (130, o130 P), (132, o132 P), (134, o134 P), (135, o135 P), (136, o136 P), (139, o139 P), (141, o141 P), (142, o142 P), (144, o144 P), (145, o145 P), (153, o153 P), (154, o154 P), (156, o156 P), (157, o157 P), (159, o159 P), (160, o160 P), (161, o161 P), (163, o163 P), (164, o164 P), (166, o166 P), (167, o167 P), (168, o168 P), (170, o170 P), (171, o171 P), (173, o173 P), (174, o174 P), (175, o175 P), (177, o177 P), (178, o178 P), (180, o180 P), (181, o181 P), (182, o182 P), (184, o184 P), (185, o185 P), (187, o187 P), (188, o188 P), (189, o189 P), (190, o190 P), (192, o192 P), (193, o193 P), (195, o195 P), (196, o196 P), (197, o197 P), (199, o199 P), (200, o200 P), (202, o202 P), (203, o203 P), (204, o204 P), (206, o206 P), (207, o207 P), (209, o209 P), (210, o210 P), (211, o211 P), (212, o212 P), (214, o214 P), (215, o215 P), (217, o217 P), (218, o218 P), (219, o219 P), (221, o221 P), (222, o222 P), (224, o224 P), (225, o225 P), (226, o226 P), (228, o228 P), (229, o229 P), (231, o231 P), (232, o232 P), (233, o233 P), (235, o235 P), (236, o236 P), (238, o238 P), (239, o239 P), (240, o240 P), (241, o241 P), (242, o242 P), (243, o243 P), (244, o244 P), (247, o247 P), (248, o248 P), (250, o250 P), (251, o251 P), (253, o253 P), (254, o254 P), (255, o255 P), (257, o257 P), (258, o258 P), (260, o260 P), (261, o261 P), (262, o262 P), (264, o264 P), (265, o265 P), (267, o267 P), (268, o268 P), (269, o269 P), (272, o272 P), (273, o273 P)]
noncomputable def kAs : List Addr := [2, 3, 15, 17, 18, 20, 21, 29, 31, 32, 34, 35, 36, 37, 39, 40, 42, 43, 44, 46, 47, 49, 50, 51, 53, 54, 56, 57, 58, 59, 60, 61, 62, 65, 68, 73, 74, 75, 76, 78, 79, 81, 82, 83, 85, 86, 88, 89, 90, 91, 92, 93, 94, 96, 97, 99, 100, 101, 103, 104, 106, 107, 108, 110, 111, 113, 114, 115, 117, 118, 120, 121, 122, 123, 124, 126, 127, 129, 130, 132, 134, 135, 136, 139, 141, 142, 144, 145, 153, 154, 156, 157, 159, 160, 161, 163, 164, 166, 167, 168, 170, 171, 173, 174, 175, 177, 178, 180, 181, 182, 184, 185, 187, 188, 189, 190, 192, 193, 195, 196, 197, 199, 200, 202, 203, 204, 206, 207, 209, 210, 211, 212, 214, 215, 217, 218, 219, 221, 222, 224, 225, 226, 228, 229, 231, 232, 233, 235, 236, 238, 239, 240, 241, 242, 243, 244, 247, 248, 250, 251, 253, 254, 255, 257, 258, 260, 261, 262, 264, 265, 267, 268, 269, 272, 273]
noncomputable def bT : List Stmt := g1 ++ (g2 ++ (g3 ++ (g4 ++ [])))
noncomputable def cT : Code := .body bT envT
theorem pre_run (w : World) (os : OsState) : topGo treeTable pw w m0 ann0 nPre ⟨boot_heap w.params, ⟨[]⟩, boot_drawn, boot_toks, os⟩ (topStub pw) = some (sA w os, ⟨denote treeTable cT, cT, posA, [topFrame posF]⟩) := by kernel_rfl
theorem block_run (w : World) (os : OsState) : segRun treeTable pw w m0 ann0 1 nBlock (sA w os) (blockOf bT envT cT posA [topFrame posF]) = some (.next, (s0 w os).abs, cT, pos0) := by kernel_rfl
theorem run1 (w : World) (os : OsState) : segRunT treeTable pw w m0 ann0 1 n1 (s0 w os) (piecesOf g1 envT cT pos0 [topFrame posF]) = some (.next, s1 w os, cT, pos1) := by
  unfold piecesOf
  have key := PySem.W.Fast.te4202317264376624991
  conv at key => rhs; delta PySem.W.Fast.tw4202317264376624991
  rw [anyF_eq] at key
  rw [PySem.W.Fast.te10110043849684766642, qTabOf_eq key, PySem.W.Fast.te12563942051412417395]
  kernel_rfl
theorem run2 (w : World) (os : OsState) : segRunT treeTable pw w m0 ann0 1 n2 (s1 w os) (piecesOf g2 envT cT pos1 [topFrame posF]) = some (.next, s2 w os, cT, pos2) := by
  unfold piecesOf
  have key := PySem.W.Fast.te4202317264376624991
  conv at key => rhs; delta PySem.W.Fast.tw4202317264376624991
  rw [anyF_eq] at key
  rw [PySem.W.Fast.te10110043849684766642, qTabOf_eq key, PySem.W.Fast.te12563942051412417395]
  kernel_rfl
theorem g3_eq : g3 = [sAt tops 4, setDoc docT (sAt tops 5)] := congrArg (fun x => [sAt tops 4, x]) st5_eq
theorem run3 (w : World) (os : OsState) : segRunT treeTable pw w m0 ann0 1 n3 (s2 w os) (piecesOf g3 envT cT pos2 [topFrame posF]) = some (.next, s3 w os, cT, pos3) := by
  rw [g3_eq]
  unfold piecesOf
  have key := PySem.W.Fast.te4202317264376624991
  conv at key => rhs; delta PySem.W.Fast.tw4202317264376624991
  rw [anyF_eq] at key
  rw [PySem.W.Fast.te10110043849684766642, qTabOf_eq key, PySem.W.Fast.te12563942051412417395]
  kernel_rfl
theorem run4 (w : World) (os : OsState) : segRunT treeTable pw w m0 ann0 1 n4 (s3 w os) (piecesOf g4 envT cT pos3 [topFrame posF]) = some (.next, s4 w os, cT, pos4) := by
  unfold piecesOf
  have key := PySem.W.Fast.te4202317264376624991
  conv at key => rhs; delta PySem.W.Fast.tw4202317264376624991
  rw [anyF_eq] at key
  rw [PySem.W.Fast.te10110043849684766642, qTabOf_eq key, PySem.W.Fast.te12563942051412417395]
  kernel_rfl
theorem fin_run (w : World) (os : OsState) : topRun treeTable pw w m0 ann0 nFin (s4 w os).abs ⟨doneF .next, cT, pos4, [topFrame posF]⟩ = some ⟨hF w.params, ⟨[]⟩, drawnF, toksF, os⟩ := by kernel_rfl
def nAll : Nat := nPre + (nBlock + (n1 + (n2 + (n3 + (n4 + nFin)))))
theorem top_run (w : World) (os : OsState) : topRun treeTable pw w m0 ann0 nAll ⟨boot_heap w.params, ⟨[]⟩, boot_drawn, boot_toks, os⟩ (topStub pw) = some ⟨hF w.params, ⟨[]⟩, drawnF, toksF, os⟩ :=
  go_top (pre_run w os) (piece_block (block_run w os) (piece_app (segRun_of (run1 w os)) (piece_app (segRun_of (run2 w os)) (piece_app (segRun_of (run3 w os)) (piece_app (segRun_of (run4 w os)) (fin_run w os))))))
abbrev law0 : OpenLaw := PySem.Challenge.rw_mu0008_05
noncomputable def q : Program := { pw with main := { pw.main with body := [sAt tops 0, sAt tops 1, sAt tops 4, sAt tops 6, sAt tops 8, sAt tops 9, sAt tops 10, sAt tops 11] } }
noncomputable def loose : List Str := [Str.ofString "_tuplegetter", Str.ofString "Match", Str.ofString "SequenceMatcher", Str.ofString "escape"]
def lv : List (Str × WData) := []
noncomputable def Xt (s : Shared) : Bool := xlAt q lv s && recOk (RowW.records law0.row.toRowW) s
noncomputable def sF (w : World) (os : OsState) : Shared := ⟨hF w.params, ⟨[]⟩, drawnF, toksF, os⟩
theorem size_ok (w : World) : ((boot_heap w.params).isNs mainGlobals && (⟨[]⟩ : Array GenState).size == 0, (boot_heap w.params).objs.size, (boot_heap w.params).nsMap mainGlobals (Str.ofString "__annotations__")) = (true, m0, ann0) := by kernel_rfl
theorem le_ok : Nat.ble nAll 5000 = true := by kernel_rfl
theorem open_ok : ∀ w : World, (fencedOpening treeTable pw w 5000).map (fun s => (s.heap, s.gens, s.drawn, s.toks)) = some (boot_heap w.params, Array.mk [], boot_drawn, boot_toks) :=
  boot_open (by kernel_rfl) (by kernel_rfl) (fun s => by kernel_rfl)
theorem look_a (w : World) (os : OsState) : (staticsOk (importedModules pw.main.body) (boot_heap w.params) (hF w.params) && namesBound pw (hF w.params) && gensDone (sF w os) && laidKept (boot_heap w.params) (hF w.params)) = true := by kernel_rfl
theorem look_1 (w : World) (os : OsState) : seen ((recsOf q).map (·.name)) (ownsOf q) [] { sF w os with gens := #[] } = expectedOf q := by
  rw [PySem.W.Fast.te5160383126252970620]; kernel_rfl
theorem look_2 (w : World) (os : OsState) : (sF w os).heap.bltView = bltViewBooted := by kernel_rfl
theorem look_3 (w : World) (os : OsState) : ((sF w os).heap.keysOk (looseW q loose) ((recsOf q).map (·.name)) ((litsOf q).map (·.1)) ((clssOf q (looseW q loose)).map (·.name)) && (sF w os).heap.accountedOkI (importedModules pw.main.body) && (sF w os).heap.isNs mainGlobals && (sF w os).heap.isNs builtinsNs && tablesOk q (sF w os).heap && Xt (sF w os) && (if true then (sF w os).gens.size == 0 else !leftWithCleanup (sF w os).gens)) = true := by kernel_rfl
theorem look_4 (w : World) (os : OsState) : tabsOk q (sF w os) = true := by
  rw [PySem.W.Fast.te479339242167458305]; kernel_rfl
theorem look_5 (w : World) (os : OsState) : pinSeenD q (drecsOf q) (sF w os) = pinGoodD (drecsOf q) := by
  rw [PySem.W.Fast.te16090120013241838585]; kernel_rfl
theorem look_6 (w : World) (os : OsState) : plainSeenE q (looseW q loose) (sF w os) = plainGoodE q (looseW q loose) := by
  rw [PySem.W.Fast.te2386780881361962483]; kernel_rfl
theorem look_7 (w : World) (os : OsState) : plainSeenD q loose (sF w os) = plainGoodD q loose := by
  rw [PySem.W.Fast.te11698064438423848299]; kernel_rfl
theorem look_8 (w : World) (os : OsState) : wideSeen q (sF w os) = wideGood q := by
  rw [PySem.W.Fast.te7317090234206586261]; kernel_rfl
theorem look_9 (w : World) (os : OsState) : clsSeenW q loose (sF w os) = clsGoodW q loose := by
  rw [PySem.W.Fast.te7369524293546568484]; kernel_rfl
theorem kAs_eq (P : Params) : kAs = (K P).map (·.1) := by kernel_rfl
noncomputable def H : Hook := kHook K kAs kAs_eq
theorem look_k (w : World) (os : OsState) : kAs.map (sF w os).heap.get? = (K w.params).map (fun p => some p.2) := by kernel_rfl
theorem left : LeftO pw q loose Xt (Hook.obs H) (Hook.val H) 5000 :=
  LeftO.of_pieces open_ok size_ok top_run le_ok fun w => funext fun os =>
    looks_pair (look_a w os) (looks_pair (looks_pair (look_1 w os) (looks_pair (look_2 w os) (looks_pair (look_3 w os) (looks_pair (look_4 w os) (looks_pair (look_5 w os) (looks_pair (look_6 w os) (looks_pair (look_7 w os) (looks_pair (look_8 w os) (look_9 w os))))))))) (look_k w os))
theorem said : law0.wellSaid = true := by
  rw [PySem.W.Fast.te9446332074065402090]; kernel_rfl
theorem defq : ∃ d kwd, defOf q law0.row.name = some (d, kwd) ∧ law0.row.prog.theDef law0.row.name = some (d.params, d.body, d.scope) ∧ kwWritten? d.params.kwonlyargs d.params.kw_defaults = some kwd ∧
    d.name = Str.ofString "law" ∧ d.params = fPar (sAt tops 11) ∧ d.body = fBod (sAt tops 11) ∧ d.scope = fSco (sAt tops 11) ∧ kwd = [] := ⟨_, _, by rfl, by rfl, by rfl, by rfl, by rfl, by rfl, by rfl, by rfl⟩
end

/-- the entries of an object's dict -/
noncomputable def esOf (o : Obj) : Array DictEntry := match o.data with
  | .dict es _ => es
  | _ => #[]
noncomputable def epOf (o : Obj) : Nat := match o.data with
  | .dict _ n => n
  | _ => 0
noncomputable def strKeysB (es : Array DictEntry) : Bool := es.toList.all fun e => match e.key with
  | .str _ _ => true
  | _ => false
theorem strKeys_of {es : Array DictEntry} (h : strKeysB es = true) : StrKeys es := fun e he => by
  have := List.all_eq_true.mp h e (Array.mem_toList_iff.mpr he)
  cases hk : e.key <;> rw [hk] at this <;> first | exact ⟨_, _, rfl⟩ | cases this
theorem ns_obj {h : Heap} {a : Addr} {o : Obj} (ho : h.get? a = some o) (hd : o.data = .dict (esOf o) (epOf o)) (hk : strKeysB (esOf o) = true) : h.Ns a (nsFind (esOf o)) :=
  ⟨o, _, _, ho, hd, strKeys_of hk, fun _ => rfl⟩
section base
variable {P : Params} {h : Heap}
theorem k242 (X : (K P).In h) : h.get? 242 = some (o242 P) := X _ _ (by kernel_rfl)
theorem k241 (X : (K P).In h) : h.get? 241 = some (o241 P) := X _ _ (by kernel_rfl)
theorem ns241 (X : (K P).In h) : h.Ns 241 (nsFind (esOf (o241 P))) := ns_obj (k241 X) (by kernel_rfl) (by kernel_rfl)
theorem k196 (X : (K P).In h) : h.get? 196 = some (o196 P) := X _ _ (by kernel_rfl)
theorem k195 (X : (K P).In h) : h.get? 195 = some (o195 P) := X _ _ (by kernel_rfl)
theorem k189 (X : (K P).In h) : h.get? 189 = some (o189 P) := X _ _ (by kernel_rfl)
variable {prog : Program} {w : World} {A : Around} {E : Value → Shared → Prop} {g : Array GenState} {d : Drawn} {t : Nat} {os : OsState}
/-- an attribute of a matcher's own -/
theorem sm_get {x : Addr} {mA : Str → Option Value} {name : Str} {v : Value} {expr : Bool} {Q : Value → Shared → Prop} (X : (K P).In h) (I : h.Inst x 242 mA) (hv : mA name = some v)
    (q : Q v ⟨h, g, d, t + 1, os⟩) (hn : nsFind (esOf (o241 P)) name = none := by kernel_rfl) (hB : typeLookup (.type "object") name = pure none := by (rw [typeLookup_type, builtinLookup_eq_fast]; kernel_rfl)) (hh : handedOut v = pure v := by rfl) :
    wpAny (model prog w) A (getAttr (.ref x) name expr) Q E ⟨h, g, d, t, os⟩ :=
  load_attr (k242 X) (ns241 X) (by kernel_rfl) hn hB I hv hh q
end base
section names
variable {P : Params} {h h₀ : Heap} {prog : Program} {w : World} {A : Around} {E : Value → Shared → Prop} {g : Array GenState} {d : Drawn} {tk : Nat} {os : OsState} {L f : Addr} {l : List (Str × Value)} {qual : Str} {scope : Scope} {cd : Value} {p : Program} {lo : List Str} {mg mb : Str → Option Value}
/-- a built-in by its name -/
theorem nm_b {x : Str} {pos : Pos} {v : Value} {Q : Value → Shared → Prop} (F : Fr h₀ L h (lk l)) (X : (K P).In h₀) (T : TopRead p lo mg mb h₀) (hv : bootBuiltins x = some v) (q : Q v ⟨h, g, d, tk, os⟩)
    (e : nsIn (K P) mainGlobals x = some none := by kernel_rfl) (hn : x ≠ "__name__" := by decide +kernel) (hk : scope.kind = .function := by kernel_rfl) (hx : (envOf qual scope L f cd).kindOf x = some .globalImplicit := by kernel_rfl) (hd : (x == ("__debug__" : Str)) = false := by kernel_rfl) :
    wpAny (model prog w) A (eval (.Name x pos) (envOf qual scope L f cd)) Q E ⟨h, g, d, tk, os⟩ := name_B F X T e hv hn q hk hx hd
/-- a name of the text's top -/
theorem nm_k {x : Str} {pos : Pos} {v : Value} {Q : Value → Shared → Prop} (F : Fr h₀ L h (lk l)) (X : (K P).In h₀) (T : TopRead p lo mg mb h₀) (e : nsIn (K P) mainGlobals x = some (some v)) (q : Q v ⟨h, g, d, tk, os⟩)
    (hk : scope.kind = .function := by kernel_rfl) (hx : (envOf qual scope L f cd).kindOf x = some .globalImplicit := by kernel_rfl) (hd : (x == ("__debug__" : Str)) = false := by kernel_rfl) :
    wpAny (model prog w) A (eval (.Name x pos) (envOf qual scope L f cd)) Q E ⟨h, g, d, tk, os⟩ := name_K F X T e q hk hx hd
theorem b_len : bootBuiltins (Str.ofString "len") = some (.builtin "len") := by kernel_rfl
theorem b_range : bootBuiltins (Str.ofString "range") = some (.type "range") := by kernel_rfl
theorem b_zip : bootBuiltins (Str.ofString "zip") = some (.type "zip") := by kernel_rfl
theorem b_sum : bootBuiltins (Str.ofString "sum") = some (.builtin "sum") := by kernel_rfl
theorem b_tuple : bootBuiltins (Str.ofString "tuple") = some (.type "tuple") := by kernel_rfl
theorem b_set : bootBuiltins (Str.ofString "set") = some (.type "set") := by kernel_rfl
theorem b_enumerate : bootBuiltins (Str.ofString "enumerate") = some (.type "enumerate") := by kernel_rfl
theorem g_Match : nsIn (K P) mainGlobals (Str.ofString "Match") = some (some (.ref 135)) := by kernel_rfl
end names

section bound
/-- a bound method of a built-in object -/
noncomputable abbrev boundObj (id : String) (a : Addr) : Obj := { cls := .type "builtin_function_or_method", data := .fields #[.builtin id, .ref a] }
variable {prog : Program} {w : World} {A : Around} {E : Value → Shared → Prop} {h : Heap} {g : Array GenState} {d : Drawn} {tk : Nat} {os : OsState}
theorem attr_contains {a : Addr} {es : Array (Int × Value)} {ep : Nat} {tb : SetTable} {Q : Value → Shared → Prop} (hA : A.handled = none) (ho : h.get? a = some { cls := .type "set", data := .set es ep tb })
    (q : Q (.ref h.objs.size) ⟨h.push (boundObj "set.__contains__" a), g, d, tk + 1, os⟩) : wpAny (model prog w) A (getAttr (.ref a) (Str.ofString "__contains__") true) Q E ⟨h, g, d, tk, os⟩ :=
  by_sim 20 (List.replicate 6 { cls := .type "set", data := .set es ep tb }) (v := .ref h.objs.size) (tr := List.replicate 6 (a, { cls := .type "set", data := .set es ep tb })) (al := [boundObj "set.__contains__" a]) (k := tk + 1) (os2 := []) (nx' := h.objs.size + 1)
    (by rw [PySem.W.Fast.te4926136581373384958]; kernel_rfl) hA (fun p hp => by rw [List.eq_of_mem_replicate hp]; exact ho) q
theorem attr_get {a : Addr} {es : Array DictEntry} {ep : Nat} {Q : Value → Shared → Prop} (hA : A.handled = none) (ho : h.get? a = some { cls := .type "dict", data := .dict es ep })
    (q : Q (.ref h.objs.size) ⟨h.push (boundObj "dict.get" a), g, d, tk + 1, os⟩) : wpAny (model prog w) A (getAttr (.ref a) (Str.ofString "get") true) Q E ⟨h, g, d, tk, os⟩ :=
  by_sim 20 (List.replicate 6 { cls := .type "dict", data := .dict es ep }) (v := .ref h.objs.size) (tr := List.replicate 6 (a, { cls := .type "dict", data := .dict es ep })) (al := [boundObj "dict.get" a]) (k := tk + 1) (os2 := []) (nx' := h.objs.size + 1)
    (by rw [PySem.W.Fast.te4926136581373384958]; kernel_rfl) hA (fun p hp => by rw [List.eq_of_mem_replicate hp]; exact ho) q
end bound
section boundN
variable {prog : Program} {w : World} {A : Around} {E : Value → Shared → Prop} {h h₀ : Heap} {g : Array GenState} {d : Drawn} {tk : Nat} {os : OsState} {L : Addr} {m : Str → Option Value} {news : List (Addr × Obj)}
theorem attr_containsN {a : Addr} {es : Array (Int × Value)} {ep : Nat} {tb : SetTable} {Q : Value → Shared → Prop} (F : Fr h₀ L h m) (N : News h₀ L h news) (hA : A.handled = none) (ho : h.get? a = some { cls := .type "set", data := .set es ep tb })
    (q : ∀ u h', Fr h₀ L h' m → News h₀ L h' ((u, boundObj "set.__contains__" a) :: news) → Q (.ref u) ⟨h', g, d, tk + 1, os⟩) : wpAny (model prog w) A (getAttr (.ref a) (Str.ofString "__contains__") true) Q E ⟨h, g, d, tk, os⟩ :=
  attr_contains hA ho (q _ _ (F.push _) (N.push F _))
theorem attr_getN {a : Addr} {es : Array DictEntry} {ep : Nat} {Q : Value → Shared → Prop} (F : Fr h₀ L h m) (N : News h₀ L h news) (hA : A.handled = none) (ho : h.get? a = some { cls := .type "dict", data := .dict es ep })
    (q : ∀ u h', Fr h₀ L h' m → News h₀ L h' ((u, boundObj "dict.get" a) :: news) → Q (.ref u) ⟨h', g, d, tk + 1, os⟩) : wpAny (model prog w) A (getAttr (.ref a) (Str.ofString "get") true) Q E ⟨h, g, d, tk, os⟩ :=
  attr_get hA ho (q _ _ (F.push _) (N.push F _))
end boundN

section ops
variable {prog : Program} {w : World} {A : Around} {E : Value → Shared → Prop} {h : Heap} {g : Array GenState} {d : Drawn} {tk : Nat} {os : OsState}
theorem is_none_none {Q : Value → Shared → Prop} (hA : A.handled = none) (q : Q (.bool true) ⟨h, g, d, tk, os⟩) : wpAny (model prog w) A (compareOp .Is .none .none) Q E ⟨h, g, d, tk, os⟩ :=
  by_sim 5 [] (v := .bool true) (tr := []) (al := []) (k := tk) (os2 := []) (nx' := h.objs.size) (by rw [PySem.W.Fast.te12886488535604756494]; kernel_rfl) hA (fun p hp => nomatch hp) q
theorem is_int_none {n : Int} {t : Tok} {Q : Value → Shared → Prop} (hA : A.handled = none) (q : Q (.bool false) ⟨h, g, d, tk, os⟩) : wpAny (model prog w) A (compareOp .Is (.int n t) .none) Q E ⟨h, g, d, tk, os⟩ :=
  by_sim 5 [] (v := .bool false) (tr := []) (al := []) (k := tk) (os2 := []) (nx' := h.objs.size) (by rw [PySem.W.Fast.te12886488535604756494]; kernel_rfl) hA (fun p hp => nomatch hp) q
end ops
section disp
variable {prog : Program} {w : World} {A : Around} {E : Value → Shared → Prop} {h h₀ : Heap} {g : Array GenState} {d : Drawn} {tk : Nat} {os : OsState} {L f : Addr} {l : List (Str × Value)} {news : List (Addr × Obj)} {qual : Str} {scope : Scope} {cd : Value} {m : Str → Option Value}
theorem e_dict0 {pos : Pos} {env : Env} {Q : Value → Shared → Prop} (F : Fr h₀ L h m) (N : News h₀ L h news) (hA : A.handled = none)
    (q : ∀ D h', Fr h₀ L h' m → News h₀ L h' ((D, dictOf [] 0) :: news) → (∀ p ∈ news, p.1 < D) → Q (.ref D) ⟨h', g, d, tk, os⟩) : wpAny (model prog w) A (eval (.Dict [] [] pos) env) Q E ⟨h, g, d, tk, os⟩ :=
  by_sim 5 [] (v := .ref h.objs.size) (tr := []) (al := [dictOf [] 0]) (k := tk) (os2 := []) (nx' := h.objs.size + 1) (by kernel_rfl) hA (fun p hp => nomatch hp) (q _ _ (F.push _) (N.push F _) fun p hp => Heap.lt_size (N p hp).1)
theorem e_list0 {pos : Pos} {env : Env} {Q : Value → Shared → Prop} (F : Fr h₀ L h m) (N : News h₀ L h news) (hA : A.handled = none)
    (q : ∀ D h', Fr h₀ L h' m → News h₀ L h' ((D, { cls := .type "list", data := .seq #[] 0 }) :: news) → (∀ p ∈ news, p.1 < D) → Q (.ref D) ⟨h', g, d, tk, os⟩) : wpAny (model prog w) A (eval (.List [] pos) env) Q E ⟨h, g, d, tk, os⟩ :=
  by_sim 5 [] (v := .ref h.objs.size) (tr := []) (al := [{ cls := .type "list", data := .seq #[] 0 }]) (k := tk) (os2 := []) (nx' := h.objs.size + 1) (by kernel_rfl) hA (fun p hp => nomatch hp) (q _ _ (F.push _) (N.push F _) fun p hp => Heap.lt_size (N p hp).1)
end disp
section lens
variable {prog : Program} {w : World} {A : Around} {E : Value → Shared → Prop} {h : Heap} {g : Array GenState} {d : Drawn} {tk : Nat} {os : OsState}
theorem k_len {l : List Nat} {t : Tok} {Q : Value → Shared → Prop} (hl : l.length < 1000000) (q : Q (.int (l.length : Int) (tk + 1)) ⟨h, g, d, tk + 2, os⟩) : wpAny (model prog w) A (call (.builtin "len") [.str (⟨l.toArray⟩ : Str) t]) Q E ⟨h, g, d, tk, os⟩ := by
  have e : (⟨l.toArray⟩ : Str).length = l.length := by simp [Str.length]
  refine len_str ?_ ?_
  · rw [e]; omega
  · rw [e]; exact q
end lens
section ranges
variable {prog : Program} {w : World} {A : Around} {E : Value → Shared → Prop} {h h₀ : Heap} {g : Array GenState} {d : Drawn} {tk : Nat} {os : OsState} {L : Addr} {news : List (Addr × Obj)} {m : Str → Option Value}
theorem k_range2 {a b : Int} {t u : Tok} {Q : Value → Shared → Prop} (F : Fr h₀ L h m) (N : News h₀ L h news)
    (q : ∀ r h', Fr h₀ L h' m → News h₀ L h' ((r, { cls := .type "range", data := .fields #[.int a t, .int b u, .int 1 tk] }) :: news) → (∀ p ∈ news, p.1 < r) → Q (.ref r) ⟨h', g, d, tk + 1, os⟩) :
    wpAny (model prog w) A (call (.type "range") [.int a t, .int b u]) Q E ⟨h, g, d, tk, os⟩ :=
  call_range_2 (q _ _ (F.push _) (N.push F _) fun p hp => Heap.lt_size (N p hp).1)
end ranges

section bcall
variable {prog : Program} {w : World} {A : Around} {E : Value → Shared → Prop} {h : Heap} {g : Array GenState} {d : Drawn} {tk : Nat} {os : OsState}
theorem chk_get {a : Addr} {es : Array DictEntry} {ep : Nat} {k : Int} {t t' : Tok} {n : Int} {Q : Unit → Shared → Prop} (hA : A.handled = none) (ho : h.get? a = some { cls := .type "dict", data := .dict es ep }) (q : Q () ⟨h, g, d, tk, os⟩) :
    wpAny (model prog w) A (checkBoundCall "dict.get" ⟨[.ref a, .int k t, .int n t'], []⟩) Q E ⟨h, g, d, tk, os⟩ :=
  by_sim 5 (List.replicate 3 { cls := .type "dict", data := .dict es ep }) (v := ()) (tr := List.replicate 3 (a, { cls := .type "dict", data := .dict es ep })) (al := []) (k := tk) (os2 := []) (nx' := h.objs.size)
    (by kernel_rfl) hA (fun p hp => by rw [List.eq_of_mem_replicate hp]; exact ho) q
theorem chk_in {a : Addr} {es : Array (Int × Value)} {ep : Nat} {tb : SetTable} {x : Str} {t : Tok} {Q : Unit → Shared → Prop} (hA : A.handled = none) (ho : h.get? a = some { cls := .type "set", data := .set es ep tb }) (q : Q () ⟨h, g, d, tk, os⟩) :
    wpAny (model prog w) A (checkBoundCall "set.__contains__" ⟨[.ref a, .str x t], []⟩) Q E ⟨h, g, d, tk, os⟩ :=
  by_sim 5 (List.replicate 3 { cls := .type "set", data := .set es ep tb }) (v := ()) (tr := List.replicate 3 (a, { cls := .type "set", data := .set es ep tb })) (al := []) (k := tk) (os2 := []) (nx' := h.objs.size)
    (by kernel_rfl) hA (fun p hp => by rw [List.eq_of_mem_replicate hp]; exact ho) q
/-- a call of a bound method of a built-in object -/
theorem call_bound {u a : Addr} {id : String} {b : Builtin} {vs : List Value} {Q : Value → Shared → Prop} (hu : h.get? u = some (boundObj id a)) (hq : plainId id = true) (hb : entryFor table id = some b)
    (q : wpAny (model prog w) A.in1 (checkBoundCall id ⟨.ref a :: vs, []⟩) (fun _ s₁ => wpAny (model prog w) A.in1 (b ⟨.ref a :: vs, []⟩) (fun fin s' => match fin with
      | .done f => wants Q E (.ok f) s'
      | .again c' => c'.quiet = true ∧ codeAny (model prog w) A c' (wants Q E) s') (fun e s' => E e s') s₁) E ⟨h, g, d, tk, os⟩) :
    wpAny (model prog w) A (call (.ref u) vs) Q E ⟨h, g, d, tk, os⟩ := by
  refine wpAny_call (codeAny_of_tree ?_)
  show wpAny _ A.in1 (callAny (.ref u) ⟨vs, []⟩) _ _ _
  unfold callAny
  refine wpAny_bind (wpAny_load hu ?_)
  show wpAny _ _ (checkBoundCall id ⟨.ref a :: vs, []⟩ >>= fun _ => again (.builtin id ⟨.ref a :: vs, []⟩)) _ _ _
  refine wpAny_bind (wpAny_mono q (fun _ s₁ h₁ => wpAny_pure (And.intro (plainId_quiet hq _) (codeAny_builtin hb ?_))) fun _ _ x => x)
  rw [Around.under_plainId hq]
  exact h₁
theorem callWith_b {pos : Pos} {u : Addr} {args : List (Bool × Sem Value)} {id : String} {a : Addr} {Q : Value → Shared → Prop} {s : Shared} (hplain : args.any (·.1) = false)
    (q : wpAny (model prog w) A (evalArgs (.ref u) true args []) (fun x s₁ => s₁.heap.get? u = some (boundObj id a) ∧ wpAny (model prog w) A (call (.ref u) x.pos x.kw) Q E s₁) E s) : wpAny (model prog w) A (callWith pos (.ref u) [] args []) Q E s := by
  unfold callWith
  refine wpAny_bind (wpAny_holding (wpAny_mono q (fun x s₁ h₁ => wpAny_bind (wpAny_standAt ?_)) fun _ _ x => x))
  obtain ⟨ho, hcall⟩ := h₁
  simp only [hplain, List.any_nil, Bool.or_false]
  refine wpAny_bind (m := keeperOf (.ref u)) ?_
  unfold keeperOf
  refine wpAny_bind (wpAny_load ho ?_)
  refine wpAny_pure ?_
  exact wpAny_bind (wpAny_mono hcall (fun r s₂ hr => wpAny_bind (wpAny_holding (wpAny_point (wpAny_pure hr)))) fun _ _ x => x)
theorem cw_bound {pos : Pos} {u : Addr} {env : Env} {e : PySem.Expr} {rest : List PySem.Expr} {id : String} {a : Addr} {Q : Value → Shared → Prop} {s : Shared}
    (q : wpAny (model prog w) A (spliced (backTo pos (starEach (e :: rest) env))) (fun vs s₁ => s₁.heap.get? u = some (boundObj id a) ∧ wpAny (model prog w) A (call (.ref u) vs) Q E s₁) E s)
    (he : starEach (e :: rest) env = (false, eval e env) :: starEach rest env := by kernel_rfl) (hplain : (backTo pos (starEach rest env)).any (·.1) = false := by kernel_rfl) :
    wpAny (model prog w) A (callWith pos (.ref u) [] (backTo pos (starEach (e :: rest) env)) []) Q E s := by
  rw [he] at q ⊢
  exact callWith_b (by show (false || (backTo pos (starEach rest env)).any (·.1)) = false; rw [hplain]; rfl) (evalArgs_plain q)
theorem dict_lit {o : Obj} (hx : o.ExactDict) {es : Array DictEntry} {ep : Nat} (hd : o.data = .dict es ep) : o = { cls := .type "dict", data := .dict es ep } := by
  obtain ⟨c, di, da, sl⟩ := o
  obtain ⟨h1, h2, h3⟩ := hx
  simp only at h1 h2 h3 hd
  subst h1 h2 h3 hd
  rfl
theorem call_get {u a : Addr} {f : Int → Option Value} {k n : Int} {t t' : Tok} {Q : Value → Shared → Prop} (hA : A.handled = none) (hu : h.get? u = some (boundObj "dict.get" a)) (hm : h.MapOf (intKind prog w) a f) (ha : (a == sysModules) = false)
    (q : Q ((f k).getD (.int n t')) ⟨h, g, d, tk + 1, os⟩) : wpAny (model prog w) A (call (.ref u) [.int k t, .int n t']) Q E ⟨h, g, d, tk, os⟩ := by
  obtain ⟨o, es, ep, ho, hx, hd, _, _⟩ := id hm
  rw [dict_lit hx hd] at ho
  refine call_bound hu (by decide +kernel) F.entry_dict_get (chk_get hA ho ?_)
  exact meets_dict_get_default (intKind prog w) a (intKind_is prog w k t) ha _ A (wants Q E) _ ⟨f, hm, q⟩
end bcall

section led
/-- an object more in the ledger -/
theorem News.more1 {h₀ h : Heap} {L a : Addr} {o : Obj} {news : List (Addr × Obj)} (N : News h₀ L h news) (ho : h.get? a = some o) (h1 : a ≠ L) (h2 : h₀.get? a = none) : News h₀ L h ((a, o) :: news) := fun p hp => by
  rcases List.mem_cons.mp hp with rfl | hp
  · exact ⟨ho, h1, h2⟩
  · exact N p hp
theorem Fr.but {h₀ h h' : Heap} {L I : Addr} {m : Str → Option Value} (F : Fr h₀ L h m) (hk : ∀ b o, b ∉ [I] → h.get? b = some o → h'.get? b = some o) (h1 : I ≠ L) (h2 : h₀.get? I = none) : Fr h₀ L h' m := by
  refine ⟨F.ns.at' fun o e => hk _ _ (by simpa using fun e : L = I => h1 e.symm) e, fun b o e => ?_, F.above⟩
  refine hk b o (fun hb => ?_) (F.keep b o e)
  rw [List.mem_singleton] at hb
  subst hb
  rw [h2] at e
  cases e
theorem News.but {h₀ h h' : Heap} {L I : Addr} {news : List (Addr × Obj)} (N : News h₀ L h news) (hk : ∀ b o, b ∉ [I] → h.get? b = some o → h'.get? b = some o) (hne : ∀ p ∈ news, p.1 ≠ I) : News h₀ L h' news :=
  fun p hp => ⟨hk _ _ (by simpa using hne p hp) (N p hp).1, (N p hp).2⟩
variable {prog : Program} {w : World} {A : Around} {E : Value → Shared → Prop} {h h₁ : Heap} {g : Array GenState} {d : Drawn} {tk : Nat} {os : OsState} {L f : Addr} {qual : Str} {scope : Scope} {cd : Value}
/-- what a turn must leave: the frame, the ledger with the iterator, the invariant -/
noncomputable def Left1 (h : Heap) (L I : Addr) (oI : Obj) (JJ : List (Str × Value) → List (Addr × Obj) → Nat → Prop) (h2 : Heap) (tk2 : Nat) : Prop :=
  ∃ l2 news2, Fr h L h2 (lk l2) ∧ News h L h2 ((I, oI) :: news2) ∧ (∀ p ∈ news2, p.1 ≠ I) ∧ JJ l2 news2 tk2
theorem for_led {x : Str} {px : Pos} {body : List Stmt} {I : Addr} {fp : List Addr} {n : Nat} {P : Nat → Value → Prop} {St : Nat → Heap → Prop} {Q : Flow → Shared → Prop} {fx : List (Addr × Obj)} {l : List (Str × Value)} {news : List (Addr × Obj)} {oI : Obj}
    (W : Walks prog w A I fp [I] n P St) (JJ : Nat → List (Str × Value) → List (Addr × Obj) → Nat → Prop) (hfp : ∀ b ∈ fp, b = I ∨ ∃ o, (b, o) ∈ fx) (hI : I ∈ fp)
    (hex : ∀ t h', St t h' → ∃ o, h'.get? I = some o)
    (hfx : ∀ t l' news' tk', JJ t l' news' tk' → ∀ p ∈ fx, h.get? p.1 = some p.2 ∨ p ∈ news')
    (F : Fr h L h₁ (lk l)) (N : News h L h₁ ((I, oI) :: news)) (hne : ∀ p ∈ news, p.1 ≠ I) (st : St 0 h₁) (j0 : JJ 0 l news tk)
    (turn : ∀ t h' l' news' tk0 tk' v oI', t < n → P t v → Fr h L h' (lk ((x, v) :: l')) → News h L h' ((I, oI') :: news') → (∀ p ∈ news', p.1 ≠ I) → JJ t l' news' tk0 → tk0 < tk' →
      wpAny (model prog w) A (execs body (envOf qual scope L f cd)) (TurnEnd g d os (Left1 h L I oI' (JJ (t + 1))) Q) Bot ⟨h', g, d, tk', os⟩)
    (done : ∀ h' l' news' tk0 tk', Fr h L h' (lk l') → News h L h' news' → JJ n l' news' tk0 → tk0 ≤ tk' → Q .next ⟨h', g, d, tk', os⟩)
    (hk : scope.kind = .function := by kernel_rfl) (hl : (envOf qual scope L f cd).kindOf x = some .local := by kernel_rfl) :
    codeAny (model prog w) A (.forLoop (.Name x px) (.ref I) body [] (envOf qual scope L f cd)) (fun r s' => match r with | .ok f => Q f s' | .error e => cameBackBy (model prog w) A (envOf qual scope L f cd) E e s') ⟨h₁, g, d, tk, os⟩ := by
  have hIL : I ≠ L := (N _ (.head _)).2.1
  have hI0 : h.get? I = none := (N _ (.head _)).2.2
  refine for_walk W (fun t h' tk' => ∃ oI' l' news', Fr h L h' (lk l') ∧ News h L h' ((I, oI') :: news') ∧ (∀ p ∈ news', p.1 ≠ I) ∧ St t h' ∧ JJ t l' news' tk') ?_ ?_ ?_ ?_
  · rintro t h' tk' ⟨_, _, _, _, _, _, s, _⟩; exact s
  · exact ⟨oI, l, news, F, N, hne, st, j0⟩
  · rintro t h2 tk2 v h' tk' ht ⟨o2, l', news', F2, N2, hne2, st2, j2⟩ hP st' hkeep htk
    have F3 := Fr.but F2 hkeep hIL hI0
    obtain ⟨oI', ho'⟩ := hex _ _ st'
    have N3 := News.more1 (News.but (fun p hp => N2 p (.tail _ hp)) hkeep hne2) ho' hIL hI0
    refine k_sto F3 N3 (fun h4 F4 N4 => ?_) hk hl
    refine wpAny_mono (turn t h4 l' news' tk2 (tk' + 1) v oI' ht hP F4 N4 hne2 j2 (by omega)) (fun fl s eT => ?_) fun _ _ x => x
    have back : ∀ h5 tk5, Left1 h L I oI' (JJ (t + 1)) h5 tk5 → ∃ oI' l' news', Fr h L h5 (lk l') ∧ News h L h5 ((I, oI') :: news') ∧ (∀ p ∈ news', p.1 ≠ I) ∧ St (t + 1) h5 ∧ JJ (t + 1) l' news' tk5 := by
      rintro h5 tk5 ⟨l5, n5, F5, N5, hne5, j5⟩
      refine ⟨oI', l5, n5, F5, N5, hne5, W.frame _ h' h5 st' fun b hb o e => ?_, j5⟩
      rcases hfp b hb with rfl | ⟨ob, hob⟩
      · rw [ho'] at e; cases e; exact N5.get (.head _)
      · have a1 : h'.get? b = some ob := by
          rcases hfx _ _ _ _ j2 _ hob with hb0 | hb1
          · exact F3.keep _ _ hb0
          · exact N3.get (.tail _ hb1)
        rw [a1] at e; cases e
        rcases hfx _ _ _ _ j5 _ hob with hb0 | hb1
        · exact F5.keep _ _ hb0
        · exact N5.get (.tail _ hb1)
    cases fl with
    | next => obtain ⟨h5, tk5, rfl, e5⟩ := eT; exact ⟨h5, tk5, rfl, back h5 tk5 e5⟩
    | cont => obtain ⟨h5, tk5, rfl, e5⟩ := eT; exact ⟨h5, tk5, rfl, back h5 tk5 e5⟩
    | brk => exact eT
    | ret v => exact eT
  · rintro h2 tk2 h' tk' ⟨o2, l', news', F2, N2, hne2, st2, j2⟩ hkeep htk
    exact done h' l' news' tk2 tk' (Fr.but F2 hkeep hIL hI0) (News.but (fun p hp => N2 p (.tail _ hp)) hkeep hne2) j2 htk
end led
section led2
variable {prog : Program} {w : World} {A : Around} {E : Value → Shared → Prop} {h h₁ : Heap} {g : Array GenState} {d : Drawn} {tk : Nat} {os : OsState} {L : Addr} {env : Env}
noncomputable def Left0 (h : Heap) (L : Addr) (JJ : List (Str × Value) → List (Addr × Obj) → Nat → Prop) (h2 : Heap) (tk2 : Nat) : Prop :=
  ∃ l2 news2, Fr h L h2 (lk l2) ∧ News h L h2 news2 ∧ JJ l2 news2 tk2
theorem while_led {test : PySem.Expr} {body : List Stmt} {pos : Pos} {Q : Flow → Shared → Prop} {l : List (Str × Value)} {news : List (Addr × Obj)} (JJ : Nat → List (Str × Value) → List (Addr × Obj) → Nat → Prop) (n : Nat) (F : Fr h L h₁ (lk l)) (N : News h L h₁ news) (j0 : JJ n l news tk)
    (turn : ∀ k h' l' news' tk', Fr h L h' (lk l') → News h L h' news' → JJ k l' news' tk' → wpAny (model prog w) A (isTrue test env (eval test env)) (fun b s₂ =>
      if b then wpAny (model prog w) A (execs body env) (TurnEnd g d os (fun h2 tk2 => ∃ k', k' < k ∧ Left0 h L (JJ k') h2 tk2) Q) Bot s₂ else Q .next s₂) Bot ⟨h', g, d, tk', os⟩) :
    wpAny (model prog w) A (exec (.While test body [] pos) env) Q E ⟨h₁, g, d, tk, os⟩ :=
  while_inv (fun k h' tk' => Left0 h L (JJ k) h' tk') n ⟨l, news, F, N, j0⟩ fun k h' tk' ⟨l', news', F', N', j'⟩ => turn k h' l' news' tk' F' N' j'
end led2

section rng
theorem range_size (a b : Nat) (hab : a ≤ b) : Builtin.Range.rangeSize (a : Int) (b : Int) 1 = ((b - a : Nat) : Int) := by
  unfold Builtin.Range.rangeSize
  split <;> omega
theorem fits_long (a : Nat) (ha : a < 1000000) : Builtin.Range.rangeFitsLong (a : Int) = true := by
  unfold Builtin.Range.rangeFitsLong
  simp only [Bool.and_eq_true, decide_eq_true_eq]
  omega
theorem range_small (a b : Nat) (hab : a ≤ b) (hb : b < 1000000) : Builtin.Range.small (a : Int) (b : Int) 1 = true := by
  unfold Builtin.Range.small
  rw [range_size a b hab]
  simp only [Bool.and_eq_true, Bool.or_eq_true]
  have e : ((b : Int) + (1 - 1)) = (b : Int) := by omega
  exact ⟨⟨⟨⟨fits_long a (by omega), fits_long b hb⟩, fits_long 1 (by omega)⟩, fits_long (b - a) (by omega)⟩, .inr (by rw [if_pos (by omega), e]; exact fits_long b hb)⟩
variable {prog : Program} {w : World} {A : Around} {E : Value → Shared → Prop} {h h₀ : Heap} {g : Array GenState} {d : Drawn} {tk : Nat} {os : OsState} {L : Addr} {news : List (Addr × Obj)} {m : Str → Option Value}
theorem k_iter_range {a b : Nat} {t u v : Tok} {r : Addr} {Q : Value → Shared → Prop} (F : Fr h₀ L h m) (N : News h₀ L h news) (hm : (r, ({ cls := .type "range", data := .fields #[.int (a : Int) t, .int (b : Int) u, .int 1 v] } : Obj)) ∈ news) (hab : a ≤ b) (hb : b < 1000000)
    (q : ∀ I h', Fr h₀ L h' m → News h₀ L h' ((I, { cls := .type "range_iterator", data := .fields #[rawInt (a : Int), rawInt ((b - a : Nat) : Int), rawInt 1] }) :: news) → (∀ p ∈ news, p.1 < I) → IsRangeIter h' I ((a : Int) + ((0 : Nat) : Int) * 1) (((b - a : Nat) : Int) - ((0 : Nat) : Int)) 1 → Q (.ref I) ⟨h', g, d, tk, os⟩) :
    wpAny (model prog w) A (pyIter (.ref r)) Q E ⟨h, g, d, tk, os⟩ := by
  refine wpAny_pyIter_range (N.get hm) (range_small a b hab hb) ?_
  rw [range_size a b hab]
  have N' := N.push F { cls := .type "range_iterator", data := .fields #[rawInt (a : Int), rawInt ((b - a : Nat) : Int), rawInt 1] }
  refine q _ _ (F.push _) N' (fun p hp => Heap.lt_size (N p hp).1) ?_
  have := N'.get (.head _)
  simpa using this
end rng

section items
variable {prog : Program} {w : World} {A : Around} {E : Value → Shared → Prop} {h : Heap} {g : Array GenState} {d : Drawn} {tk : Nat} {os : OsState}
theorem seqIndex_nat (i n : Nat) (hi : i < n) : seqIndex? (i : Int) n = some i := by
  have h0 : ¬ ((i : Int) < 0) := by omega
  have h1 : (i : Int) < (n : Int) := by omega
  simp only [seqIndex?, if_neg h0]
  simp [h1]
/-- a letter of a text -/
theorem sub_str {value slice : PySem.Expr} {l : List Nat} {k : Int} {i c : Nat} {t u : Tok} {Q : Value → Shared → Prop} (hk : k = (i : Int)) (hi : l[i]? = some c) (hl : l.length < 1000000) (q : Q (.str (St [c]) tk) ⟨h, g, d, tk + 1, os⟩)
    (hs : subscripted slice false (.str (St l) t) (.int k u) = operate [.str (St l) t, .int k u] (getItem (.str (St l) t) (.int k u)) := by with_unfolding_all rfl) (ht : ∀ r, letTemporaryGo value (.str (St l) t) r = pure () := by intro _; with_unfolding_all rfl) :
    wpAny (model prog w) A (subscriptTail value slice (.str (St l) t) (.int k u)) Q E ⟨h, g, d, tk, os⟩ := by
  have hil : i < l.length := (List.getElem?_eq_some_iff.mp hi).1
  have e : (⟨l.toArray⟩ : Str).length = l.length := by simp [Str.length]
  refine subscriptTail_builtin (typeIs_str _ _ _) F.slot_str_getitem.lookup (getItem_str ?_ ?_ q) hs ht
  · subst hk
    simp only [Bool.or_eq_false_iff, decide_eq_false_iff_not]
    omega
  · subst hk
    show (seqIndex? _ (⟨l.toArray⟩ : Str).length).bind _ = _
    rw [e, seqIndex_nat _ _ hil]
    simpa using hi
end items

set_option hygiene false
local macro_rules | `(tactic| walk_at "execs cons") => `(tactic| first | with_reducible refine x_doc ?_ | with_reducible refine x_cons ?_)
local macro_rules | `(tactic| walk_at "execs nil") => `(tactic| with_reducible refine wpAny_execs_nil ?_)
local macro_rules | `(tactic| walk_at "Cont") => `(tactic| first | with_reducible refine c_next ?_ | with_reducible refine c_ret ?_ | with_reducible refine c_brk ?_ | with_reducible refine c_cont ?_)
local macro_rules | `(tactic| walk_at "exec Assign cons Call") => `(tactic| with_reducible refine wpAny_Assign_Name ?_ (by kernel_rfl))
local macro_rules | `(tactic| walk_at "eval Constant str") => `(tactic| with_reducible refine k_str ?_)
local macro_rules | `(tactic| walk_at "eval Constant int") => `(tactic| with_reducible refine k_int ?_)
local macro_rules | `(tactic| walk_at "storeName") => `(tactic| ((with_reducible refine' k_sto ?kF ?kN ?_); (case kF => with_reducible assumption); (case kN => with_reducible assumption); intro h' F' N'; (try k_sweep)))
local macro_rules | `(tactic| walk_at "eval Name") => `(tactic| ((with_reducible refine' k_nm ?kF ?kv ?_); (case kF => with_reducible assumption); (case kv => first | (with_unfolding_all exact rfl) | (with_unfolding_all assumption))))
local macro_rules | `(tactic| walk_at "my go") => `(tactic| repeat' walk1)
local macro_rules | `(tactic| walk_at "assign Tuple") => `(tactic| first
  | ((with_reducible refine' k_unpack3 ?x1 ?x2 ?x3 ?x4 ?_); (case x1 => assumption); (case x2 => assumption); (case x3 => exact News.isTup (by assumption) (by k_mem)); (case x4 => assumption); intro h' F' N')
  | ((with_reducible refine' k_unpack4 ?x1 ?x2 ?x3 ?x4 ?_); (case x1 => assumption); (case x2 => assumption); (case x3 => exact News.isTup (by assumption) (by k_mem)); (case x4 => assumption); intro h' F' N'; (try k_sweep)))
local macro_rules | `(tactic| walk_at "compareOp Is") => `(tactic| first | with_reducible refine is_none_none (by assumption) ?_ | with_reducible refine is_int_none (by assumption) ?_)
local macro_rules | `(tactic| walk_at "exec Assign cons Tuple") => `(tactic| with_reducible refine a_swap3 ?_)
local macro_rules | `(tactic| walk_at "unpackItems ref") => `(tactic| ((with_reducible refine' k_unp3 ?x1 ?x2 ?x3 ?x4 ?_); (case x1 => assumption); (case x2 => assumption); (case x3 => exact News.isTup (by assumption) (by k_mem)); (case x4 => assumption); intro h' F' N'; (try k_sweep)))
local macro_rules | `(tactic| walk_at "eval Dict nil nil") => `(tactic| ((with_reducible refine' e_dict0 ?x1 ?x2 ?x3 ?_); (case x1 => assumption); (case x2 => assumption); (case x3 => assumption); intro D' h' F' N' l1; (try k_sweep)))
local macro_rules | `(tactic| walk_at "eval List nil") => `(tactic| ((with_reducible refine' e_list0 ?x1 ?x2 ?x3 ?_); (case x1 => assumption); (case x2 => assumption); (case x3 => assumption); intro D' h' F' N' l1; (try k_sweep)))
local macro_rules | `(tactic| walk_at "newTuple") => `(tactic| ((with_reducible refine' k_tup ?x1 ?x2 ?_); (case x1 => assumption); (case x2 => assumption); intro D' h' F' N' l1; (try k_sweep)))
local macro_rules | `(tactic| walk_at "call builtin:len") => `(tactic| ((with_reducible refine' k_len ?x1 ?_); (case x1 => omega)))
local macro_rules | `(tactic| walk_at "call type:range") => `(tactic| ((with_reducible refine' k_range2 ?x1 ?x2 ?_); (case x1 => assumption); (case x2 => assumption); intro D' h' F' N' l1; (try k_sweep)))
local macro_rules | `(tactic| walk_at "loadName") => `(tactic| ((with_reducible refine' nmn ?kF ?kv ?_); (case kF => with_reducible assumption); (case kv => first | (with_unfolding_all exact rfl) | (with_unfolding_all assumption))))

theorem k254 {P : Params} {h : Heap} (X : (K P).In h) : h.get? 254 = some (o254 P) := X _ _ (by kernel_rfl)
theorem k247 {P : Params} {h : Heap} (X : (K P).In h) : h.get? 247 = some (o247 P) := X _ _ (by kernel_rfl)
theorem k253 {P : Params} {h : Heap} (X : (K P).In h) : h.get? 253 = some (o253 P) := X _ _ (by kernel_rfl)
/-- str.replace of one sign, with what is known of the tokens -/
theorem rep_call {prog : Program} {w : World} {A : Around} {E : Value → Shared → Prop} {hp : Heap} {g : Array GenState} {d : Drawn} {tk : Nat} {os : OsState} {Q : Value → Shared → Prop} (l z : List Nat) (c : Nat) {x y y' : Str} {t u v : Nat} (hx : x = St l) (hy : y = ⟨#[c]⟩) (hy' : y' = St z) (hu : 1 ≤ u) (hv : u < v)
    (hne : z ≠ [c]) (hl : l.length ≤ 1000000) (hz : z.length ≤ 14) (h : ∀ (t' k : Nat), tk ≤ k → Q (.str (St (rep c z l)) t') ⟨hp, g, d, k, os⟩) :
    wpAny (model prog w) A (call (.builtin "str.replace") ([.str x t] ++ [.str y u, .str y' v])) Q E ⟨hp, g, d, tk, os⟩ := by
  subst hx hy hy'
  refine wpAny_with_toks (n := tk) (Nat.le_refl _) (SC.replaceW (fun e => ?_) (fun e => ?_) (fun e => ?_) ?_ ?_ ?_ fun t' k hk => ?_)
  · have e' : u = 0 := e
    omega
  · have e' : v = 0 := e
    omega
  · have e' : u = v := e
    omega
  · refine beq_eq_false_iff_ne.mpr fun e => hne ?_
    have := congrArg (fun x : Str => x.cps.toList) e
    simpa using this.symm
  · simp only [Str.length, List.size_toArray]; omega
  · simpa [Str.length] using hz
  · rw [replace_St]
    exact h t' k hk
theorem rep_len {c : Nat} {z l : List Nat} {n k : Nat} (h : l.length ≤ n) (hz : z.length ≤ k) (hk : 1 ≤ k) : (rep c z l).length ≤ k * n :=
  Nat.le_trans (rep_length_le c z k hz hk l) (Nat.mul_le_mul_left k h)
theorem stage1 (l : List Nat) : (rep 38 [38, 97, 109, 112, 59] l).length ≤ 6 * l.length := Nat.le_trans (rep_length_le 38 _ 5 (by decide) (by decide) l) (by omega)
theorem stage2 : ∀ l : List Nat, (rep 60 [38, 108, 116, 59] (rep 38 [38, 97, 109, 112, 59] l)).length ≤ 6 * l.length
  | [] => by simp [rep]
  | a :: l => by
    have ih := stage2 l
    rw [rep_cons, rep_append, List.length_append, List.length_cons]
    have : (rep 60 [38, 108, 116, 59] (if a = 38 then [38, 97, 109, 112, 59] else [a])).length ≤ 6 := by
      by_cases h1 : a = 38 <;> by_cases h2 : a = 60 <;> simp [rep, h1, h2]
    omega
theorem stage3 : ∀ l : List Nat, (rep 62 [38, 103, 116, 59] (rep 60 [38, 108, 116, 59] (rep 38 [38, 97, 109, 112, 59] l))).length ≤ 6 * l.length
  | [] => by simp [rep]
  | a :: l => by
    have ih := stage3 l
    rw [rep_cons, rep_append, rep_append, List.length_append, List.length_cons]
    have : (rep 62 [38, 103, 116, 59] (rep 60 [38, 108, 116, 59] (if a = 38 then [38, 97, 109, 112, 59] else [a]))).length ≤ 6 := by
      by_cases h1 : a = 38 <;> by_cases h2 : a = 60 <;> by_cases h3 : a = 62 <;> simp [rep, h1, h2, h3]
    omega
theorem stage4 : ∀ l : List Nat, (rep 34 [38, 113, 117, 111, 116, 59] (rep 62 [38, 103, 116, 59] (rep 60 [38, 108, 116, 59] (rep 38 [38, 97, 109, 112, 59] l)))).length ≤ 6 * l.length
  | [] => by simp [rep]
  | a :: l => by
    have ih := stage4 l
    rw [rep_cons, rep_append, rep_append, rep_append, List.length_append, List.length_cons]
    have : (rep 34 [38, 113, 117, 111, 116, 59] (rep 62 [38, 103, 116, 59] (rep 60 [38, 108, 116, 59] (if a = 38 then [38, 97, 109, 112, 59] else [a])))).length ≤ 6 := by
      by_cases h1 : a = 38 <;> by_cases h2 : a = 60 <;> by_cases h3 : a = 62 <;> by_cases h4 : a = 34 <;> simp [rep, h1, h2, h3, h4]
    omega
theorem escape_spec {w : World} {A : Around} {h : Heap} {g : Array GenState} {d : Drawn} {tk : Nat} {os : OsState} {E : Value → Shared → Prop} {Q : Value → Shared → Prop} {l : List Nat} {t : Tok} {b : Bool}
    (X : (K w.params).In h) (hlim : h.NoLimit) (hA : A.depth < recursionLimit) (hl : l.length ≤ 3000)
    (q : ∀ (t' : Tok) (h' : Heap) (tk' : Nat), tk ≤ tk' → Kp h h' → Q (.str (St (esc b l)) t') ⟨h', g, d, tk', os⟩) :
    wpAny (model pw w) A (call (.ref 254) [.str (St l) t, .bool b]) Q E ⟨h, g, d, tk, os⟩ := by
  refine enter (binds := [(Str.ofString "s", .str (St l) t), (Str.ofString "quote", .bool b)]) hA (k254 X) (by with_unfolding_all rfl) hlim ?hcd (by rfl) ?hb ?hc ?hl (by kernel_rfl) (by kernel_rfl) (by kernel_rfl) (by kernel_rfl) (by kernel_rfl) (by kernel_rfl) ?h
  case hcd => exact ⟨253, _, _, _, rfl, k253 X, rfl, rfl⟩
  case hb => exact BindsTo.of_defaults (T := 247) rfl (k247 X) rfl rfl rfl
  case hc => exact (by decide +kernel : ∀ x ∈ (fSco (sAt tops 7)).names, x.2 ≠ .cell)
  case hl => exact locs (by kernel_rfl)
  case h =>
    dsimp only [List.length_cons, List.length_nil]
    intro h₁ F
    have N : News h h.objs.size h₁ [] := News.nil
    conv in (fBod _) => whnf
    have h1 := stage1 l
    have h2 := stage2 l
    have h3 := stage3 l
    have h4 := stage4 l
    walk_at "my go"
    refine rep_call _ [38, 97, 109, 112, 59] 38 rfl (by decide +kernel) (by decide +kernel) (by omega) (by omega) (by decide) (by omega) (by decide) fun t1 k1 hk1 => ?_
    walk_at "my go"
    refine rep_call _ [38, 108, 116, 59] 60 rfl (by decide +kernel) (by decide +kernel) (by omega) (by omega) (by decide) (by omega) (by decide) fun t2 k2 hk2 => ?_
    walk_at "my go"
    refine rep_call _ [38, 103, 116, 59] 62 rfl (by decide +kernel) (by decide +kernel) (by omega) (by omega) (by decide) (by omega) (by decide) fun t3 k3 hk3 => ?_
    walk_at "my go"
    · rename_i hb
      refine rep_call _ [38, 113, 117, 111, 116, 59] 34 rfl (by decide +kernel) (by decide +kernel) (by omega) (by omega) (by decide) (by omega) (by decide) fun t4 k4 hk4 => ?_
      walk_at "my go"
      refine rep_call _ [38, 35, 120, 50, 55, 59] 39 rfl (by decide +kernel) (by decide +kernel) (by omega) (by omega) (by decide) (by omega) (by decide) fun t5 k5 hk5 => ?_
      walk_at "my go"
      subst hb
      exact q _ _ _ (by omega) F'.keep
    · rename_i hb
      subst hb
      exact q _ _ _ (by omega) F'.keep

local macro_rules | `(tactic| walk_at "getAttr ref") => `(tactic| first
  | ((with_reducible refine' sm_get ?x1 ?x2 ?x3 ?_ ?x5 ?x6 ?x7); (case x1 => exact Frag.In.keeps (by assumption) (Fr.keep (by assumption))); (case x2 => exact Heap.Inst.keeps (by assumption) (Fr.keep (by assumption))); (case x3 => assumption); (case x5 => kernel_rfl); (case x6 => (rw [typeLookup_type, builtinLookup_eq_fast]; kernel_rfl)); (case x7 => rfl))
  | ((with_reducible refine' attr_containsN ?x1 ?x2 ?x3 ?x4 ?_); (case x1 => assumption); (case x2 => assumption); (case x3 => assumption); (case x4 => exact Fr.keep (by assumption) _ _ (by assumption)); intro u' h' F' N'; (try k_sweep)))
local macro_rules | `(tactic| walk_at "eval Name") => `(tactic| ((with_reducible refine' nm_b ?kF ?kX ?kT ?kv ?_); (case kF => with_reducible assumption); (case kX => with_reducible assumption); (case kT => with_reducible assumption); (case kv => first | exact b_len | exact b_range | exact b_zip | exact b_sum | exact b_tuple | exact b_set | exact b_enumerate)))
local macro_rules | `(tactic| walk_at "eval Name") => `(tactic| ((with_reducible refine' k_nm ?kF ?kv ?_); (case kF => with_reducible assumption); (case kv => first | (with_unfolding_all exact rfl) | (with_unfolding_all assumption))))

noncomputable abbrev flmSt : Stmt := sAt (cBod (sAt tops 5)) 6
noncomputable abbrev flmE (L : Addr) : Env := envOf (Str.ofString "SequenceMatcher.find_longest_match") (fSco flmSt) L 196 (.ref 195)
noncomputable abbrev fS (k : Nat) : Stmt := sAt (fBod flmSt) k
theorem flm_head1 {w : World} {A : Around} {h h₁ : Heap} {L : Addr} {g : Array GenState} {d : Drawn} {tk : Nat} {os : OsState} {E : Value → Shared → Prop} {Q : Flow → Shared → Prop} {x bj jk : Addr} {as bs : List Nat} {ta tb t1 t2 : Tok} {mA : Str → Option Value} {alo blo ahi bhi : Int} {mg mb : Str → Option Value} {vahi vbhi : Value} {js : Array (Int × Value)} {jep : Nat} {jtb : SetTable} {rest : List Stmt}
    (X : (K w.params).In h) (I : h.Inst x 242 mA) (ha : mA (Str.ofString "a") = some (.str (St as) ta)) (hb : mA (Str.ofString "b") = some (.str (St bs) tb)) (hj : mA (Str.ofString "b2j") = some (.ref bj)) (hk : mA (Str.ofString "bjunk") = some (.ref jk))
    (hJ : h.get? jk = some { cls := .type "set", data := .set js jep jtb }) (hA : A.handled = none) (X' : TopRead q (looseW q loose) mg mb h) (hla : as.length < 1000000) (hlb : bs.length < 1000000)
    (ha1 : (vahi = .none ∧ ahi = (as.length : Int)) ∨ ∃ t, vahi = .int ahi t) (hb1 : (vbhi = .none ∧ bhi = (bs.length : Int)) ∨ ∃ t, vbhi = .int bhi t)
    (F : Fr h L h₁ (lk [(Str.ofString "bhi", vbhi), (Str.ofString "blo", .int blo t2), (Str.ofString "ahi", vahi), (Str.ofString "alo", .int alo t1), (Str.ofString "self", .ref x)]))
    (qq : ∀ h' tk' l u t3 t4, Fr h L h' (lk l) → News h L h' [(u, boundObj "set.__contains__" jk)] → tk ≤ tk' → lk l (Str.ofString "a") = some (.str (St as) ta) → lk l (Str.ofString "b") = some (.str (St bs) tb) → lk l (Str.ofString "b2j") = some (.ref bj) →
      lk l (Str.ofString "isbjunk") = some (.ref u) → lk l (Str.ofString "alo") = some (.int alo t1) → lk l (Str.ofString "blo") = some (.int blo t2) → lk l (Str.ofString "ahi") = some (.int ahi t3) → lk l (Str.ofString "bhi") = some (.int bhi t4) →
      wpAny (model pw w) A (execs rest (flmE L)) Q E ⟨h', g, d, tk', os⟩) :
    wpAny (model pw w) A (execs (fS 0 :: fS 1 :: fS 2 :: fS 3 :: rest) (flmE L)) Q E ⟨h₁, g, d, tk, os⟩ := by
  have N : News h L h₁ [] := News.nil
  conv in (fS 0) => whnf
  conv in (fS 1) => whnf
  conv in (fS 2) => whnf
  conv in (fS 3) => whnf
  walk_at "my go"
  have fin : ∀ {h2 : Heap} {l : List (Str × Value)} {p : Addr × Obj}, News h L h2 [p, (u', boundObj "set.__contains__" jk)] → News h L h2 [(u', boundObj "set.__contains__" jk)] := fun N2 p hp => N2 p (List.Mem.tail _ hp)
  rcases ha1 with ⟨rfl, rfl⟩ | ⟨t3, rfl⟩
  · walk_at "my go"
    rcases hb1 with ⟨rfl, rfl⟩ | ⟨t4, rfl⟩
    · walk_at "my go"
      exact qq _ _ _ _ _ _ F' (fin (l := []) N') (by omega) (by with_unfolding_all rfl) (by with_unfolding_all rfl) (by with_unfolding_all rfl) (by with_unfolding_all rfl) (by with_unfolding_all rfl) (by with_unfolding_all rfl) (by with_unfolding_all rfl) (by with_unfolding_all rfl)
    · walk_at "my go"
      exact qq _ _ _ _ _ _ F' (fin (l := []) N') (by omega) (by with_unfolding_all rfl) (by with_unfolding_all rfl) (by with_unfolding_all rfl) (by with_unfolding_all rfl) (by with_unfolding_all rfl) (by with_unfolding_all rfl) (by with_unfolding_all rfl) (by with_unfolding_all rfl)
  · walk_at "my go"
    rcases hb1 with ⟨rfl, rfl⟩ | ⟨t4, rfl⟩
    · walk_at "my go"
      exact qq _ _ _ _ _ _ F' (fin (l := []) N') (by omega) (by with_unfolding_all rfl) (by with_unfolding_all rfl) (by with_unfolding_all rfl) (by with_unfolding_all rfl) (by with_unfolding_all rfl) (by with_unfolding_all rfl) (by with_unfolding_all rfl) (by with_unfolding_all rfl)
    · walk_at "my go"
      exact qq _ _ _ _ _ _ F' (fin (l := []) N') (by omega) (by with_unfolding_all rfl) (by with_unfolding_all rfl) (by with_unfolding_all rfl) (by with_unfolding_all rfl) (by with_unfolding_all rfl) (by with_unfolding_all rfl) (by with_unfolding_all rfl) (by with_unfolding_all rfl)

theorem flm_head2 {w : World} {A : Around} {h h₁ : Heap} {L : Addr} {g : Array GenState} {d : Drawn} {tk : Nat} {os : OsState} {E : Value → Shared → Prop} {Q : Flow → Shared → Prop} {l : List (Str × Value)} {alo blo : Int} {t1 t2 : Tok} {news : List (Addr × Obj)} {rest : List Stmt}
    (hA : A.handled = none) (F : Fr h L h₁ (lk l)) (N : News h L h₁ news) (hlo : lk l (Str.ofString "alo") = some (.int alo t1)) (hbo : lk l (Str.ofString "blo") = some (.int blo t2))
    (q : ∀ h' tk' dj nl t3, Fr h L h' (lk ((Str.ofString "nothing", .ref nl) :: (Str.ofString "j2len", .ref dj) :: (Str.ofString "besti", .int alo t1) :: (Str.ofString "bestj", .int blo t2) :: (Str.ofString "bestsize", .int 0 t3) :: l)) →
      News h L h' ((nl, { cls := .type "list", data := .seq #[] 0 }) :: (dj, dictOf [] 0) :: news) → tk ≤ tk' → dj < nl → (∀ p ∈ news, p.1 < dj) → wpAny (model pw w) A (execs rest (flmE L)) Q E ⟨h', g, d, tk', os⟩) :
    wpAny (model pw w) A (execs (fS 4 :: fS 5 :: fS 6 :: rest) (flmE L)) Q E ⟨h₁, g, d, tk, os⟩ := by
  conv in (fS 4) => whnf
  conv in (fS 5) => whnf
  conv in (fS 6) => whnf
  walk_at "my go"
  rename ∀ p ∈ ((_, _) :: news), p.fst < _ => l0
  refine q _ _ _ _ _ F' (fun p hp => N' p ?_) (by omega) (l1 _ (List.Mem.head _)) (fun p hp => l0 p (List.Mem.tail _ hp))
  simp only [List.mem_cons] at hp ⊢
  rcases hp with h | h | h
  · exact .inl h
  · exact .inr (.inl h)
  · exact .inr (.inr (.inr h))

theorem valueAt_mapped {κ : Type} [DecidableEq κ] (kvs : List (κ × Value)) (k : κ) (v : Value) (x : κ) :
    valueAt (kvs.map fun kv => if kv.1 = k then (kv.1, v) else kv) x = if x = k then (valueAt kvs x).map (fun _ => v) else valueAt kvs x := by
  unfold valueAt
  induction kvs with
  | nil => simp
  | cons p r ih =>
    simp only [List.map_cons, List.find?_cons]
    by_cases hp : p.1 = k
    · rw [if_pos hp]
      by_cases hx : p.1 = x
      · have : x = k := hx ▸ hp
        simp [hx, this]
      · have : ¬ x = k := fun e => hx (hp.trans e.symm)
        simp only [this, if_false] at ih
        simp only [hx, decide_false, this, if_false]
        exact ih
    · rw [if_neg hp]
      by_cases hx : p.1 = x
      · have : ¬ x = k := fun e => hp (hx.trans e)
        simp [hx, this]
      · simp only [hx, decide_false]
        exact ih
theorem valueAt_stored {κ : Type} [DecidableEq κ] (kvs : List (κ × Value)) (k : κ) (v : Value) (x : κ) : valueAt (stored kvs k v) x = if x = k then some v else valueAt kvs x := by
  unfold stored
  split
  · rename_i hany
    rw [valueAt_mapped]
    split
    · rename_i hx
      subst hx
      obtain ⟨q, hq, hc⟩ := List.any_eq_true.mp hany
      cases e : valueAt kvs x with
      | some u => rfl
      | none =>
        unfold valueAt at e
        rw [Option.map_eq_none_iff, List.find?_eq_none] at e
        exact absurd hc (e q hq)
    · rfl
  · rename_i hany
    unfold valueAt
    rw [List.find?_append]
    by_cases hx : x = k
    · subst hx
      have e : kvs.find? (fun kv => decide (kv.1 = x)) = none := by
        rw [List.find?_eq_none]
        intro q hq hc
        exact hany (List.any_eq_true.mpr ⟨q, hq, hc⟩)
      simp [e]
    · have : ¬ k = x := fun e => hx e.symm
      simp [hx, this]
noncomputable def stBody : Stmt → List Stmt
  | .For _ _ b _ _ => b
  | .While _ b _ _ => b
  | .If _ b _ _ => b
  | _ => []
noncomputable abbrev inBody : List Stmt := stBody (sAt (stBody (fS 7)) 2)
theorem flm_turn {w : World} {A : Around} {h h₁ : Heap} {L : Addr} {g : Array GenState} {d : Drawn} {tk : Nat} {os : OsState} {E : Value → Shared → Prop} {Q : Flow → Shared → Prop} {l : List (Str × Value)} {i j blo bhi bi bjj bsz n : Int} {ti tj t1 t2 t3 t4 t5 : Tok} {gt dj nd : Addr} {oj on : Obj} {kj kn : List (Int × Value)} {news : List (Addr × Obj)}
    (hA : A.handled = none) (F : Fr h L h₁ (lk l)) (N : News h L h₁ ((gt, boundObj "dict.get" dj) :: (nd, on) :: (dj, oj) :: news)) (hoj : oj.IsDictOf (intKind pw w) kj) (hon : on.IsDictOf (intKind pw w) kn)
    (a1 : gt ≠ nd) (a2 : dj ≠ nd) (a3 : ∀ p ∈ news, p.1 ≠ nd) (hms : (dj == sysModules) = false) (hkn : kn.length ≤ sizeLine)
    (hi : lk l (Str.ofString "i") = some (.int i ti)) (hj : lk l (Str.ofString "j") = some (.int j tj)) (hbo : lk l (Str.ofString "blo") = some (.int blo t1)) (hbh : lk l (Str.ofString "bhi") = some (.int bhi t2)) (hg : lk l (Str.ofString "j2lenget") = some (.ref gt)) (hn : lk l (Str.ofString "newj2len") = some (.ref nd))
    (h1 : lk l (Str.ofString "besti") = some (.int bi t3)) (h2 : lk l (Str.ofString "bestj") = some (.int bjj t4)) (h3 : lk l (Str.ofString "bestsize") = some (.int bsz t5))
    (hv : ∀ t0, ∃ tn, (valueAt kj (j - 1)).getD (.int 0 t0) = .int n tn)
    (q1 : j < blo → Q .cont ⟨h₁, g, d, tk, os⟩) (q2 : ¬ j < blo → bhi ≤ j → Q .brk ⟨h₁, g, d, tk, os⟩)
    (q3 : ¬ j < blo → ¬ bhi ≤ j → n + 1 > bsz → ∀ h' tk' on' tn s1 s2, Fr h L h' (lk ((Str.ofString "besti", .int (i - (n + 1) + 1) s1) :: (Str.ofString "bestj", .int (j - (n + 1) + 1) s2) :: (Str.ofString "bestsize", .int (n + 1) tn) :: (Str.ofString "k", .int (n + 1) tn) :: l)) →
      News h L h' ((gt, boundObj "dict.get" dj) :: (nd, on') :: (dj, oj) :: news) → on'.IsDictOf (intKind pw w) (stored kn j (.int (n + 1) tn)) → tk ≤ tk' → Q .next ⟨h', g, d, tk', os⟩)
    (q4 : ¬ j < blo → ¬ bhi ≤ j → ¬ n + 1 > bsz → ∀ h' tk' on' tn, Fr h L h' (lk ((Str.ofString "k", .int (n + 1) tn) :: l)) →
      News h L h' ((gt, boundObj "dict.get" dj) :: (nd, on') :: (dj, oj) :: news) → on'.IsDictOf (intKind pw w) (stored kn j (.int (n + 1) tn)) → tk ≤ tk' → Q .next ⟨h', g, d, tk', os⟩) :
    wpAny (model pw w) A (execs inBody (flmE L)) Q E ⟨h₁, g, d, tk, os⟩ := by
  conv in inBody => whnf
  walk_at "my go"
  · exact q1 (by assumption)
  · exact q2 (by assumption) (by assumption)
  refine cw_bound (id := "dict.get") (a := dj) ?_
  walk_at "my go"
  · exact N.get (List.Mem.head _)
  refine call_get hA (N.get (List.Mem.head _)) (Heap.dictOf_iff.mpr ⟨oj, N.get (.tail _ (.tail _ (.head _))), hoj⟩).mapOf hms ?_
  obtain ⟨tn, e⟩ := hv (tk + 1 + 1)
  rw [e]
  walk_at "my go"
  refine kas_sub ?_
  walk_at "my go"
  refine wpAny_setItem_pairs (intKind_is _ _ _ _) (Heap.dictOf_iff.mpr ⟨on, N'.get (.tail _ (.head _)), hon⟩) (fun h'' hd hs => ?_) hkn
  obtain ⟨on', ho', hon'⟩ := Heap.dictOf_iff.mp hd
  have F2 := F'.update N' (.tail _ (.head _)) hs
  have N2 := News.setSecond N' a1 (fun p hp => by rcases List.mem_cons.mp hp with rfl | hp; exact a2; exact a3 p hp) hs ho'
  clear F' N' hd hs
  have F' := F2
  have N' := N2
  clear F2 N2
  walk_at "my go"
  · rename_i D _ _ _
    refine q3 (by assumption) (by assumption) (by assumption) _ _ _ _ _ _ F' (fun p hp => N' p (.tail _ hp)) hon' (by omega)
  · exact q4 (by assumption) (by assumption) (by assumption) _ _ _ _ F' N' hon' (by dsimp only; omega)

/-- the best block so far, and the row of lengths -/
noncomputable abbrev Best := Int × Int × Int
noncomputable def upd (b : Best) (i j k : Nat) : Best := if b.2.2 < (k : Int) then ((i : Int) - k + 1, (j : Int) - k + 1, (k : Int)) else b
noncomputable def prv (f : Nat → Nat) (j : Nat) : Nat := match j with | 0 => 0 | j + 1 => f j
noncomputable def inn (i blo bhi : Nat) (f : Nat → Nat) : List Nat → Best × (Nat → Nat) → Best × (Nat → Nat)
  | [], s => s
  | j :: js, s => if j < blo then inn i blo bhi f js s else if bhi ≤ j then s else
      inn i blo bhi f js (upd s.1 i j (prv f j + 1), fun x => if x = j then prv f j + 1 else s.2 x)
/-- pairs of a dict that stand for a function of lengths (0: no entry) -/
noncomputable def Rep (kv : List (Int × Value)) (f : Nat → Nat) : Prop :=
  (∀ n : Nat, (f n = 0 ∧ valueAt kv (n : Int) = none) ∨ (∃ t, valueAt kv (n : Int) = some (.int (f n : Int) t))) ∧ ∀ x : Int, x < 0 → valueAt kv x = none
theorem Rep.nil : Rep [] (fun _ => 0) := ⟨fun n => .inl ⟨rfl, rfl⟩, fun _ _ => rfl⟩
theorem Rep.prev {kv : List (Int × Value)} {f : Nat → Nat} (r : Rep kv f) (j : Nat) (t0 : Tok) : ∃ tn, (valueAt kv ((j : Int) - 1)).getD (.int 0 t0) = .int (prv f j : Int) tn := by
  cases j with
  | zero => rw [r.2 _ (by simp)]; exact ⟨_, rfl⟩
  | succ j =>
    have e : (((j + 1 : Nat) : Int) - 1) = (j : Int) := by push_cast; omega
    rw [e]
    rcases r.1 j with ⟨h0, hn⟩ | ⟨t, ht⟩
    · rw [hn]; exact ⟨t0, by simp [prv, h0]⟩
    · rw [ht]; exact ⟨t, rfl⟩
theorem Rep.store {kv : List (Int × Value)} {f : Nat → Nat} (r : Rep kv f) (j k : Nat) (t : Tok) (v : Int) (hv : v = (k : Int)) : Rep (stored kv (j : Int) (.int v t)) (fun x => if x = j then k else f x) := by
  subst hv
  refine ⟨fun n => ?_, fun x hx => ?_⟩
  · rw [valueAt_stored]
    by_cases h : n = j
    · subst h; exact .inr ⟨t, by simp⟩
    · have h' : ¬ (n : Int) = (j : Int) := by omega
      have := r.1 n
      simpa [h', h] using this
  · rw [valueAt_stored, if_neg (by omega)]
    exact r.2 x hx
theorem lk_skip {x y : Str} {v : Value} {l : List (Str × Value)} (h : x ≠ y) : lk ((y, v) :: l) x = lk l x := by
  unfold lk
  have hb : (x == y) = false := beq_eq_false_iff_ne.mpr h
  simp [List.lookup_cons, hb]
noncomputable abbrev inVars : List Str := [Str.ofString "j", Str.ofString "k", Str.ofString "besti", Str.ofString "bestj", Str.ofString "bestsize"]
theorem flm_inner {w : World} {A : Around} {h h₁ : Heap} {L : Addr} {g : Array GenState} {d : Drawn} {tk : Nat} {os : OsState} {E : Value → Shared → Prop} {Q : Flow → Shared → Prop} {l : List (Str × Value)} {i blo bhi : Nat} {best : Best} {f : Nat → Nat} {ti t1 t2 t3 t4 t5 : Tok} {gt dj nd lj : Addr} {oj on : Obj} {kj : List (Int × Value)} {news : List (Addr × Obj)} {js : List Nat} {vs : List Value} {px : Pos}
    (hA : A.handled = none) (F : Fr h L h₁ (lk l)) (N : News h L h₁ ((gt, boundObj "dict.get" dj) :: (nd, on) :: (dj, oj) :: news)) (hoj : oj.IsDictOf (intKind pw w) kj) (hon : on.IsDictOf (intKind pw w) []) (hr : Rep kj f)
    (a1 : gt ≠ nd) (a2 : dj ≠ nd) (a3 : ∀ p ∈ news, p.1 ≠ nd) (hms : (dj == sysModules) = false) (hjs : js.length ≤ 1000000)
    (hlj : ∀ h', Kp h h' → News h L h' news → h'.IsList lj vs.toArray) (hvs : vs.length = js.length) (hv : ∀ (t : Nat) (ht : t < js.length), ∃ tk, vs[t]? = some (.int (js[t] : Int) tk))
    (hi : lk l (Str.ofString "i") = some (.int (i : Int) ti)) (hbo : lk l (Str.ofString "blo") = some (.int (blo : Int) t1)) (hbh : lk l (Str.ofString "bhi") = some (.int (bhi : Int) t2)) (hg : lk l (Str.ofString "j2lenget") = some (.ref gt)) (hn : lk l (Str.ofString "newj2len") = some (.ref nd))
    (h1 : lk l (Str.ofString "besti") = some (.int best.1 t3)) (h2 : lk l (Str.ofString "bestj") = some (.int best.2.1 t4)) (h3 : lk l (Str.ofString "bestsize") = some (.int best.2.2 t5))
    (q : ∀ h' tk' l' on' kn s1 s2 s3, Fr h L h' (lk l') → News h L h' ((gt, boundObj "dict.get" dj) :: (nd, on') :: (dj, oj) :: news) → on'.IsDictOf (intKind pw w) kn → Rep kn (inn i blo bhi f js (best, fun _ => 0)).2 → tk ≤ tk' →
      lk l' (Str.ofString "besti") = some (.int (inn i blo bhi f js (best, fun _ => 0)).1.1 s1) → lk l' (Str.ofString "bestj") = some (.int (inn i blo bhi f js (best, fun _ => 0)).1.2.1 s2) → lk l' (Str.ofString "bestsize") = some (.int (inn i blo bhi f js (best, fun _ => 0)).1.2.2 s3) →
      (∀ x, x ∉ inVars → lk l' x = lk l x) → Q .next ⟨h', g, d, tk', os⟩) :
    wpAny (model pw w) A (pyIter (.ref lj)) (fun it s₂ => codeAny (model pw w) A (.forLoop (.Name (Str.ofString "j") px) it inBody [] (flmE L)) (fun r s' => match r with | .ok f => Q f s' | .error e => cameBackBy (model pw w) A (flmE L) E e s') s₂) E ⟨h₁, g, d, tk, os⟩ := by
  have hlj1 := hlj h₁ F.keep (fun p hp => N p (.tail _ (.tail _ (.tail _ hp))))
  refine wpAny_pyIter_list hlj1 ?_
  have hIne : ∀ b o, h₁.get? b = some o → b ≠ h₁.objs.size := fun b o e => Nat.ne_of_lt (Heap.lt_size e)
  have hIL : h₁.objs.size ≠ L := fun e => absurd F.ns.lt (by rw [e]; exact Nat.lt_irrefl _)
  have hI0 : h.get? h₁.objs.size = none := F.fresh
  have hljI : lj ≠ h₁.objs.size := by obtain ⟨o, ho, _⟩ := hlj1; exact hIne _ _ ho
  have hNI : ∀ p ∈ ((gt, boundObj "dict.get" dj) :: (nd, on) :: (dj, oj) :: news), p.1 ≠ h₁.objs.size := fun p hp => hIne _ _ (N p hp).1
  generalize hIe : h₁.objs.size = I at *
  have W := Walks.list (prog := pw) (w := w) (A := A) hA I lj hljI vs.toArray
  have F1 := F.push { cls := .type "list_iterator", data := .fields #[.ref lj, .int 0 0] }
  have N1 := News.push F N { cls := .type "list_iterator", data := .fields #[.ref lj, .int 0 0] }
  rw [hIe] at N1
  refine for_walk W (fun t h' tk' => ∃ l' b nj on' kn oI s1 s2 s3, Fr h L h' (lk l') ∧ News h L h' ((gt, boundObj "dict.get" dj) :: (nd, on') :: (dj, oj) :: (I, oI) :: news) ∧ h'.IsListIter I lj t ∧ on'.IsDictOf (intKind pw w) kn ∧ Rep kn nj ∧ kn.length ≤ t ∧
      lk l' (Str.ofString "besti") = some (.int b.1 s1) ∧ lk l' (Str.ofString "bestj") = some (.int b.2.1 s2) ∧ lk l' (Str.ofString "bestsize") = some (.int b.2.2 s3) ∧ (∀ x, x ∉ inVars → lk l' x = lk l x) ∧
      inn i blo bhi f js (best, fun _ => 0) = inn i blo bhi f (js.drop t) (b, nj) ∧ tk ≤ tk') ?_ ?_ ?_ ?_
  · rintro t h' tk' ⟨l', b, nj, on', kn, oI, s1, s2, s3, F', N', hI', _⟩
    exact ⟨hI', hlj h' F'.keep fun p hp => N' p (.tail _ (.tail _ (.tail _ (.tail _ hp))))⟩
  · refine ⟨l, best, fun _ => 0, on, [], { cls := .type "list_iterator", data := .fields #[.ref lj, .int 0 0] }, t3, t4, t5, F1, fun p hp => N1 p ?_, ⟨_, N1.get (.head _), rfl, rfl⟩, hon, Rep.nil, Nat.le_refl _, h1, h2, h3, fun _ _ => rfl, by simp, Nat.le_refl _⟩
    simp only [List.mem_cons] at hp ⊢
    rcases hp with e | e | e | e | e <;> simp [e]
  · rintro t h2 tk2 v h' tk' ht ⟨l', b, nj, on', kn, oI, s1, s2, s3, F2, N2, hI2, hd2, r2, hk2, e1, e2, e3, hx, hin, htk⟩ hP ⟨hI', hl'⟩ hk htk'
    have htl : t < js.length := by rw [← hvs]; simpa using ht
    have F' := Fr.but F2 hk hIL hI0
    obtain ⟨oI', hoI', hc'⟩ := hI'
    have hneI : ∀ p ∈ ((gt, boundObj "dict.get" dj) :: (nd, on') :: (dj, oj) :: news), p.1 ≠ I := by
      intro p hp
      simp only [List.mem_cons] at hp
      rcases hp with e | e | e | e
      · exact e ▸ hNI (gt, boundObj "dict.get" dj) (by simp)
      · exact e ▸ hNI (nd, on) (by simp)
      · exact e ▸ hNI (dj, oj) (by simp)
      · exact hNI p (by simp [e])
    have N' : News h L h' ((gt, boundObj "dict.get" dj) :: (nd, on') :: (dj, oj) :: (I, oI') :: news) := by
      have N3 : News h L h' ((gt, boundObj "dict.get" dj) :: (nd, on') :: (dj, oj) :: news) := News.but (fun p hp => N2 p (by simp only [List.mem_cons] at hp ⊢; rcases hp with e | e | e | e <;> simp [e])) hk hneI
      have N4 := News.more1 N3 hoI' hIL hI0
      exact fun p hp => N4 p (by simp only [List.mem_cons] at hp ⊢; rcases hp with e | e | e | e | e <;> simp [e])
    obtain ⟨tv, hv⟩ := hv t htl
    have hvv : v = .int (js[t] : Int) tv := by
      have : vs[t]? = some v := by simpa using hP
      rw [hv] at this
      exact (Option.some.inj this).symm
    subst hvv
    clear F2 N2
    have hx1 : ∀ x, x ∉ inVars → lk ((Str.ofString "j", Value.int (js[t] : Int) tv) :: l') x = lk l x := fun x hxx => by
      rw [lk_skip (fun e => hxx (by rw [e]; exact .head _)), hx x hxx]
    refine k_sto F' N' fun h3 F3 N3 => ?_
    have hdrop : js.drop t = js[t] :: js.drop (t + 1) := (List.drop_eq_getElem_cons htl)
    have hneI2 : nd ≠ I := hNI (nd, on) (by simp)
    refine flm_turn (l := (Str.ofString "j", Value.int (js[t] : Int) tv) :: l') (n := (prv f js[t] : Int)) (kj := kj) (kn := kn) (i := (i : Int)) (j := (js[t] : Int)) (blo := (blo : Int)) (bhi := (bhi : Int)) (bi := b.1) (bjj := b.2.1) (bsz := b.2.2) (ti := ti) (tj := tv) (t1 := t1) (t2 := t2) (t3 := s1) (t4 := s2) (t5 := s3)
      hA F3 N3 hoj hd2 a1 a2 (fun p hp => ?_) hms (by have : sizeLine = 2 ^ 24 := rfl; omega)
      (by rw [hx1 _ (by decide +kernel)]; exact hi) (by with_unfolding_all rfl) (by rw [hx1 _ (by decide +kernel)]; exact hbo) (by rw [hx1 _ (by decide +kernel)]; exact hbh) (by rw [hx1 _ (by decide +kernel)]; exact hg) (by rw [hx1 _ (by decide +kernel)]; exact hn)
      (by with_unfolding_all exact e1) (by with_unfolding_all exact e2) (by with_unfolding_all exact e3) (hr.prev js[t]) ?_ ?_ ?_ ?_
    · rcases List.mem_cons.mp hp with rfl | hp
      · exact fun e => hneI2 e.symm
      · exact a3 p hp
    · intro hlt
      refine TurnEnd.cont ⟨_, b, nj, on', kn, oI', s1, s2, s3, F3, N3, ⟨oI', N3.get (by simp), hc'⟩, hd2, r2, by omega, (by with_unfolding_all exact e1), (by with_unfolding_all exact e2), (by with_unfolding_all exact e3), hx1, ?_, by omega⟩
      rw [hin, hdrop, inn, if_pos (by omega)]
    · intro hlt hge
      have hfin : inn i blo bhi f js (best, fun _ => 0) = (b, nj) := by rw [hin, hdrop, inn, if_neg (by omega), if_pos (by omega)]
      refine q _ _ _ on' kn s1 s2 s3 F3 (fun p hp => N3 p (by simp only [List.mem_cons] at hp ⊢; rcases hp with e | e | e | e <;> simp [e])) hd2 (by rw [hfin]; exact r2) (by omega) ?_ ?_ ?_ hx1
      · rw [hfin]; with_unfolding_all exact e1
      · rw [hfin]; with_unfolding_all exact e2
      · rw [hfin]; with_unfolding_all exact e3
    · intro hlt hge hgt h4 tk4 on4 tn u1 u2 F4 N4 hd4 htk4
      have hupd : upd b i js[t] (prv f js[t] + 1) = ((i : Int) - ((prv f js[t] : Int) + 1) + 1, (js[t] : Int) - ((prv f js[t] : Int) + 1) + 1, (prv f js[t] : Int) + 1) := by
        unfold upd
        rw [if_pos (by push_cast; omega)]
        push_cast
        rfl
      refine TurnEnd.next ⟨_, upd b i js[t] (prv f js[t] + 1), fun x => if x = js[t] then prv f js[t] + 1 else nj x, on4, _, oI', u1, u2, tn, F4, N4, ⟨oI', N4.get (by simp), hc'⟩, hd4, r2.store _ _ _ _ (by push_cast; rfl), Nat.le_trans (stored_length_le _ _ _) (by omega), ?_, ?_, ?_, ?_, ?_, by omega⟩
      · rw [hupd]; with_unfolding_all rfl
      · rw [hupd]; with_unfolding_all rfl
      · rw [hupd]; with_unfolding_all rfl
      · intro x hxx
        simp only [inVars, List.mem_cons, not_or, List.not_mem_nil, not_false_eq_true, and_true] at hxx
        rw [lk_skip hxx.2.2.1, lk_skip hxx.2.2.2.1, lk_skip hxx.2.2.2.2, lk_skip hxx.2.1, hx1 x (by simp only [inVars, List.mem_cons, not_or, List.not_mem_nil, not_false_eq_true, and_true]; exact hxx)]
      · rw [hin, hdrop, inn, if_neg (by omega), if_neg (by omega)]
    · intro hlt hge hgt h4 tk4 on4 tn F4 N4 hd4 htk4
      have hupd : upd b i js[t] (prv f js[t] + 1) = b := by
        unfold upd
        rw [if_neg (by push_cast; omega)]
      refine TurnEnd.next ⟨_, upd b i js[t] (prv f js[t] + 1), fun x => if x = js[t] then prv f js[t] + 1 else nj x, on4, _, oI', s1, s2, s3, F4, N4, ⟨oI', N4.get (by simp), hc'⟩, hd4, r2.store _ _ _ _ (by push_cast; rfl), Nat.le_trans (stored_length_le _ _ _) (by omega), ?_, ?_, ?_, ?_, ?_, by omega⟩
      · rw [hupd]; with_unfolding_all exact e1
      · rw [hupd]; with_unfolding_all exact e2
      · rw [hupd]; with_unfolding_all exact e3
      · intro x hxx
        have hxk : x ≠ Str.ofString "k" := fun e => hxx (by rw [e]; exact .tail _ (.head _))
        rw [lk_skip hxk, hx1 x hxx]
      · rw [hin, hdrop, inn, if_neg (by omega), if_neg (by omega)]
  · rintro h2 tk2 h' tk' ⟨l', b, nj, on', kn, oI, s1, s2, s3, F2, N2, hI2, hd2, r2, hk2, e1, e2, e3, hx, hin, htk⟩ hk htk'
    have hfin : inn i blo bhi f js (best, fun _ => 0) = (b, nj) := by
      rw [hin, List.drop_of_length_le (by simp [hvs]), inn]
    have hneI : ∀ p ∈ ((gt, boundObj "dict.get" dj) :: (nd, on') :: (dj, oj) :: news), p.1 ≠ I := by
      intro p hp
      simp only [List.mem_cons] at hp
      rcases hp with e | e | e | e
      · exact e ▸ hNI (gt, boundObj "dict.get" dj) (by simp)
      · exact e ▸ hNI (nd, on) (by simp)
      · exact e ▸ hNI (dj, oj) (by simp)
      · exact hNI p (by simp [e])
    refine q _ _ _ on' kn s1 s2 s3 (Fr.but F2 hk hIL hI0) (News.but (fun p hp => N2 p (by simp only [List.mem_cons] at hp ⊢; rcases hp with e | e | e | e <;> simp [e])) hk hneI) hd2 (by rw [hfin]; exact r2) (by omega) ?_ ?_ ?_ hx
    · rw [hfin]; exact e1
    · rw [hfin]; exact e2
    · rw [hfin]; exact e3

noncomputable abbrev outBody : List Stmt := stBody (fS 7)
/-- where the letters of b stand, as the dict b2j tells it -/
noncomputable def B2J (w : World) (h : Heap) (bj : Addr) (pl : Nat → List Nat) : Prop :=
  ∃ m : Str → Option Value, h.MapOf (strKind pw w) bj m ∧ ∀ c, (m (St [c]) = none ∧ pl c = []) ∨
    ∃ (lj : Addr) (vs : List Value), m (St [c]) = some (.ref lj) ∧ h.IsList lj vs.toArray ∧ vs.length = (pl c).length ∧ ∀ (t : Nat) (ht : t < (pl c).length), ∃ tk, vs[t]? = some (.int ((pl c)[t] : Int) tk)
theorem k_get2 {prog : Program} {w : World} {A : Around} {E : Value → Shared → Prop} {s : Shared} {κ : Type} [DecidableEq κ] {knd : KeyKind prog w κ} {d : Addr} {pos : Pos} {e1 e2 : PySem.Expr} {env : Env} {Q : Value → Shared → Prop} (hd : (d == sysModules) = false)
    (h : wpAny (model prog w) A (eval e1 env) (fun key s₁ => wpAny (model prog w) A (eval e2 env) (fun dflt s₂ => ∃ k f, knd.is k key = true ∧ s₂.heap.MapOf knd d f ∧ Q ((f k).getD dflt) { s₂ with toks := s₂.toks + 1 }) E s₁) E s)
    (he : backTo pos (starEach [e1, e2] env) = [(false, eval e1 env), (false, eval e2 env)] := by kernel_rfl) :
    wpAny (model prog w) A (callWith pos (.builtin "dict.get") [.ref d] (backTo pos (starEach [e1, e2] env)) []) Q E s := by
  rw [he]
  exact wpAny_dict_get2 (knd := knd) hd h
theorem MapOf.kept {prog : Program} {w : World} {κ : Type} [DecidableEq κ] {knd : KeyKind prog w κ} {h h' : Heap} {a : Addr} {f : κ → Option Value} (x : h.MapOf knd a f) (hk : Kp h h') : h'.MapOf knd a f :=
  let ⟨o, es, ep, ho, r⟩ := x; ⟨o, es, ep, hk a o ho, r⟩
theorem dict0_is {w : World} : (dictOf [] 0).IsDictOf (intKind pw w) [] := ⟨#[], 0, ⟨rfl, rfl, rfl⟩, rfl, fun e he => by simp at he, .nil, List.nodup_nil⟩
noncomputable abbrev rowVars : List Str := Str.ofString "j2len" :: Str.ofString "j2lenget" :: Str.ofString "newj2len" :: inVars
theorem flm_row {w : World} {A : Around} {h h₁ : Heap} {L : Addr} {g : Array GenState} {d : Drawn} {tk : Nat} {os : OsState} {E : Value → Shared → Prop} {Q : Flow → Shared → Prop} {l : List (Str × Value)} {i blo bhi : Nat} {best : Best} {f : Nat → Nat} {ti ta t1 t2 t3 t4 t5 : Tok} {dj nl bj : Addr} {oj : Obj} {kj : List (Int × Value)} {news : List (Addr × Obj)} {as : List Nat} {pl : Nat → List Nat}
    (hA : A.handled = none) (F : Fr h L h₁ (lk l)) (N : News h L h₁ ((dj, oj) :: (nl, { cls := .type "list", data := .seq #[] 0 }) :: news)) (hoj : oj.IsDictOf (intKind pw w) kj) (hr : Rep kj f) (hb : B2J w h bj pl) (hbs : (bj == sysModules) = false) (hil : i < as.length) (hla : as.length < 1000000) (hpl : (pl as[i]).length ≤ 1000000) (hsys : ∀ a, h.get? a = none → (a == sysModules) = false)
    (hi : lk l (Str.ofString "i") = some (.int (i : Int) ti)) (ha : lk l (Str.ofString "a") = some (.str (St as) ta)) (hbj : lk l (Str.ofString "b2j") = some (.ref bj)) (hnl : lk l (Str.ofString "nothing") = some (.ref nl)) (hjl : lk l (Str.ofString "j2len") = some (.ref dj)) (hbo : lk l (Str.ofString "blo") = some (.int (blo : Int) t1)) (hbh : lk l (Str.ofString "bhi") = some (.int (bhi : Int) t2))
    (h1 : lk l (Str.ofString "besti") = some (.int best.1 t3)) (h2 : lk l (Str.ofString "bestj") = some (.int best.2.1 t4)) (h3 : lk l (Str.ofString "bestsize") = some (.int best.2.2 t5))
    (q : ∀ h' tk' l' nd on' kn s1 s2 s3, Fr h L h' (lk l') → News h L h' ((nd, on') :: (nl, { cls := .type "list", data := .seq #[] 0 }) :: news) → on'.IsDictOf (intKind pw w) kn → Rep kn (inn i blo bhi f (pl as[i]) (best, fun _ => 0)).2 → tk ≤ tk' →
      lk l' (Str.ofString "besti") = some (.int (inn i blo bhi f (pl as[i]) (best, fun _ => 0)).1.1 s1) → lk l' (Str.ofString "bestj") = some (.int (inn i blo bhi f (pl as[i]) (best, fun _ => 0)).1.2.1 s2) → lk l' (Str.ofString "bestsize") = some (.int (inn i blo bhi f (pl as[i]) (best, fun _ => 0)).1.2.2 s3) →
      lk l' (Str.ofString "j2len") = some (.ref nd) → (∀ x, x ∉ rowVars → lk l' x = lk l x) → (∀ p ∈ news, p.1 ≠ nd) → Q .next ⟨h', g, d, tk', os⟩) :
    wpAny (model pw w) A (execs outBody (flmE L)) Q E ⟨h₁, g, d, tk, os⟩ := by
  conv in outBody => whnf
  obtain ⟨es, ep, hx, hd, hrest⟩ := id hoj
  have hlit := dict_lit hx hd
  walk_at "my go"
  refine attr_getN F N hA (by have := N.get (.head _); rw [hlit] at this; exact this) fun u' h' F' N' => ?_
  clear F N
  walk_at "my go"
  refine wpAny_For ?_
  walk_at "my go"
  obtain ⟨mB, hmB, hcB⟩ := hb
  have hm' : h'.MapOf (strKind pw w) bj mB := MapOf.kept hmB F'.keep
  refine getMethod_builtin (T := "dict") hm'.typeIs F.plainAttrs_dict F.slot_dict_get F.type_dict_get hm'.noDict ?_
  refine k_get2 (knd := strKind pw w) hbs ?_
  walk_at "my go"
  refine sub_str rfl (List.getElem?_eq_getElem hil) hla ?_
  refine k_nm F' (v := .ref nl) (by with_unfolding_all exact hnl) ?_
  refine ⟨St [as[i]], mB, strKind_is _ _ _ _, hm', ?_⟩
  have hin : ∀ (px : Pos) (lj : Addr) (vs : List Value), (∀ h', Kp h h' → News h L h' ((nl, { cls := .type "list", data := .seq #[] 0 }) :: news) → h'.IsList lj vs.toArray) → vs.length = (pl as[i]).length → (∀ (t : Nat) (ht : t < (pl as[i]).length), ∃ tk, vs[t]? = some (.int ((pl as[i])[t] : Int) tk)) →
      wpAny (model pw w) A (pyIter (.ref lj)) (fun it s₂ => codeAny (model pw w) A (.forLoop (.Name (Str.ofString "j") px) it inBody [] (flmE L)) (fun r s' => match r with | .ok f => Cont (model pw w) A (outBody.drop 3) (flmE L) Q E f s' | .error e => cameBackBy (model pw w) A (flmE L) E e s') s₂) E ⟨h', g, d, tk + 1 + 1 + 1 + 1 + 1, os⟩ := by
    intro px lj vs hlj hvs hv
    have l1' : ∀ p ∈ (nl, ({ cls := .type "list", data := .seq #[] 0 } : Obj)) :: news, p.1 < D' := fun p hp => l1 p (.tail _ (.tail _ hp))
    refine flm_inner (gt := u') (nd := D') (dj := dj) (lj := lj) (vs := vs) (js := pl as[i]) (f := f) (i := i) (blo := blo) (bhi := bhi) (best := best) (kj := kj) (news := (nl, { cls := .type "list", data := .seq #[] 0 }) :: news) hA F' (fun p hp => N' p ?_) hoj dict0_is hr (Nat.ne_of_lt (l1 _ (.head _))) (Nat.ne_of_lt (l1 _ (.tail _ (.head _)))) (fun p hp => Nat.ne_of_lt (l1' p hp)) (hsys dj (N'.fresh (o := oj) (by simp))) hpl hlj hvs hv
      (by with_unfolding_all exact hi) (by with_unfolding_all exact hbo) (by with_unfolding_all exact hbh) (by with_unfolding_all rfl) (by with_unfolding_all rfl) (by with_unfolding_all exact h1) (by with_unfolding_all exact h2) (by with_unfolding_all exact h3) ?_
    · simp only [List.mem_cons] at hp ⊢
      rcases hp with e | e | e | e <;> simp [e]
    · intro h'' tk'' l' on' kn s1 s2 s3 F2 N2 hd2 r2 htk e1 e2 e3 hx
      conv in (outBody.drop 3) => whnf
      have hn2 : lk l' (Str.ofString "newj2len") = some (.ref D') := by rw [hx _ (by decide +kernel)]; with_unfolding_all rfl
      clear F' N'
      walk_at "my go"
      refine q _ _ _ D' on' kn s1 s2 s3 F' (fun p hp => N' p ?_) hd2 r2 (by omega) (by with_unfolding_all exact e1) (by with_unfolding_all exact e2) (by with_unfolding_all exact e3) (by with_unfolding_all rfl) (fun x hxx => ?_) (fun p hp => Nat.ne_of_lt (l1' p (.tail _ hp)))
      · simp only [List.mem_cons] at hp ⊢
        rcases hp with e | e | e <;> simp [e]
      · simp only [rowVars, List.mem_cons, not_or] at hxx
        rw [lk_skip hxx.1, hx x (by simp only [inVars, List.mem_cons, not_or]; exact hxx.2.2.2), lk_skip hxx.2.2.1, lk_skip hxx.2.1]
  rcases hcB as[i] with ⟨hm0, hp0⟩ | ⟨lj, vs, hm1, hl1, hlen, hvals⟩
  · rw [hm0]
    exact hin _ nl [] (fun h2 _ N2 => N2.isList (.head _)) (by rw [hp0]; rfl) (fun t ht => by rw [hp0] at ht; cases ht)
  · rw [hm1]
    exact hin _ lj vs (fun h2 k2 _ => let ⟨o, ho, r⟩ := hl1; ⟨o, k2 _ _ ho, r⟩) hlen hvals

noncomputable def rows (as : List Nat) (blo bhi : Nat) (pl : Nat → List Nat) : List Nat → Best × (Nat → Nat) → Best × (Nat → Nat)
  | [], s => s
  | i :: is, s => rows as blo bhi pl is (inn i blo bhi s.2 (pl (as[i]?.getD 0)) (s.1, fun _ => 0))
theorem flm_rows {w : World} {A : Around} {h h₁ : Heap} {L : Addr} {g : Array GenState} {d : Drawn} {tk : Nat} {os : OsState} {E : Value → Shared → Prop} {Q : Flow → Shared → Prop} {l : List (Str × Value)} {alo ahi blo bhi : Nat} {best : Best} {ta t0 t1 t2 t3 t4 t5 t6 : Tok} {dj nl bj : Addr} {oj : Obj} {news : List (Addr × Obj)} {as : List Nat} {pl : Nat → List Nat} {mg mb : Str → Option Value} {rest : List Stmt}
    (hA : A.handled = none) (X : (K w.params).In h) (X' : TopRead q (looseW q loose) mg mb h) (F : Fr h L h₁ (lk l)) (N : News h L h₁ ((nl, { cls := .type "list", data := .seq #[] 0 }) :: (dj, oj) :: news)) (hoj : oj.IsDictOf (intKind pw w) []) (hb : B2J w h bj pl) (hbs : (bj == sysModules) = false) (hle : alo ≤ ahi) (hal : ahi ≤ as.length) (hla : as.length < 1000000) (hpl : ∀ c, (pl c).length ≤ 1000000) (hsys : ∀ a, h.get? a = none → (a == sysModules) = false) (hjl0 : dj < nl) (hjn : ∀ p ∈ news, p.1 < dj)
    (ha : lk l (Str.ofString "a") = some (.str (St as) ta)) (hbj : lk l (Str.ofString "b2j") = some (.ref bj)) (hnl : lk l (Str.ofString "nothing") = some (.ref nl)) (hjl : lk l (Str.ofString "j2len") = some (.ref dj)) (hao : lk l (Str.ofString "alo") = some (.int (alo : Int) t0)) (hah : lk l (Str.ofString "ahi") = some (.int (ahi : Int) t6)) (hbo : lk l (Str.ofString "blo") = some (.int (blo : Int) t1)) (hbh : lk l (Str.ofString "bhi") = some (.int (bhi : Int) t2))
    (h1 : lk l (Str.ofString "besti") = some (.int best.1 t3)) (h2 : lk l (Str.ofString "bestj") = some (.int best.2.1 t4)) (h3 : lk l (Str.ofString "bestsize") = some (.int best.2.2 t5))
    (qq : ∀ h' tk' l' s1 s2 s3, Fr h L h' (lk l') → News h L h' news → tk ≤ tk' →
      lk l' (Str.ofString "besti") = some (.int (rows as blo bhi pl (List.range' alo (ahi - alo)) (best, fun _ => 0)).1.1 s1) → lk l' (Str.ofString "bestj") = some (.int (rows as blo bhi pl (List.range' alo (ahi - alo)) (best, fun _ => 0)).1.2.1 s2) → lk l' (Str.ofString "bestsize") = some (.int (rows as blo bhi pl (List.range' alo (ahi - alo)) (best, fun _ => 0)).1.2.2 s3) →
      (∀ x, x ∉ Str.ofString "i" :: rowVars → lk l' x = lk l x) → wpAny (model pw w) A (execs rest (flmE L)) Q E ⟨h', g, d, tk', os⟩) :
    wpAny (model pw w) A (execs (fS 7 :: rest) (flmE L)) Q E ⟨h₁, g, d, tk, os⟩ := by
  refine x_cons ?_
  conv in (fS 7) => whnf
  refine wpAny_For ?_
  walk_at "my go"
  refine k_iter_range F' N' (.head _) hle (by omega) fun I hh2 F2 N2 l2 st => ?_
  have hNI := l2
  refine for_led (x := Str.ofString "i") (fx := []) (oI := { cls := .type "range_iterator", data := .fields #[rawInt (alo : Int), rawInt ((ahi - alo : Nat) : Int), rawInt 1] }) (body := outBody) (h := h) (Walks.range hA I (alo : Int) 1 (ahi - alo)) (fun t l' news' tk' => ∃ b f dj' oj' kj s1 s2 s3, news' = (dj', oj') :: (nl, { cls := .type "list", data := .seq #[] 0 }) :: news ∧ oj'.IsDictOf (intKind pw w) kj ∧ Rep kj f ∧
      lk l' (Str.ofString "besti") = some (.int b.1 s1) ∧ lk l' (Str.ofString "bestj") = some (.int b.2.1 s2) ∧ lk l' (Str.ofString "bestsize") = some (.int b.2.2 s3) ∧ lk l' (Str.ofString "j2len") = some (.ref dj') ∧ (∀ x, x ∉ Str.ofString "i" :: rowVars → lk l' x = lk l x) ∧
      rows as blo bhi pl (List.range' alo (ahi - alo)) (best, fun _ => 0) = rows as blo bhi pl (List.range' (alo + t) (ahi - alo - t)) (b, f) ∧ tk ≤ tk')
    (fun b hb => .inl (by simpa using hb)) (by simp) (fun t h' s => ⟨_, s⟩) (fun _ _ _ _ _ p hp => nomatch hp) F2 (news := (dj, oj) :: (nl, { cls := .type "list", data := .seq #[] 0 }) :: news) (fun p hp => N2 p ?_) (fun p hp => Nat.ne_of_lt (l2 p ?_)) st
    ⟨best, fun _ => 0, dj, oj, [], t3, t4, t5, rfl, hoj, Rep.nil, h1, h2, h3, hjl, fun _ _ => rfl, by simp, by omega⟩ ?_ ?_
  · simp only [List.mem_cons] at hp ⊢
    rcases hp with e | e | e | e <;> simp [e]
  · simp only [List.mem_cons] at hp ⊢
    rcases hp with e | e | e <;> simp [e]
  · rintro t h3 l' news' tk0 tk' v oI' ht ⟨tv, rfl⟩ F3 N3 hne ⟨b, f, dj', oj', kj, s1, s2, s3, rfl, hd, hr, e1, e2, e3, e4, hx, hrows, htk⟩ htk'
    have hx1 : ∀ x, x ∉ Str.ofString "i" :: rowVars → lk ((Str.ofString "i", Value.int ((alo : Int) + (t : Int) * 1) tv) :: l') x = lk l x := fun x hxx => by
      rw [lk_skip (fun e => hxx (by rw [e]; exact .head _)), hx x hxx]
    have hit : alo + t < as.length := by omega
    have hie : ((alo : Int) + (t : Int) * 1) = ((alo + t : Nat) : Int) := by push_cast; omega
    have hrng : List.range' (alo + t) (ahi - alo - t) = (alo + t) :: List.range' (alo + (t + 1)) (ahi - alo - (t + 1)) := by
      have : ahi - alo - t = (ahi - alo - (t + 1)) + 1 := by omega
      rw [this, List.range'_succ]
      rfl
    refine flm_row (i := alo + t) (as := as) (pl := pl) (best := b) (f := f) (kj := kj) (dj := dj') (nl := nl) (bj := bj) (news := (I, oI') :: news) (blo := blo) (bhi := bhi) hA F3 (fun p hp => N3 p ?_) hd hr hb hbs hit hla (hpl _) hsys
      (by rw [hie]; with_unfolding_all rfl) (by rw [hx1 _ (by decide +kernel)]; exact ha) (by rw [hx1 _ (by decide +kernel)]; exact hbj) (by rw [hx1 _ (by decide +kernel)]; exact hnl) (by with_unfolding_all exact e4) (by rw [hx1 _ (by decide +kernel)]; exact hbo) (by rw [hx1 _ (by decide +kernel)]; exact hbh)
      (by with_unfolding_all exact e1) (by with_unfolding_all exact e2) (by with_unfolding_all exact e3) ?_
    · simp only [List.mem_cons] at hp ⊢
      rcases hp with e | e | e | e <;> simp [e]
    · intro h4 tk4 l4 nd on' kn u1 u2 u3 F4 N4 hd4 r4 htk4 a1 a2 a3 a4 hx4 hne4
      refine TurnEnd.next ⟨l4, (nd, on') :: (nl, { cls := .type "list", data := .seq #[] 0 }) :: news, F4, fun p hp => N4 p ?_, fun p hp => ?_, _, _, nd, on', kn, u1, u2, u3, rfl, hd4, r4, a1, a2, a3, a4, fun x hxx => ?_, ?_, by omega⟩
      · simp only [List.mem_cons] at hp ⊢
        rcases hp with e | e | e | e <;> simp [e]
      · rcases List.mem_cons.mp hp with rfl | hp
        · exact fun e => hne4 _ (.head _) e.symm
        · exact hne p (.tail _ hp)
      · rw [hx4 x (fun e => hxx (.tail _ e)), hx1 x hxx]
      · rw [hrows, hrng, rows, List.getElem?_eq_getElem hit]
        rfl
  · rintro h3 l' news' tk0 tk' F3 N3 ⟨b, f, dj', oj', kj, s1, s2, s3, rfl, hd, hr, e1, e2, e3, e4, hx, hrows, htk⟩ htk'
    have hfin : rows as blo bhi pl (List.range' alo (ahi - alo)) (best, fun _ => 0) = (b, f) := by
      rw [hrows, Nat.sub_self]; rfl
    refine c_next (qq _ _ l' s1 s2 s3 F3 (fun p hp => N3 p (.tail _ (.tail _ hp))) (by omega) ?_ ?_ ?_ hx)
    · rw [hfin]; exact e1
    · rw [hfin]; exact e2
    · rw [hfin]; exact e3

/-- what the bound __contains__ of the junk answers -/
noncomputable def IsJ (w : World) (A : Around) (h : Heap) (u : Addr) (ou : Obj) (junk : Nat → Bool) : Prop :=
  ∀ (h' : Heap) (c : Nat) (t : Tok) (g : Array GenState) (d : Drawn) (tk : Nat) (os : OsState) (Q : Value → Shared → Prop) (E : Value → Shared → Prop), Kp h h' → h'.get? u = some ou → (∀ tk', tk ≤ tk' → Q (.bool (junk c)) ⟨h', g, d, tk', os⟩) →
    wpAny (model pw w) A (call (.ref u) [.str (St [c]) t]) Q E ⟨h', g, d, tk, os⟩
noncomputable def extL (p : Nat → Bool) (as bs : List Nat) (alo blo : Nat) : Nat → Nat → Nat → Nat × Nat × Nat
  | x + 1, y + 1, z => if alo < x + 1 ∧ blo < y + 1 ∧ p (bs[y]?.getD 0) = true ∧ as[x]?.getD 0 = bs[y]?.getD 0 then extL p as bs alo blo x y (z + 1) else (x + 1, y + 1, z)
  | x, y, z => (x, y, z)
noncomputable def extR (p : Nat → Bool) (as bs : List Nat) (ahi bhi x y : Nat) : Nat → Nat → Nat
  | 0, z => z
  | n + 1, z => if x + z < ahi ∧ y + z < bhi ∧ p (bs[y + z]?.getD 0) = true ∧ as[x + z]?.getD 0 = bs[y + z]?.getD 0 then extR p as bs ahi bhi x y n (z + 1) else z
noncomputable abbrev bVars : List Str := [Str.ofString "besti", Str.ofString "bestj", Str.ofString "bestsize"]
theorem extL_go {p : Nat → Bool} {as bs : List Nat} {alo blo x y z : Nat} (hx : alo < x) (hy : blo < y) (hp : p (bs[y - 1]?.getD 0) = true) (he : as[x - 1]?.getD 0 = bs[y - 1]?.getD 0) : extL p as bs alo blo x y z = extL p as bs alo blo (x - 1) (y - 1) (z + 1) := by
  obtain ⟨x, rfl⟩ : ∃ m, x = m + 1 := ⟨x - 1, by omega⟩
  obtain ⟨y, rfl⟩ : ∃ m, y = m + 1 := ⟨y - 1, by omega⟩
  simp only [Nat.add_sub_cancel] at hp he ⊢
  rw [extL, if_pos ⟨hx, hy, hp, he⟩]
theorem extL_end {p : Nat → Bool} {as bs : List Nat} {alo blo x y z : Nat} (h : ¬ (alo < x ∧ blo < y ∧ p (bs[y - 1]?.getD 0) = true ∧ as[x - 1]?.getD 0 = bs[y - 1]?.getD 0)) : extL p as bs alo blo x y z = (x, y, z) := by
  unfold extL
  split
  · rename_i x y
    rw [if_neg (by simpa using h)]
  · rfl
theorem St1_beq (a b : Nat) : (St [a] == St [b]) = decide (a = b) := by
  by_cases h : a = b
  · subst h; simp
  · have : St [a] ≠ St [b] := fun e => h (by
      have := congrArg Str.cps e
      simpa using this)
    rw [beq_eq_false_iff_ne.mpr this]
    simp [h]
theorem flm_w1 {w : World} {A : Around} {h h₁ : Heap} {L : Addr} {g : Array GenState} {d : Drawn} {tk : Nat} {os : OsState} {E : Value → Shared → Prop} {Q : Flow → Shared → Prop} {l : List (Str × Value)} {alo blo x y z : Nat} {ta tb t0 t1 t3 t4 t5 : Tok} {u jk : Addr} {news : List (Addr × Obj)} {as bs : List Nat} {junk : Nat → Bool}
    (hA : A.handled = none) (F : Fr h L h₁ (lk l)) (N : News h L h₁ news) (hu : (u, boundObj "set.__contains__" jk) ∈ news) (hJ : IsJ w A h u (boundObj "set.__contains__" jk) junk) (hla : as.length < 1000000) (hlb : bs.length < 1000000) (hx : x ≤ as.length) (hy : y ≤ bs.length)
    (ha : lk l (Str.ofString "a") = some (.str (St as) ta)) (hb : lk l (Str.ofString "b") = some (.str (St bs) tb)) (hj : lk l (Str.ofString "isbjunk") = some (.ref u)) (hao : lk l (Str.ofString "alo") = some (.int (alo : Int) t0)) (hbo : lk l (Str.ofString "blo") = some (.int (blo : Int) t1))
    (h1 : lk l (Str.ofString "besti") = some (.int (x : Int) t3)) (h2 : lk l (Str.ofString "bestj") = some (.int (y : Int) t4)) (h3 : lk l (Str.ofString "bestsize") = some (.int (z : Int) t5))
    (qq : ∀ h' tk' l' s1 s2 s3, Fr h L h' (lk l') → News h L h' news → tk ≤ tk' → lk l' (Str.ofString "besti") = some (.int ((extL (fun c => !junk c) as bs alo blo x y z).1 : Int) s1) → lk l' (Str.ofString "bestj") = some (.int ((extL (fun c => !junk c) as bs alo blo x y z).2.1 : Int) s2) → lk l' (Str.ofString "bestsize") = some (.int ((extL (fun c => !junk c) as bs alo blo x y z).2.2 : Int) s3) →
      (∀ v, v ∉ bVars → lk l' v = lk l v) → Q .next ⟨h', g, d, tk', os⟩) :
    wpAny (model pw w) A (exec (fS 8) (flmE L)) Q E ⟨h₁, g, d, tk, os⟩ := by
  conv in (fS 8) => whnf
  refine while_led (fun k l' news' tk' => ∃ (x' y' z' : Nat) (s1 s2 s3 : Tok), k = x' ∧ lk l' (Str.ofString "besti") = some (.int (x' : Int) s1) ∧ lk l' (Str.ofString "bestj") = some (.int (y' : Int) s2) ∧ lk l' (Str.ofString "bestsize") = some (.int (z' : Int) s3) ∧ (∀ v, v ∉ bVars → lk l' v = lk l v) ∧
    extL (fun c => !junk c) as bs alo blo x y z = extL (fun c => !junk c) as bs alo blo x' y' z' ∧ x' ≤ as.length ∧ y' ≤ bs.length ∧ news' = news ∧ tk ≤ tk') x F N ⟨x, y, z, t3, t4, t5, rfl, h1, h2, h3, fun _ _ => rfl, rfl, hx, hy, rfl, Nat.le_refl _⟩ ?_
  rintro k h' l' news' tk' F' N' ⟨x', y', z', s1, s2, s3, hk, h1, h2, h3, hv, hext, hx', hy', rfl, htk⟩
  have ha' : lk l' (Str.ofString "a") = some (.str (St as) ta) := by rw [hv _ (by decide +kernel)]; exact ha
  have hb' : lk l' (Str.ofString "b") = some (.str (St bs) tb) := by rw [hv _ (by decide +kernel)]; exact hb
  have hao' : lk l' (Str.ofString "alo") = some (.int (alo : Int) t0) := by rw [hv _ (by decide +kernel)]; exact hao
  have hbo' : lk l' (Str.ofString "blo") = some (.int (blo : Int) t1) := by rw [hv _ (by decide +kernel)]; exact hbo
  have hj' : lk l' (Str.ofString "isbjunk") = some (.ref u) := by rw [hv _ (by decide +kernel)]; exact hj
  have fin : ∀ h'' tk'', Fr h L h'' (lk l') → News h L h'' news' → tk' ≤ tk'' → ¬ (alo < x' ∧ blo < y' ∧ (!junk (bs[y' - 1]?.getD 0)) = true ∧ as[x' - 1]?.getD 0 = bs[y' - 1]?.getD 0) → Q .next ⟨h'', g, d, tk'', os⟩ := by
    intro h'' tk'' F2 N2 ht hn
    have e : extL (fun c => !junk c) as bs alo blo x y z = (x', y', z') := by rw [hext]; exact extL_end hn
    refine qq h'' tk'' l' s1 s2 s3 F2 N2 (by omega) ?_ ?_ ?_ hv
    · rw [e]; exact h1
    · rw [e]; exact h2
    · rw [e]; exact h3
  clear ha hb hao hbo hj
  walk_at "my go"
  · refine cw_bound (id := "set.__contains__") (a := jk) ?_
    walk_at "my go"
    refine sub_str (i := y' - 1) (c := bs[y' - 1]'(by omega)) (by omega) (List.getElem?_eq_getElem (by omega)) hlb ?_
    walk_at "my go"
    · exact N'.get hu
    refine hJ _ _ _ _ _ _ _ _ _ F'.keep (N'.get hu) fun tk2 htk2 => ?_
    walk_at "my go"
    · refine fin _ _ F' N' (by omega) ?_
      rintro ⟨_, _, hc, _⟩
      rw [List.getElem?_eq_getElem (by omega), Option.getD_some] at hc
      first
        | (rename junk _ = true => hjk; rw [hjk] at hc; cases hc)
        | (rename junk _ = false => hjk; rw [hjk] at hc; cases hc)
    refine sub_str (i := x' - 1) (c := as[x' - 1]'(by omega)) (by omega) (List.getElem?_eq_getElem (by omega)) hla ?_
    walk_at "my go"
    refine sub_str (i := y' - 1) (c := bs[y' - 1]'(by omega)) (by omega) (List.getElem?_eq_getElem (by omega)) hlb ?_
    walk_at "my go"
    · rename (_ == _) = true => hab
      rw [St1_beq, decide_eq_true_eq] at hab
      have e1 : (x' : Int) - 1 = ((x' - 1 : Nat) : Int) := by omega
      have e2 : (y' : Int) - 1 = ((y' - 1 : Nat) : Int) := by omega
      have e3 : (z' : Int) + 1 = ((z' + 1 : Nat) : Int) := by omega
      rw [e1, e2, e3] at F'
      refine TurnEnd.next ⟨x' - 1, by omega, _, _, F', fun p hp => N' p (.tail _ hp), x' - 1, y' - 1, z' + 1, _, _, _, rfl, (by with_unfolding_all rfl), (by with_unfolding_all rfl), (by with_unfolding_all rfl), fun v hvv => ?_, ?_, by omega, by omega, rfl, by omega⟩
      · simp only [bVars, List.mem_cons, not_or] at hvv
        rw [lk_skip hvv.1, lk_skip hvv.2.1, lk_skip hvv.2.2.1]
        exact hv v (by simp only [bVars, List.mem_cons, not_or]; exact hvv)
      · rw [hext]
        refine extL_go (by omega) (by omega) ?_ ?_
        · rw [List.getElem?_eq_getElem (by omega)]
          first
            | (rename junk _ = false => hjk; show (!junk _) = true; rw [Option.getD_some, hjk]; rfl)
            | (rename junk _ = true => hjk; exact hjk)
        · rw [List.getElem?_eq_getElem (by omega), List.getElem?_eq_getElem (by omega)]; exact hab
    · rename (_ == _) = false => hab
      rw [St1_beq, decide_eq_false_iff_not] at hab
      refine fin _ _ F' N' (by dsimp only; omega) ?_
      rintro ⟨_, _, _, hc⟩
      rw [List.getElem?_eq_getElem (by omega), List.getElem?_eq_getElem (by omega)] at hc
      exact hab (by simpa using hc)
  · exact fin _ _ F' N' (by omega) (by omega)
  · exact fin _ _ F' N' (by omega) (by omega)

theorem flm_w3 {w : World} {A : Around} {h h₁ : Heap} {L : Addr} {g : Array GenState} {d : Drawn} {tk : Nat} {os : OsState} {E : Value → Shared → Prop} {Q : Flow → Shared → Prop} {l : List (Str × Value)} {alo blo x y z : Nat} {ta tb t0 t1 t3 t4 t5 : Tok} {u jk : Addr} {news : List (Addr × Obj)} {as bs : List Nat} {junk : Nat → Bool}
    (hA : A.handled = none) (F : Fr h L h₁ (lk l)) (N : News h L h₁ news) (hu : (u, boundObj "set.__contains__" jk) ∈ news) (hJ : IsJ w A h u (boundObj "set.__contains__" jk) junk) (hla : as.length < 1000000) (hlb : bs.length < 1000000) (hx : x ≤ as.length) (hy : y ≤ bs.length)
    (ha : lk l (Str.ofString "a") = some (.str (St as) ta)) (hb : lk l (Str.ofString "b") = some (.str (St bs) tb)) (hj : lk l (Str.ofString "isbjunk") = some (.ref u)) (hao : lk l (Str.ofString "alo") = some (.int (alo : Int) t0)) (hbo : lk l (Str.ofString "blo") = some (.int (blo : Int) t1))
    (h1 : lk l (Str.ofString "besti") = some (.int (x : Int) t3)) (h2 : lk l (Str.ofString "bestj") = some (.int (y : Int) t4)) (h3 : lk l (Str.ofString "bestsize") = some (.int (z : Int) t5))
    (qq : ∀ h' tk' l' s1 s2 s3, Fr h L h' (lk l') → News h L h' news → tk ≤ tk' → lk l' (Str.ofString "besti") = some (.int ((extL junk as bs alo blo x y z).1 : Int) s1) → lk l' (Str.ofString "bestj") = some (.int ((extL junk as bs alo blo x y z).2.1 : Int) s2) → lk l' (Str.ofString "bestsize") = some (.int ((extL junk as bs alo blo x y z).2.2 : Int) s3) →
      (∀ v, v ∉ bVars → lk l' v = lk l v) → Q .next ⟨h', g, d, tk', os⟩) :
    wpAny (model pw w) A (exec (fS 10) (flmE L)) Q E ⟨h₁, g, d, tk, os⟩ := by
  conv in (fS 10) => whnf
  refine while_led (fun k l' news' tk' => ∃ (x' y' z' : Nat) (s1 s2 s3 : Tok), k = x' ∧ lk l' (Str.ofString "besti") = some (.int (x' : Int) s1) ∧ lk l' (Str.ofString "bestj") = some (.int (y' : Int) s2) ∧ lk l' (Str.ofString "bestsize") = some (.int (z' : Int) s3) ∧ (∀ v, v ∉ bVars → lk l' v = lk l v) ∧
    extL junk as bs alo blo x y z = extL junk as bs alo blo x' y' z' ∧ x' ≤ as.length ∧ y' ≤ bs.length ∧ news' = news ∧ tk ≤ tk') x F N ⟨x, y, z, t3, t4, t5, rfl, h1, h2, h3, fun _ _ => rfl, rfl, hx, hy, rfl, Nat.le_refl _⟩ ?_
  rintro k h' l' news' tk' F' N' ⟨x', y', z', s1, s2, s3, hk, h1, h2, h3, hv, hext, hx', hy', rfl, htk⟩
  have ha' : lk l' (Str.ofString "a") = some (.str (St as) ta) := by rw [hv _ (by decide +kernel)]; exact ha
  have hb' : lk l' (Str.ofString "b") = some (.str (St bs) tb) := by rw [hv _ (by decide +kernel)]; exact hb
  have hao' : lk l' (Str.ofString "alo") = some (.int (alo : Int) t0) := by rw [hv _ (by decide +kernel)]; exact hao
  have hbo' : lk l' (Str.ofString "blo") = some (.int (blo : Int) t1) := by rw [hv _ (by decide +kernel)]; exact hbo
  have hj' : lk l' (Str.ofString "isbjunk") = some (.ref u) := by rw [hv _ (by decide +kernel)]; exact hj
  have fin : ∀ h'' tk'', Fr h L h'' (lk l') → News h L h'' news' → tk' ≤ tk'' → ¬ (alo < x' ∧ blo < y' ∧ junk (bs[y' - 1]?.getD 0) = true ∧ as[x' - 1]?.getD 0 = bs[y' - 1]?.getD 0) → Q .next ⟨h'', g, d, tk'', os⟩ := by
    intro h'' tk'' F2 N2 ht hn
    have e : extL junk as bs alo blo x y z = (x', y', z') := by rw [hext]; exact extL_end hn
    refine qq h'' tk'' l' s1 s2 s3 F2 N2 (by omega) ?_ ?_ ?_ hv
    · rw [e]; exact h1
    · rw [e]; exact h2
    · rw [e]; exact h3
  clear ha hb hao hbo hj
  walk_at "my go"
  · refine cw_bound (id := "set.__contains__") (a := jk) ?_
    walk_at "my go"
    refine sub_str (i := y' - 1) (c := bs[y' - 1]'(by omega)) (by omega) (List.getElem?_eq_getElem (by omega)) hlb ?_
    walk_at "my go"
    · exact N'.get hu
    refine hJ _ _ _ _ _ _ _ _ _ F'.keep (N'.get hu) fun tk2 htk2 => ?_
    walk_at "my go"
    rotate_left
    · refine fin _ _ F' N' (by omega) ?_
      rintro ⟨_, _, hc, _⟩
      rw [List.getElem?_eq_getElem (by omega), Option.getD_some] at hc
      first
        | (rename junk _ = true => hjk; rw [hjk] at hc; cases hc)
        | (rename junk _ = false => hjk; rw [hjk] at hc; cases hc)
    refine sub_str (i := x' - 1) (c := as[x' - 1]'(by omega)) (by omega) (List.getElem?_eq_getElem (by omega)) hla ?_
    walk_at "my go"
    refine sub_str (i := y' - 1) (c := bs[y' - 1]'(by omega)) (by omega) (List.getElem?_eq_getElem (by omega)) hlb ?_
    walk_at "my go"
    · rename (_ == _) = true => hab
      rw [St1_beq, decide_eq_true_eq] at hab
      have e1 : (x' : Int) - 1 = ((x' - 1 : Nat) : Int) := by omega
      have e2 : (y' : Int) - 1 = ((y' - 1 : Nat) : Int) := by omega
      have e3 : (z' : Int) + 1 = ((z' + 1 : Nat) : Int) := by omega
      rw [e1, e2, e3] at F'
      refine TurnEnd.next ⟨x' - 1, by omega, _, _, F', fun p hp => N' p (.tail _ hp), x' - 1, y' - 1, z' + 1, _, _, _, rfl, (by with_unfolding_all rfl), (by with_unfolding_all rfl), (by with_unfolding_all rfl), fun v hvv => ?_, ?_, by omega, by omega, rfl, by omega⟩
      · simp only [bVars, List.mem_cons, not_or] at hvv
        rw [lk_skip hvv.1, lk_skip hvv.2.1, lk_skip hvv.2.2.1]
        exact hv v (by simp only [bVars, List.mem_cons, not_or]; exact hvv)
      · rw [hext]
        refine extL_go (by omega) (by omega) ?_ ?_
        · rw [List.getElem?_eq_getElem (by omega)]
          first
            | (rename junk _ = false => hjk; show (!junk _) = true; rw [Option.getD_some, hjk]; rfl)
            | (rename junk _ = true => hjk; exact hjk)
        · rw [List.getElem?_eq_getElem (by omega), List.getElem?_eq_getElem (by omega)]; exact hab
    · rename (_ == _) = false => hab
      rw [St1_beq, decide_eq_false_iff_not] at hab
      refine fin _ _ F' N' (by dsimp only; omega) ?_
      rintro ⟨_, _, _, hc⟩
      rw [List.getElem?_eq_getElem (by omega), List.getElem?_eq_getElem (by omega)] at hc
      exact hab (by simpa using hc)
  · exact fin _ _ F' N' (by omega) (by omega)
  · exact fin _ _ F' N' (by omega) (by omega)

theorem extR_go {p : Nat → Bool} {as bs : List Nat} {ahi bhi x y n z : Nat} (h1 : x + z < ahi) (h2 : y + z < bhi) (hp : p (bs[y + z]?.getD 0) = true) (he : as[x + z]?.getD 0 = bs[y + z]?.getD 0) : extR p as bs ahi bhi x y (n + 1) z = extR p as bs ahi bhi x y n (z + 1) := by
  rw [extR, if_pos ⟨h1, h2, hp, he⟩]
theorem extR_end {p : Nat → Bool} {as bs : List Nat} {ahi bhi x y n z : Nat} (h : ¬ (x + z < ahi ∧ y + z < bhi ∧ p (bs[y + z]?.getD 0) = true ∧ as[x + z]?.getD 0 = bs[y + z]?.getD 0)) : extR p as bs ahi bhi x y n z = z := by
  cases n with
  | zero => rfl
  | succ n => rw [extR, if_neg h]
theorem flm_w2 {w : World} {A : Around} {h h₁ : Heap} {L : Addr} {g : Array GenState} {d : Drawn} {tk : Nat} {os : OsState} {E : Value → Shared → Prop} {Q : Flow → Shared → Prop} {l : List (Str × Value)} {ahi bhi x y z : Nat} {ta tb t0 t1 t3 t4 t5 : Tok} {u jk : Addr} {news : List (Addr × Obj)} {as bs : List Nat} {junk : Nat → Bool}
    (hA : A.handled = none) (F : Fr h L h₁ (lk l)) (N : News h L h₁ news) (hu : (u, boundObj "set.__contains__" jk) ∈ news) (hJ : IsJ w A h u (boundObj "set.__contains__" jk) junk) (hla : as.length < 1000000) (hlb : bs.length < 1000000) (hx : ahi ≤ as.length) (hy : bhi ≤ bs.length)
    (ha : lk l (Str.ofString "a") = some (.str (St as) ta)) (hb : lk l (Str.ofString "b") = some (.str (St bs) tb)) (hj : lk l (Str.ofString "isbjunk") = some (.ref u)) (hao : lk l (Str.ofString "ahi") = some (.int (ahi : Int) t0)) (hbo : lk l (Str.ofString "bhi") = some (.int (bhi : Int) t1))
    (h1 : lk l (Str.ofString "besti") = some (.int (x : Int) t3)) (h2 : lk l (Str.ofString "bestj") = some (.int (y : Int) t4)) (h3 : lk l (Str.ofString "bestsize") = some (.int (z : Int) t5))
    (qq : ∀ h' tk' l' s3, Fr h L h' (lk l') → News h L h' news → tk ≤ tk' → lk l' (Str.ofString "bestsize") = some (.int (extR (fun c => !junk c) as bs ahi bhi x y ahi z : Int) s3) →
      (∀ v, v ≠ Str.ofString "bestsize" → lk l' v = lk l v) → Q .next ⟨h', g, d, tk', os⟩) :
    wpAny (model pw w) A (exec (fS 9) (flmE L)) Q E ⟨h₁, g, d, tk, os⟩ := by
  conv in (fS 9) => whnf
  refine while_led (fun k l' news' tk' => ∃ (n z' : Nat) (s3 : Tok), k = n ∧ lk l' (Str.ofString "bestsize") = some (.int (z' : Int) s3) ∧ (∀ v, v ≠ Str.ofString "bestsize" → lk l' v = lk l v) ∧
    extR (fun c => !junk c) as bs ahi bhi x y ahi z = extR (fun c => !junk c) as bs ahi bhi x y n z' ∧ ahi ≤ n + z' ∧ news' = news ∧ tk ≤ tk') ahi F N ⟨ahi, z, t5, rfl, h3, fun _ _ => rfl, rfl, by omega, rfl, Nat.le_refl _⟩ ?_
  rintro k h' l' news' tk' F' N' ⟨n, z', s3, hk, h3, hv, hext, hn, rfl, htk⟩
  have ha' : lk l' (Str.ofString "a") = some (.str (St as) ta) := by rw [hv _ (by decide +kernel)]; exact ha
  have hb' : lk l' (Str.ofString "b") = some (.str (St bs) tb) := by rw [hv _ (by decide +kernel)]; exact hb
  have hao' : lk l' (Str.ofString "ahi") = some (.int (ahi : Int) t0) := by rw [hv _ (by decide +kernel)]; exact hao
  have hbo' : lk l' (Str.ofString "bhi") = some (.int (bhi : Int) t1) := by rw [hv _ (by decide +kernel)]; exact hbo
  have hj' : lk l' (Str.ofString "isbjunk") = some (.ref u) := by rw [hv _ (by decide +kernel)]; exact hj
  have h1' : lk l' (Str.ofString "besti") = some (.int (x : Int) t3) := by rw [hv _ (by decide +kernel)]; exact h1
  have h2' : lk l' (Str.ofString "bestj") = some (.int (y : Int) t4) := by rw [hv _ (by decide +kernel)]; exact h2
  have fin : ∀ h'' tk'', Fr h L h'' (lk l') → News h L h'' news' → tk' ≤ tk'' → ¬ (x + z' < ahi ∧ y + z' < bhi ∧ (!junk (bs[y + z']?.getD 0)) = true ∧ as[x + z']?.getD 0 = bs[y + z']?.getD 0) → Q .next ⟨h'', g, d, tk'', os⟩ := by
    intro h'' tk'' F2 N2 ht hn
    have e : extR (fun c => !junk c) as bs ahi bhi x y ahi z = z' := by rw [hext]; exact extR_end hn
    refine qq h'' tk'' l' s3 F2 N2 (by omega) ?_ hv
    rw [e]; exact h3
  clear ha hb hao hbo hj h1 h2
  walk_at "my go"
  · refine cw_bound (id := "set.__contains__") (a := jk) ?_
    walk_at "my go"
    refine sub_str (i := y + z') (c := bs[y + z']'(by omega)) (by omega) (List.getElem?_eq_getElem (by omega)) hlb ?_
    walk_at "my go"
    · exact N'.get hu
    refine hJ _ _ _ _ _ _ _ _ _ F'.keep (N'.get hu) fun tk2 htk2 => ?_
    walk_at "my go"
    · refine fin _ _ F' N' (by first | omega | (dsimp only at htk2 ⊢; omega)) ?_
      rintro ⟨_, _, hc, _⟩
      rw [List.getElem?_eq_getElem (by omega), Option.getD_some] at hc
      first
        | (rename junk _ = true => hjk; rw [hjk] at hc; cases hc)
        | (rename junk _ = false => hjk; rw [hjk] at hc; cases hc)
    refine sub_str (i := x + z') (c := as[x + z']'(by omega)) (by omega) (List.getElem?_eq_getElem (by omega)) hla ?_
    walk_at "my go"
    refine sub_str (i := y + z') (c := bs[y + z']'(by omega)) (by omega) (List.getElem?_eq_getElem (by omega)) hlb ?_
    walk_at "my go"
    · rename (_ == _) = true => hab
      rw [St1_beq, decide_eq_true_eq] at hab
      have e3 : (z' : Int) + 1 = ((z' + 1 : Nat) : Int) := by omega
      rw [e3] at F'
      obtain ⟨n, rfl⟩ : ∃ m, n = m + 1 := ⟨n - 1, by omega⟩
      refine TurnEnd.next ⟨n, by omega, _, _, F', N', n, z' + 1, _, rfl, (by with_unfolding_all rfl), fun v hvv => ?_, ?_, by omega, rfl, by first | omega | (dsimp only at htk2 ⊢; omega)⟩
      · rw [lk_skip hvv]
        exact hv v hvv
      · rw [hext]
        refine extR_go (by omega) (by omega) ?_ ?_
        · rw [List.getElem?_eq_getElem (by omega)]
          first
            | (rename junk _ = false => hjk; show (!junk _) = true; rw [Option.getD_some, hjk]; rfl)
            | (rename junk _ = true => hjk; exact hjk)
        · rw [List.getElem?_eq_getElem (by omega), List.getElem?_eq_getElem (by omega)]; exact hab
    · rename (_ == _) = false => hab
      rw [St1_beq, decide_eq_false_iff_not] at hab
      refine fin _ _ F' N' (by first | omega | (dsimp only at htk2 ⊢; omega)) ?_
      rintro ⟨_, _, _, hc⟩
      rw [List.getElem?_eq_getElem (by omega), List.getElem?_eq_getElem (by omega)] at hc
      exact hab (by simpa using hc)
  · exact fin _ _ F' N' (by first | omega | (dsimp only; omega)) (by omega)
  · exact fin _ _ F' N' (by first | omega | (dsimp only; omega)) (by omega)

theorem flm_w4 {w : World} {A : Around} {h h₁ : Heap} {L : Addr} {g : Array GenState} {d : Drawn} {tk : Nat} {os : OsState} {E : Value → Shared → Prop} {Q : Flow → Shared → Prop} {l : List (Str × Value)} {ahi bhi x y z : Nat} {ta tb t0 t1 t3 t4 t5 : Tok} {u jk : Addr} {news : List (Addr × Obj)} {as bs : List Nat} {junk : Nat → Bool}
    (hA : A.handled = none) (F : Fr h L h₁ (lk l)) (N : News h L h₁ news) (hu : (u, boundObj "set.__contains__" jk) ∈ news) (hJ : IsJ w A h u (boundObj "set.__contains__" jk) junk) (hla : as.length < 1000000) (hlb : bs.length < 1000000) (hx : ahi ≤ as.length) (hy : bhi ≤ bs.length)
    (ha : lk l (Str.ofString "a") = some (.str (St as) ta)) (hb : lk l (Str.ofString "b") = some (.str (St bs) tb)) (hj : lk l (Str.ofString "isbjunk") = some (.ref u)) (hao : lk l (Str.ofString "ahi") = some (.int (ahi : Int) t0)) (hbo : lk l (Str.ofString "bhi") = some (.int (bhi : Int) t1))
    (h1 : lk l (Str.ofString "besti") = some (.int (x : Int) t3)) (h2 : lk l (Str.ofString "bestj") = some (.int (y : Int) t4)) (h3 : lk l (Str.ofString "bestsize") = some (.int (z : Int) t5))
    (qq : ∀ h' tk' l' s3, Fr h L h' (lk l') → News h L h' news → tk ≤ tk' → lk l' (Str.ofString "bestsize") = some (.int (extR junk as bs ahi bhi x y ahi z : Int) s3) →
      (∀ v, v ≠ Str.ofString "bestsize" → lk l' v = lk l v) → Q .next ⟨h', g, d, tk', os⟩) :
    wpAny (model pw w) A (exec (fS 11) (flmE L)) Q E ⟨h₁, g, d, tk, os⟩ := by
  conv in (fS 11) => whnf
  refine while_led (fun k l' news' tk' => ∃ (n z' : Nat) (s3 : Tok), k = n ∧ lk l' (Str.ofString "bestsize") = some (.int (z' : Int) s3) ∧ (∀ v, v ≠ Str.ofString "bestsize" → lk l' v = lk l v) ∧
    extR junk as bs ahi bhi x y ahi z = extR junk as bs ahi bhi x y n z' ∧ ahi ≤ n + z' ∧ news' = news ∧ tk ≤ tk') ahi F N ⟨ahi, z, t5, rfl, h3, fun _ _ => rfl, rfl, by omega, rfl, Nat.le_refl _⟩ ?_
  rintro k h' l' news' tk' F' N' ⟨n, z', s3, hk, h3, hv, hext, hn, rfl, htk⟩
  have ha' : lk l' (Str.ofString "a") = some (.str (St as) ta) := by rw [hv _ (by decide +kernel)]; exact ha
  have hb' : lk l' (Str.ofString "b") = some (.str (St bs) tb) := by rw [hv _ (by decide +kernel)]; exact hb
  have hao' : lk l' (Str.ofString "ahi") = some (.int (ahi : Int) t0) := by rw [hv _ (by decide +kernel)]; exact hao
  have hbo' : lk l' (Str.ofString "bhi") = some (.int (bhi : Int) t1) := by rw [hv _ (by decide +kernel)]; exact hbo
  have hj' : lk l' (Str.ofString "isbjunk") = some (.ref u) := by rw [hv _ (by decide +kernel)]; exact hj
  have h1' : lk l' (Str.ofString "besti") = some (.int (x : Int) t3) := by rw [hv _ (by decide +kernel)]; exact h1
  have h2' : lk l' (Str.ofString "bestj") = some (.int (y : Int) t4) := by rw [hv _ (by decide +kernel)]; exact h2
  have fin : ∀ h'' tk'', Fr h L h'' (lk l') → News h L h'' news' → tk' ≤ tk'' → ¬ (x + z' < ahi ∧ y + z' < bhi ∧ junk (bs[y + z']?.getD 0) = true ∧ as[x + z']?.getD 0 = bs[y + z']?.getD 0) → Q .next ⟨h'', g, d, tk'', os⟩ := by
    intro h'' tk'' F2 N2 ht hn
    have e : extR junk as bs ahi bhi x y ahi z = z' := by rw [hext]; exact extR_end hn
    refine qq h'' tk'' l' s3 F2 N2 (by omega) ?_ hv
    rw [e]; exact h3
  clear ha hb hao hbo hj h1 h2
  walk_at "my go"
  · refine cw_bound (id := "set.__contains__") (a := jk) ?_
    walk_at "my go"
    refine sub_str (i := y + z') (c := bs[y + z']'(by omega)) (by omega) (List.getElem?_eq_getElem (by omega)) hlb ?_
    walk_at "my go"
    · exact N'.get hu
    refine hJ _ _ _ _ _ _ _ _ _ F'.keep (N'.get hu) fun tk2 htk2 => ?_
    walk_at "my go"
    rotate_left
    · refine fin _ _ F' N' (by first | omega | (dsimp only at htk2 ⊢; omega)) ?_
      rintro ⟨_, _, hc, _⟩
      rw [List.getElem?_eq_getElem (by omega), Option.getD_some] at hc
      first
        | (rename junk _ = true => hjk; rw [hjk] at hc; cases hc)
        | (rename junk _ = false => hjk; rw [hjk] at hc; cases hc)
    refine sub_str (i := x + z') (c := as[x + z']'(by omega)) (by omega) (List.getElem?_eq_getElem (by omega)) hla ?_
    walk_at "my go"
    refine sub_str (i := y + z') (c := bs[y + z']'(by omega)) (by omega) (List.getElem?_eq_getElem (by omega)) hlb ?_
    walk_at "my go"
    · rename (_ == _) = true => hab
      rw [St1_beq, decide_eq_true_eq] at hab
      have e3 : (z' : Int) + 1 = ((z' + 1 : Nat) : Int) := by omega
      rw [e3] at F'
      obtain ⟨n, rfl⟩ : ∃ m, n = m + 1 := ⟨n - 1, by omega⟩
      refine TurnEnd.next ⟨n, by omega, _, _, F', N', n, z' + 1, _, rfl, (by with_unfolding_all rfl), fun v hvv => ?_, ?_, by omega, rfl, by first | omega | (dsimp only at htk2 ⊢; omega)⟩
      · rw [lk_skip hvv]
        exact hv v hvv
      · rw [hext]
        refine extR_go (by omega) (by omega) ?_ ?_
        · rw [List.getElem?_eq_getElem (by omega)]
          first
            | (rename junk _ = false => hjk; show (!junk _) = true; rw [Option.getD_some, hjk]; rfl)
            | (rename junk _ = true => hjk; exact hjk)
        · rw [List.getElem?_eq_getElem (by omega), List.getElem?_eq_getElem (by omega)]; exact hab
    · rename (_ == _) = false => hab
      rw [St1_beq, decide_eq_false_iff_not] at hab
      refine fin _ _ F' N' (by first | omega | (dsimp only at htk2 ⊢; omega)) ?_
      rintro ⟨_, _, _, hc⟩
      rw [List.getElem?_eq_getElem (by omega), List.getElem?_eq_getElem (by omega)] at hc
      exact hab (by simpa using hc)
  · exact fin _ _ F' N' (by first | omega | (dsimp only; omega)) (by omega)
  · exact fin _ _ F' N' (by first | omega | (dsimp only; omega)) (by omega)

section mtch
theorem k135 {P : Params} {h : Heap} (X : (K P).In h) : h.get? 135 = some (o135 P) := X _ _ (by kernel_rfl)
theorem tup_new {w : World} {A : Around} {h : Heap} {g : Array GenState} {d : Drawn} {tk : Nat} {os : OsState} {T : Addr} {items : Array Value} {R : Result → Shared → Prop}
    (X : (K w.params).In h) (hT : IsTup h T items) (hsz : items.size ≤ sizeLine)
    (q : ∀ h' M dx, Kp h h' → h.get? M = none → h'.get? M = some { cls := .ref 135, dict := some dx, data := .seq items } → R (.ok (.ret (.ref M))) ⟨h', g, d, tk, os⟩) :
    codeAny (model pw w) A (.call (.builtin "tuple.__new__") ⟨[.ref 135, .ref T], []⟩) R ⟨h, g, d, tk, os⟩ := by
  have h1 : Looks (model pw w) h (checkBuiltinCall "tuple.__new__" ⟨[.ref 135, .ref T], []⟩) () := Looks.of_peek X (by kernel_rfl)
  have h2 : Looks (model pw w) h (isType (.ref 135)) true := Looks.of_peek X (by kernel_rfl)
  have h3 : Looks (model pw w) h (isSubtype (.ref 135) (.type "tuple")) true := Looks.of_peek X (by kernel_rfl)
  have h4 : Looks (model pw w) h (Bind.madeHere "tuple.__new__" (.ref 135)) () := Looks.of_peek X (by kernel_rfl)
  have h5 : Looks (model pw w) h (typeLookup (.ref 135) "__init__") (some (.builtin "object.__init__")) := Looks.of_peek X (by kernel_rfl)
  refine codeAny_call_builtin_at (Code.quiet_builtin _ (by decide +kernel)) (entryFor_of_tree (b := Builtin.«tuple.__new__») (by kernel_rfl)) (h1.here ?_)
  unfold Builtin.«tuple.__new__»
  obtain ⟨oT, hoT, hcT, nT, hdT⟩ := hT
  repeat (first | with_reducible refine wpAny_collect_seq T (.inr rfl) hoT hcT hdT ?_ hsz | lk)
  intro h' hk
  have eI : items.toList.toArray = items := by simp
  rw [eI]
  refine wpAny_bind (wpAny_pure (wpAny_bind (wpAny_alloc (wpAny_bind ?_))))
  unfold newObj
  dsimp only
  rw [if_neg (Nat.not_lt.mpr hsz)]
  unfold newObjAsIs classHasDel
  have hC : ∀ o1 o2, ((h'.push o1).push o2).get? 135 = some (o135 w.params) := fun _ _ => Heap.get?_push_of_some _ (Heap.get?_push_of_some _ (hk _ _ (k135 X)))
  refine wpAny_bind (wpAny_alloc (wpAny_bind (wpAny_bind (wpAny_load (hC _ _) (wpAny_pure ?_)))))
  refine wpAny_pure (wpAny_pure ?_)
  show R _ _
  refine q _ _ _ (fun b o e => Heap.get?_push_of_some _ (Heap.get?_push_of_some _ (hk _ _ e))) ?_ (Heap.get?_push_size _ rfl)
  cases e : h.get? (h'.push { cls := .type "dict", data := .dict #[] }).objs.size with
  | none => rfl
  | some o => exact absurd (Heap.lt_size (Heap.get?_push_of_some { cls := .type "dict", data := .dict #[] } (hk _ _ e))) (Nat.lt_irrefl _)
end mtch

section mtch2
theorem k82 {P : Params} {h : Heap} (X : (K P).In h) : h.get? 82 = some (o82 P) := X _ _ (by kernel_rfl)
theorem k81 {P : Params} {h : Heap} (X : (K P).In h) : h.get? 81 = some (o81 P) := X _ _ (by kernel_rfl)
noncomputable abbrev mnSt : Stmt := sAt (cBod (sAt tops 3)) 4
theorem match_fn {w : World} {A : Around} {h : Heap} {g : Array GenState} {d : Drawn} {tk : Nat} {os : OsState} {E : Value → Shared → Prop} {Q : Value → Shared → Prop} {x y z : Value} {mg mb : Str → Option Value}
    (X : (K w.params).In h) (X' : TopRead q (looseW q loose) mg mb h) (hlim : h.NoLimit) (hA : A.depth < recursionLimit) (hH : A.handled = none)
    (qq : ∀ M dx h' tk', Kp h h' → tk ≤ tk' → h.get? M = none → h'.get? M = some { cls := .ref 135, dict := some dx, data := .seq #[x, y, z] } → Q (.ref M) ⟨h', g, d, tk', os⟩) :
    wpAny (model pw w) A (call (.ref 82) [.ref 135, x, y, z]) Q E ⟨h, g, d, tk, os⟩ := by
  refine enter (binds := [(Str.ofString "_cls", .ref 135), (Str.ofString "a", x), (Str.ofString "b", y), (Str.ofString "size", z)]) hA (k82 X) (by with_unfolding_all rfl) hlim ?hcd (by rfl) ?hb ?hc ?hl (by kernel_rfl) (by kernel_rfl) (by kernel_rfl) (by kernel_rfl) (by kernel_rfl) (by kernel_rfl) ?h
  case hcd => exact ⟨81, _, _, _, rfl, k81 X, rfl, rfl⟩
  case hb => exact BindsTo.of_eq (by rfl)
  case hc => exact (by decide +kernel : ∀ x ∈ (fSco mnSt).names, x.2 ≠ .cell)
  case hl => exact locs (by kernel_rfl)
  case h =>
    dsimp only [List.length_cons, List.length_nil]
    intro h₁ F
    have N : News h h.objs.size h₁ [] := News.nil
    conv in (fBod _) => whnf
    have hH' : (A.deeper (envOf (Str.ofString "Match.__new__") (fSco mnSt) h.objs.size 82 (.ref 81))).handled = none := hH
    walk_at "my go"
    refine by_sim 5 [] (v := (.builtin "tuple.__new__", [])) (tr := []) (al := []) (k := tk + 4 + 1 + 1) (os2 := []) (nx' := h₁.objs.size) (by rw [PySem.W.Fast.te6042679816869820781]; kernel_rfl) hH' (fun p hp => nomatch hp) ?_
    walk_at "my go"
    rename_i D1 h2 F2 N2 _
    refine wpAny_call (tup_new (X.keeps F2.keep) (N2.isTup (.head _)) (by simp [sizeLine]) fun h3 M dx hk hM hM' => ?_)
    walk_at "my go"
    refine qq M dx h3 _ (fun b o e => hk b o (F2.keep b o e)) (by omega) ?_ hM'
    cases e : h.get? M with
    | none => rfl
    | some o => rw [F2.keep _ _ e] at hM; cases hM
end mtch2

section mtch3
theorem attr_new {w : World} {A : Around} {h : Heap} {g : Array GenState} {d : Drawn} {tk : Nat} {os : OsState} {E : Value → Shared → Prop} {Q : Value → Shared → Prop} (X : (K w.params).In h) (hH : A.handled = none) (q : Q (.ref 82) ⟨h, g, d, tk + 1, os⟩) :
    wpAny (model pw w) A (getAttr (.ref 135) "__new__") Q E ⟨h, g, d, tk, os⟩ :=
  by_simK X 20 (List.replicate 11 none) (v := .ref 82) (tr := []) (al := []) (k := tk + 1) (os2 := []) (nx' := h.objs.size) (by rw [PySem.W.Fast.te4926136581373384958]; kernel_rfl) hH (fun p hp => nomatch hp) q
theorem mt_inst {w : World} {A : Around} {h : Heap} {g : Array GenState} {d : Drawn} {tk : Nat} {os : OsState} {E : Value → Shared → Prop} {Q : Bool → Shared → Prop} {M dx : Addr} {vs : Array Value} (X : (K w.params).In h) (hH : A.handled = none) (hM : h.get? M = some { cls := .ref 135, dict := some dx, data := .seq vs }) (q : Q true ⟨h, g, d, tk, os⟩) :
    wpAny (model pw w) A (isInstance (.ref M) (.ref 135)) Q E ⟨h, g, d, tk, os⟩ :=
  by_simK X 20 [some { cls := .ref 135, dict := some dx, data := .seq vs }, none] (v := true) (tr := [(M, { cls := .ref 135, dict := some dx, data := .seq vs })]) (al := []) (k := tk) (os2 := []) (nx' := h.objs.size) (by kernel_rfl) hH (fun p hp => by rw [List.mem_singleton.mp hp]; exact hM) q
theorem mt_init {w : World} {A : Around} {h : Heap} {g : Array GenState} {d : Drawn} {tk : Nat} {os : OsState} {E : Value → Shared → Prop} {Q : Option Value → Shared → Prop} {M dx : Addr} {x y z : Value} {vs : Array Value} (X : (K w.params).In h) (hH : A.handled = none) (hM : h.get? M = some { cls := .ref 135, dict := some dx, data := .seq vs }) (q : Q (some .none) ⟨h, g, d, tk, os⟩) :
    wpAny (model pw w) A (callSpecial? (.ref M) "__init__" [x, y, z]) Q E ⟨h, g, d, tk, os⟩ :=
  by_simK X 20 [some { cls := .ref 135, dict := some dx, data := .seq vs }, none, none, none, some { cls := .ref 135, dict := some dx, data := .seq vs }, none, some { cls := .ref 135, dict := some dx, data := .seq vs }, none, none, none, none, none] (v := some .none)
    (tr := List.replicate 3 (M, { cls := .ref 135, dict := some dx, data := .seq vs })) (al := []) (k := tk) (os2 := []) (nx' := h.objs.size) (by kernel_rfl) hH (fun p hp => by rw [List.eq_of_mem_replicate hp]; exact hM) q
theorem match_call {w : World} {A : Around} {h : Heap} {g : Array GenState} {d : Drawn} {tk : Nat} {os : OsState} {E : Value → Shared → Prop} {Q : Value → Shared → Prop} {x y z : Value} {mg mb : Str → Option Value}
    (X : (K w.params).In h) (X' : TopRead q (looseW q loose) mg mb h) (hlim : h.NoLimit) (hA : A.depth + 1 < recursionLimit) (hH : A.handled = none)
    (qq : ∀ M dx h' tk', Kp h h' → tk ≤ tk' → h.get? M = none → h'.get? M = some { cls := .ref 135, dict := some dx, data := .seq #[x, y, z] } → Q (.ref M) ⟨h', g, d, tk', os⟩) :
    wpAny (model pw w) A (call (.ref 135) [x, y, z]) Q E ⟨h, g, d, tk, os⟩ := by
  have c1 : Looks (model pw w) h (specialOf (.ref 135) "__call__") (some (.builtin "type.__call__")) := Looks.of_peek X (by kernel_rfl)
  have c2 : Looks (model pw w) h (isInstance (.ref 135) (.type "type")) true := Looks.of_peek X (by kernel_rfl)
  have c3 : Looks (model pw w) h (Bind.madeBy (.ref 135)) none := Looks.of_peek X (by kernel_rfl)
  refine wpAny_call (codeAny_of_tree ?_)
  show wpAny _ _ (callAny (.ref 135) _) _ _ _
  refine nd_load (k135 X) ?_
  show wpAny _ _ (callAny.viaDunder (.ref 135) _) _ _ _
  unfold callAny.viaDunder
  refine wpAny_bind (c1.at ?_)
  dsimp only
  rw [tc_bind]
  refine wpAny_bind (wpAny_pure (wpAny_bind (wpAny_pure ?_)))
  refine wpAny_pure (a := Fin.again (.call (.builtin "type.__call__") ⟨[.ref 135, x, y, z], []⟩)) (And.intro rfl ?_)
  refine codeAny_call_builtin_at (Code.quiet_builtin _ (by decide +kernel)) entry_typeCall (check_slot tc_kind tc_split c2 (tc_args _ _ _) ?_)
  unfold Builtin.«type.__call__»
  have hm : Looks (model pw w) h (mroOf (.ref 135)) [.ref 135, .type "tuple", .type "object"] := Looks.of_peek X (by kernel_rfl)
  have hH1 : (A.under (.builtin "type.__call__" ⟨[.ref 135, x, y, z], []⟩)).handled = none := hH
  have hA1 : (A.under (.builtin "type.__call__" ⟨[.ref 135, x, y, z], []⟩)).depth < recursionLimit := by
    have e : (Code.builtin "type.__call__" ⟨[.ref 135, x, y, z], []⟩).weight = 0 ∨ (Code.builtin "type.__call__" ⟨[.ref 135, x, y, z], []⟩).weight = 1 := .inr (by kernel_rfl)
    show A.depth + _ < _
    rcases e with e | e <;> (rw [e]; omega)
  repeat (first | (with_reducible refine attr_new X hH1 ?_) | (with_reducible refine match_fn X X' hlim hA1 hH1 ?_) | lk)
  intro M dx h' tk' hk htk hM hM'
  have X2 := X.keeps hk
  repeat (first | (with_reducible refine mt_inst X2 hH1 hM' ?_) | (with_reducible refine mt_init X2 hH1 hM' ?_) | lk)
  exact qq M dx h' tk' hk (by omega) hM hM'
end mtch3

theorem flm_ret {w : World} {A : Around} {h h₁ : Heap} {L : Addr} {g : Array GenState} {d : Drawn} {tk : Nat} {os : OsState} {E : Value → Shared → Prop} {Q : Flow → Shared → Prop} {l : List (Str × Value)} {x y z : Int} {t3 t4 t5 : Tok} {news : List (Addr × Obj)} {mg mb : Str → Option Value}
    (hA : A.handled = none) (X : (K w.params).In h) (X' : TopRead q (looseW q loose) mg mb h) (hlim : h.NoLimit) (hD : A.depth + 1 < recursionLimit) (F : Fr h L h₁ (lk l)) (N : News h L h₁ news)
    (h1 : lk l (Str.ofString "besti") = some (.int x t3)) (h2 : lk l (Str.ofString "bestj") = some (.int y t4)) (h3 : lk l (Str.ofString "bestsize") = some (.int z t5))
    (qq : ∀ M dx h' tk', Kp h₁ h' → tk ≤ tk' → h₁.get? M = none → h'.get? M = some { cls := .ref 135, dict := some dx, data := .seq #[.int x t3, .int y t4, .int z t5] } → Q (.ret (.ref M)) ⟨h', g, d, tk', os⟩) :
    wpAny (model pw w) A (exec (fS 12) (flmE L)) Q E ⟨h₁, g, d, tk, os⟩ := by
  conv in (fS 12) => whnf
  walk_at "my go"
  refine nm_k F X X' g_Match ?_
  refine callWith_K (K := K w.params) X (by kernel_rfl) ?_ (by kernel_rfl) (by kernel_rfl)
  walk_at "my go"
  refine match_call (X.keeps F.keep) (X'.keeps F.keep) (hlim.keeps F.keep) hD hA fun M dx h' tk' hk htk hM hM' => ?_
  exact qq M dx h' tk' hk htk hM hM'

theorem extL_le {p : Nat → Bool} {as bs : List Nat} {alo blo : Nat} : ∀ (x y z : Nat), (extL p as bs alo blo x y z).1 ≤ x ∧ (extL p as bs alo blo x y z).2.1 ≤ y := by
  intro x
  induction x with
  | zero => intro y z; unfold extL; simp
  | succ x ih =>
    intro y z
    cases y with
    | zero => unfold extL; simp
    | succ y =>
      unfold extL
      split
      · have := ih y (z + 1); omega
      · simp
/-- what find_longest_match gives -/
noncomputable def flm (as bs : List Nat) (pl : Nat → List Nat) (junk : Nat → Bool) (alo ahi blo bhi : Nat) : Nat × Nat × Nat :=
  let r := (rows as blo bhi pl (List.range' alo (ahi - alo)) (((alo : Int), (blo : Int), 0), fun _ => 0)).1
  let e1 := extL (fun c => !junk c) as bs alo blo r.1.toNat r.2.1.toNat r.2.2.toNat
  let z2 := extR (fun c => !junk c) as bs ahi bhi e1.1 e1.2.1 ahi e1.2.2
  let e3 := extL junk as bs alo blo e1.1 e1.2.1 z2
  (e3.1, e3.2.1, extR junk as bs ahi bhi e3.1 e3.2.1 ahi e3.2.2)
theorem flm_body {w : World} {A : Around} {h h₁ : Heap} {L : Addr} {g : Array GenState} {d : Drawn} {tk : Nat} {os : OsState} {E : Value → Shared → Prop} {Q : Flow → Shared → Prop} {x bj jk : Addr} {as bs : List Nat} {ta tb t1 t2 : Tok} {mA : Str → Option Value} {alo blo ahi bhi : Nat} {mg mb : Str → Option Value} {vahi vbhi : Value} {js : Array (Int × Value)} {jep : Nat} {jtb : SetTable} {pl : Nat → List Nat} {junk : Nat → Bool}
    (X : (K w.params).In h) (X' : TopRead q (looseW q loose) mg mb h) (hlim : h.NoLimit) (hD : A.depth + 1 < recursionLimit) (hA : A.handled = none)
    (I : h.Inst x 242 mA) (ha : mA (Str.ofString "a") = some (.str (St as) ta)) (hb : mA (Str.ofString "b") = some (.str (St bs) tb)) (hj : mA (Str.ofString "b2j") = some (.ref bj)) (hk : mA (Str.ofString "bjunk") = some (.ref jk))
    (hJ : h.get? jk = some { cls := .type "set", data := .set js jep jtb }) (hB : B2J w h bj pl) (hbs : (bj == sysModules) = false) (hpl : ∀ c, (pl c).length ≤ 1000000) (hsys : ∀ a, h.get? a = none → (a == sysModules) = false)
    (hI : ∀ u, IsJ w A h u (boundObj "set.__contains__" jk) junk) (hla : as.length < 1000000) (hlb : bs.length < 1000000)
    (ha1 : (vahi = .none ∧ ahi = as.length) ∨ ∃ t, vahi = .int (ahi : Int) t) (hb1 : (vbhi = .none ∧ bhi = bs.length) ∨ ∃ t, vbhi = .int (bhi : Int) t) (hle : alo ≤ ahi) (hle' : blo ≤ bhi) (hah : ahi ≤ as.length) (hbh : bhi ≤ bs.length)
    (hr : ∃ x0 y0 z0 : Nat, (rows as blo bhi pl (List.range' alo (ahi - alo)) (((alo : Int), (blo : Int), 0), fun _ => 0)).1 = ((x0 : Int), (y0 : Int), (z0 : Int)) ∧ x0 ≤ as.length ∧ y0 ≤ bs.length)
    (F : Fr h L h₁ (lk [(Str.ofString "bhi", vbhi), (Str.ofString "blo", .int (blo : Int) t2), (Str.ofString "ahi", vahi), (Str.ofString "alo", .int (alo : Int) t1), (Str.ofString "self", .ref x)]))
    (qq : ∀ M dx h' tk' s1 s2 s3, Kp h h' → tk ≤ tk' → h.get? M = none → h'.get? M = some { cls := .ref 135, dict := some dx, data := .seq #[.int ((flm as bs pl junk alo ahi blo bhi).1 : Int) s1, .int ((flm as bs pl junk alo ahi blo bhi).2.1 : Int) s2, .int ((flm as bs pl junk alo ahi blo bhi).2.2 : Int) s3] } → Q (.ret (.ref M)) ⟨h', g, d, tk', os⟩) :
    wpAny (model pw w) A (execs (fBod flmSt) (flmE L)) Q E ⟨h₁, g, d, tk, os⟩ := by
  obtain ⟨x0, y0, z0, hrow, hx0, hy0⟩ := hr
  have eB : fBod flmSt = fS 0 :: fS 1 :: fS 2 :: fS 3 :: fS 4 :: fS 5 :: fS 6 :: fS 7 :: fS 8 :: fS 9 :: fS 10 :: fS 11 :: fS 12 :: [] := by kernel_rfl
  rw [eB]
  have ha1' : (vahi = .none ∧ (ahi : Int) = (as.length : Int)) ∨ ∃ t, vahi = .int (ahi : Int) t := ha1.imp (fun e => ⟨e.1, by rw [e.2]⟩) id
  have hb1' : (vbhi = .none ∧ (bhi : Int) = (bs.length : Int)) ∨ ∃ t, vbhi = .int (bhi : Int) t := hb1.imp (fun e => ⟨e.1, by rw [e.2]⟩) id
  refine flm_head1 X I ha hb hj hk hJ hA X' hla hlb ha1' hb1' F ?_
  intro h2 tk2 l u t3 t4 F2 N2 htk2 e_a e_b e_j e_u e_alo e_blo e_ahi e_bhi
  refine flm_head2 hA F2 N2 e_alo e_blo ?_
  intro h3 tk3 dj nl t5 F3 N3 htk3 hdn hun
  refine flm_rows (best := ((alo : Int), (blo : Int), 0)) (alo := alo) (ahi := ahi) (blo := blo) (bhi := bhi) hA X X' F3 N3 dict0_is hB hbs hle hah hla hpl hsys hdn hun (by with_unfolding_all exact e_a) (by with_unfolding_all exact e_j) (by with_unfolding_all rfl) (by with_unfolding_all rfl) (by with_unfolding_all exact e_alo) (by with_unfolding_all exact e_ahi) (by with_unfolding_all exact e_blo) (by with_unfolding_all exact e_bhi)
    (by with_unfolding_all rfl) (by with_unfolding_all rfl) (by with_unfolding_all rfl) ?_
  rw [hrow]
  dsimp only
  intro h4 tk4 l4 s1 s2 s3 F4 N4 htk4 b1 b2 b3 hx4
  have k4 : ∀ v, v ∉ Str.ofString "i" :: rowVars → v ∉ [Str.ofString "nothing", Str.ofString "besti", Str.ofString "bestj", Str.ofString "bestsize", Str.ofString "j2len"] → lk l4 v = lk l v := fun v h1 h2 => by
    simp only [List.mem_cons, not_or] at h2
    rw [hx4 v h1, lk_skip h2.1, lk_skip h2.2.2.2.2.1, lk_skip h2.2.1, lk_skip h2.2.2.1, lk_skip h2.2.2.2.1]
  have a_a : lk l4 (Str.ofString "a") = some (.str (St as) ta) := by rw [k4 _ (by decide +kernel) (by decide +kernel)]; exact e_a
  have a_b : lk l4 (Str.ofString "b") = some (.str (St bs) tb) := by rw [k4 _ (by decide +kernel) (by decide +kernel)]; exact e_b
  have a_u : lk l4 (Str.ofString "isbjunk") = some (.ref u) := by rw [k4 _ (by decide +kernel) (by decide +kernel)]; exact e_u
  have a_alo : lk l4 (Str.ofString "alo") = some (.int (alo : Int) t1) := by rw [k4 _ (by decide +kernel) (by decide +kernel)]; exact e_alo
  have a_blo : lk l4 (Str.ofString "blo") = some (.int (blo : Int) t2) := by rw [k4 _ (by decide +kernel) (by decide +kernel)]; exact e_blo
  have a_ahi : lk l4 (Str.ofString "ahi") = some (.int (ahi : Int) t3) := by rw [k4 _ (by decide +kernel) (by decide +kernel)]; exact e_ahi
  have a_bhi : lk l4 (Str.ofString "bhi") = some (.int (bhi : Int) t4) := by rw [k4 _ (by decide +kernel) (by decide +kernel)]; exact e_bhi
  refine x_cons (flm_w1 hA F4 N4 (.head _) (hI u) hla hlb hx0 hy0 a_a a_b a_u a_alo a_blo b1 b2 b3 ?_)
  intro h5 tk5 l5 s4 s5 s6 F5 N5 htk5 c1 c2 c3 hx5
  have L1 := extL_le (p := fun c => !junk c) (as := as) (bs := bs) (alo := alo) (blo := blo) x0 y0 z0
  refine c_next (x_cons (flm_w2 hA F5 N5 (.head _) (hI u) hla hlb hah hbh (by rw [hx5 _ (by decide +kernel)]; exact a_a) (by rw [hx5 _ (by decide +kernel)]; exact a_b) (by rw [hx5 _ (by decide +kernel)]; exact a_u) (by rw [hx5 _ (by decide +kernel)]; exact a_ahi) (by rw [hx5 _ (by decide +kernel)]; exact a_bhi) c1 c2 c3 ?_))
  intro h6 tk6 l6 s7 F6 N6 htk6 d3 hx6
  have k6 : ∀ v, v ∉ bVars → lk l6 v = lk l4 v := fun v hv => by
    rw [hx6 v (fun e => hv (by rw [e]; exact .tail _ (.tail _ (.head _)))), hx5 v hv]
  refine c_next (x_cons (flm_w3 (x := (extL (fun c => !junk c) as bs alo blo x0 y0 z0).1) (y := (extL (fun c => !junk c) as bs alo blo x0 y0 z0).2.1) hA F6 N6 (.head _) (hI u) hla hlb (by omega) (by omega) (by rw [k6 _ (by decide +kernel)]; exact a_a) (by rw [k6 _ (by decide +kernel)]; exact a_b) (by rw [k6 _ (by decide +kernel)]; exact a_u) (by rw [k6 _ (by decide +kernel)]; exact a_alo) (by rw [k6 _ (by decide +kernel)]; exact a_blo) (by rw [hx6 _ (by decide +kernel)]; exact c1) (by rw [hx6 _ (by decide +kernel)]; exact c2) d3 ?_))
  intro h7 tk7 l7 u1 u2 u3 F7 N7 htk7 g1 g2 g3 hx7
  refine c_next (x_cons (flm_w4 hA F7 N7 (.head _) (hI u) hla hlb hah hbh (by rw [hx7 _ (by decide +kernel), k6 _ (by decide +kernel)]; exact a_a) (by rw [hx7 _ (by decide +kernel), k6 _ (by decide +kernel)]; exact a_b) (by rw [hx7 _ (by decide +kernel), k6 _ (by decide +kernel)]; exact a_u) (by rw [hx7 _ (by decide +kernel), k6 _ (by decide +kernel)]; exact a_ahi) (by rw [hx7 _ (by decide +kernel), k6 _ (by decide +kernel)]; exact a_bhi) g1 g2 g3 ?_))
  intro h8 tk8 l8 u4 F8 N8 htk8 i3 hx8
  refine c_next (x_cons (flm_ret hA X X' hlim hD F8 N8 (by rw [hx8 _ (by decide +kernel)]; exact g1) (by rw [hx8 _ (by decide +kernel)]; exact g2) i3 ?_))
  intro M dx h9 tk9 hk9 htk9 hM hM'
  refine c_ret (qq M dx h9 tk9 u1 u2 u4 (fun b o e => hk9 b o (F8.keep b o e)) (by omega) ?_ ?_)
  · cases e : h.get? M with
    | none => rfl
    | some o => rw [F8.keep _ _ e] at hM; cases hM
  · rw [hM']
    unfold flm
    rw [hrow]
    rfl

/-- what is known of a matcher x in the heap h -/
structure Mat (w : World) (h : Heap) (x : Addr) (as bs : List Nat) (pl : Nat → List Nat) (junk : Nat → Bool) : Prop where
  ex : ∃ mA bj jk ta tb js jep jtb, h.Inst x 242 mA ∧ mA (Str.ofString "a") = some (.str (St as) ta) ∧ mA (Str.ofString "b") = some (.str (St bs) tb) ∧ mA (Str.ofString "b2j") = some (.ref bj) ∧ mA (Str.ofString "bjunk") = some (.ref jk) ∧
    h.get? jk = some { cls := .type "set", data := .set js jep jtb } ∧ B2J w h bj pl ∧ (bj == sysModules) = false ∧ (∀ A u, A.handled = none → IsJ w A h u (boundObj "set.__contains__" jk) junk) ∧ mA (Str.ofString "find_longest_match") = none ∧ mA (Str.ofString "get_matching_blocks") = none
  hpl : ∀ c, (pl c).length ≤ 1000000
  hla : as.length < 1000000
  hlb : bs.length < 1000000
theorem flm_call {w : World} {A : Around} {h : Heap} {g : Array GenState} {d : Drawn} {tk : Nat} {os : OsState} {E : Value → Shared → Prop} {Q : Value → Shared → Prop} {x : Addr} {as bs : List Nat} {t1 t2 : Tok} {alo blo ahi bhi : Nat} {mg mb : Str → Option Value} {vahi vbhi : Value} {pl : Nat → List Nat} {junk : Nat → Bool}
    (X : (K w.params).In h) (X' : TopRead q (looseW q loose) mg mb h) (hlim : h.NoLimit) (hD : A.depth + 2 < recursionLimit) (hA : A.handled = none) (hM : Mat w h x as bs pl junk) (hsys : ∀ a, h.get? a = none → (a == sysModules) = false)
    (ha1 : (vahi = .none ∧ ahi = as.length) ∨ ∃ t, vahi = .int (ahi : Int) t) (hb1 : (vbhi = .none ∧ bhi = bs.length) ∨ ∃ t, vbhi = .int (bhi : Int) t) (hle : alo ≤ ahi) (hle' : blo ≤ bhi) (hah : ahi ≤ as.length) (hbh : bhi ≤ bs.length)
    (hr : ∃ x0 y0 z0 : Nat, (rows as blo bhi pl (List.range' alo (ahi - alo)) (((alo : Int), (blo : Int), 0), fun _ => 0)).1 = ((x0 : Int), (y0 : Int), (z0 : Int)) ∧ x0 ≤ as.length ∧ y0 ≤ bs.length)
    (qq : ∀ M dx h' tk' s1 s2 s3, Kp h h' → tk ≤ tk' → h.get? M = none → h'.get? M = some { cls := .ref 135, dict := some dx, data := .seq #[.int ((flm as bs pl junk alo ahi blo bhi).1 : Int) s1, .int ((flm as bs pl junk alo ahi blo bhi).2.1 : Int) s2, .int ((flm as bs pl junk alo ahi blo bhi).2.2 : Int) s3] } → Q (.ref M) ⟨h', g, d, tk', os⟩) :
    wpAny (model pw w) A (call (.ref 196) [.ref x, .int (alo : Int) t1, vahi, .int (blo : Int) t2, vbhi]) Q E ⟨h, g, d, tk, os⟩ := by
  obtain ⟨⟨mA, bj, jk, ta, tb, js, jep, jtb, I, ea, eb, ej, ek, hJ, hB, hbs, hI, _⟩, hpl, hla, hlb⟩ := hM
  refine enter (binds := [(Str.ofString "self", .ref x), (Str.ofString "alo", .int (alo : Int) t1), (Str.ofString "ahi", vahi), (Str.ofString "blo", .int (blo : Int) t2), (Str.ofString "bhi", vbhi)]) (by omega) (k196 X) (by with_unfolding_all rfl) hlim ?hcd (by rfl) ?hb ?hc ?hl (by kernel_rfl) (by kernel_rfl) (by kernel_rfl) (by kernel_rfl) (by kernel_rfl) (by kernel_rfl) ?h
  case hcd => exact ⟨195, _, _, _, rfl, k195 X, rfl, rfl⟩
  case hb => exact BindsTo.of_defaults (T := 189) rfl (k189 X) rfl rfl rfl
  case hc => exact (by decide +kernel : ∀ x ∈ (fSco flmSt).names, x.2 ≠ .cell)
  case hl => exact locs (by kernel_rfl)
  case h =>
    dsimp only [List.length_cons, List.length_nil]
    intro h₁ F
    refine flm_body X X' hlim (by show A.depth + 1 + 1 < _; omega) hA I ea eb ej ek hJ hB hbs hpl hsys (fun u => hI _ u hA) hla hlb ha1 hb1 hle hle' hah hbh hr F fun M dx h' tk' s1 s2 s3 hk htk hM hM' => ?_
    exact qq M dx h' tk' s1 s2 s3 hk (by omega) hM hM'
theorem flm_call0 {w : World} {A : Around} {h : Heap} {g : Array GenState} {d : Drawn} {tk : Nat} {os : OsState} {E : Value → Shared → Prop} {Q : Value → Shared → Prop} {x : Addr} {as bs : List Nat} {mg mb : Str → Option Value} {pl : Nat → List Nat} {junk : Nat → Bool}
    (X : (K w.params).In h) (X' : TopRead q (looseW q loose) mg mb h) (hlim : h.NoLimit) (hD : A.depth + 2 < recursionLimit) (hA : A.handled = none) (hM : Mat w h x as bs pl junk) (hsys : ∀ a, h.get? a = none → (a == sysModules) = false)
    (hr : ∃ x0 y0 z0 : Nat, (rows as 0 bs.length pl (List.range' 0 (as.length - 0)) ((((0 : Nat) : Int), ((0 : Nat) : Int), 0), fun _ => 0)).1 = ((x0 : Int), (y0 : Int), (z0 : Int)) ∧ x0 ≤ as.length ∧ y0 ≤ bs.length)
    (qq : ∀ M dx h' tk' s1 s2 s3, Kp h h' → tk ≤ tk' → h.get? M = none → h'.get? M = some { cls := .ref 135, dict := some dx, data := .seq #[.int ((flm as bs pl junk 0 as.length 0 bs.length).1 : Int) s1, .int ((flm as bs pl junk 0 as.length 0 bs.length).2.1 : Int) s2, .int ((flm as bs pl junk 0 as.length 0 bs.length).2.2 : Int) s3] } → Q (.ref M) ⟨h', g, d, tk', os⟩) :
    wpAny (model pw w) A (call (.ref 196) [.ref x]) Q E ⟨h, g, d, tk, os⟩ := by
  obtain ⟨⟨mA, bj, jk, ta, tb, js, jep, jtb, I, ea, eb, ej, ek, hJ, hB, hbs, hI, _⟩, hpl, hla, hlb⟩ := hM
  obtain ⟨z1, z2, e189⟩ : ∃ z1 z2, o189 w.params = { cls := .type "tuple", data := .seq #[.int 0 z1, .none, .int 0 z2, .none] } := ⟨_, _, rfl⟩
  have h189 := k189 X
  rw [e189] at h189
  refine enter (binds := [(Str.ofString "self", .ref x), (Str.ofString "alo", .int ((0 : Nat) : Int) z1), (Str.ofString "ahi", .none), (Str.ofString "blo", .int ((0 : Nat) : Int) z2), (Str.ofString "bhi", .none)]) (by omega) (k196 X) (by with_unfolding_all rfl) hlim ?hcd (by rfl) ?hb ?hc ?hl (by kernel_rfl) (by kernel_rfl) (by kernel_rfl) (by kernel_rfl) (by kernel_rfl) (by kernel_rfl) ?h
  case hcd => exact ⟨195, _, _, _, rfl, k195 X, rfl, rfl⟩
  case hb => exact BindsTo.of_defaults (T := 189) rfl h189 rfl rfl rfl
  case hc => exact (by decide +kernel : ∀ x ∈ (fSco flmSt).names, x.2 ≠ .cell)
  case hl => exact locs (by kernel_rfl)
  case h =>
    dsimp only [List.length_cons, List.length_nil]
    intro h₁ F
    refine flm_body (alo := 0) (ahi := as.length) (blo := 0) (bhi := bs.length) X X' hlim (by show A.depth + 1 + 1 < _; omega) hA I ea eb ej ek hJ hB hbs hpl hsys (fun u => hI _ u hA) hla hlb (.inl ⟨rfl, rfl⟩) (.inl ⟨rfl, rfl⟩) (by omega) (by omega) (by omega) (by omega) hr F fun M dx h' tk' s1 s2 s3 hk htk hM hM' => ?_
    exact qq M dx h' tk' s1 s2 s3 hk (by omega) hM hM'

section enterH
variable {prog : Program} {w : World} {A : Around} {E : Value → Shared → Prop} {h₀ : Heap} {L f : Addr}
/-- the end of a called def whose frame stood over the caller's ledger -/
noncomputable def LeaveH (h₀ : Heap) (L : Addr) (m : Str → Option Value) (gh : Heap) (Q : Value → Shared → Prop) (fl : Flow) (s' : Shared) : Prop :=
  ∃ L' m' news', Fr gh L' s'.heap m' ∧ News gh L' s'.heap news' ∧ (Fr h₀ L s'.heap m → News h₀ L s'.heap news' → Q (match fl with | .ret v => v | _ => .none) s')
theorem leaveH {gh : Heap} {L' : Addr} {m m' : Str → Option Value} {news' : List (Addr × Obj)} {Q : Value → Shared → Prop} {fl : Flow} {s' : Shared} (F' : Fr gh L' s'.heap m') (N' : News gh L' s'.heap news')
    (k : Fr h₀ L s'.heap m → News h₀ L s'.heap news' → Q (match fl with | .ret v => v | _ => .none) s') : LeaveH h₀ L m gh Q fl s' := ⟨L', m', news', F', N', k⟩
/-- a def that may change what the ledger lists: its base is the heap without these objects -/
theorem enterH {s : Shared} {o : Obj} {fd : FuncData} {body : List Stmt} {pos : List Value} {kw : List (Str × Value)} {binds : List (Str × Value)} {Q : Value → Shared → Prop} {m : Str → Option Value} {news : List (Addr × Obj)}
    (F : Fr h₀ L s.heap m) (N : News h₀ L s.heap news) (hA : A.depth < recursionLimit) (ho : s.heap.get? f = some o) (hd : o.data = .func fd) (hlim : s.heap.NoLimit) (hcd : s.heap.CodeRec fd.code fd.qualname) (hbody : fd.body = .stmts body)
    (hb : BindsTo s fd ⟨pos, kw⟩ binds) (hcell : ∀ x ∈ fd.scope.names, x.2 ≠ .cell) (hloc : ∀ x ∈ binds, fd.scope.names.lookup x.1 = some .local)
    (hco : fd.scope.isCoroutine = false) (hgen : fd.scope.isGenerator = false) (hk : fd.scope.kind = .function)
    (hg : fd.globals = mainGlobals) (hcl : fd.closure = []) (hbu : fd.builtins = builtinsNs)
    (h : ∀ gh L' h₁, Fr h₀ L gh m → Fr gh L' h₁ (lk binds.reverse) → News gh L' h₁ news → Kp h₀ gh →
      wpAny (model prog w) (A.deeper (envOf fd.qualname fd.scope L' f fd.code)) (execs body (envOf fd.qualname fd.scope L' f fd.code))
        (LeaveH h₀ L m gh Q) (fun _ _ => False) { s with heap := h₁, toks := s.toks + binds.length }) :
    wpAny (model prog w) A (call (.ref f) pos kw) Q E s := by
  have nm : ∀ b o, h₀.get? b = some o → b ∉ news.map (·.1) := fun b o e q => by
    obtain ⟨p, hp, rfl⟩ := List.mem_map.mp q
    rw [(N p hp).2.2] at e; cases e
  have st : Kp h₀ (hideAll s.heap (news.map (·.1))) := fun b o e => hideAll_get _ (F.keep b o e) (nm b o e)
  obtain ⟨oL, es, ep, hL, hLd, hLk, hLf⟩ := F.ns
  have nL : L ∉ news.map (·.1) := fun q => by
    obtain ⟨p, hp, e⟩ := List.mem_map.mp q
    exact (N p hp).2.1 e
  have hLg := hideAll_get (news.map (·.1)) hL nL
  refine enter hA ho hd hlim hcd hbody hb hcell hloc hco hgen hk hg hcl hbu fun h₁ F1 => ?_
  refine wpAny_mono (h (hideAll s.heap (news.map (·.1))) s.heap.objs.size h₁ ⟨⟨oL, es, ep, hLg, hLd, hLk, hLf⟩, st, F.above⟩ ⟨F1.ns, fun b o e => F1.keep b o (of_hideAll _ e), Nat.le_of_eq (hideAll_size _ _)⟩
    (fun p hp => ⟨F1.keep _ _ (N p hp).1, Nat.ne_of_lt (Heap.lt_size (N p hp).1), hideAll_none _ (List.mem_map_of_mem hp)⟩) st) (fun fl s' hl => ?_) fun _ _ y => y
  obtain ⟨L', m', news', F', N', k⟩ := hl
  refine k ⟨⟨oL, es, ep, F'.keep L oL hLg, hLd, hLk, hLf⟩, fun b o e => F'.keep b o (st b o e), F.above⟩ fun p hp => ⟨(N' p hp).1, fun q => ?_, ?_⟩
  · have := (N' p hp).2.2; rw [q, hLg] at this; cases this
  · cases q : h₀.get? p.1 with
    | none => rfl
    | some o => have := (N' p hp).2.2; rw [st _ _ q] at this; cases this
end enterH

section smset
/-- an object that is a dict of names with the map m -/
noncomputable def NsO (o : Obj) (m : Str → Option Value) : Prop := ∃ es ep, o.data = .dict es ep ∧ StrKeys es ∧ UniqKeys es ∧ ∀ name, nsFind es name = m name
theorem lk_within : ∀ l : List (Str × Value), Within (lk l) (l.map (·.1))
  | [] => Within.nil
  | (x, v) :: l => by
    have := Within.cons x v (lk_within l)
    rw [lk_cons] at this
    exact this
variable {w : World} {A : Around} {E : Value → Shared → Prop} {h h₀ : Heap} {g : Array GenState} {d : Drawn} {tk : Nat} {os : OsState} {L x dx : Addr} {m : Str → Option Value} {oD : Obj}
theorem NsO.inst {mA : Str → Option Value} (h1 : h.get? x = some (instObj 242 dx)) (h2 : h.get? dx = some oD) (hxd : dx ≠ x) (hD : NsO oD mA) : h.Inst x 242 mA :=
  let ⟨es, ep, a, b, c, e⟩ := hD; ⟨_, h1, rfl, fun _ e => (nomatch e), .inr ⟨dx, rfl, hxd, oD, es, ep, h2, a, b, c, e⟩⟩
theorem sm_set {pre : List (Addr × Obj)} {l : List (Str × Value)} {name : Str} {v : Value} {Q : Unit → Shared → Prop} (F : Fr h₀ L h m) (X : (K w.params).In h₀) (N : News h₀ L h (pre ++ [(x, instObj 242 dx), (dx, oD)])) (hpre : ∀ p ∈ pre, p.1 ≠ x ∧ p.1 ≠ dx) (hxd : dx ≠ x) (hD : NsO oD (lk l))
    (q : ∀ h' oD' tk', Fr h₀ L h' m → News h₀ L h' (pre ++ [(x, instObj 242 dx), (dx, oD')]) → NsO oD' (lk ((name, v) :: l)) → tk ≤ tk' → Q () ⟨h', g, d, tk', os⟩) (hl : l.length < 100)
    (hn : nsFind (esOf (o241 w.params)) name = none := by kernel_rfl) (hB : typeLookup (.type "object") name = pure none := by (rw [typeLookup_type, builtinLookup_eq_fast]; kernel_rfl)) :
    wpAny (model pw w) A (setAttr (.ref x) name v) Q E ⟨h, g, d, tk, os⟩ := by
  have X1 := X.keeps F.keep
  have hx := N.get (a := x) (o := instObj 242 dx) (List.mem_append_right _ (.head _))
  have hd := N.get (a := dx) (o := oD) (List.mem_append_right _ (.tail _ (.head _)))
  have fx := N (x, instObj 242 dx) (List.mem_append_right _ (.head _))
  have fd := N (dx, oD) (List.mem_append_right _ (.tail _ (.head _)))
  have I : h.Inst x 242 (lk l) := hD.inst hx hd hxd
  have hxC : x ≠ 242 := fun e => by
    have h1 : h₀.get? 242 = none := e ▸ fx.2.2
    have h2 := k242 X
    generalize o242 w.params = oo at h2
    rw [h1] at h2
    exact absurd h2 (by simp)
  refine wpAny_with_toks (n := tk) (Nat.le_refl _) ?_
  have hns : nsFind (esOf (o241 w.params)) (Str.ofString "__setattr__") = none := by kernel_rfl
  have hsz : (l.map (·.1)).length ≤ sizeLine := by rw [List.length_map, sizeLine_eq]; omega
  have k := k242 X1
  have n := ns241 X1
  generalize nsFind (esOf (o241 w.params)) = mN at n hn hns
  refine store_attr PySem.F.store_object k n hns hn hB hxC I ?_ (lk_within l) hsz
  intro h' tk' I' hk hsame htk
  rw [lk_cons] at I'
  obtain ⟨o1, ho1, c1, c2, c3, c4⟩ := hsame _ hx
  have eo : o1 = instObj 242 dx := by
    obtain ⟨a, b, c, e⟩ := o1
    simp only at c1 c2 c3 c4
    rw [c1, c2, c3, c4 dx rfl]
  subst eo
  obtain ⟨o2, ho2, _, _, hd2⟩ := I'
  rw [ho1] at ho2
  cases ho2
  rcases hd2 with ⟨e, _⟩ | ⟨d2, e, _, oD', es, ep, h3, r⟩
  · cases e
  cases e
  have hkeep : ∀ b o, b ≠ x → b ≠ dx → h.get? b = some o → h'.get? b = some o := fun b o n1 n2 e => hk b o n1 (fun o₀ d' e1 e2 => by rw [hx] at e1; cases e1; cases e2; exact n2) e
  refine q h' oD' tk' ⟨F.ns.at' fun o e => hkeep _ _ (fun e => fx.2.1 e.symm) (fun e => fd.2.1 e.symm) e, fun b o e => hkeep b o (fun e' => ?_) (fun e' => ?_) (F.keep b o e), F.above⟩ (fun p hp => ?_) ⟨es, ep, r⟩ htk
  · have := fx.2.2; rw [← e', e] at this; cases this
  · have := fd.2.2; rw [← e', e] at this; cases this
  · rcases List.mem_append.mp hp with hp | hp
    · have P := N p (List.mem_append_left _ hp)
      exact ⟨hkeep _ _ (hpre p hp).1 (hpre p hp).2 P.1, P.2⟩
    · simp only [List.mem_cons, List.not_mem_nil, or_false] at hp
      rcases hp with rfl | rfl
      · exact ⟨ho1, fx.2⟩
      · exact ⟨h3, fd.2⟩
end smset

section
local macro_rules | `(tactic| walk_at "setAttr ref") => `(tactic| (refine sm_set (pre := []) (by assumption) (by assumption) (by assumption) (fun _ hp => nomatch hp) (by assumption) (by assumption) ?_ (by (try simp only [List.length_cons, List.length_nil]); omega); intro h' oD' tk' F' N' D' htk'; simp only [List.nil_append] at N'))
local macro_rules | `(tactic| walk_at "getAttr ref") => `(tactic| refine sm_getN (pre := []) (by assumption) (by assumption) (by assumption) (by assumption) (by assumption) (by first | assumption | with_unfolding_all rfl | with_unfolding_all assumption) ?_)
local macro_rules | `(tactic| walk_at "compareOp Is") => `(tactic| refine is_str_none (by assumption) ?_)

section meths
variable {w : World} {A : Around} {E : Value → Shared → Prop} {h h₀ : Heap} {g : Array GenState} {d : Drawn} {tk : Nat} {os : OsState} {L x dx : Addr} {m : Str → Option Value} {oD : Obj}
theorem sm_meth {mA : Str → Option Value} {name : Str} {pl : Sem Bool} {f : Addr} {of : Obj} {Q : Value × List Value → Shared → Prop} (X : (K w.params).In h) (I : h.Inst x 242 mA) (hsh : mA name = none) (hq : Q (.ref f, [.ref x]) ⟨h, g, d, tk, os⟩)
    (hf : nsFind (esOf (o241 w.params)) name = some (.ref f) := by kernel_rfl) (hfo : (K w.params).lookup f = some of := by kernel_rfl) (hfc : of.cls = .type "function" := by kernel_rfl) (hB : typeLookup (.type "object") name = pure none := by (rw [typeLookup_type, builtinLookup_eq_fast]; kernel_rfl)) :
    wpAny (model pw w) A (getMethod (.ref x) name pl) Q E ⟨h, g, d, tk, os⟩ := by
  have hng : nsFind (esOf (o241 w.params)) (Str.ofString "__getattribute__") = none := by kernel_rfl
  have hnh : nsFind (esOf (o241 w.params)) (Str.ofString "__getattr__") = none := by kernel_rfl
  have k := k242 X
  have n := ns241 X
  generalize nsFind (esOf (o241 w.params)) = mN at n hf hng hnh
  exact method_of k n hng hnh hf (X _ _ hfo) hfc hB I hsh hq
theorem is_str_none {l : List Nat} {t : Tok} {Q : Value → Shared → Prop} (hA : A.handled = none) (q : Q (.bool false) ⟨h, g, d, tk, os⟩) : wpAny (model pw w) A (compareOp .Is (.str (St l) t) .none) Q E ⟨h, g, d, tk, os⟩ :=
  by_sim 5 [] (v := .bool false) (tr := []) (al := []) (k := tk) (os2 := []) (nx' := h.objs.size) (by rw [PySem.W.Fast.te12886488535604756494]; kernel_rfl) hA (fun p hp => nomatch hp) q
/-- an attribute of the matcher in the ledger -/
theorem sm_getN {pre : List (Addr × Obj)} {l : List (Str × Value)} {name : Str} {v : Value} {expr : Bool} {Q : Value → Shared → Prop} (F : Fr h₀ L h m) (X : (K w.params).In h₀) (N : News h₀ L h (pre ++ [(x, instObj 242 dx), (dx, oD)])) (hxd : dx ≠ x) (hD : NsO oD (lk l)) (hv : lk l name = some v)
    (q : Q v ⟨h, g, d, tk + 1, os⟩) (hn : nsFind (esOf (o241 w.params)) name = none := by kernel_rfl) (hB : typeLookup (.type "object") name = pure none := by (rw [typeLookup_type, builtinLookup_eq_fast]; kernel_rfl)) (hh : handedOut v = pure v := by rfl) :
    wpAny (model pw w) A (getAttr (.ref x) name expr) Q E ⟨h, g, d, tk, os⟩ :=
  sm_get (X.keeps F.keep) (hD.inst (N.get (List.mem_append_right _ (.head _))) (N.get (List.mem_append_right _ (.tail _ (.head _)))) hxd) hv q hn hB hh
theorem sm_methN {pre : List (Addr × Obj)} {l : List (Str × Value)} {name : Str} {pl : Sem Bool} {f : Addr} {of : Obj} {Q : Value × List Value → Shared → Prop} (F : Fr h₀ L h m) (X : (K w.params).In h₀) (N : News h₀ L h (pre ++ [(x, instObj 242 dx), (dx, oD)])) (hxd : dx ≠ x) (hD : NsO oD (lk l)) (hv : lk l name = none)
    (hq : Q (.ref f, [.ref x]) ⟨h, g, d, tk, os⟩)
    (hf : nsFind (esOf (o241 w.params)) name = some (.ref f) := by kernel_rfl) (hfo : (K w.params).lookup f = some of := by kernel_rfl) (hfc : of.cls = .type "function" := by kernel_rfl) (hB : typeLookup (.type "object") name = pure none := by (rw [typeLookup_type, builtinLookup_eq_fast]; kernel_rfl)) :
    wpAny (model pw w) A (getMethod (.ref x) name pl) Q E ⟨h, g, d, tk, os⟩ :=
  sm_meth (X.keeps F.keep) (hD.inst (N.get (List.mem_append_right _ (.head _))) (N.get (List.mem_append_right _ (.tail _ (.head _)))) hxd) hv hq hf hfo hfc hB
end meths
theorem k174 {P : Params} {h : Heap} (X : (K P).In h) : h.get? 174 = some (o174 P) := X _ _ (by kernel_rfl)
theorem k173 {P : Params} {h : Heap} (X : (K P).In h) : h.get? 173 = some (o173 P) := X _ _ (by kernel_rfl)
noncomputable abbrev smSt (k : Nat) : Stmt := sAt (cBod (sAt tops 5)) k
theorem set_seq1 {w : World} {A : Around} {h h₀ : Heap} {g : Array GenState} {d : Drawn} {tk : Nat} {os : OsState} {Q : Value → Shared → Prop} {E : Value → Shared → Prop} {x dx L : Addr} {m : Str → Option Value} {as : List Nat} {ta : Tok} {l : List (Str × Value)} {oD : Obj}
    (X : (K w.params).In h₀) (hlim : h₀.NoLimit) (hA : A.handled = none) (hD : A.depth < recursionLimit) (F : Fr h₀ L h m) (N : News h₀ L h [(x, instObj 242 dx), (dx, oD)]) (hne : dx ≠ x) (hO : NsO oD (lk l)) (ha : lk l (Str.ofString "a") = some .none) (hl : l.length < 50)
    (qq : ∀ h' oD' tk', Fr h₀ L h' m → News h₀ L h' [(x, instObj 242 dx), (dx, oD')] → NsO oD' (lk ((Str.ofString "opcodes", .none) :: (Str.ofString "matching_blocks", .none) :: (Str.ofString "a", .str (St as) ta) :: l)) → tk ≤ tk' → Q .none ⟨h', g, d, tk', os⟩) :
    wpAny (model pw w) A (call (.ref 174) [.ref x, .str (St as) ta]) Q E ⟨h, g, d, tk, os⟩ := by
  have X1 := X.keeps F.keep
  refine enterH F N (binds := [(Str.ofString "self", .ref x), (Str.ofString "a", .str (St as) ta)]) hD (k174 X1) (by with_unfolding_all rfl) (hlim.keeps F.keep) ?hcd (by rfl) ?hb ?hc ?hl (by kernel_rfl) (by kernel_rfl) (by kernel_rfl) (by kernel_rfl) (by kernel_rfl) (by kernel_rfl) ?h
  case hcd => exact ⟨173, _, _, _, rfl, k173 X1, rfl, rfl⟩
  case hb => exact BindsTo.of_eq (by rfl)
  case hc => exact (by decide +kernel : ∀ x ∈ (fSco (smSt 3)).names, x.2 ≠ .cell)
  case hl => exact locs (by kernel_rfl)
  case h =>
    dsimp only [List.length_cons, List.length_nil]
    intro gh L' h₁ F0 F1 N1 hk
    have X2 := X.keeps hk
    have hA' : (A.deeper (envOf (Str.ofString "SequenceMatcher.set_seq1") (fSco (sAt (cBod (sAt tops 5)) 3)) L' 174 (.ref 173))).handled = none := hA
    conv in (fBod _) => whnf
    walk_at "my go"
    exact leaveH F' N' fun Fa Na => qq _ _ _ Fa Na D' (by dsimp only at *; omega)

theorem k181 {P : Params} {h : Heap} (X : (K P).In h) : h.get? 181 = some (o181 P) := X _ _ (by kernel_rfl)
theorem k180 {P : Params} {h : Heap} (X : (K P).In h) : h.get? 180 = some (o180 P) := X _ _ (by kernel_rfl)
theorem k167 {P : Params} {h : Heap} (X : (K P).In h) : h.get? 167 = some (o167 P) := X _ _ (by kernel_rfl)
theorem k166 {P : Params} {h : Heap} (X : (K P).In h) : h.get? 166 = some (o166 P) := X _ _ (by kernel_rfl)
/-- all but dx is kept -/
noncomputable abbrev Kd (dx : Addr) (h h' : Heap) : Prop := ∀ b o, b ≠ dx → h.get? b = some o → h'.get? b = some o
theorem kd_back {h₀ h h' : Heap} {L x dx : Addr} {m : Str → Option Value} {oD oD' : Obj} {ox : Obj} (F : Fr h₀ L h m) (N : News h₀ L h [(x, ox), (dx, oD)]) (hxd : dx ≠ x) (k : Kd dx h h') (hd : h'.get? dx = some oD') : Fr h₀ L h' m ∧ News h₀ L h' [(x, ox), (dx, oD')] := by
  have f1 := N (x, ox) (.head _)
  have f2 := N (dx, oD) (.tail _ (.head _))
  refine ⟨⟨F.ns.at' fun o e => k _ _ (fun e => f2.2.1 e.symm) e, fun b o e => k b o (fun e' => ?_) (F.keep b o e), F.above⟩, fun p hp => ?_⟩
  · have := f2.2.2; rw [← e', e] at this; cases this
  · simp only [List.mem_cons, List.not_mem_nil, or_false] at hp
    rcases hp with rfl | rfl
    · exact ⟨k _ _ (fun e => hxd e.symm) f1.1, f1.2⟩
    · exact ⟨hd, f2.2⟩
/-- what a call of __chain_b leaves, for a matcher with the attributes lc -/
noncomputable def ChainC (w : World) (n : Nat) (x dx : Addr) (lc : List (Str × Value)) (mg mb : Str → Option Value) (H : Heap → Prop) (Z : Heap → Prop) : Prop :=
  ∀ (A : Around) (h : Heap) (g : Array GenState) (d : Drawn) (tk : Nat) (os : OsState) (E : Value → Shared → Prop) (Q : Value → Shared → Prop) (oD : Obj) (h₀ : Heap), A.handled = none → A.depth + n < recursionLimit → H h₀ → (K w.params).In h₀ → TopRead q (looseW q loose) mg mb h₀ → h₀.NoLimit → Kp h₀ h → h₀.get? x = none → h₀.get? dx = none →
    h.get? x = some (instObj 242 dx) → h.get? dx = some oD → NsO oD (lk lc) → dx ≠ x → x ≠ 242 → dx ≠ 242 →
    (∀ h' oD' tk', tk ≤ tk' → Kd dx h h' → h'.get? dx = some oD' → Z h' → Q .none ⟨h', g, d, tk', os⟩) → wpAny (model pw w) A (call (.ref 188) [.ref x]) Q E ⟨h, g, d, tk, os⟩
theorem set_seq2 {w : World} {n : Nat} {A : Around} {h h₀ : Heap} {g : Array GenState} {d : Drawn} {tk : Nat} {os : OsState} {Q : Value → Shared → Prop} {E : Value → Shared → Prop} {x dx L : Addr} {m mg mb : Str → Option Value} {bs : List Nat} {tb : Tok} {l : List (Str × Value)} {oD : Obj} {H Z : Heap → Prop}
    (X : (K w.params).In h₀) (X' : TopRead q (looseW q loose) mg mb h₀) (hlim : h₀.NoLimit) (hA : A.handled = none) (hD : A.depth + 1 + n < recursionLimit) (F : Fr h₀ L h m) (N : News h₀ L h [(x, instObj 242 dx), (dx, oD)]) (hne : dx ≠ x) (hO : NsO oD (lk l)) (hb : lk l (Str.ofString "b") = some .none) (hl : l.length < 50)
    (hcb : lk l (Str.ofString "_SequenceMatcher__chain_b") = none) (hH : ∀ h', Kp h₀ h' → H h')
    (hc : ChainC w n x dx ((Str.ofString "fullbcount", .none) :: (Str.ofString "opcodes", .none) :: (Str.ofString "matching_blocks", .none) :: (Str.ofString "b", .str (St bs) tb) :: l) mg mb H Z)
    (qq : ∀ h' oD' tk', Fr h₀ L h' m → News h₀ L h' [(x, instObj 242 dx), (dx, oD')] → Z h' → tk ≤ tk' → Q .none ⟨h', g, d, tk', os⟩) :
    wpAny (model pw w) A (call (.ref 181) [.ref x, .str (St bs) tb]) Q E ⟨h, g, d, tk, os⟩ := by
  have X1 := X.keeps F.keep
  have hx2 : x ≠ 242 := fun e => by
    have h1 : h₀.get? 242 = none := e ▸ (N (x, instObj 242 dx) (.head _)).2.2
    have h2 := k242 X
    generalize o242 w.params = oo at h2
    rw [h1] at h2
    exact absurd h2 (by simp)
  have hd2 : dx ≠ 242 := fun e => by
    have h1 : h₀.get? 242 = none := e ▸ (N (dx, oD) (.tail _ (.head _))).2.2
    have h2 := k242 X
    generalize o242 w.params = oo at h2
    rw [h1] at h2
    exact absurd h2 (by simp)
  refine enterH F N (binds := [(Str.ofString "self", .ref x), (Str.ofString "b", .str (St bs) tb)]) (by omega) (k181 X1) (by with_unfolding_all rfl) (hlim.keeps F.keep) ?hcd (by rfl) ?hb ?hc ?hl (by kernel_rfl) (by kernel_rfl) (by kernel_rfl) (by kernel_rfl) (by kernel_rfl) (by kernel_rfl) ?h
  case hcd => exact ⟨180, _, _, _, rfl, k180 X1, rfl, rfl⟩
  case hb => exact BindsTo.of_eq (by rfl)
  case hc => exact (by decide +kernel : ∀ x ∈ (fSco (smSt 4)).names, x.2 ≠ .cell)
  case hl => exact locs (by kernel_rfl)
  case h =>
    dsimp only [List.length_cons, List.length_nil]
    intro gh L' h₁ F0 F1 N1 hk
    have X2 := X.keeps hk
    have hA' : (A.deeper (envOf (Str.ofString "SequenceMatcher.set_seq2") (fSco (sAt (cBod (sAt tops 5)) 4)) L' 181 (.ref 180))).handled = none := hA
    conv in (fBod _) => whnf
    walk_at "my go"
    refine sm_methN (f := 188) (of := o188 w.params) (pre := []) F' X2 N' hne D' (by with_unfolding_all exact hcb) ?_
    refine callWith_K0 (K := K w.params) (X2.keeps F'.keep) (by kernel_rfl) ?_
    refine hc _ _ _ _ _ _ _ _ _ gh hA' (by show A.depth + 1 + n < _; omega) (hH gh hk) X2 (X'.keeps hk) (hlim.keeps hk) F'.keep (N' _ (.head _)).2.2 (N' _ (.tail _ (.head _))).2.2 (N'.get (.head _)) (N'.get (.tail _ (.head _))) D' hne hx2 hd2 fun h2 oD2 tk2 htk2 hkd hd hz => ?_
    obtain ⟨F2, N2⟩ := kd_back F' N' hne hkd hd
    walk_at "my go"
    exact leaveH F2 N2 fun Fa Na => qq _ _ _ Fa Na hz (by dsimp only at *; omega)
theorem set_seqs {w : World} {n : Nat} {A : Around} {h h₀ : Heap} {g : Array GenState} {d : Drawn} {tk : Nat} {os : OsState} {Q : Value → Shared → Prop} {E : Value → Shared → Prop} {x dx L : Addr} {m mg mb : Str → Option Value} {as bs : List Nat} {ta tb : Tok} {l : List (Str × Value)} {oD : Obj} {H Z : Heap → Prop}
    (X : (K w.params).In h₀) (X' : TopRead q (looseW q loose) mg mb h₀) (hlim : h₀.NoLimit) (hA : A.handled = none) (hD : A.depth + 2 + n < recursionLimit) (F : Fr h₀ L h m) (N : News h₀ L h [(x, instObj 242 dx), (dx, oD)]) (hne : dx ≠ x) (hO : NsO oD (lk l)) (ha : lk l (Str.ofString "a") = some .none) (hb : lk l (Str.ofString "b") = some .none) (hl : l.length < 40)
    (hn1 : lk l (Str.ofString "set_seq1") = none) (hn2 : lk l (Str.ofString "set_seq2") = none) (hcb : lk l (Str.ofString "_SequenceMatcher__chain_b") = none) (hH : ∀ h', Kp h₀ h' → H h')
    (hc : ChainC w n x dx ((Str.ofString "fullbcount", .none) :: (Str.ofString "opcodes", .none) :: (Str.ofString "matching_blocks", .none) :: (Str.ofString "b", .str (St bs) tb) :: (Str.ofString "opcodes", .none) :: (Str.ofString "matching_blocks", .none) :: (Str.ofString "a", .str (St as) ta) :: l) mg mb H Z)
    (qq : ∀ h' oD' tk', Fr h₀ L h' m → News h₀ L h' [(x, instObj 242 dx), (dx, oD')] → Z h' → tk ≤ tk' → Q .none ⟨h', g, d, tk', os⟩) :
    wpAny (model pw w) A (call (.ref 167) [.ref x, .str (St as) ta, .str (St bs) tb]) Q E ⟨h, g, d, tk, os⟩ := by
  have X1 := X.keeps F.keep
  refine enterH F N (binds := [(Str.ofString "self", .ref x), (Str.ofString "a", .str (St as) ta), (Str.ofString "b", .str (St bs) tb)]) (by omega) (k167 X1) (by with_unfolding_all rfl) (hlim.keeps F.keep) ?hcd (by rfl) ?hb ?hc ?hl (by kernel_rfl) (by kernel_rfl) (by kernel_rfl) (by kernel_rfl) (by kernel_rfl) (by kernel_rfl) ?h
  case hcd => exact ⟨166, _, _, _, rfl, k166 X1, rfl, rfl⟩
  case hb => exact BindsTo.of_eq (by rfl)
  case hc => exact (by decide +kernel : ∀ x ∈ (fSco (smSt 2)).names, x.2 ≠ .cell)
  case hl => exact locs (by kernel_rfl)
  case h =>
    dsimp only [List.length_cons, List.length_nil]
    intro gh L' h₁ F0 F1 N1 hk
    have X2 := X.keeps hk
    have hA' : (A.deeper (envOf (Str.ofString "SequenceMatcher.set_seqs") (fSco (sAt (cBod (sAt tops 5)) 2)) L' 167 (.ref 166))).handled = none := hA
    conv in (fBod _) => whnf
    walk_at "my go"
    refine sm_methN (f := 174) (of := o174 w.params) (pre := []) F1 X2 N1 hne hO (by with_unfolding_all exact hn1) ?_
    refine callWith_K (K := K w.params) X2 (by kernel_rfl) ?_ (by kernel_rfl) (by kernel_rfl)
    walk_at "my go"
    refine set_seq1 (l := l) X2 (hlim.keeps hk) hA' (by show A.depth + 1 < _; omega) F1 N1 hne hO ha (by omega) fun h2 oD2 tk2 F2 N2 D2 htk2 => ?_
    walk_at "my go"
    refine sm_methN (f := 181) (of := o181 w.params) (pre := []) F2 X2 N2 hne D2 (by with_unfolding_all exact hn2) ?_
    refine callWith_K (K := K w.params) X2 (by kernel_rfl) ?_ (by kernel_rfl) (by kernel_rfl)
    walk_at "my go"
    refine set_seq2 (H := H) (Z := Z) X2 (X'.keeps hk) (hlim.keeps hk) hA' (by show A.depth + 1 + 1 + n < _; omega) F2 N2 hne D2 (by with_unfolding_all exact hb) (by simp only [List.length_cons]; omega) (by with_unfolding_all exact hcb) (fun h' k => hH h' fun b o e => k b o (hk b o e)) hc fun h3 oD3 tk3 F3 N3 hz htk3 => ?_
    walk_at "my go"
    exact leaveH F3 N3 fun Fa Na => qq _ _ _ Fa Na hz (by dsimp only at *; omega)

section enterc
variable {prog : Program} {w : World} {A : Around} {s : Shared} {f : Addr}
theorem enterC {o : Obj} {fd : FuncData} {body : List Stmt} {pos : List Value} {kw : List (Str × Value)} {binds : List (Str × Value)} {R : Result → Shared → Prop}
    (hA : A.depth < recursionLimit) (ho : s.heap.get? f = some o) (hd : o.data = .func fd) (hlim : s.heap.NoLimit) (hcd : s.heap.CodeRec fd.code fd.qualname) (hbody : fd.body = .stmts body)
    (hb : BindsTo s fd ⟨pos, kw⟩ binds) (hcell : ∀ x ∈ fd.scope.names, x.2 ≠ .cell) (hloc : ∀ x ∈ binds, fd.scope.names.lookup x.1 = some .local)
    (hco : fd.scope.isCoroutine = false) (hgen : fd.scope.isGenerator = false) (hk : fd.scope.kind = .function)
    (hg : fd.globals = mainGlobals) (hcl : fd.closure = []) (hbu : fd.builtins = builtinsNs)
    (h : ∀ h₁, Fr s.heap s.heap.objs.size h₁ (lk binds.reverse) →
      wpAny (model prog w) (A.deeper (envOf fd.qualname fd.scope s.heap.objs.size f fd.code)) (execs body (envOf fd.qualname fd.scope s.heap.objs.size f fd.code))
        (fun fl s' => R (.ok (.ret (match fl with | .ret v => v | _ => .none))) s') (fun _ _ => False) { s with heap := h₁, toks := s.toks + binds.length }) :
    codeAny (model prog w) A (.call (.ref f) ⟨pos, kw⟩) R s := by
  have he : callEnv fd s.heap.objs.size f = envOf fd.qualname fd.scope s.heap.objs.size f fd.code := by
    unfold callEnv envOf
    rw [hg, hcl, hbu]
    rfl
  refine codeAny_call_def hA ho hd hlim hcd hbody hb hcell hloc (fun h₁ hN hK => ?_) hco hgen hk
  rw [he]
  exact wpAny_mono (h h₁ ⟨hN, hK, Nat.le_refl _⟩) (fun fl s' q => q) fun _ _ x => x.elim
end enterc

theorem k160 {P : Params} {h : Heap} (X : (K P).In h) : h.get? 160 = some (o160 P) := X _ _ (by kernel_rfl)
theorem k159 {P : Params} {h : Heap} (X : (K P).In h) : h.get? 159 = some (o159 P) := X _ _ (by kernel_rfl)
theorem k153 {P : Params} {h : Heap} (X : (K P).In h) : h.get? 153 = some (o153 P) := X _ _ (by kernel_rfl)
/-- the attributes of a new matcher when __chain_b is called -/
noncomputable abbrev chL (as bs : List Nat) (ta tb : Tok) (vj vu : Value) : List (Str × Value) :=
  (Str.ofString "fullbcount", .none) :: (Str.ofString "opcodes", .none) :: (Str.ofString "matching_blocks", .none) :: (Str.ofString "b", .str (St bs) tb) :: (Str.ofString "opcodes", .none) :: (Str.ofString "matching_blocks", .none) :: (Str.ofString "a", .str (St as) ta) ::
    [(Str.ofString "autojunk", vu), (Str.ofString "b", .none), (Str.ofString "a", .none), (Str.ofString "isjunk", vj)]
theorem sm_init {w : World} {n : Nat} {A : Around} {h : Heap} {g : Array GenState} {d : Drawn} {tk : Nat} {os : OsState} {Q : Flow → Shared → Prop} {E : Value → Shared → Prop} {x dx : Addr} {h1 : Heap} {L : Addr} {as bs : List Nat} {ta tb : Tok} {vj vu : Value} {mg mb : Str → Option Value} {oD : Obj} {H Z : Heap → Prop}
    (X : (K w.params).In h) (X' : TopRead q (looseW q loose) mg mb h) (hlim : h.NoLimit) (hA : A.handled = none) (hD : A.depth + 2 + n < recursionLimit)
    (F : Fr h L h1 (lk [(Str.ofString "autojunk", vu), (Str.ofString "b", .str (St bs) tb), (Str.ofString "a", .str (St as) ta), (Str.ofString "isjunk", vj), (Str.ofString "self", .ref x)])) (N : News h L h1 [(x, instObj 242 dx), (dx, oD)]) (hne : dx ≠ x) (hO : NsO oD (lk []))
    (hH : ∀ h', Kp h h' → H h') (hc : ChainC w n x dx (chL as bs ta tb vj vu) mg mb H Z)
    (qq : ∀ h' oD' tk' m', Fr h L h' m' → News h L h' [(x, instObj 242 dx), (dx, oD')] → Z h' → tk ≤ tk' → Q .next ⟨h', g, d, tk', os⟩) :
    wpAny (model pw w) A (execs (fBod (smSt 1)) (envOf (Str.ofString "SequenceMatcher.__init__") (fSco (smSt 1)) L 160 (.ref 159))) Q E ⟨h1, g, d, tk, os⟩ := by
  conv in (fBod _) => whnf
  walk_at "my go"
  refine sm_methN (f := 167) (of := o167 w.params) (pre := []) F' X N' hne D' (by with_unfolding_all rfl) ?_
  refine callWith_K (K := K w.params) X (by kernel_rfl) ?_ (by kernel_rfl) (by kernel_rfl)
  walk_at "my go"
  refine set_seqs (H := H) (Z := Z) X X' hlim hA (by omega) F' N' hne D' (by with_unfolding_all rfl) (by with_unfolding_all rfl) (by simp only [List.length_cons, List.length_nil]; omega) (by with_unfolding_all rfl) (by with_unfolding_all rfl) (by with_unfolding_all rfl) hH hc fun h3 oD3 tk3 F3 N3 hz htk3 => ?_
  walk_at "my go"
  exact qq _ _ _ _ F3 N3 hz (by first | omega | (dsimp only at *; omega))
noncomputable def fdOf (o : Obj) : FuncData := match o.data with
  | .func fd => fd
  | _ => default
theorem ns_empty : NsO emptyDict (lk []) := ⟨#[], 0, rfl, fun e he => by simp at he, by unfold UniqKeys; simp, fun _ => rfl⟩
/-- a matcher is made -/
theorem sm_make {w : World} {n : Nat} {A : Around} {h : Heap} {g : Array GenState} {d : Drawn} {tk : Nat} {os : OsState} {Q : Value → Shared → Prop} {E : Value → Shared → Prop} {as bs : List Nat} {ta tb : Tok} {vj vu : Value} {mg mb : Str → Option Value} {H Z : Heap → Prop} {Zx : Addr → Heap → Prop} {rest : List Value}
    (X : (K w.params).In h) (X' : TopRead q (looseW q loose) mg mb h) (hlim : h.NoLimit) (hA : A.handled = none) (hD : A.depth + 4 + n < recursionLimit) (hrest : rest = [vj, .str (St as) ta, .str (St bs) tb, vu] ∨ (rest = [vj, .str (St as) ta, .str (St bs) tb] ∧ vu = .bool true))
    (hH : ∀ h', Kp h h' → H h') (hc : ∀ x dx, h.get? x = none → h.get? dx = none → ChainC w n x dx (chL as bs ta tb vj vu) mg mb H (Zx x))
    (qq : ∀ x h' tk', Kp h h' → h.get? x = none → Zx x h' → tk ≤ tk' → Q (.ref x) ⟨h', g, d, tk', os⟩) :
    wpAny (model pw w) A (call (.ref 242) rest) Q E ⟨h, g, d, tk, os⟩ := by
  have hm : makesIn (K w.params) 242 = true := by kernel_rfl
  have hi : findIn (K w.params) (.ref 242) "__init__" = some (some (.ref 160)) := by kernel_rfl
  have hf : typeIn (K w.params) (.ref 160) = some (.type "function") := by kernel_rfl
  refine wpAny_call (make_core (makes_of X hm) (looks_findIn X hi) (fun self => bind_fn X self hf) (.inl rfl) ?_)
  generalize eA : A.under (.builtin "type.__call__" ⟨.ref 242 :: rest, []⟩) = A1
  have hA1 : A1.handled = none := by rw [← eA]; exact hA
  have hd1 : A1.depth = A.depth + 1 := by
    rw [← eA]
    rcases hrest with rfl | ⟨rfl, rfl⟩
    · show A.depth + _ = _
      rw [show (Code.builtin "type.__call__" ⟨[.ref 242, vj, .str (St as) ta, .str (St bs) tb, vu], []⟩).weight = 1 by kernel_rfl]
    · show A.depth + _ = _
      rw [show (Code.builtin "type.__call__" ⟨[.ref 242, vj, .str (St as) ta, .str (St bs) tb], []⟩).weight = 1 by kernel_rfl]
  generalize eh : (h.push emptyDict).push (instObj 242 h.objs.size) = h2
  have k2 : Kp h h2 := fun b o e => by rw [← eh]; exact Heap.get?_push_of_some _ (Heap.get?_push_of_some _ e)
  have hx2 : h2.get? (h.objs.size + 1) = some (instObj 242 h.objs.size) := by rw [← eh]; heap_get
  have hd2 : h2.get? h.objs.size = some emptyDict := by rw [← eh]; heap_get
  have fx : h.get? (h.objs.size + 1) = none := by
    cases e : h.get? (h.objs.size + 1) with
    | none => rfl
    | some o => exact absurd (Heap.lt_size e) (Nat.not_lt.mpr (by omega))
  have fd : h.get? h.objs.size = none := by
    cases e : h.get? h.objs.size with
    | none => rfl
    | some o => exact absurd (Heap.lt_size e) (Nat.not_lt.mpr (by omega))
  have hs2 : h2.objs.size = h.objs.size + 2 := by rw [← eh, Heap.size_push, Heap.size_push]
  have hb : BindsTo ⟨h2, g, d, tk, os⟩ (fdOf (o160 w.params)) ⟨.ref (h.objs.size + 1) :: rest, []⟩ [(Str.ofString "self", .ref (h.objs.size + 1)), (Str.ofString "isjunk", vj), (Str.ofString "a", .str (St as) ta), (Str.ofString "b", .str (St bs) tb), (Str.ofString "autojunk", vu)] := by
    rcases hrest with rfl | ⟨rfl, rfl⟩
    · exact BindsTo.of_defaults (T := 153) rfl (k153 (X.keeps k2)) rfl rfl rfl
    · exact BindsTo.of_defaults (T := 153) rfl (k153 (X.keeps k2)) rfl rfl rfl
  refine enterC (binds := [(Str.ofString "self", .ref (h.objs.size + 1)), (Str.ofString "isjunk", vj), (Str.ofString "a", .str (St as) ta), (Str.ofString "b", .str (St bs) tb), (Str.ofString "autojunk", vu)]) (by omega) (k160 (X.keeps k2)) (by with_unfolding_all rfl) (hlim.keeps k2) ?hcd (by rfl) hb ?hc ?hl (by kernel_rfl) (by kernel_rfl) (by kernel_rfl) (by kernel_rfl) (by kernel_rfl) (by kernel_rfl) ?hbody
  case hcd => exact ⟨159, _, _, _, rfl, k159 (X.keeps k2), rfl, rfl⟩
  case hc => exact (by decide +kernel : ∀ x ∈ (fSco (smSt 1)).names, x.2 ≠ .cell)
  case hl => exact locs (by kernel_rfl)
  case hbody =>
    dsimp only [List.length_cons, List.length_nil]
    intro h₁ F
    have F1 : Fr h h2.objs.size h₁ _ := ⟨F.ns, fun b o e => F.keep b o (k2 b o e), by omega⟩
    have N1 : News h h2.objs.size h₁ [(h.objs.size + 1, instObj 242 h.objs.size), (h.objs.size, emptyDict)] := fun p hp => by
      simp only [List.mem_cons, List.not_mem_nil, or_false] at hp
      rcases hp with rfl | rfl
      · exact ⟨F.keep _ _ hx2, by show h.objs.size + 1 ≠ h2.objs.size; omega, fx⟩
      · exact ⟨F.keep _ _ hd2, by show h.objs.size ≠ h2.objs.size; omega, fd⟩
    refine sm_init (H := H) (Z := Zx (h.objs.size + 1)) X X' hlim hA1 (by show A1.depth + 1 + 2 + n < _; omega) F1 N1 (Nat.ne_of_lt (Nat.lt_succ_self _)) ns_empty hH (hc _ _ fx fd) fun h' oD' tk' m' F' N' hz htk => ?_
    refine ⟨rfl, ?_⟩
    exact qq _ _ _ F'.keep fx hz (by omega)

end
section ledt
variable {prog : Program} {w : World} {A : Around} {E : Value → Shared → Prop} {h h₁ : Heap} {g : Array GenState} {d : Drawn} {tk : Nat} {os : OsState} {L f : Addr} {qual : Str} {scope : Scope} {cd : Value}
noncomputable def LeftT (h : Heap) (L : Addr) (own : List (Addr × Obj)) (wr : List Addr) (JJ : List (Str × Value) → List (Addr × Obj) → Nat → Prop) (h2 : Heap) (tk2 : Nat) : Prop :=
  ∃ l2 news2, Fr h L h2 (lk l2) ∧ News h L h2 (own ++ news2) ∧ (∀ p ∈ news2, p.1 ∉ wr) ∧ JJ l2 news2 tk2
/-- a for with two names over an iterator of pairs, by frame and ledger -/
theorem for_ledT {xi xc : Str} {pk pv pt : Pos} {x1 : Nat} {body : List Stmt} {I : Addr} {fp wr : List Addr} {n : Nat} {Pt : Nat → Array Value → Prop} {St : Nat → Heap → Prop} {Mid : Nat → Addr → Heap → Prop} {P2 : Nat → Value → Value → Prop} {Q : Flow → Shared → Prop} {l : List (Str × Value)} {news : List (Addr × Obj)}
    (hh : A.handled = none) (W : WalksT prog w A I fp wr n Pt St Mid) (h2 : ∀ i vals, Pt i vals → ∃ v0 v1, vals = #[v0, v1] ∧ P2 i v0 v1) (JJ : Nat → List (Str × Value) → List (Addr × Obj) → Nat → Prop)
    (hLf : L ∉ fp) (hwr : ∀ b ∈ wr, h.get? b = none) (F : Fr h L h₁ (lk l)) (N : News h L h₁ news) (hnw : ∀ p ∈ news, p.1 ∉ wr) (hlive : ∀ i h' b, b ∈ wr → St i h' → ∃ o, h'.get? b = some o) (st : St 0 h₁) (j0 : JJ 0 l news tk)
    (turn : ∀ t h' l' news' tk0 tk' v0 v1 own, t < n → P2 t v0 v1 → (∀ p ∈ own, p.1 ∈ fp) → (∀ b ∈ wr, ∃ o, (b, o) ∈ own) → Fr h L h' (lk ((xc, v1) :: (xi, v0) :: l')) → News h L h' (own ++ news') → (∀ p ∈ news', p.1 ∉ wr) → JJ t l' news' tk0 → tk0 ≤ tk' →
      wpAny (model prog w) A (execs body (envOf qual scope L f cd)) (TurnEnd g d os (LeftT h L own wr (JJ (t + 1))) Q) Bot ⟨h', g, d, tk', os⟩)
    (done : ∀ h' l' news' tk0 tk', Fr h L h' (lk l') → News h L h' news' → JJ n l' news' tk0 → tk0 ≤ tk' → Q .next ⟨h', g, d, tk', os⟩)
    (hk : scope.kind = .function := by kernel_rfl) (hxi : (envOf qual scope L f cd).kindOf xi = some .local := by kernel_rfl) (hxc : (envOf qual scope L f cd).kindOf xc = some .local := by kernel_rfl) :
    codeAny (model prog w) A (.forLoop (.Tuple [.Name xi pk, .Name xc pv] x1 pt) (.ref I) body [] (envOf qual scope L f cd)) (fun r s' => match r with | .ok f => Q f s' | .error e => cameBackBy (model prog w) A (envOf qual scope L f cd) E e s') ⟨h₁, g, d, tk, os⟩ := by
  have hLw : L ∉ wr := fun h => hLf (W.sub _ h)
  have old : ∀ b o, h.get? b = some o → b ∉ wr := fun b o e hb => by rw [hwr b hb] at e; cases e
  refine codeAny_forLoop_any (fun k s => ∃ i h' tk' l' news', s = ⟨h', g, d, tk', os⟩ ∧ i ≤ n ∧ k = n - i ∧ St i h' ∧ Fr h L h' (lk l') ∧ News h L h' news' ∧ (∀ p ∈ news', p.1 ∉ wr) ∧ JJ i l' news' tk') ?_ n ⟨0, h₁, tk, l, news, rfl, Nat.zero_le _, rfl, st, F, N, hnw, j0⟩
  rintro k s ⟨i, H, tk1, l', news', rfl, hi, rfl, st', F', N', hnw', j⟩
  have next : ∀ h₁ : Heap, (∀ b o, b ∉ wr → H.get? b = some o → h₁.get? b = some o) → Fr h L h₁ (lk l') ∧ News h L h₁ news' := fun h₁ hk₁ =>
    ⟨⟨F'.ns.at' fun o e => hk₁ _ o hLw e, fun b o e => hk₁ b o (old b o e) (F'.keep b o e), F'.above⟩, fun p hp => ⟨hk₁ _ _ (fun q => hnw' p hp q) (N' p hp).1, (N' p hp).2⟩⟩
  by_cases hlt : i < n
  · refine wpAny_with_toks (n := tk1) (Nat.le_refl _) (W.item i _ _ _ hlt st' fun T vals h₁ tk₁ hPt _ hT hMid hk₁ htk => ?_)
    obtain ⟨v0, v1, rfl, hP2⟩ := h2 i vals hPt
    refine W.go _ x1 pt i T _ _ _ hMid fun h₂ hst₂ hk₂ => ?_
    have ht₂ : h₂.IsTuple T #[v0, v1] := hT.at fun o e => hk₂ T o (W.apart i T h₁ hMid) e
    refine wpAny_assign_Tuple hh ht₂ rfl rfl fun h₃ hx₃ => ?_
    replace hx₃ : Heap.ExtBut h₂.objs.size h₂ h₃ := hx₃
    have up₃ : ∀ b o, h₂.get? b = some o → h₃.get? b = some o := fun b o x => hx₃ b o (Nat.ne_of_lt (Heap.lt_size x)) x
    obtain ⟨F₃, N₃⟩ := next h₃ fun b o hb x => up₃ b o (hk₂ b o hb (hk₁ b o hb x))
    have st₃ : St (i + 1) h₃ := W.frame _ _ _ hst₂ fun b _ o e => up₃ b o e
    have N₃' : News h L h₃ (ownOf h fp h₃ ++ news') := (news_ownOf hLf).append N₃
    show wpAny _ A (do holding [v1] (assign (.Name xi pk) (envOf qual scope L f cd) v0); do holding [] (assign (.Name xc pv) (envOf qual scope L f cd) v1); pure ()) _ _ _
    refine wpAny_bind (wpAny_holding (wpAny_assign_Name (k_sto F₃ N₃' (fun h₄ F₄ N₄ => ?_) hk hxi)))
    refine wpAny_bind (wpAny_holding (wpAny_assign_Name (k_sto F₄ N₄ (fun h₅ F₅ N₅ => wpAny_pure ?_) hk hxc)))
    have htk' : tk1 ≤ tk₁ := htk
    refine wpAny_mono (turn i h₅ l' news' tk1 (tk₁ + 1 + 1) v0 v1 (ownOf h fp h₃) hlt hP2 ownOf_sub (fun b hb => let ⟨o, ho⟩ := hlive _ _ b hb st₃; ⟨o, mem_ownOf (W.sub _ hb) (hwr b hb) ho⟩) F₅ N₅ hnw' j (by omega)) (fun fl s eT => ?_) fun _ _ x => x.elim
    have back : ∀ h6 tk6, LeftT h L (ownOf h fp h₃) wr (JJ (i + 1)) h6 tk6 → ∃ i' h' tk' l' news', (⟨h6, g, d, tk6, os⟩ : Shared) = ⟨h', g, d, tk', os⟩ ∧ i' ≤ n ∧ n - (i + 1) = n - i' ∧ St i' h' ∧ Fr h L h' (lk l') ∧ News h L h' news' ∧ (∀ p ∈ news', p.1 ∉ wr) ∧ JJ i' l' news' tk' := by
      rintro h6 tk6 ⟨l6, n6, F6, N6, hn6, j6⟩
      refine ⟨i + 1, h6, tk6, l6, n6, rfl, hlt, rfl, W.frame _ _ _ st₃ fun b hb o e => ?_, F6, N6.right, hn6, j6⟩
      cases hn : h.get? b with
      | some o₀ =>
        have : o₀ = o := by have q := F₃.keep b o₀ hn; rw [e] at q; exact (Option.some.inj q).symm
        exact this ▸ F6.keep b o₀ hn
      | none => exact (N6 _ (List.mem_append_left _ (mem_ownOf hb hn e))).1
    cases fl with
    | next => obtain ⟨h6, tk6, rfl, e6⟩ := eT; exact ⟨n - (i + 1), by omega, back h6 tk6 e6⟩
    | cont => obtain ⟨h6, tk6, rfl, e6⟩ := eT; exact ⟨n - (i + 1), by omega, back h6 tk6 e6⟩
    | brk => exact eT
    | ret v => exact eT
  · obtain rfl : i = n := by omega
    refine wpAny_with_toks (n := tk1) (Nat.le_refl _) (W.done _ _ _ st' fun h' tk' hk' htk => ?_)
    obtain ⟨F6, N6⟩ := next h' hk'
    exact wpAny_execs_nil (done h' l' news' tk1 tk' F6 N6 j htk)
end ledt

section chain
/-- the ledger with the object at a changed -/
noncomputable def chg (a : Addr) (o' : Obj) (news : List (Addr × Obj)) : List (Addr × Obj) := (a, o') :: news.filter fun p => decide (p.1 ≠ a)
theorem mem_chg {a b : Addr} {o o' : Obj} {news : List (Addr × Obj)} (h : (b, o) ∈ news) (hne : b ≠ a) : (b, o) ∈ chg a o' news := .tail _ (List.mem_filter.mpr ⟨h, by simpa using hne⟩)
theorem chg_of {a : Addr} {o' : Obj} {news : List (Addr × Obj)} {p : Addr × Obj} (h : p ∈ chg a o' news) : p = (a, o') ∨ p ∈ news := by
  rcases List.mem_cons.mp h with h | h
  · exact .inl h
  · exact .inr (List.mem_filter.mp h).1
theorem News.chg {h₀ h h' : Heap} {L a : Addr} {o o' : Obj} {news : List (Addr × Obj)} (N : News h₀ L h news) (hm : (a, o) ∈ news) (hs : Heap.SameBut a h h') (ho : h'.get? a = some o') : News h₀ L h' (chg a o' news) := fun p hp => by
  rcases List.mem_cons.mp hp with rfl | hp
  · exact ⟨ho, (N _ hm).2⟩
  · obtain ⟨h1, h2⟩ := List.mem_filter.mp hp
    exact ⟨(hs.2 p.1 (by simpa using h2)).trans (N p h1).1, (N p h1).2⟩
/-- an object that is a list of the ints ps -/
noncomputable def LstO (o : Obj) (ps : List Nat) : Prop := o.cls = .type "list" ∧ o.dict = none ∧ ∃ vs n, o.data = .seq vs n ∧ vs.size = ps.length ∧ ∀ (t : Nat) (ht : t < ps.length), ∃ tk, vs[t]? = some (.int (ps[t] : Int) tk)
theorem LstO.nil : LstO { cls := .type "list", data := .seq #[] 0 } [] := ⟨rfl, rfl, #[], 0, rfl, rfl, fun t ht => nomatch ht⟩
variable {w : World} {A : Around} {E : Value → Shared → Prop} {h h₀ : Heap} {g : Array GenState} {d : Drawn} {tk : Nat} {os : OsState} {L : Addr} {m : Str → Option Value} {news : List (Addr × Obj)}
theorem append_L {lj : Addr} {oL : Obj} {ps : List Nat} {i : Nat} {t : Tok} {Q : Value → Shared → Prop} (F : Fr h₀ L h m) (N : News h₀ L h news) (hm : (lj, oL) ∈ news) (hL : LstO oL ps) (hps : ps.length ≤ 1000000)
    (q : ∀ h' oL', Fr h₀ L h' m → News h₀ L h' (chg lj oL' news) → LstO oL' (ps ++ [i]) → Q .none ⟨h', g, d, tk, os⟩) :
    wpAny (model pw w) A (call (.builtin "list.append") [.ref lj, .int (i : Int) t]) Q E ⟨h, g, d, tk, os⟩ := by
  obtain ⟨hc, hd, vs, n, hdat, hsz, hv⟩ := hL
  have ho := N.get hm
  obtain ⟨n', hd'⟩ := Obj.data_mapSeq hdat (·.push (.int (i : Int) t))
  refine wpAny_call_entry slot_list_append (⟨oL, ho, hc⟩ : (⟨h, g, d, tk, os⟩ : Shared).TypeIs (.ref lj) "list") entry_list_append ?_ (args_list_append _ _)
  show wpAny _ _ (updateSeq lj (·.push (.int (i : Int) t)) >>= fun _ => ret .none) _ _ _
  refine wpAny_bind ?_
  refine wpAny_updateSeq ho hdat (wpAny_pure ⟨.none, rfl, ?_⟩) (by rw [hsz, sizeLine_eq]; omega)
  have hcl : (oL.mapSeq (·.push (.int (i : Int) t))).cls = .type "list" := (Obj.cls_mapSeq ..).trans hc
  have hdi : (oL.mapSeq (·.push (.int (i : Int) t))).dict = none := by
    rw [← hd]; obtain ⟨c, dd, dt, sl⟩ := oL; cases dt <;> rfl
  have hs : Heap.SameBut lj h (h.update lj (Obj.mapSeq (·.push (.int (i : Int) t)))) := Heap.SameBut.update ..
  refine q _ _ (F.update N hm hs) (News.chg N hm hs (Heap.get?_update_self _ ho (Obj.isFreed_of_seq hd'))) ⟨hcl, hdi, _, n', hd', by simp [hsz], fun k hk => ?_⟩
  by_cases e : k < ps.length
  · obtain ⟨tk, h1⟩ := hv k e
    have hk' : k < vs.size := by omega
    refine ⟨tk, ?_⟩
    rw [Array.getElem?_push, if_neg (by omega), h1]
    simp [List.getElem_append, e]
  · simp only [List.length_append, List.length_cons, List.length_nil] at hk
    have e' : k = ps.length := by omega
    subst e'
    exact ⟨t, by rw [Array.getElem?_push, if_pos hsz.symm]; simp⟩
/-- the places of c among the first t signs -/
noncomputable def pos (bs : List Nat) (t c : Nat) : List Nat := (List.range t).filter fun j => bs[j]? == some c
theorem pos_succ (bs : List Nat) (t c : Nat) : pos bs (t + 1) c = if bs[t]? = some c then pos bs t c ++ [t] else pos bs t c := by
  unfold pos
  rw [List.range_succ, List.filter_append]
  by_cases h : bs[t]? = some c
  · simp [h]
  · simp [h]
theorem pos_length (bs : List Nat) (t c : Nat) : (pos bs t c).length ≤ t := by
  unfold pos
  exact Nat.le_trans (List.length_filter_le ..) (by simp)
noncomputable abbrev Ent := Nat × Addr × Obj
noncomputable abbrev kvOf (Ls : List Ent) : List (Str × Value) := Ls.map fun e => (St [e.1], .ref e.2.1)
theorem St1_inj {a b : Nat} (e : St [a] = St [b]) : a = b := by
  have := congrArg Str.cps e
  simpa using this
theorem kv_none {Ls : List Ent} {c : Nat} (h : valueAt (kvOf Ls) (St [c]) = none) : ∀ e ∈ Ls, e.1 ≠ c := fun e he hc => by
  unfold valueAt at h
  rw [Option.map_eq_none_iff, List.find?_eq_none] at h
  exact h (St [e.1], .ref e.2.1) (List.mem_map_of_mem he) (by simp [hc])
theorem kv_some {Ls : List Ent} {c : Nat} {v : Value} (h : valueAt (kvOf Ls) (St [c]) = some v) : ∃ e ∈ Ls, e.1 = c ∧ v = .ref e.2.1 := by
  unfold valueAt at h
  obtain ⟨p, hp, rfl⟩ := Option.map_eq_some_iff.mp h
  have h1 := List.find?_some hp
  have h2 := List.mem_of_find?_eq_some hp
  obtain ⟨e, he, rfl⟩ := List.mem_map.mp h2
  exact ⟨e, he, St1_inj (by simpa using h1), rfl⟩
structure ChI (w : World) (bs : List Nat) (t : Nat) (bj : Addr) (keep : List (Addr × Obj)) (Ls : List Ent) (oB : Obj) (news : List (Addr × Obj)) : Prop where
  b : (bj, oB) ∈ news
  k : ∀ p ∈ keep, p ∈ news
  kb : ∀ p ∈ keep, p.1 ≠ bj
  dict : oB.IsDictOf (strKind pw w) (kvOf Ls)
  mem : ∀ e ∈ Ls, (e.2.1, e.2.2) ∈ news
  lst : ∀ e ∈ Ls, LstO e.2.2 (pos bs t e.1)
  nb : ∀ e ∈ Ls, e.2.1 ≠ bj
  nk : ∀ e ∈ Ls, ∀ p ∈ keep, p.1 ≠ e.2.1
  pw1 : ∀ e ∈ Ls, ∀ e' ∈ Ls, e.1 = e'.1 → e = e'
  pw2 : ∀ e ∈ Ls, ∀ e' ∈ Ls, e.2.1 = e'.2.1 → e = e'
  out : ∀ c, (∀ e ∈ Ls, e.1 ≠ c) → pos bs t c = []
  len : Ls.length ≤ t
/-- a new letter -/
theorem ChI.new {bs : List Nat} {t c : Nat} {bj D : Addr} {keep : List (Addr × Obj)} {Ls : List Ent} {oB oB' oL : Obj} {news news2 : List (Addr × Obj)} (I : ChI w bs t bj keep Ls oB news) (hc : bs[t]? = some c) (hn : ∀ e ∈ Ls, e.1 ≠ c)
    (hb : (bj, oB') ∈ news2) (hd : oB'.IsDictOf (strKind pw w) (stored (kvOf Ls) (St [c]) (.ref D))) (hD : (D, oL) ∈ news2) (hL : LstO oL ([] ++ [t])) (hk : ∀ p ∈ news, p.1 ≠ bj → p.1 ≠ D → p ∈ news2) (fD : ∀ p ∈ news, p.1 ≠ D) :
    ChI w bs (t + 1) bj keep (Ls ++ [(c, D, oL)]) oB' news2 := by
  have hst : stored (kvOf Ls) (St [c]) (.ref D) = kvOf (Ls ++ [(c, D, oL)]) := by
    unfold stored
    rw [if_neg]
    · simp [kvOf]
    · intro h
      obtain ⟨p, hp, he⟩ := List.any_eq_true.mp h
      obtain ⟨e, he', rfl⟩ := List.mem_map.mp hp
      exact hn e he' (St1_inj (by simpa using he))
  have h0 : pos bs t c = [] := I.out c hn
  refine ⟨hb, fun p hp => hk p (I.k p hp) (I.kb p hp) (fD p (I.k p hp)), I.kb, hst ▸ hd, fun e he => ?_, fun e he => ?_, fun e he => ?_, fun e he p hp => ?_, fun e he e' he' h => ?_, fun e he e' he' h => ?_, fun c' h => ?_, by have := I.len; simp; omega⟩
  · rcases List.mem_append.mp he with he | he
    · exact hk _ (I.mem e he) (I.nb e he) (fD _ (I.mem e he))
    · rw [List.mem_singleton.mp he]; exact hD
  · rcases List.mem_append.mp he with he | he
    · rw [pos_succ, if_neg (by rw [hc]; exact fun x => hn e he (Option.some.inj x).symm)]
      exact I.lst e he
    · rw [List.mem_singleton.mp he, pos_succ, if_pos hc, h0]; exact hL
  · rcases List.mem_append.mp he with he | he
    · exact I.nb e he
    · rw [List.mem_singleton.mp he]; exact fun x => fD _ I.b x.symm
  · rcases List.mem_append.mp he with he | he
    · exact I.nk e he p hp
    · rw [List.mem_singleton.mp he]; exact fD p (I.k p hp)
  · rcases List.mem_append.mp he with he | he <;> rcases List.mem_append.mp he' with he' | he'
    · exact I.pw1 e he e' he' h
    · rw [List.mem_singleton.mp he'] at h; exact absurd h (hn e he)
    · rw [List.mem_singleton.mp he] at h; exact absurd h.symm (hn e' he')
    · rw [List.mem_singleton.mp he, List.mem_singleton.mp he']
  · rcases List.mem_append.mp he with he | he <;> rcases List.mem_append.mp he' with he' | he'
    · exact I.pw2 e he e' he' h
    · rw [List.mem_singleton.mp he'] at h; exact absurd h (fD _ (I.mem e he))
    · rw [List.mem_singleton.mp he] at h; exact absurd h.symm (fD _ (I.mem e' he'))
    · rw [List.mem_singleton.mp he, List.mem_singleton.mp he']
  · rw [pos_succ, if_neg (by rw [hc]; exact fun x => h (c, D, oL) (by simp) (Option.some.inj x))]
    exact I.out c' fun e he => h e (List.mem_append_left _ he)
/-- a letter met before -/
theorem ChI.old {bs : List Nat} {t : Nat} {bj : Addr} {keep : List (Addr × Obj)} {Ls : List Ent} {oB oL : Obj} {news news2 : List (Addr × Obj)} (I : ChI w bs t bj keep Ls oB news) {e : Ent} (he : e ∈ Ls) (hc : bs[t]? = some e.1)
    (hD : (e.2.1, oL) ∈ news2) (hL : LstO oL (pos bs t e.1 ++ [t])) (hk : ∀ p ∈ news, p.1 ≠ e.2.1 → p ∈ news2) :
    ∃ Ls', ChI w bs (t + 1) bj keep Ls' oB news2 := by
  let f : Ent → Ent := fun x => if x.1 = e.1 then (x.1, x.2.1, oL) else x
  have f1 : ∀ x, (f x).1 = x.1 := fun x => by simp only [f]; split <;> rfl
  have f2 : ∀ x, (f x).2.1 = x.2.1 := fun x => by simp only [f]; split <;> rfl
  have fe : ∀ x ∈ Ls, x.1 = e.1 → x = e := fun x hx h => I.pw1 x hx e he h
  refine ⟨Ls.map f, I.b |> fun h => hk _ h (fun x => I.nb e he x.symm), fun p hp => hk p (I.k p hp) (I.nk e he p hp), I.kb, ?_, fun y hy => ?_, fun y hy => ?_, fun y hy => ?_, fun y hy p hp => ?_, fun y hy y' hy' h => ?_, fun y hy y' hy' h => ?_, fun c' h => ?_, by have := I.len; simp; omega⟩
  · have : kvOf (Ls.map f) = kvOf Ls := by
      unfold kvOf
      rw [List.map_map]
      exact List.map_congr_left fun x _ => by simp only [Function.comp_apply, f1, f2]
    rw [this]; exact I.dict
  · obtain ⟨x, hx, rfl⟩ := List.mem_map.mp hy
    by_cases h : x.1 = e.1
    · rw [fe x hx h]; simp only [f, if_true]; exact hD
    · simp only [f, if_neg h]
      exact hk _ (I.mem x hx) fun q => h (by rw [I.pw2 x hx e he q])
  · obtain ⟨x, hx, rfl⟩ := List.mem_map.mp hy
    by_cases h : x.1 = e.1
    · rw [f1, h, pos_succ, if_pos hc]; simp only [f, if_pos h]; exact hL
    · rw [f1, pos_succ, if_neg (by rw [hc]; exact fun q => h (Option.some.inj q).symm)]
      simp only [f, if_neg h]; exact I.lst x hx
  · obtain ⟨x, hx, rfl⟩ := List.mem_map.mp hy
    rw [f2]; exact I.nb x hx
  · obtain ⟨x, hx, rfl⟩ := List.mem_map.mp hy
    rw [f2]; exact I.nk x hx p hp
  · obtain ⟨x, hx, rfl⟩ := List.mem_map.mp hy
    obtain ⟨x', hx', rfl⟩ := List.mem_map.mp hy'
    rw [f1, f1] at h
    rw [I.pw1 x hx x' hx' h]
  · obtain ⟨x, hx, rfl⟩ := List.mem_map.mp hy
    obtain ⟨x', hx', rfl⟩ := List.mem_map.mp hy'
    rw [f2, f2] at h
    rw [I.pw2 x hx x' hx' h]
  · have hne : c' ≠ e.1 := fun q => h (f e) (List.mem_map_of_mem he) (by rw [f1, q])
    rw [pos_succ, if_neg (by rw [hc]; exact fun q => hne (Option.some.inj q).symm)]
    exact I.out c' fun x hx q => h (f x) (List.mem_map_of_mem hx) (by rw [f1]; exact q)
end chain

noncomputable abbrev cbE (L : Addr) : Env := envOf (Str.ofString "SequenceMatcher.__chain_b") (fSco (smSt 5)) L 188 (.ref 187)
noncomputable abbrev cS (k : Nat) : Stmt := sAt (fBod (smSt 5)) k
theorem call_setdefault {w : World} {A : Around} {E : Value → Shared → Prop} {h h₀ : Heap} {g : Array GenState} {d : Drawn} {tk : Nat} {os : OsState} {L : Addr} {m : Str → Option Value} {news : List (Addr × Obj)} {bj : Addr} {oB : Obj} {kv : List (Str × Value)} {c : Nat} {t : Tok} {dv : Value} {Q : Value → Shared → Prop}
    (F : Fr h₀ L h m) (N : News h₀ L h news) (hm : (bj, oB) ∈ news) (hB : oB.IsDictOf (strKind pw w) kv) (hsys : (bj == sysModules) = false) (hkv : kv.length ≤ 1000000)
    (q1 : ∀ v, valueAt kv (St [c]) = some v → Q v ⟨h, g, d, tk + 1, os⟩)
    (q2 : valueAt kv (St [c]) = none → ∀ h' oB', Fr h₀ L h' m → News h₀ L h' (chg bj oB' news) → oB'.IsDictOf (strKind pw w) (stored kv (St [c]) dv) → Q dv ⟨h', g, d, tk + 1, os⟩) :
    wpAny (model pw w) A (call (.builtin "dict.setdefault") [.ref bj, .str (St [c]) t, dv]) Q E ⟨h, g, d, tk, os⟩ := by
  have hD : h.DictOf (strKind pw w) bj kv := Heap.dictOf_iff.mpr ⟨oB, N.get hm, hB⟩
  refine call_meetsIn PySem.F.slot_dict_setdefault hD.typeIs PySem.F.entry_dict_setdefault (PySem.F.args_dict_setdefault_3 _ _ _) (kt_meets_setdefault (strKind pw w) bj (strKind_is _ _ _ _) hsys dv) ⟨kv, hD, by rw [sizeLine_eq]; omega, fun v hv => q1 v hv, fun hn h' hd hs => ?_⟩
  obtain ⟨oB', ho', hB'⟩ := Heap.dictOf_iff.mp hd
  exact q2 hn h' oB' (Fr.update F N hm hs) (News.chg N hm hs ho') hB'
theorem chain_turn {w : World} {A : Around} {h h₁ : Heap} {L : Addr} {g : Array GenState} {d : Drawn} {tk : Nat} {os : OsState} {E : Value → Shared → Prop} {Q : Flow → Shared → Prop} {l : List (Str × Value)} {i c : Nat} {ti tc : Tok} {bj : Addr} {bs : List Nat} {own news keep : List (Addr × Obj)} {Ls : List Ent} {oB : Obj} {fp : List Addr}
    (hA : A.handled = none) (F : Fr h L h₁ (lk l)) (N : News h L h₁ (own ++ news)) (I : ChI w bs i bj keep Ls oB news) (hc : bs[i]? = some c) (hsys : (bj == sysModules) = false) (hi : i < 1000000) (hown : ∀ p ∈ own, p.1 ∈ fp) (hnw : ∀ p ∈ news, p.1 ∉ fp) (hfp : ∀ b ∈ fp, ∃ o, (b, o) ∈ own)
    (h1 : lk l (Str.ofString "i") = some (.int (i : Int) ti)) (h2 : lk l (Str.ofString "elt") = some (.str (St [c]) tc)) (h3 : lk l (Str.ofString "b2j") = some (.ref bj))
    (q : ∀ h' tk' vi Ls' oB' news', Fr h L h' (lk ((Str.ofString "indices", vi) :: l)) → News h L h' (own ++ news') → (∀ p ∈ news', p.1 ∉ fp) → ChI w bs (i + 1) bj keep Ls' oB' news' → tk ≤ tk' → Q .next ⟨h', g, d, tk', os⟩) :
    wpAny (model pw w) A (execs (stBody (cS 2)) (cbE L)) Q E ⟨h₁, g, d, tk, os⟩ := by
  conv in (stBody (cS 2)) => whnf
  have hD0 : h₁.DictOf (strKind pw w) bj (kvOf Ls) := Heap.dictOf_iff.mpr ⟨oB, N.get (List.mem_append_right _ I.b), I.dict⟩
  walk_at "my go"
  refine getMethod_builtin (T := "dict") hD0.typeIs PySem.F.plainAttrs_dict PySem.F.slot_dict_setdefault PySem.F.type_dict_setdefault hD0.mapOf.noDict ?_
  walk_at "my go"
  have lD : ∀ p ∈ own ++ news, p.1 < D' := l1
  have hDfp : D' ∉ fp := fun hb => by
    obtain ⟨o, ho⟩ := hfp _ hb
    exact Nat.lt_irrefl _ (lD _ (List.mem_append_left _ ho))
  have hkl : (kvOf Ls).length ≤ 1000000 := by have := I.len; simp only [List.length_map]; omega
  refine call_setdefault F' N' (.tail _ (List.mem_append_right _ I.b)) I.dict hsys hkl ?_ ?_
  · intro v hv
    obtain ⟨e, he, rfl, rfl⟩ := kv_some hv
    walk_at "my go"
    have hm := I.mem e he
    have hL := I.lst e he
    refine getMethod_list_append (N'.get (.tail _ (List.mem_append_right _ hm))) hL.1 hL.2.1 ?_
    walk_at "my go"
    refine append_L F' N' (.tail _ (List.mem_append_right _ hm)) hL (Nat.le_trans (pos_length ..) (by omega)) fun h5 oL' F5 N5 hL' => ?_
    walk_at "my go"
    have hown' : ∀ p ∈ own, p.1 ≠ e.2.1 := fun p hp x => hnw _ hm (x ▸ hown p hp)
    obtain ⟨Ls', I'⟩ := ChI.old I he hc (news2 := chg e.2.1 oL' news) (.head _) hL' (fun p hp hne => mem_chg hp hne)
    refine q h5 _ _ Ls' oB _ F5 (fun p hp => N5 p ?_) (fun p hp => ?_) I' (by omega)
    · rcases List.mem_append.mp hp with hp | hp
      · exact mem_chg (.tail _ (List.mem_append_left _ hp)) (hown' p hp)
      · rcases List.mem_cons.mp hp with rfl | hp
        · exact .head _
        · have := List.mem_filter.mp hp
          exact mem_chg (.tail _ (List.mem_append_right _ this.1)) (by simpa using this.2)
    · rcases chg_of hp with rfl | hp
      · exact hnw (e.2.1, e.2.2) hm
      · exact hnw p hp
  · intro hn h4 oB' F4 N4 hB'
    clear F' N'
    walk_at "my go"
    have hne := kv_none hn
    have hDb : D' ≠ bj := fun x => Nat.lt_irrefl _ (x ▸ lD _ (List.mem_append_right _ I.b))
    have hmD : (D', ({ cls := .type "list", data := .seq #[] 0 } : Obj)) ∈ chg bj oB' ((D', { cls := .type "list", data := .seq #[] 0 }) :: (own ++ news)) := mem_chg (.head _) hDb
    refine getMethod_list_append (N'.get hmD) rfl rfl ?_
    walk_at "my go"
    refine append_L F' N' hmD LstO.nil (by simp) fun h5 oL' F5 N5 hL' => ?_
    walk_at "my go"
    have I' := ChI.new I hc hne (news2 := chg D' oL' (chg bj oB' news)) (mem_chg (.head _) hDb.symm) hB' (.head _) hL' (fun p hp h1 h2 => mem_chg (mem_chg hp h1) h2) (fun p hp x => Nat.lt_irrefl _ (x ▸ lD p (List.mem_append_right _ hp)))
    refine q h5 _ _ _ oB' _ F5 (fun p hp => N5 p ?_) (fun p hp => ?_) I' (by omega)
    · rcases List.mem_append.mp hp with hp | hp
      · exact mem_chg (mem_chg (.tail _ (List.mem_append_left _ hp)) fun x => hnw _ I.b (x ▸ hown p hp)) fun x => Nat.lt_irrefl _ (x ▸ lD p (List.mem_append_left _ hp))
      · rcases List.mem_cons.mp hp with rfl | hp
        · exact .head _
        · have h1 := List.mem_filter.mp hp
          rcases List.mem_cons.mp h1.1 with rfl | h2
          · exact mem_chg (.head _) hDb.symm
          · have h3 := List.mem_filter.mp h2
            exact mem_chg (mem_chg (.tail _ (List.mem_append_right _ h3.1)) (by simpa using h3.2)) (by simpa using h1.2)
    · rcases chg_of hp with rfl | hp
      · exact hDfp
      · rcases chg_of hp with rfl | hp
        · exact hnw (bj, oB) I.b
        · exact hnw p hp

noncomputable abbrev chVars : List Str := [Str.ofString "i", Str.ofString "elt", Str.ofString "indices"]
theorem draws_str {prog : Program} {w : World} {A : Around} (hh : A.handled = none) (it : Addr) (x : Str) (t : Tok) : Draws prog w A it [it] x.cps.size (fun i v => ∃ c u, x.cps[i]? = some c ∧ v = .str ⟨#[c]⟩ u) (fun i h => h.IsStrIter it (strIterType x) x t i) := by
  unfold strIterType
  cases ha : x.cps.all (· < 128)
  · exact Draws.strWide hh it x t
  · exact Draws.strAscii hh it x t
theorem not_two {a it : Addr} (h : a < it) : a ∉ [it + 1, it] := fun hm => by
  rcases List.mem_cons.mp hm with e | e
  · have h' : @LT.lt Nat _ a it := h
    have e' : @Eq Nat a (it + 1) := e
    omega
  · rw [List.mem_singleton.mp e] at h
    exact Nat.lt_irrefl _ h
theorem chain_loop {w : World} {A : Around} {h h₁ : Heap} {L : Addr} {g : Array GenState} {d : Drawn} {tk : Nat} {os : OsState} {E : Value → Shared → Prop} {Q : Flow → Shared → Prop} {l : List (Str × Value)} {tb : Tok} {bj : Addr} {bs : List Nat} {news keep : List (Addr × Obj)} {Ls : List Ent} {oB : Obj} {mg mb : Str → Option Value}
    (hA : A.handled = none) (X : (K w.params).In h) (X' : TopRead q (looseW q loose) mg mb h) (F : Fr h L h₁ (lk l)) (N : News h L h₁ news) (I : ChI w bs 0 bj keep [] oB news) (hsys : (bj == sysModules) = false) (hlb : bs.length < 1000000)
    (h2 : lk l (Str.ofString "b") = some (.str (St bs) tb)) (h3 : lk l (Str.ofString "b2j") = some (.ref bj))
    (qq : ∀ h' tk' l' Ls' oB' news', Fr h L h' (lk l') → News h L h' news' → ChI w bs bs.length bj keep Ls' oB' news' → (∀ v, v ∉ chVars → lk l' v = lk l v) → tk ≤ tk' → Q .next ⟨h', g, d, tk', os⟩) :
    wpAny (model pw w) A (exec (cS 2) (cbE L)) Q E ⟨h₁, g, d, tk, os⟩ := by
  conv in (cS 2) => whnf
  refine wpAny_For ?_
  walk_at "my go"
  refine call_enumerate_str fun h2 he hst hz hk => ?_
  dsimp only at he hst hz hk ⊢
  have hL1 : L < h₁.objs.size := by obtain ⟨o, _, _, ho, _⟩ := F.ns; exact Heap.lt_size ho
  have hn1 : ∀ p ∈ news, p.1 < h₁.objs.size := fun p hp => Heap.lt_size (N p hp).1
  have hbase : ∀ b, h₁.objs.size ≤ b → h.get? b = none := fun b hb => by
    cases e : h.get? b with
    | none => rfl
    | some o => exact absurd (Heap.lt_size (F.keep _ _ e)) (Nat.not_lt.mpr hb)
  generalize h₁.objs.size = it at *
  have F2 := F.keeps hk
  have N2 : News h L h2 news := fun p hp => ⟨hk _ _ (N p hp).1, (N p hp).2⟩
  have hA1 : A.in1.handled = none := hA
  refine wpAny_pyIter_enum he ?_
  refine for_ledT (h := h) (wr := [it + 1, it]) (fp := [it + 1, it]) (n := bs.length) (tk := tk) (P2 := fun i v0 v1 => ∃ t c u, bs[i]? = some c ∧ v0 = .int (i : Int) t ∧ v1 = .str (St [c]) u) (news := news) (l := l) hA
    (WalksT.enumerateD (draws_str hA1 it (St bs) tb) (it + 1) (Nat.succ_ne_self it) (by simp) (by simp)) ?_ (fun t l' news' tk' => tk ≤ tk' ∧ (∀ v, v ∉ chVars → lk l' v = lk l v) ∧ ∃ Ls oB, ChI w bs t bj keep Ls oB news') ?_ ?_ F2 N2 ?_ ?_ ⟨⟨_, he⟩, hst⟩ ⟨Nat.le_refl _, fun _ _ => rfl, [], oB, I⟩ ?_ ?_
  · rintro i vals ⟨t, v, ⟨c, u, hc, rfl⟩, rfl⟩
    exact ⟨_, _, rfl, t, c, u, by simpa using hc, rfl, rfl⟩
  · exact not_two hL1
  · intro b hb
    simp only [List.mem_cons, List.not_mem_nil, or_false] at hb
    rcases hb with rfl | rfl
    · exact hbase _ (by omega)
    · exact hbase _ (by omega)
  · intro p hp
    exact not_two (hn1 p hp)
  · rintro i h' b hb ⟨⟨old, e1⟩, e2⟩
    simp only [List.mem_cons, List.not_mem_nil, or_false] at hb
    rcases hb with rfl | rfl
    · exact ⟨_, e1⟩
    · obtain ⟨o, ho, _⟩ := e2; exact ⟨o, ho⟩
  · rintro t h' l' news' tk0 tk' v0 v1 own ht ⟨ti, c, u, hc, rfl, rfl⟩ hown hcov F' N' hnw ⟨htk0, hl', Ls', oB', I'⟩ htk
    refine chain_turn (l := (Str.ofString "elt", .str (St [c]) u) :: (Str.ofString "i", .int (t : Int) ti) :: l') hA F' N' I' hc hsys (by omega) hown hnw hcov (by with_unfolding_all rfl) (by with_unfolding_all rfl) ?_ ?_
    · rw [lk_skip (by decide +kernel), lk_skip (by decide +kernel), hl' _ (by decide +kernel)]; exact h3
    · intro h5 tk5 vi Ls5 oB5 news5 F5 N5 hn5 I5 htk5
      refine TurnEnd.next ⟨_, news5, F5, N5, hn5, by omega, fun v hv => ?_, Ls5, oB5, I5⟩
      simp only [chVars, List.mem_cons, not_or] at hv
      rw [lk_skip hv.2.2.1, lk_skip hv.2.1, lk_skip hv.1]
      exact hl' v (by simp only [chVars, List.mem_cons, not_or]; exact hv)
  · rintro h' l' news' tk0 tk' F' N' ⟨htk0, hl', Ls', oB', I'⟩ htk
    exact qq _ _ _ _ _ _ F' N' I' hl' (by omega)

theorem set_lit {o : Obj} (hx : o.ExactSet) {es : Array (Int × Value)} {ep : Nat} {tb : SetTable} (hd : o.data = .set es ep tb) : o = { cls := .type "set", data := .set es ep tb } := by
  obtain ⟨c, di, da, sl⟩ := o
  obtain ⟨h1, h2, h3⟩ := hx
  simp only at h1 h2 h3 hd
  subst h1 h2 h3 hd
  rfl
theorem isj_of {w : World} {A : Around} {h : Heap} {u jk : Addr} {S : Str → Bool} {n : Nat} (hA : A.handled = none) (hS : h.SetOf (strKind pw w) jk S n) : IsJ w A h u (boundObj "set.__contains__" jk) (fun c => S (St [c])) := by
  intro h' c t g d tk os Q E hk hu q
  have hS' : h'.SetOf (strKind pw w) jk S n := let ⟨o, es, ep, tb, ho, r⟩ := hS; ⟨o, es, ep, tb, hk _ _ ho, r⟩
  obtain ⟨o, es, ep, tb, ho, hx, hd, r⟩ := id hS'
  rw [set_lit hx hd] at ho
  refine call_bound hu (by decide +kernel) entry_set_contains (chk_in hA ho ?_)
  unfold Builtin.«frozenset.__contains__» Builtin.Frozenset.oneOther
  simp only [List.isEmpty_nil, bind_assoc]
  unfold Builtin.Frozenset.addrOf Builtin.Frozenset.withSetAsKey setContains
  refine wpAny_bind (wpAny_pure ?_)
  try dsimp only
  refine wpAny_bind (wpAny_pure ?_)
  try dsimp only
  refine wpAny_bind (wpAny_tryCatch ?_)
  refine wpAny_holding ?_
  refine wpAny_bind ((strKind pw w).pyHash (strKind_is _ _ _ _) ?_)
  refine wpAny_bind (wpAny_setFind_of (knd := strKind pw w) (k := St [c]) (strKind_is _ _ _ _) rfl hS' fun r hr => ?_)
  refine wpAny_pure ?_
  show wpAny _ _ (ret (Value.bool r.isSome)) _ _ _
  rw [hr]
  exact wpAny_pure (q (tk + 1) (Nat.le_succ _))
theorem set_empty {w : World} {h : Heap} {jk : Addr} {led : Bool} (ho : h.get? jk = some { cls := .type "set", dict := none, data := .set #[] 0 (.fresh 0 0 led) }) : h.SetOf (strKind pw w) jk (fun _ => false) 0 :=
  ⟨_, #[], 0, _, ho, ⟨rfl, rfl, rfl⟩, rfl, fun e he => by simp at he, fun k => by simp, by decide +kernel, by cases led <;> rfl, rfl⟩

section
local macro_rules | `(tactic| walk_at "setAttr ref") => `(tactic| (refine sm_set (pre := []) (by assumption) (by assumption) (by assumption) (fun _ hp => nomatch hp) (by assumption) (by assumption) ?_ (by (try simp only [List.length_cons, List.length_nil]); omega); intro h' oD' tk' F' N' D' htk'; simp only [List.nil_append] at N'))
local macro_rules | `(tactic| walk_at "getAttr ref") => `(tactic| refine sm_getN (pre := []) (by assumption) (by assumption) (by assumption) (by assumption) (by assumption) (by first | assumption | with_unfolding_all rfl | with_unfolding_all assumption) ?_)
local macro_rules | `(tactic| walk_at "compareOp Is") => `(tactic| refine is_str_none (by assumption) ?_)

theorem k188 {P : Params} {h : Heap} (X : (K P).In h) : h.get? 188 = some (o188 P) := X _ _ (by kernel_rfl)
theorem k187 {P : Params} {h : Heap} (X : (K P).In h) : h.get? 187 = some (o187 P) := X _ _ (by kernel_rfl)
/-- statements 0, 1, 2 of __chain_b -/
theorem chain1 {w : World} {A : Around} {h h₁ : Heap} {L : Addr} {g : Array GenState} {d : Drawn} {tk : Nat} {os : OsState} {E : Value → Shared → Prop} {Q : Flow → Shared → Prop} {x dx : Addr} {bs : List Nat} {tb : Tok} {lc : List (Str × Value)} {oD : Obj} {mg mb : Str → Option Value} {rest : List Stmt}
    (hA : A.handled = none) (X : (K w.params).In h) (X' : TopRead q (looseW q loose) mg mb h) (hsys : ∀ a, h.get? a = none → (a == sysModules) = false) (F : Fr h L h₁ (lk [(Str.ofString "self", .ref x)])) (N : News h L h₁ [(x, instObj 242 dx), (dx, oD)]) (hne : dx ≠ x) (hO : NsO oD (lk lc)) (hb : lk lc (Str.ofString "b") = some (.str (St bs) tb)) (hlc : lc.length < 40) (hlb : bs.length < 1000000)
    (qq : ∀ h' tk' l' bj Ls oB oD' news', Fr h L h' (lk l') → News h L h' news' → ChI w bs bs.length bj [(x, instObj 242 dx), (dx, oD')] Ls oB news' → NsO oD' (lk ((Str.ofString "b2j", .ref bj) :: lc)) → (bj == sysModules) = false → lk l' (Str.ofString "self") = some (.ref x) → lk l' (Str.ofString "b") = some (.str (St bs) tb) → lk l' (Str.ofString "b2j") = some (.ref bj) → tk ≤ tk' →
      wpAny (model pw w) A (execs rest (cbE L)) Q E ⟨h', g, d, tk', os⟩) :
    wpAny (model pw w) A (execs (cS 0 :: cS 1 :: cS 2 :: rest) (cbE L)) Q E ⟨h₁, g, d, tk, os⟩ := by
  conv in (cS 0) => whnf
  conv in (cS 1) => whnf
  walk_at "my go"
  have lx : x ≠ D' := Nat.ne_of_lt (l1 _ (.head _))
  have ld : dx ≠ D' := Nat.ne_of_lt (l1 _ (.tail _ (.head _)))
  refine sm_set (pre := [(D', dictOf [] 0)]) (x := x) (dx := dx) F' X N' (fun p hp => by rw [List.mem_singleton.mp hp]; exact ⟨lx.symm, ld.symm⟩) hne hO ?_ (by omega)
  intro h3 oD3 tk3 F3 N3 D3 htk3
  clear F' N'
  walk_at "my go"
  have hsD : (D' == sysModules) = false := hsys D' (N'.fresh (.head _))
  have hkb : ∀ p ∈ [(x, instObj 242 dx), (dx, oD3)], p.1 ≠ D' := fun p hp => by
    simp only [List.mem_cons, List.not_mem_nil, or_false] at hp
    rcases hp with rfl | rfl
    · exact lx
    · exact ld
  have I0 : ChI w bs 0 D' [(x, instObj 242 dx), (dx, oD3)] [] (dictOf [] 0) [(D', dictOf [] 0), (x, instObj 242 dx), (dx, oD3)] :=
    { b := .head _
      k := fun p hp => .tail _ hp
      kb := hkb
      dict := ⟨#[], 0, ⟨rfl, rfl, rfl⟩, rfl, fun e he => by simp at he, .nil, List.nodup_nil⟩
      mem := fun e he => (nomatch he)
      lst := fun e he => (nomatch he)
      nb := fun e he => (nomatch he)
      nk := fun e he => (nomatch he)
      pw1 := fun e he => (nomatch he)
      pw2 := fun e he => (nomatch he)
      out := fun c _ => rfl
      len := Nat.le_refl _ }
  refine chain_loop (keep := [(x, instObj 242 dx), (dx, oD3)]) (Ls := []) hA X X' F' N' I0 hsD hlb (by with_unfolding_all rfl) (by with_unfolding_all rfl) fun h4 tk4 l4 Ls4 oB4 news4 F4 N4 I4 hl4 htk4 => ?_
  refine c_next (qq h4 tk4 l4 D' Ls4 oB4 oD3 news4 F4 N4 I4 D3 hsD (by rw [hl4 _ (by decide +kernel)]; with_unfolding_all rfl) (by rw [hl4 _ (by decide +kernel)]; with_unfolding_all rfl) (by rw [hl4 _ (by decide +kernel)]; with_unfolding_all rfl) (by omega))

theorem k_set0 {prog : Program} {w : World} {A : Around} {E : Value → Shared → Prop} {h h₀ : Heap} {g : Array GenState} {d : Drawn} {tk : Nat} {os : OsState} {L : Addr} {m : Str → Option Value} {news : List (Addr × Obj)} {Q : Value → Shared → Prop} (F : Fr h₀ L h m) (N : News h₀ L h news)
    (q : ∀ J h' (led : Bool), Fr h₀ L h' m → News h₀ L h' ((J, { cls := .type "set", dict := none, data := .set #[] 0 (.fresh 0 0 led) }) :: news) → (∀ p ∈ news, p.1 < J) → Q (.ref J) ⟨h', g, d, tk, os⟩) :
    wpAny (model prog w) A (call (.type "set") []) Q E ⟨h, g, d, tk, os⟩ :=
  newSet_N (s := ⟨h, g, d, tk, os⟩) F N fun h' led F' N' => q _ h' led F' N' fun p hp => Heap.lt_size (N p hp).1
theorem b2j_of {w : World} {h₀ h : Heap} {L bj : Addr} {bs : List Nat} {keep news news2 : List (Addr × Obj)} {Ls : List Ent} {oB : Obj} (I : ChI w bs bs.length bj keep Ls oB news) (N : News h₀ L h news2) (hb : (bj, oB) ∈ news2) (hm : ∀ e ∈ Ls, (e.2.1, e.2.2) ∈ news2) : B2J w h bj (pos bs bs.length) := by
  have hD : h.DictOf (strKind pw w) bj (kvOf Ls) := Heap.dictOf_iff.mpr ⟨oB, N.get hb, I.dict⟩
  refine ⟨valueAt (kvOf Ls), hD.mapOf, fun c => ?_⟩
  cases e : valueAt (kvOf Ls) (St [c]) with
  | none => exact .inl ⟨rfl, I.out c (kv_none e)⟩
  | some v =>
    obtain ⟨en, hen, rfl, rfl⟩ := kv_some e
    obtain ⟨hc, _, vs, n, hd, hsz, hv⟩ := I.lst en hen
    refine .inr ⟨en.2.1, vs.toList, rfl, ⟨en.2.2, N.get (hm en hen), hc, n, by rw [hd]⟩, by simpa using hsz, fun t ht => ?_⟩
    obtain ⟨tk, ht'⟩ := hv t ht
    exact ⟨tk, by simpa using ht'⟩

local macro_rules | `(tactic| walk_at "call type:set nil nil") => `(tactic| ((with_reducible refine' k_set0 ?x1 ?x2 ?_); (case x1 => assumption); (case x2 => assumption); intro D' h' led F' N' l1))

theorem chain_plain2 {w : World} {A : Around} {h h₁ : Heap} {L : Addr} {g : Array GenState} {d : Drawn} {tk : Nat} {os : OsState} {E : Value → Shared → Prop} {Q : Flow → Shared → Prop} {x dx : Addr} {bs : List Nat} {tb : Tok} {lc : List (Str × Value)} {oD : Obj} {mg mb : Str → Option Value} {pre : List (Addr × Obj)} {l : List (Str × Value)}
    (hA : A.handled = none) (X : (K w.params).In h) (X' : TopRead q (looseW q loose) mg mb h) (F : Fr h L h₁ (lk l)) (N : News h L h₁ (pre ++ [(x, instObj 242 dx), (dx, oD)])) (hpre : ∀ p ∈ pre, p.1 ≠ x ∧ p.1 ≠ dx) (hne : dx ≠ x) (hO : NsO oD (lk lc)) (hlc : lc.length < 40) (hlb : bs.length < 1000000)
    (hj : lk lc (Str.ofString "isjunk") = some .none) (hu : lk lc (Str.ofString "autojunk") = some (.bool false)) (h1 : lk l (Str.ofString "self") = some (.ref x)) (h2 : lk l (Str.ofString "b") = some (.str (St bs) tb))
    (qq : ∀ h' tk' l' J P led led' oD', Fr h L h' (lk l') → News h L h' (((P, { cls := .type "set", dict := none, data := .set #[] 0 (.fresh 0 0 led') }) :: (J, { cls := .type "set", dict := none, data := .set #[] 0 (.fresh 0 0 led) }) :: pre) ++ [(x, instObj 242 dx), (dx, oD')]) → NsO oD' (lk ((Str.ofString "bpopular", .ref P) :: (Str.ofString "bjunk", .ref J) :: lc)) → tk ≤ tk' → Q .next ⟨h', g, d, tk', os⟩) :
    wpAny (model pw w) A (execs (cS 3 :: cS 4 :: cS 5 :: cS 6 :: cS 7 :: cS 8 :: []) (cbE L)) Q E ⟨h₁, g, d, tk, os⟩ := by
  conv in (cS 3) => whnf
  conv in (cS 4) => whnf
  conv in (cS 5) => whnf
  conv in (cS 6) => whnf
  conv in (cS 7) => whnf
  conv in (cS 8) => whnf
  walk_at "my go"
  obtain ⟨J, hJe⟩ : ∃ J, J = D' := ⟨_, rfl⟩
  obtain ⟨ledJ, hLe⟩ : ∃ J, J = led := ⟨_, rfl⟩
  rw [← hLe] at N'
  rw [← hJe] at N' l1
  rw [← hJe]
  clear hJe hLe D' led
  have a1 : J ≠ x := (Nat.ne_of_lt (l1 _ (List.mem_append_right _ (.head _)))).symm
  have a2 : J ≠ dx := (Nat.ne_of_lt (l1 _ (List.mem_append_right _ (.tail _ (.head _))))).symm
  refine sm_set (pre := (J, { cls := .type "set", dict := none, data := .set #[] 0 (.fresh 0 0 ledJ) }) :: pre) (x := x) (dx := dx) F' X N' (fun p hp => by
    rcases List.mem_cons.mp hp with rfl | hp
    · exact ⟨a1, a2⟩
    · exact hpre p hp) hne hO ?_ (by omega)
  intro h3 oD3 tk3 F3 N3 D3 htk3
  clear F' N' F N
  walk_at "my go"
  refine sm_getN (pre := (J, { cls := .type "set", dict := none, data := .set #[] 0 (.fresh 0 0 ledJ) }) :: pre) (x := x) (dx := dx) F' X N' hne D3 (v := .none) (by with_unfolding_all exact hj) ?_
  walk_at "my go"
  have b1 : D' ≠ x := (Nat.ne_of_lt (l1 _ (List.mem_append_right _ (.head _)))).symm
  have b2 : D' ≠ dx := (Nat.ne_of_lt (l1 _ (List.mem_append_right _ (.tail _ (.head _))))).symm
  refine sm_set (pre := (D', { cls := .type "set", dict := none, data := .set #[] 0 (.fresh 0 0 led) }) :: (J, { cls := .type "set", dict := none, data := .set #[] 0 (.fresh 0 0 ledJ) }) :: pre) (x := x) (dx := dx) F' X N' (fun p hp => by
    rcases List.mem_cons.mp hp with rfl | hp
    · exact ⟨b1, b2⟩
    rcases List.mem_cons.mp hp with rfl | hp
    · exact ⟨a1, a2⟩
    · exact hpre p hp) hne D3 ?_ (by simp only [List.length_cons]; omega)
  intro h5 oD5 tk5 F5 N5 D5 htk5
  clear F' N'
  walk_at "my go"
  refine sm_getN (pre := (D', { cls := .type "set", dict := none, data := .set #[] 0 (.fresh 0 0 led) }) :: (J, { cls := .type "set", dict := none, data := .set #[] 0 (.fresh 0 0 ledJ) }) :: pre) (x := x) (dx := dx) F' X N' hne D5 (v := .bool false) (by with_unfolding_all exact hu) ?_
  walk_at "my go"
  exact qq _ _ _ _ _ _ _ _ F' N' D5 (by first | omega | (dsimp only at *; omega))

end
theorem pos_le (bs : List Nat) (hlb : bs.length < 1000000) (c : Nat) : (pos bs bs.length c).length ≤ 1000000 := Nat.le_trans (pos_length ..) (by omega)
/-- a matcher that stands in objects made after the heap hs -/
noncomputable def MatN (w : World) (hs h' : Heap) (x : Addr) (as bs : List Nat) (pl : Nat → List Nat) (junk : Nat → Bool) : Prop :=
  ∃ hm, Kp hm h' ∧ (∀ b o, hs.get? b = some o → hm.get? b = none) ∧ Mat w hm x as bs pl junk
/-- what was made after hs -/
theorem made_after {hs h : Heap} (k : Kp hs h) : ∃ hm, Kp hm h ∧ (∀ b o, hs.get? b = some o → hm.get? b = none) ∧ ∀ b o, h.get? b = some o → hs.get? b = none → hm.get? b = some o := by
  refine ⟨hideAll h ((List.range h.objs.size).filter fun a => (hs.get? a).isSome), fun b o e => of_hideAll _ e, fun b o e => hideAll_none _ ?_, fun b o e n => hideAll_get _ e ?_⟩
  · exact List.mem_filter.mpr ⟨List.mem_range.mpr (Heap.lt_size (k b o e)), by rw [e]; rfl⟩
  · intro hm
    have := (List.mem_filter.mp hm).2
    rw [n] at this; cases this
/-- __chain_b without junk and without autojunk -/
theorem chain_plain {w : World} {hst : Heap} {x dx : Addr} {as bs : List Nat} {ta tb : Tok} {mg mb : Str → Option Value} (hla : as.length < 1000000) (hlb : bs.length < 1000000) :
    ChainC w 1 x dx (chL as bs ta tb .none (.bool false)) mg mb (fun h => (∃ o, h.get? sysModules = some o) ∧ Kp hst h) (fun h' => MatN w hst h' x as bs (pos bs bs.length) (fun _ => false)) := by
  rintro A h g d tk os E Q oD h₀ hA hD ⟨hsys, hks⟩ X X' hlim hk fx fd hx hd hO hne hx2 hd2 qq
  have Xh := X.keeps hk
  have eB : fBod (smSt 5) = cS 0 :: cS 1 :: cS 2 :: cS 3 :: cS 4 :: cS 5 :: cS 6 :: cS 7 :: cS 8 :: [] := by kernel_rfl
  refine enter (binds := [(Str.ofString "self", .ref x)]) (by omega) (k188 Xh) (by with_unfolding_all rfl) (hlim.keeps hk) ?hcd (by rfl) ?hb ?hc ?hl (by kernel_rfl) (by kernel_rfl) (by kernel_rfl) (by kernel_rfl) (by kernel_rfl) (by kernel_rfl) ?hbody
  case hcd => exact ⟨187, _, _, _, rfl, k187 Xh, rfl, rfl⟩
  case hb => exact BindsTo.of_eq (by rfl)
  case hc => exact (by decide +kernel : ∀ x ∈ (fSco (smSt 5)).names, x.2 ≠ .cell)
  case hl => exact locs (by kernel_rfl)
  case hbody =>
    dsimp only [List.length_cons, List.length_nil]
    intro h₁ F0
    have kg : ∀ b o, h.get? b = some o → b ≠ x → b ≠ dx → (hideAll h [x, dx]).get? b = some o := fun b o e n1 n2 => hideAll_get _ e (by simp [n1, n2])
    have hg0 : Kp h₀ (hideAll h [x, dx]) := fun b o e => kg b o (hk b o e) (fun q => by rw [q, fx] at e; cases e) (fun q => by rw [q, fd] at e; cases e)
    have F : Fr (hideAll h [x, dx]) h.objs.size h₁ _ := ⟨F0.ns, fun b o e => F0.keep b o (of_hideAll _ e), Nat.le_of_eq (hideAll_size _ _)⟩
    have N : News (hideAll h [x, dx]) h.objs.size h₁ [(x, instObj 242 dx), (dx, oD)] := fun p hp => by
      simp only [List.mem_cons, List.not_mem_nil, or_false] at hp
      rcases hp with rfl | rfl
      · exact ⟨F0.keep _ _ hx, Nat.ne_of_lt (Heap.lt_size hx), hideAll_none _ (by simp)⟩
      · exact ⟨F0.keep _ _ hd, Nat.ne_of_lt (Heap.lt_size hd), hideAll_none _ (by simp)⟩
    have hsg : ∀ a, (hideAll h [x, dx]).get? a = none → (a == sysModules) = false := fun a ha => by
      obtain ⟨o, ho⟩ := hsys
      refine beq_eq_false_iff_ne.mpr fun q => ?_
      rw [q, hg0 _ o ho] at ha
      cases ha
    rw [eB]
    refine chain1 (lc := chL as bs ta tb .none (.bool false)) hA (X.keeps hg0) (X'.keeps hg0) hsg F N hne hO (by with_unfolding_all rfl) (by simp) hlb ?_
    intro h2 tk2 l2 bj Ls oB oD2 news2 F2 N2 I2 O2 hbs e1 e2 e3 htk2
    let pre := news2.filter fun p => decide (p.1 ≠ x) && decide (p.1 ≠ dx)
    have hpre : ∀ p ∈ pre, p.1 ≠ x ∧ p.1 ≠ dx := fun p hp => by simpa using (List.mem_filter.mp hp).2
    have mpre : ∀ p ∈ news2, p.1 ≠ x → p.1 ≠ dx → p ∈ pre := fun p hp n1 n2 => List.mem_filter.mpr ⟨hp, by simp [n1, n2]⟩
    have kx : (x, instObj 242 dx) ∈ [(x, instObj 242 dx), (dx, oD2)] := .head _
    have kd : (dx, oD2) ∈ [(x, instObj 242 dx), (dx, oD2)] := .tail _ (.head _)
    have N3 : News (hideAll h [x, dx]) h.objs.size h2 (pre ++ [(x, instObj 242 dx), (dx, oD2)]) := fun p hp => by
      rcases List.mem_append.mp hp with hp | hp
      · exact N2 p (List.mem_filter.mp hp).1
      · exact N2 p (I2.k p hp)
    refine chain_plain2 (pre := pre) (lc := (Str.ofString "b2j", .ref bj) :: chL as bs ta tb .none (.bool false)) hA (X.keeps hg0) (X'.keeps hg0) F2 N3 hpre hne O2 (by simp) hlb (by with_unfolding_all rfl) (by with_unfolding_all rfl) e1 e2 ?_
    intro h5 tk5 l5 J P led led' oD5 F5 N5 O5 htk5
    have hst5 : Kp hst h5 := fun b o e => F5.keep b o (hg0 b o (hks b o e))
    obtain ⟨hm, km, nm, im⟩ := made_after hst5
    have N5' := N5
    have hfr : ∀ b, (hideAll h [x, dx]).get? b = none → hst.get? b = none := fun b n => by
      cases e : hst.get? b with
      | none => rfl
      | some o => rw [hg0 b o (hks b o e)] at n; cases n
    replace N5 : News (hideAll h [x, dx]) h.objs.size hm _ := fun p hp => ⟨im _ _ (N5' p hp).1 (hfr _ (N5' p hp).2.2), (N5' p hp).2⟩
    have gx' := N5'.get (a := x) (o := instObj 242 dx) (List.mem_append_right _ (.head _))
    have gd' := N5'.get (a := dx) (o := oD5) (List.mem_append_right _ (.tail _ (.head _)))
    have gx := N5.get (a := x) (o := instObj 242 dx) (List.mem_append_right _ (.head _))
    have gd := N5.get (a := dx) (o := oD5) (List.mem_append_right _ (.tail _ (.head _)))
    have gJ := N5.get (a := J) (List.mem_append_left _ (.tail _ (.head _)))
    refine qq h5 oD5 tk5 (by omega) (fun b o n e => ?_) gd' ⟨hm, km, nm, ⟨_, bj, J, ta, tb, _, _, _, O5.inst gx gd hne, by with_unfolding_all rfl, by with_unfolding_all rfl, by with_unfolding_all rfl, by with_unfolding_all rfl, gJ, b2j_of I2 N5 (List.mem_append_left _ (.tail _ (.tail _ (mpre _ I2.b (fun q => I2.kb _ kx q.symm) (fun q => I2.kb _ kd q.symm))))) (fun e he => List.mem_append_left _ (.tail _ (.tail _ (mpre _ (I2.mem e he) (fun q => I2.nk e he _ kx q.symm) (fun q => I2.nk e he _ kd q.symm))))), hbs, fun A' u hA' => isj_of hA' (set_empty gJ), by with_unfolding_all rfl, by with_unfolding_all rfl⟩, pos_le bs hlb, hla, hlb⟩
    by_cases n1 : b = x
    · subst n1; rw [hx] at e; rw [← e]; exact gx'
    · exact F5.keep b o (kg b o e n1 n)
/-- SequenceMatcher(None, a, b, False) -/
theorem sm_plain {w : World} {A : Around} {h : Heap} {g : Array GenState} {d : Drawn} {tk : Nat} {os : OsState} {Q : Value → Shared → Prop} {E : Value → Shared → Prop} {as bs : List Nat} {ta tb : Tok} {mg mb : Str → Option Value}
    (X : (K w.params).In h) (X' : TopRead q (looseW q loose) mg mb h) (hlim : h.NoLimit) (hA : A.handled = none) (hD : A.depth + 5 < recursionLimit) (hs : ∃ o, h.get? sysModules = some o) (hla : as.length < 1000000) (hlb : bs.length < 1000000)
    (qq : ∀ x h' tk', Kp h h' → h.get? x = none → MatN w h h' x as bs (pos bs bs.length) (fun _ => false) → tk ≤ tk' → Q (.ref x) ⟨h', g, d, tk', os⟩) :
    wpAny (model pw w) A (call (.ref 242) [.none, .str (St as) ta, .str (St bs) tb, .bool false]) Q E ⟨h, g, d, tk, os⟩ :=
  sm_make (Z := fun _ => True) (H := fun h' => (∃ o, h'.get? sysModules = some o) ∧ Kp h h') (Zx := fun x h' => MatN w h h' x as bs (pos bs bs.length) (fun _ => false)) X X' hlim hA hD (.inl rfl) (fun h' k => ⟨let ⟨o, ho⟩ := hs; ⟨o, k _ _ ho⟩, k⟩) (fun x dx _ _ => chain_plain hla hlb) qq

section rowsLaw
variable (as : List Nat) (pl : Nat → List Nat) (alo ahi blo bhi : Nat)
/-- a common run: its signs' places stand in the lists of places -/
noncomputable def Run (x y k : Nat) : Prop := alo ≤ x ∧ x + k ≤ ahi ∧ blo ≤ y ∧ y + k ≤ bhi ∧ ∀ t, t < k → (y + t) ∈ pl (as[x + t]?.getD 0)
/-- the lengths of the longest runs that end in row i - 1 -/
noncomputable def RowI (i : Nat) (f : Nat → Nat) : Prop := ∀ y,
  (0 < f y → y < bhi ∧ blo + f y ≤ y + 1 ∧ alo + f y ≤ i ∧ ∀ t, t < f y → (y - t) ∈ pl (as[i - 1 - t]?.getD 0)) ∧
  ∀ k, 0 < k → y < bhi → blo + k ≤ y + 1 → alo + k ≤ i → (∀ t, t < k → (y - t) ∈ pl (as[i - 1 - t]?.getD 0)) → k ≤ f y
noncomputable def BestI (S : Nat → Nat → Prop) (b : Best) : Prop := ∃ bi bj bk : Nat, b = ((bi : Int), (bj : Int), (bk : Int)) ∧
  ((bk = 0 ∧ bi = alo ∧ bj = blo) ∨ (0 < bk ∧ Run as pl alo ahi blo bhi bi bj bk ∧ S (bi + bk - 1) (bj + bk - 1))) ∧
  ∀ x y k, 0 < k → Run as pl alo ahi blo bhi x y k → S (x + k - 1) (y + k - 1) → k < bk ∨ (k = bk ∧ (bi < x ∨ (bi = x ∧ bj ≤ y)))
variable {as pl alo ahi blo bhi}
theorem RowI.zero : RowI as pl alo blo bhi alo (fun _ => 0) := fun y => ⟨fun h => absurd h (Nat.lt_irrefl _), fun k hk _ _ h _ => by omega⟩
theorem RowI.next {i : Nat} {f f' : Nat → Nat} (I : RowI as pl alo blo bhi i f) (hi : alo ≤ i) (h1 : ∀ y, blo ≤ y → y < bhi → y ∈ pl (as[i]?.getD 0) → f' y = prv f y + 1) (h0 : ∀ y, ¬ (blo ≤ y ∧ y < bhi ∧ y ∈ pl (as[i]?.getD 0)) → f' y = 0) : RowI as pl alo blo bhi (i + 1) f' := by
  intro y
  by_cases hc : blo ≤ y ∧ y < bhi ∧ y ∈ pl (as[i]?.getD 0)
  · have e := h1 y hc.1 hc.2.1 hc.2.2
    constructor
    · intro _
      rw [e]
      cases y with
      | zero =>
        simp only [prv]
        refine ⟨hc.2.1, by omega, by omega, fun t ht => ?_⟩
        obtain rfl : t = 0 := by omega
        simpa using hc.2.2
      | succ y =>
        simp only [prv]
        by_cases hf : 0 < f y
        · obtain ⟨a1, a2, a3, a4⟩ := (I y).1 hf
          refine ⟨hc.2.1, by omega, by omega, fun t ht => ?_⟩
          cases t with
          | zero => simpa using hc.2.2
          | succ t =>
            have := a4 t (by omega)
            have e1 : y + 1 - (t + 1) = y - t := by omega
            have e2 : i + 1 - 1 - (t + 1) = i - 1 - t := by omega
            rw [e1, e2]; exact this
        · obtain hz : f y = 0 := by omega
          rw [hz]
          refine ⟨hc.2.1, by omega, by omega, fun t ht => ?_⟩
          obtain rfl : t = 0 := by omega
          simpa using hc.2.2
    · intro k hk hy hb ha ht
      rw [e]
      by_cases hk1 : k = 1
      · omega
      · cases y with
        | zero => omega
        | succ y =>
          simp only [prv]
          have := (I y).2 (k - 1) (by omega) (by omega) (by omega) (by omega) (fun t h => by
            have := ht (t + 1) (by omega)
            have e1 : y + 1 - (t + 1) = y - t := by omega
            have e2 : i + 1 - 1 - (t + 1) = i - 1 - t := by omega
            rw [e1, e2] at this; exact this)
          omega
  · rw [h0 y hc]
    refine ⟨fun h => absurd h (Nat.lt_irrefl _), fun k hk hy hb ha ht => ?_⟩
    exfalso
    have := ht 0 hk
    simp only [Nat.sub_zero, Nat.add_sub_cancel] at this
    exact hc ⟨by omega, hy, this⟩
/-- one cell -/
theorem BestI.cell {i j : Nat} {f : Nat → Nat} {S : Nat → Nat → Prop} {b : Best} (B : BestI as pl alo ahi blo bhi S b) (I : RowI as pl alo blo bhi i f) (hi : alo ≤ i) (hia : i < ahi) (hb : blo ≤ j) (hj : j < bhi) (hm : j ∈ pl (as[i]?.getD 0)) (hS : ∀ ex ey, S ex ey → ex < i ∨ (ex = i ∧ ey < j)) :
    BestI as pl alo ahi blo bhi (fun ex ey => S ex ey ∨ (ex = i ∧ ey = j)) (upd b i j (prv f j + 1)) := by
  obtain ⟨bi, bj, bk, rfl, hbest, hall⟩ := B
  have one : ∀ t, t < 0 + 1 → (j - t) ∈ pl (as[i - t]?.getD 0) := fun t ht => by
    obtain rfl : t = 0 := by omega
    simpa using hm
  have hrun : prv f j ≤ i - alo ∧ prv f j + blo ≤ j ∧ (∀ t, t < prv f j + 1 → (j - t) ∈ pl (as[i - t]?.getD 0)) := by
    cases j with
    | zero => simp only [prv]; exact ⟨by omega, by omega, one⟩
    | succ j =>
      simp only [prv]
      by_cases hf : 0 < f j
      · obtain ⟨a1, a2, a3, a4⟩ := (I j).1 hf
        refine ⟨by omega, by omega, fun t ht => ?_⟩
        cases t with
        | zero => simpa using hm
        | succ t =>
          have := a4 t (by omega)
          have e1 : j + 1 - (t + 1) = j - t := by omega
          have e2 : i - (t + 1) = i - 1 - t := by omega
          rw [e1, e2]; exact this
      · obtain hz : f j = 0 := by omega
        rw [hz]
        exact ⟨by omega, by omega, one⟩
  obtain ⟨r1, r2, r3⟩ := hrun
  have hmax : ∀ x y k, 0 < k → Run as pl alo ahi blo bhi x y k → x + k - 1 = i → y + k - 1 = j → k ≤ prv f j + 1 := by
    intro x y k hk ⟨q1, q2, q3, q4, q5⟩ e1 e2
    by_cases hk1 : k = 1
    · omega
    · cases j with
      | zero => omega
      | succ j =>
        simp only [prv]
        have := (I j).2 (k - 1) (by omega) (by omega) (by omega) (by omega) (fun t ht => by
          have := q5 (k - 2 - t) (by omega)
          have e3 : y + (k - 2 - t) = j - t := by omega
          have e4 : x + (k - 2 - t) = i - 1 - t := by omega
          rw [e3, e4] at this; exact this)
        omega
  generalize prv f j = p at *
  unfold upd
  by_cases hlt : (bk : Int) < ((p + 1 : Nat) : Int)
  · rw [if_pos hlt]
    have hlt' : bk < p + 1 := by omega
    refine ⟨i - p, j - p, p + 1, ?_, .inr ⟨by omega, ⟨by omega, by omega, by omega, by omega, fun t ht => ?_⟩, .inr ⟨by omega, by omega⟩⟩, fun x y k hk hr hs => ?_⟩
    · have e1 : (i : Int) - ((p + 1 : Nat) : Int) + 1 = ((i - p : Nat) : Int) := by omega
      have e2 : (j : Int) - ((p + 1 : Nat) : Int) + 1 = ((j - p : Nat) : Int) := by omega
      rw [e1, e2]
    · have := r3 (p - t) (by omega)
      have e1 : j - p + t = j - (p - t) := by omega
      have e2 : i - p + t = i - (p - t) := by omega
      rw [e1, e2]; exact this
    · rcases hs with hs | ⟨e1, e2⟩
      · have := hall x y k hk hr hs; omega
      · have := hmax x y k hk hr e1 e2; omega
  · rw [if_neg hlt]
    have hge : p + 1 ≤ bk := by omega
    refine ⟨bi, bj, bk, rfl, ?_, fun x y k hk hr hs => ?_⟩
    · rcases hbest with h | ⟨h1, h2, h3⟩
      · exact .inl h
      · exact .inr ⟨h1, h2, .inl h3⟩
    · rcases hs with hs | ⟨e1, e2⟩
      · exact hall x y k hk hr hs
      · have hm := hmax x y k hk hr e1 e2
        rcases hbest with h | ⟨h1, h2, h3⟩
        · omega
        · have := hS _ _ h3; omega
end rowsLaw

section rowsLaw2
variable {as : List Nat} {pl : Nat → List Nat} {alo ahi blo bhi : Nat}
theorem BestI.weaken {S S' : Nat → Nat → Prop} {b : Best} (B : BestI as pl alo ahi blo bhi S b) (h1 : ∀ ex ey, S ex ey → S' ex ey) (h2 : ∀ x y k, 0 < k → Run as pl alo ahi blo bhi x y k → S' (x + k - 1) (y + k - 1) → S (x + k - 1) (y + k - 1)) : BestI as pl alo ahi blo bhi S' b := by
  obtain ⟨bi, bj, bk, e, hb, hall⟩ := B
  exact ⟨bi, bj, bk, e, hb.imp id fun ⟨a, c, d⟩ => ⟨a, c, h1 _ _ d⟩, fun x y k hk hr hs => hall x y k hk hr (h2 x y k hk hr hs)⟩
theorem inn_row {i : Nat} {f : Nat → Nat} : ∀ (js : List Nat) (b : Best) (g : Nat → Nat), js.Pairwise (· < ·) → ∀ y, (inn i blo bhi f js (b, g)).2 y = if y ∈ js ∧ blo ≤ y ∧ y < bhi then prv f y + 1 else g y
  | [], b, g, _, y => by simp [inn]
  | j :: js, b, g, hp, y => by
    have hp' := List.pairwise_cons.mp hp
    unfold inn
    by_cases h1 : j < blo
    · rw [if_pos h1, inn_row js b g hp'.2 y]
      by_cases hy : y = j
      · subst hy
        have : ¬ y ∈ js := fun h => absurd (hp'.1 y h) (Nat.lt_irrefl _)
        simp [this]; omega
      · simp [hy]
    · rw [if_neg h1]
      by_cases h2 : bhi ≤ j
      · rw [if_pos h2]
        have : ¬ (y ∈ j :: js ∧ blo ≤ y ∧ y < bhi) := by
          rintro ⟨h, _, h3⟩
          rcases List.mem_cons.mp h with rfl | h
          · omega
          · have := hp'.1 y h; omega
        rw [if_neg this]
      · rw [if_neg h2, inn_row js _ _ hp'.2 y]
        by_cases hy : y = j
        · subst hy
          have h3 : ¬ y ∈ js := fun h => absurd (hp'.1 y h) (Nat.lt_irrefl _)
          have h4 : blo ≤ y ∧ y < bhi := by omega
          simp [h3, h4]
        · simp [hy]
theorem inn_best {i : Nat} {f : Nat → Nat} (I : RowI as pl alo blo bhi i f) (hi : alo ≤ i) (hia : i < ahi) : ∀ (js : List Nat) (b : Best) (g : Nat → Nat) (S : Nat → Nat → Prop), js.Pairwise (· < ·) → (∀ j ∈ js, j ∈ pl (as[i]?.getD 0)) → (∀ ex ey, S ex ey → ex < i ∨ (ex = i ∧ ∀ j ∈ js, ey < j)) → BestI as pl alo ahi blo bhi S b →
    BestI as pl alo ahi blo bhi (fun ex ey => S ex ey ∨ (ex = i ∧ ey ∈ js ∧ blo ≤ ey ∧ ey < bhi)) (inn i blo bhi f js (b, g)).1
  | [], b, g, S, _, _, _, B => by
    unfold inn
    exact B.weaken (fun _ _ h => .inl h) fun _ _ _ _ _ h => h.elim id fun h => by simp at h
  | j :: js, b, g, S, hp, hm, hS, B => by
    have hp' := List.pairwise_cons.mp hp
    unfold inn
    by_cases h1 : j < blo
    · rw [if_pos h1]
      refine (inn_best I hi hia js b g S hp'.2 (fun j' h => hm j' (.tail _ h)) (fun ex ey h => (hS ex ey h).imp id fun h => ⟨h.1, fun j' h' => h.2 j' (.tail _ h')⟩) B).weaken (fun ex ey h => h.imp id fun h => ⟨h.1, .tail _ h.2.1, h.2.2⟩) fun x y k _ _ h => h.imp id fun h => ⟨h.1, ?_, h.2.2⟩
      rcases List.mem_cons.mp h.2.1 with e | e
      · omega
      · exact e
    · rw [if_neg h1]
      by_cases h2 : bhi ≤ j
      · rw [if_pos h2]
        refine B.weaken (fun _ _ h => .inl h) fun x y k _ _ h => h.elim id fun h => ?_
        rcases List.mem_cons.mp h.2.1 with e | e
        · omega
        · have := hp'.1 _ e; omega
      · rw [if_neg h2]
        have C := B.cell I hi hia (by omega) (by omega) (hm j (.head _)) (fun ex ey h => (hS ex ey h).imp id fun h => ⟨h.1, h.2 j (.head _)⟩)
        refine (inn_best I hi hia js _ _ _ hp'.2 (fun j' h => hm j' (.tail _ h)) (fun ex ey h => ?_) C).weaken (fun ex ey h => ?_) fun x y k _ _ h => ?_
        · rcases h with h | ⟨e1, e2⟩
          · exact (hS ex ey h).imp id fun h => ⟨h.1, fun j' h' => h.2 j' (.tail _ h')⟩
          · exact .inr ⟨e1, fun j' h' => by rw [e2]; exact hp'.1 j' h'⟩
        · rcases h with (h | ⟨e1, e2⟩) | h
          · exact .inl h
          · exact .inr ⟨e1, by rw [e2]; exact .head _, by omega, by omega⟩
          · exact .inr ⟨h.1, .tail _ h.2.1, h.2.2⟩
        · rcases h with h | h
          · exact .inl (.inl h)
          · rcases List.mem_cons.mp h.2.1 with e | e
            · exact .inl (.inr ⟨h.1, e⟩)
            · exact .inr ⟨h.1, e, h.2.2⟩
theorem rows_best (hpl : ∀ c, (pl c).Pairwise (· < ·)) : ∀ (n i : Nat) (b : Best) (f : Nat → Nat), alo ≤ i → i + n = ahi → RowI as pl alo blo bhi i f → BestI as pl alo ahi blo bhi (fun ex _ => ex < i) b → BestI as pl alo ahi blo bhi (fun ex _ => ex < ahi) (rows as blo bhi pl (List.range' i n) (b, f)).1
  | 0, i, b, f, _, e, _, B => by
    obtain rfl : i = ahi := by omega
    exact B
  | n + 1, i, b, f, hi, e, I, B => by
    rw [List.range'_succ, rows]
    have hr : ∀ y, (inn i blo bhi f (pl (as[i]?.getD 0)) (b, fun _ => 0)).2 y = if y ∈ pl (as[i]?.getD 0) ∧ blo ≤ y ∧ y < bhi then prv f y + 1 else 0 := fun y => inn_row _ b _ (hpl _) y
    have hB := inn_best I hi (by omega : i < ahi) (pl (as[i]?.getD 0)) b (fun _ => 0) (fun ex _ => ex < i) (hpl _) (fun j h => h) (fun ex ey h => .inl h) B
    refine rows_best hpl n (i + 1) _ _ (by omega) (by omega) (I.next hi (fun y h1 h2 h3 => by rw [hr, if_pos ⟨h3, h1, h2⟩]) fun y h => by rw [hr, if_neg fun q => h ⟨q.2.1, q.2.2, q.1⟩]) (hB.weaken (fun ex ey h => ?_) fun x y k hk hR h => ?_)
    · rcases h with h | h
      · omega
      · omega
    · obtain ⟨q1, q2, q3, q4, q5⟩ := hR
      by_cases hx : x + k - 1 < i
      · exact .inl hx
      · refine .inr ⟨by omega, ?_, by omega, by omega⟩
        have := q5 (k - 1) (by omega)
        have e1 : y + (k - 1) = y + k - 1 := by omega
        have e2 : x + (k - 1) = i := by omega
        rw [e1, e2] at this; exact this
/-- what the rows find: the longest run, the first in a, then in b -/
theorem rows_spec (hpl : ∀ c, (pl c).Pairwise (· < ·)) (hle : alo ≤ ahi) : ∃ bi bj bk : Nat, (rows as blo bhi pl (List.range' alo (ahi - alo)) (((alo : Int), (blo : Int), 0), fun _ => 0)).1 = ((bi : Int), (bj : Int), (bk : Int)) ∧
    ((bk = 0 ∧ bi = alo ∧ bj = blo) ∨ (0 < bk ∧ Run as pl alo ahi blo bhi bi bj bk)) ∧ ∀ x y k, 0 < k → Run as pl alo ahi blo bhi x y k → k < bk ∨ (k = bk ∧ (bi < x ∨ (bi = x ∧ bj ≤ y))) := by
  have B0 : BestI as pl alo ahi blo bhi (fun ex _ => ex < alo) ((alo : Int), (blo : Int), 0) := ⟨alo, blo, 0, rfl, .inl ⟨rfl, rfl, rfl⟩, fun x y k hk hr hs => by
    obtain ⟨q1, _⟩ := hr
    omega⟩
  obtain ⟨bi, bj, bk, e, h1, h2⟩ := rows_best (ahi := ahi) hpl (ahi - alo) alo _ _ (Nat.le_refl _) (by omega) RowI.zero B0
  exact ⟨bi, bj, bk, e, h1.imp id fun h => ⟨h.1, h.2.1⟩, fun x y k hk hr => h2 x y k hk hr (by obtain ⟨_, q2, _⟩ := hr; omega)⟩
end rowsLaw2

section flmP
/-- a common run of two texts within a window -/
noncomputable def CRun (as bs : List Nat) (alo ahi blo bhi x y k : Nat) : Prop := alo ≤ x ∧ x + k ≤ ahi ∧ blo ≤ y ∧ y + k ≤ bhi ∧ ∀ t, t < k → as[x + t]? = bs[y + t]?
theorem mem_pos {bs : List Nat} {c y : Nat} : y ∈ pos bs bs.length c ↔ bs[y]? = some c := by
  unfold pos
  rw [List.mem_filter, List.mem_range]
  constructor
  · rintro ⟨_, h⟩; simpa using h
  · intro h
    exact ⟨(List.getElem?_eq_some_iff.mp h).1, by simpa using h⟩
theorem pos_sorted (bs : List Nat) (t c : Nat) : (pos bs t c).Pairwise (· < ·) := List.Pairwise.filter _ List.pairwise_lt_range
theorem run_iff {as bs : List Nat} {alo ahi blo bhi x y k : Nat} (ha : ahi ≤ as.length) : Run as (pos bs bs.length) alo ahi blo bhi x y k ↔ CRun as bs alo ahi blo bhi x y k := by
  unfold Run CRun
  refine and_congr_right fun _ => and_congr_right fun h2 => and_congr_right fun _ => and_congr_right fun _ => forall_congr' fun t => forall_congr' fun ht => ?_
  have h : x + t < as.length := by omega
  rw [mem_pos, List.getElem?_eq_getElem h]
  exact eq_comm
/-- without junk find_longest_match gives the longest common run, the first in a, then in b; with none an empty one where the window begins -/
theorem flm_plain {as bs : List Nat} {alo ahi blo bhi : Nat} (hle : alo ≤ ahi) (ha : ahi ≤ as.length) (hb : bhi ≤ bs.length) : ∃ bi bj bk, flm as bs (pos bs bs.length) (fun _ => false) alo ahi blo bhi = (bi, bj, bk) ∧
    ((bk = 0 ∧ bi = alo ∧ bj = blo) ∨ (0 < bk ∧ CRun as bs alo ahi blo bhi bi bj bk)) ∧ ∀ x y k, 0 < k → CRun as bs alo ahi blo bhi x y k → k < bk ∨ (k = bk ∧ (bi < x ∨ (bi = x ∧ bj ≤ y))) := by
  obtain ⟨bi, bj, bk, e, h1, h2⟩ := rows_spec (as := as) (alo := alo) (ahi := ahi) (blo := blo) (bhi := bhi) (pl := pos bs bs.length) (fun c => pos_sorted bs _ c) hle
  have h1' := h1.imp id fun h => (⟨h.1, (run_iff ha).mp h.2⟩ : 0 < bk ∧ CRun as bs alo ahi blo bhi bi bj bk)
  have h2' : ∀ x y k, 0 < k → CRun as bs alo ahi blo bhi x y k → k < bk ∨ (k = bk ∧ (bi < x ∨ (bi = x ∧ bj ≤ y))) := fun x y k hk hr => h2 x y k hk ((run_iff ha).mpr hr)
  have eq_of : ∀ x y, x < as.length → y < bs.length → as[x]?.getD 0 = bs[y]?.getD 0 → as[x]? = bs[y]? := fun x y hx hy h => by
    rw [List.getElem?_eq_getElem hx, List.getElem?_eq_getElem hy] at h ⊢
    exact congrArg some h
  refine ⟨bi, bj, bk, ?_, h1', h2'⟩
  have eL : extL (fun c => !(fun _ : Nat => false) c) as bs alo blo bi bj bk = (bi, bj, bk) := extL_end (by
    rintro ⟨q1, q2, _, q4⟩
    rcases h1' with h | ⟨h0, r1, r2, r3, r4, r5⟩
    · omega
    · have := h2' (bi - 1) (bj - 1) (bk + 1) (by omega) ⟨by omega, by omega, by omega, by omega, fun t ht => by
        cases t with
        | zero => exact eq_of _ _ (by omega) (by omega) q4
        | succ t =>
          have := r5 t (by omega)
          have e1 : bi - 1 + (t + 1) = bi + t := by omega
          have e2 : bj - 1 + (t + 1) = bj + t := by omega
          rw [e1, e2]; exact this⟩
      omega)
  have eR : extR (fun c => !(fun _ : Nat => false) c) as bs ahi bhi bi bj ahi bk = bk := extR_end (by
    rintro ⟨q1, q2, _, q4⟩
    have hw : alo ≤ bi ∧ blo ≤ bj := by rcases h1' with h | ⟨h0, r1, r2, r3, r4, r5⟩ <;> omega
    have := h2' bi bj (bk + 1) (by omega) ⟨by omega, by omega, by omega, by omega, fun t ht => by
      by_cases e : t = bk
      · rw [e]; exact eq_of _ _ (by omega) (by omega) q4
      · rcases h1' with h | ⟨h0, r1, r2, r3, r4, r5⟩
        · omega
        · exact r5 t (by omega)⟩
    omega)
  have eL2 : extL (fun _ => false) as bs alo blo bi bj bk = (bi, bj, bk) := extL_end (by rintro ⟨_, _, q, _⟩; cases q)
  have eR2 : extR (fun _ => false) as bs ahi bhi bi bj ahi bk = bk := extR_end (by rintro ⟨_, _, q, _⟩; cases q)
  unfold flm
  rw [e]
  simp only [Int.toNat_natCast]
  rw [eL]
  dsimp only
  rw [eR, eL2]
  dsimp only
  rw [eR2]
/-- the premise of flm_call -/
theorem rows_ok {as bs : List Nat} {alo ahi blo bhi : Nat} (hle : alo ≤ ahi) (hle' : blo ≤ bhi) (ha : ahi ≤ as.length) (hb : bhi ≤ bs.length) {pl : Nat → List Nat} (hpl : ∀ c, (pl c).Pairwise (· < ·)) :
    ∃ x0 y0 z0 : Nat, (rows as blo bhi pl (List.range' alo (ahi - alo)) (((alo : Int), (blo : Int), 0), fun _ => 0)).1 = ((x0 : Int), (y0 : Int), (z0 : Int)) ∧ x0 ≤ as.length ∧ y0 ≤ bs.length := by
  obtain ⟨bi, bj, bk, e, h1, _⟩ := rows_spec (as := as) (alo := alo) (ahi := ahi) (blo := blo) (bhi := bhi) hpl hle
  refine ⟨bi, bj, bk, e, ?_, ?_⟩ <;> rcases h1 with h | ⟨h0, r1, r2, r3, r4, r5⟩ <;> omega
end flmP

section reach
noncomputable def lcp : List Nat → List Nat → Nat
  | a :: l, b :: m => if a = b then lcp l m + 1 else 0
  | _, _ => 0
theorem lcp_app (u l m : List Nat) : lcp (u ++ l) (u ++ m) = u.length + lcp l m := by
  induction u with
  | nil => simp
  | cons a u ih => simp only [List.cons_append, lcp, if_true, ih, List.length_cons]; omega
/-- the writing of a list of signs -/
noncomputable def W (q : Bool) (l : List Nat) : List Nat := l.flatMap (wr q)
theorem W_cons (q : Bool) (a : Nat) (l : List Nat) : W q (a :: l) = wr q a ++ W q l := rfl
theorem W_append (q : Bool) (a b : List Nat) : W q (a ++ b) = W q a ++ W q b := by simp [W]
theorem esc_W (q : Bool) (l : List Nat) : esc q l = W q l := esc_eq q l
/-- the signs that the law lays -/
noncomputable def abc : List Nat := [38, 60, 62, 34, 39, 98, 99]
/-- is the sign written as a reference? -/
noncomputable def ref (q : Bool) (a : Nat) : Bool := a == 38 || a == 60 || a == 62 || (q && (a == 34 || a == 39))
noncomputable def inTail (a : Nat) : Bool := a == 60 || a == 62 || a == 34
/-- _law_reach -/
noncomputable def reach (q tl : Bool) : List Nat → List Nat → Nat
  | a :: l, b :: m => if a = b then (wr q a).length + reach q tl l m else if ref q a && ref q b then (if tl && inTail a && inTail b then 2 else 1) else 0
  | _, _ => 0
/-- where two lists part -/
noncomputable def dv : List Nat → List Nat → Option Nat
  | a :: l, b :: m => if a = b then (dv l m).map (· + 1) else some 0
  | _, _ => none
theorem lcp_dv (l m : List Nat) : ∀ (u v : List Nat) (n : Nat), dv u v = some n → lcp (u ++ l) (v ++ m) = n := by
  intro u
  induction u with
  | nil => intro v n e; cases e
  | cons a u ih =>
    intro v n e
    cases v with
    | nil => cases e
    | cons b v =>
      unfold dv at e
      rw [List.cons_append, List.cons_append, lcp]
      by_cases h : a = b
      · rw [if_pos h] at e ⊢
        obtain ⟨n', h1, rfl⟩ := Option.map_eq_some_iff.mp e
        rw [ih v n' h1]
      · rw [if_neg h] at e ⊢
        exact Option.some.inj e
theorem dv_wr : ∀ q : Bool, ∀ a ∈ abc, ∀ b ∈ abc, a ≠ b → dv (wr q a) (wr q b) = some (if ref q a && ref q b then 1 else 0) := by decide +kernel
theorem dv_wr_r : ∀ q : Bool, ∀ a ∈ abc, ∀ b ∈ abc, a ≠ b → dv (wr q a).reverse (wr q b).reverse = some (if ref q a && ref q b then (if true && inTail a && inTail b then 2 else 1) else 0) := by decide +kernel
theorem lcp_ne (q : Bool) (a : Nat) (ha : a ∈ abc) (b : Nat) (hb : b ∈ abc) (h : a ≠ b) (l m : List Nat) : lcp (wr q a ++ l) (wr q b ++ m) = if ref q a && ref q b then 1 else 0 := lcp_dv l m _ _ _ (dv_wr q a ha b hb h)
theorem wr_ne (q : Bool) (a : Nat) : wr q a ≠ [] := by unfold wr; (repeat' split) <;> simp
theorem lcp_W (q : Bool) : ∀ l m : List Nat, (∀ a ∈ l, a ∈ abc) → (∀ a ∈ m, a ∈ abc) → lcp (W q l) (W q m) = reach q false l m
  | [], m, _, _ => by cases W q m <;> simp [W, lcp, reach]
  | a :: l, [], _, _ => by
    have : W q ([] : List Nat) = [] := rfl
    rw [this]; cases W q (a :: l) <;> simp [lcp, reach]
  | a :: l, b :: m, hl, hm => by
    rw [W_cons, W_cons]
    by_cases h : a = b
    · subst h
      rw [lcp_app, lcp_W q l m (fun x hx => hl x (.tail _ hx)) (fun x hx => hm x (.tail _ hx)), reach, if_pos rfl]
    · rw [lcp_ne q a (hl a (.head _)) b (hm b (.head _)) h, reach, if_neg h]
      simp
theorem lcp_ne_r (q : Bool) (a : Nat) (ha : a ∈ abc) (b : Nat) (hb : b ∈ abc) (h : a ≠ b) (l m : List Nat) : lcp ((wr q a).reverse ++ l) ((wr q b).reverse ++ m) = if ref q a && ref q b then (if true && inTail a && inTail b then 2 else 1) else 0 := lcp_dv l m _ _ _ (dv_wr_r q a ha b hb h)
/-- the writing from behind -/
theorem lcp_W_r (q : Bool) : ∀ l m : List Nat, (∀ a ∈ l, a ∈ abc) → (∀ a ∈ m, a ∈ abc) → lcp (W q l.reverse).reverse (W q m.reverse).reverse = reach q true l m
  | [], m, _, _ => by
    have : (W q ([] : List Nat).reverse).reverse = [] := rfl
    rw [this]; cases (W q m.reverse).reverse <;> simp [lcp, reach]
  | a :: l, [], _, _ => by
    have : (W q ([] : List Nat).reverse).reverse = [] := rfl
    rw [this]; cases (W q (a :: l).reverse).reverse <;> simp [lcp, reach]
  | a :: l, b :: m, hl, hm => by
    have e : ∀ (a : Nat) (l : List Nat), (W q (a :: l).reverse).reverse = (wr q a).reverse ++ (W q l.reverse).reverse := fun a l => by
      rw [List.reverse_cons, W_append, List.reverse_append]; simp [W]
    rw [e, e]
    by_cases h : a = b
    · subst h
      rw [lcp_app, lcp_W_r q l m (fun x hx => hl x (.tail _ hx)) (fun x hx => hm x (.tail _ hx)), reach, if_pos rfl, List.length_reverse]
    · rw [lcp_ne_r q a (hl a (.head _)) b (hm b (.head _)) h, reach, if_neg h]
end reach

section cand
theorem lcp_le : ∀ l m : List Nat, lcp l m ≤ l.length ∧ lcp l m ≤ m.length
  | [], m => by simp [lcp]
  | a :: l, [] => by simp [lcp]
  | a :: l, b :: m => by
    have := lcp_le l m
    simp only [lcp]; split <;> simp only [List.length_cons] <;> omega
theorem lcp_eq : ∀ (l m : List Nat) (t : Nat), t < lcp l m → l[t]? = m[t]?
  | [], m, t, h => by simp [lcp] at h
  | a :: l, [], t, h => by simp [lcp] at h
  | a :: l, b :: m, t, h => by
    simp only [lcp] at h
    split at h
    · rename_i e
      subst e
      cases t with
      | zero => rfl
      | succ t => simpa using lcp_eq l m t (by omega)
    · omega
theorem lcp_ge : ∀ (l m : List Nat) (n : Nat), n ≤ l.length → n ≤ m.length → (∀ t, t < n → l[t]? = m[t]?) → n ≤ lcp l m
  | [], m, n, h, _, _ => by simp at h; omega
  | a :: l, [], n, _, h, _ => by simp at h; omega
  | a :: l, b :: m, n, h1, h2, h => by
    cases n with
    | zero => omega
    | succ n =>
      have e : a = b := by simpa using h 0 (by omega)
      subst e
      have := lcp_ge l m n (by simpa using h1) (by simpa using h2) fun t ht => by simpa using h (t + 1) (by omega)
      simp only [lcp, if_true]; omega
theorem rev_get (l : List Nat) (t : Nat) (h : t < l.length) : l.reverse[t]? = l[l.length - 1 - t]? := List.getElem?_reverse h
noncomputable def pairC (q : Bool) (a b o o' : Nat) : Bool := !((wr q a)[o]? == (wr q b)[o']? && (wr q a)[o]?.isSome) || (o == o' && (wr q a).take (o + 1) == (wr q b).take (o + 1)) || (wr q a).drop o == (wr q b).drop o'
noncomputable def pairB (q : Bool) : Bool := abc.all fun a => abc.all fun b => (List.range 6).all fun o => (List.range 6).all fun o' => pairC q a b o o'
theorem pairB_ok (q : Bool) : pairB q = true := by cases q <;> decide +kernel
theorem pair_ok (q : Bool) (a : Nat) (ha : a ∈ abc) (b : Nat) (hb : b ∈ abc) (o : Nat) (ho : o < 6) (o' : Nat) (ho' : o' < 6) (h1 : (wr q a)[o]? = (wr q b)[o']?) (h2 : (wr q a)[o]?.isSome = true) : (o = o' ∧ (wr q a).take (o + 1) = (wr q b).take (o + 1)) ∨ (wr q a).drop o = (wr q b).drop o' := by
  have h := List.all_eq_true.mp (List.all_eq_true.mp (List.all_eq_true.mp (List.all_eq_true.mp (pairB_ok q) a ha) b hb) o (List.mem_range.mpr ho)) o' (List.mem_range.mpr ho')
  unfold pairC at h
  rw [h1] at h h2
  simp only [beq_self_eq_true, h2, Bool.and_self, Bool.not_true, Bool.false_or, Bool.or_eq_true, Bool.and_eq_true, beq_iff_eq] at h
  exact h
/-- each place of a writing lies in a sign's writing -/
theorem W_at (q : Bool) : ∀ (l : List Nat) (x : Nat), x < (W q l).length → ∃ pre a post o, l = pre ++ a :: post ∧ o < (wr q a).length ∧ x = (W q pre).length + o
  | [], x, h => by simp [W] at h
  | a :: l, x, h => by
    by_cases hx : x < (wr q a).length
    · exact ⟨[], a, l, x, rfl, hx, by simp [W]⟩
    · rw [W_cons, List.length_append] at h
      obtain ⟨pre, b, post, o, e, ho, hx'⟩ := W_at q l (x - (wr q a).length) (by omega)
      refine ⟨a :: pre, b, post, o, by rw [e]; rfl, ho, ?_⟩
      rw [W_cons, List.length_append]; omega
end cand

section hit
theorem W_get (q : Bool) (pre : List Nat) (a : Nat) (post : List Nat) (t : Nat) (ht : t < (wr q a).length) : (W q (pre ++ a :: post))[(W q pre).length + t]? = (wr q a)[t]? := by
  rw [W_append, W_cons, List.getElem?_append_right (by omega), Nat.add_sub_cancel_left, List.getElem?_append_left ht]
theorem wr_len6 (q : Bool) (a : Nat) : (wr q a).length ≤ 6 := wr_length_le q a
/-- every pair of like places of two writings is joined to a pair of boundaries -/
theorem touch (q : Bool) (ones others : List Nat) (h1 : ∀ a ∈ ones, a ∈ abc) (h2 : ∀ a ∈ others, a ∈ abc) (x y : Nat) (hx : x < (W q ones).length) (hy : y < (W q others).length) (he : (W q ones)[x]? = (W q others)[y]?) :
    ∃ pre post pre' post', ones = pre ++ post ∧ others = pre' ++ post' ∧
      (((W q pre).length ≤ x ∧ (W q pre').length ≤ y ∧ x - (W q pre).length = y - (W q pre').length ∧ ∀ t, t ≤ x - (W q pre).length → (W q ones)[(W q pre).length + t]? = (W q others)[(W q pre').length + t]?) ∨
       (x < (W q pre).length ∧ y < (W q pre').length ∧ (W q pre).length - x = (W q pre').length - y ∧ ∀ t, t < (W q pre).length - x → (W q ones)[x + t]? = (W q others)[y + t]?)) := by
  obtain ⟨pre, a, post, o, rfl, ho, rfl⟩ := W_at q ones x hx
  obtain ⟨pre', b, post', o', rfl, ho', rfl⟩ := W_at q others y hy
  have ha : a ∈ abc := h1 a (by simp)
  have hb : b ∈ abc := h2 b (by simp)
  rw [W_get q pre a post o ho, W_get q pre' b post' o' ho'] at he
  have l1 := wr_len6 q a
  have l2 := wr_len6 q b
  rcases pair_ok q a ha b hb o (by omega) o' (by omega) he (by rw [List.getElem?_eq_getElem ho]; rfl) with ⟨rfl, e⟩ | e
  · refine ⟨pre, a :: post, pre', b :: post', rfl, rfl, .inl ⟨by omega, by omega, by omega, fun t ht => ?_⟩⟩
    rw [W_get q pre a post t (by omega), W_get q pre' b post' t (by omega)]
    have := congrArg (fun l : List Nat => l[t]?) e
    simp only [List.getElem?_take] at this
    rw [if_pos (by omega), if_pos (by omega)] at this
    exact this
  · have el := congrArg List.length e
    simp only [List.length_drop] at el
    refine ⟨pre ++ [a], post, pre' ++ [b], post', by simp, by simp, .inr ?_⟩
    have e1 : (W q (pre ++ [a])).length = (W q pre).length + (wr q a).length := by rw [W_append, List.length_append]; simp [W]
    have e2 : (W q (pre' ++ [b])).length = (W q pre').length + (wr q b).length := by rw [W_append, List.length_append]; simp [W]
    rw [e1, e2]
    refine ⟨by omega, by omega, by omega, fun t ht => ?_⟩
    rw [Nat.add_assoc, Nat.add_assoc, W_get q pre a post (o + t) (by omega), W_get q pre' b post' (o' + t) (by omega)]
    have := congrArg (fun l : List Nat => l[t]?) e
    simp only [List.getElem?_drop] at this
    exact this
/-- what a pair of boundaries reaches -/
noncomputable def backOf (q : Bool) (pre pre' : List Nat) : Nat := lcp (W q pre).reverse (W q pre').reverse
noncomputable def forthOf (q : Bool) (post post' : List Nat) : Nat := lcp (W q post) (W q post')
theorem bnd_run (q : Bool) (pre post pre' post' : List Nat) : CRun (W q (pre ++ post)) (W q (pre' ++ post')) 0 (W q (pre ++ post)).length 0 (W q (pre' ++ post')).length ((W q pre).length - backOf q pre pre') ((W q pre').length - backOf q pre pre') (backOf q pre pre' + forthOf q post post') ∧ backOf q pre pre' ≤ (W q pre).length ∧ backOf q pre pre' ≤ (W q pre').length := by
  have b1 : backOf q pre pre' ≤ (W q pre).length ∧ backOf q pre pre' ≤ (W q pre').length := by
    have := lcp_le (W q pre).reverse (W q pre').reverse
    rw [List.length_reverse, List.length_reverse] at this
    exact this
  have b2 : forthOf q post post' ≤ (W q post).length ∧ forthOf q post post' ≤ (W q post').length := lcp_le (W q post) (W q post')
  refine ⟨⟨by omega, by rw [W_append, List.length_append]; omega, by omega, by rw [W_append, List.length_append]; omega, fun t ht => ?_⟩, b1.1, b1.2⟩
  rw [W_append, W_append]
  by_cases h : t < backOf q pre pre'
  · rw [List.getElem?_append_left (by omega), List.getElem?_append_left (by omega)]
    have := lcp_eq (W q pre).reverse (W q pre').reverse (backOf q pre pre' - 1 - t) (show _ < backOf q pre pre' by omega)
    rw [rev_get _ _ (by omega), rev_get _ _ (by omega)] at this
    have e1 : (W q pre).length - 1 - (backOf q pre pre' - 1 - t) = (W q pre).length - backOf q pre pre' + t := by omega
    have e2 : (W q pre').length - 1 - (backOf q pre pre' - 1 - t) = (W q pre').length - backOf q pre pre' + t := by omega
    rw [e1, e2] at this
    exact this
  · rw [List.getElem?_append_right (by omega), List.getElem?_append_right (by omega)]
    have := lcp_eq (W q post) (W q post') (t - backOf q pre pre') (show _ < forthOf q post post' by omega)
    have e1 : (W q pre).length - backOf q pre pre' + t - (W q pre).length = t - backOf q pre pre' := by omega
    have e2 : (W q pre').length - backOf q pre pre' + t - (W q pre').length = t - backOf q pre pre' := by omega
    rw [e1, e2]
    exact this
/-- a run that cannot grow is what a pair of boundaries reaches -/
theorem bnd_hit (q : Bool) (ones others : List Nat) (h1 : ∀ a ∈ ones, a ∈ abc) (h2 : ∀ a ∈ others, a ∈ abc) (x y k : Nat) (hk : 0 < k) (R : CRun (W q ones) (W q others) 0 (W q ones).length 0 (W q others).length x y k)
    (hmax : ∀ x' y' k', CRun (W q ones) (W q others) 0 (W q ones).length 0 (W q others).length x' y' k' → k' ≤ k ∨ ¬ (x' ≤ x ∧ x + k ≤ x' + k' ∧ x + y' = x' + y)) :
    ∃ pre post pre' post', ones = pre ++ post ∧ others = pre' ++ post' ∧ (W q pre).length - backOf q pre pre' = x ∧ (W q pre').length - backOf q pre pre' = y ∧ backOf q pre pre' + forthOf q post post' = k := by
  obtain ⟨_, r2, _, r4, r5⟩ := R
  obtain ⟨pre, post, pre', post', rfl, rfl, ht⟩ := touch q ones others h1 h2 x y (by omega) (by omega) (r5 0 hk)
  refine ⟨pre, post, pre', post', rfl, rfl, ?_⟩
  obtain ⟨B, b1, b2⟩ := bnd_run q pre post pre' post'
  have lA : (W q (pre ++ post)).length = (W q pre).length + (W q post).length := by rw [W_append, List.length_append]
  have lB : (W q (pre' ++ post')).length = (W q pre').length + (W q post').length := by rw [W_append, List.length_append]
  -- the run, seen from the boundary: like places from s to the end of the run
  have key : ∃ s s', (∀ t, t < x + k - s → (W q (pre ++ post))[s + t]? = (W q (pre' ++ post'))[s' + t]?) ∧ s ≤ x ∧ s' ≤ y ∧ x - s = y - s' ∧ (s ≤ (W q pre).length) ∧ (W q pre).length - s = (W q pre').length - s' ∧ s' ≤ (W q pre').length ∧ (∀ t, t < (W q pre).length - x → (W q (pre ++ post))[x + t]? = (W q (pre' ++ post'))[y + t]?) := by
    rcases ht with ⟨a1, a2, a3, a4⟩ | ⟨a1, a2, a3, a4⟩
    · refine ⟨(W q pre).length, (W q pre').length, fun t ht => ?_, a1, a2, a3, Nat.le_refl _, by omega, Nat.le_refl _, fun t ht => by omega⟩
      by_cases h : t ≤ x - (W q pre).length
      · exact a4 t h
      · have := r5 (t - (x - (W q pre).length)) (by omega)
        have e1 : x + (t - (x - (W q pre).length)) = (W q pre).length + t := by omega
        have e2 : y + (t - (x - (W q pre).length)) = (W q pre').length + t := by omega
        rw [e1, e2] at this; exact this
    · refine ⟨x, y, fun t ht => r5 t (by omega), Nat.le_refl _, Nat.le_refl _, by omega, by omega, by omega, by omega, a4⟩
  obtain ⟨s, s', ks, hs1, hs2, hs3, hs4, hs5, hs6, kb⟩ := key
  have gA : ∀ t, (W q (pre ++ post))[(W q pre).length + t]? = (W q post)[t]? := fun t => by rw [W_append, List.getElem?_append_right (by omega), Nat.add_sub_cancel_left]
  have gB : ∀ t, (W q (pre' ++ post'))[(W q pre').length + t]? = (W q post')[t]? := fun t => by rw [W_append, List.getElem?_append_right (by omega), Nat.add_sub_cancel_left]
  have pA : ∀ t, t < (W q pre).length → (W q (pre ++ post))[t]? = (W q pre)[t]? := fun t h => by rw [W_append, List.getElem?_append_left h]
  have pB : ∀ t, t < (W q pre').length → (W q (pre' ++ post'))[t]? = (W q pre')[t]? := fun t h => by rw [W_append, List.getElem?_append_left h]
  have hf : x + k - (W q pre).length ≤ forthOf q post post' := by
    refine lcp_ge _ _ _ (by omega) (by omega) fun t ht => ?_
    have := ks ((W q pre).length - s + t) (by omega)
    have e1 : s + ((W q pre).length - s + t) = (W q pre).length + t := by omega
    have e2 : s' + ((W q pre).length - s + t) = (W q pre').length + t := by omega
    rw [e1, e2, gA, gB] at this
    exact this
  have hbk : (W q pre).length - x ≤ backOf q pre pre' := by
    refine lcp_ge _ _ _ (by rw [List.length_reverse]; omega) (by rw [List.length_reverse]; omega) fun t ht => ?_
    rw [rev_get _ _ (by omega), rev_get _ _ (by omega), ← pA _ (by omega), ← pB _ (by omega)]
    have := kb ((W q pre).length - x - 1 - t) (by omega)
    have e1 : x + ((W q pre).length - x - 1 - t) = (W q pre).length - 1 - t := by omega
    have e2 : y + ((W q pre).length - x - 1 - t) = (W q pre').length - 1 - t := by omega
    rw [e1, e2] at this
    exact this
  rcases hmax _ _ _ B with h | h
  · omega
  · omega
end hit

section longest
noncomputable abbrev Tri := Nat × Nat × Nat
/-- c (size, place in a, place in b) comes ahead of b -/
noncomputable def ahead (c b : Tri) : Prop := b.1 < c.1 ∨ (c.1 = b.1 ∧ (c.2.1 < b.2.1 ∨ (c.2.1 = b.2.1 ∧ c.2.2 < b.2.2)))
noncomputable def decAhead (c b : Tri) : Decidable (ahead c b) := by unfold ahead; infer_instance
noncomputable def stepB (b c : Tri) : Tri := @ite _ (ahead c b) (decAhead c b) c b
theorem fold_best : ∀ (cs : List Tri) (b : Tri), (cs.foldl stepB b = b ∨ cs.foldl stepB b ∈ cs) ∧ (∀ c ∈ b :: cs, ¬ ahead c (cs.foldl stepB b))
  | [], b => ⟨.inl rfl, fun c hc => by
      rw [List.mem_singleton.mp hc]
      unfold ahead; simp only [List.foldl_nil]; omega⟩
  | c :: cs, b => by
    obtain ⟨h1, h2⟩ := fold_best cs (stepB b c)
    simp only [List.foldl_cons]
    refine ⟨?_, fun d hd => ?_⟩
    · rcases h1 with h1 | h1
      · rw [h1]
        unfold stepB
        split
        · exact .inr (.head _)
        · exact .inl rfl
      · exact .inr (.tail _ h1)
    · have hs : ¬ ahead b (stepB b c) ∧ ¬ ahead c (stepB b c) := by
        unfold stepB
        split
        · rename_i h; unfold ahead at h ⊢; omega
        · rename_i h; unfold ahead at h ⊢; omega
      have hr := h2 (stepB b c) (.head _)
      generalize cs.foldl stepB (stepB b c) = r at *
      rcases List.mem_cons.mp hd with rfl | hd
      · have := hs.1; unfold ahead at *; omega
      · rcases List.mem_cons.mp hd with rfl | hd
        · have := hs.2; unfold ahead at *; omega
        · exact h2 d (.tail _ hd)
/-- one candidate of _law_longest -/
noncomputable def candOf (q : Bool) (ones others : List Nat) (oa ob i j : Nat) : Tri :=
  let back := reach q true (ones.take i).reverse (others.take j).reverse
  (back + reach q false (ones.drop i) (others.drop j), oa + (W q (ones.take i)).length - back, ob + (W q (others.take j)).length - back)
noncomputable def candsOf (q : Bool) (ones others : List Nat) (oa ob : Nat) : List Tri := (List.range (ones.length + 1)).flatMap fun i => (List.range (others.length + 1)).map fun j => candOf q ones others oa ob i j
/-- _law_longest: the size, the places -/
noncomputable def longest (q : Bool) (ones others : List Nat) (oa ob : Nat) : Tri := (candsOf q ones others oa ob).foldl stepB (0, oa, ob)
theorem cand_eq (q : Bool) (ones others : List Nat) (h1 : ∀ a ∈ ones, a ∈ abc) (h2 : ∀ a ∈ others, a ∈ abc) (oa ob i j : Nat) :
    candOf q ones others oa ob i j = (backOf q (ones.take i) (others.take j) + forthOf q (ones.drop i) (others.drop j), oa + (W q (ones.take i)).length - backOf q (ones.take i) (others.take j), ob + (W q (others.take j)).length - backOf q (ones.take i) (others.take j)) := by
  unfold candOf backOf forthOf
  have e := lcp_W_r q (ones.take i).reverse (others.take j).reverse (fun a ha => h1 a (List.mem_of_mem_take (List.mem_reverse.mp ha))) (fun a ha => h2 a (List.mem_of_mem_take (List.mem_reverse.mp ha)))
  rw [List.reverse_reverse, List.reverse_reverse] at e
  rw [← e, ← lcp_W q (ones.drop i) (others.drop j) (fun a ha => h1 a (List.mem_of_mem_drop ha)) (fun a ha => h2 a (List.mem_of_mem_drop ha))]
/-- find_longest_match of two writings, in windows that begin and end with signs, is told by the signs -/
theorem longest_eq (q : Bool) (ones others pa sa pb sb : List Nat) (h1 : ∀ a ∈ ones, a ∈ abc) (h2 : ∀ a ∈ others, a ∈ abc) :
    flm (pa ++ W q ones ++ sa) (pb ++ W q others ++ sb) (pos (pb ++ W q others ++ sb) (pb ++ W q others ++ sb).length) (fun _ => false) pa.length (pa.length + (W q ones).length) pb.length (pb.length + (W q others).length) =
      ((longest q ones others pa.length pb.length).2.1, (longest q ones others pa.length pb.length).2.2, (longest q ones others pa.length pb.length).1) := by
  obtain ⟨bi, bj, bk, e, hb, hall⟩ := flm_plain (as := pa ++ W q ones ++ sa) (bs := pb ++ W q others ++ sb) (alo := pa.length) (ahi := pa.length + (W q ones).length) (blo := pb.length) (bhi := pb.length + (W q others).length) (by omega) (by simp) (by simp)
  rw [e]
  -- runs in the window are runs of the two writings
  have gA : ∀ t, t < (W q ones).length → (pa ++ W q ones ++ sa)[pa.length + t]? = (W q ones)[t]? := fun t h => by
    rw [List.append_assoc, List.getElem?_append_right (by omega), Nat.add_sub_cancel_left, List.getElem?_append_left h]
  have gB : ∀ t, t < (W q others).length → (pb ++ W q others ++ sb)[pb.length + t]? = (W q others)[t]? := fun t h => by
    rw [List.append_assoc, List.getElem?_append_right (by omega), Nat.add_sub_cancel_left, List.getElem?_append_left h]
  have up : ∀ x y k, CRun (W q ones) (W q others) 0 (W q ones).length 0 (W q others).length x y k → CRun (pa ++ W q ones ++ sa) (pb ++ W q others ++ sb) pa.length (pa.length + (W q ones).length) pb.length (pb.length + (W q others).length) (pa.length + x) (pb.length + y) k := fun x y k ⟨_, r2, _, r4, r5⟩ =>
    ⟨by omega, by omega, by omega, by omega, fun t ht => by rw [Nat.add_assoc, Nat.add_assoc, gA _ (by omega), gB _ (by omega)]; exact r5 t ht⟩
  have down : ∀ x y k, CRun (pa ++ W q ones ++ sa) (pb ++ W q others ++ sb) pa.length (pa.length + (W q ones).length) pb.length (pb.length + (W q others).length) x y k → CRun (W q ones) (W q others) 0 (W q ones).length 0 (W q others).length (x - pa.length) (y - pb.length) k := fun x y k ⟨r1, r2, r3, r4, r5⟩ =>
    ⟨by omega, by omega, by omega, by omega, fun t ht => by
      have := r5 t ht
      have e1 : x + t = pa.length + (x - pa.length + t) := by omega
      have e2 : y + t = pb.length + (y - pb.length + t) := by omega
      rw [e1, e2, gA _ (by omega), gB _ (by omega)] at this
      exact this⟩
  obtain ⟨f1, f2⟩ := fold_best (candsOf q ones others pa.length pb.length) (0, pa.length, pb.length)
  have er : (candsOf q ones others pa.length pb.length).foldl stepB (0, pa.length, pb.length) = longest q ones others pa.length pb.length := rfl
  rw [er] at f1 f2
  generalize longest q ones others pa.length pb.length = r at *
  -- nothing among the candidates comes ahead of the run found
  have hc : ∀ c ∈ (0, pa.length, pb.length) :: candsOf q ones others pa.length pb.length, ¬ ahead c (bk, bi, bj) := by
    intro c hc
    have hlow : pa.length ≤ bi ∧ pb.length ≤ bj := by rcases hb with h | ⟨_, r1, _, r3, _⟩ <;> omega
    rcases List.mem_cons.mp hc with rfl | hc
    · unfold ahead; simp only; rcases hb with h | h <;> omega
    · obtain ⟨i, _, hc⟩ := List.mem_flatMap.mp hc
      obtain ⟨j, _, rfl⟩ := List.mem_map.mp hc
      rw [cand_eq q ones others h1 h2]
      obtain ⟨B, b1, b2⟩ := bnd_run q (ones.take i) (ones.drop i) (others.take j) (others.drop j)
      rw [List.take_append_drop, List.take_append_drop] at B
      have U := up _ _ _ B
      generalize backOf q (ones.take i) (others.take j) = bk' at *
      generalize forthOf q (ones.drop i) (others.drop j) = fo at *
      unfold ahead
      simp only
      by_cases h0 : 0 < bk' + fo
      · have := hall _ _ _ h0 U
        omega
      · rcases hb with h | h <;> omega
  -- the run found is among them
  have hm : (bk, bi, bj) ∈ (0, pa.length, pb.length) :: candsOf q ones others pa.length pb.length := by
    rcases hb with ⟨rfl, rfl, rfl⟩ | ⟨h0, hR⟩
    · exact .head _
    · have D := down _ _ _ hR
      obtain ⟨pre, post, pre', post', e1, e2, e3, e4, e5⟩ := bnd_hit q ones others h1 h2 _ _ bk h0 D (fun x' y' k' hR' => by
        by_cases hk' : 0 < k'
        · have := hall _ _ _ hk' (up _ _ _ hR'); omega
        · omega)
      refine .tail _ (List.mem_flatMap.mpr ⟨pre.length, List.mem_range.mpr (by rw [e1]; simp; omega), List.mem_map.mpr ⟨pre'.length, List.mem_range.mpr (by rw [e2]; simp; omega), ?_⟩⟩)
      rw [cand_eq q ones others h1 h2]
      obtain ⟨r1, _, r3, _⟩ := hR
      have b := (bnd_run q pre post pre' post').2
      rw [e1, e2, List.take_left, List.take_left, List.drop_left, List.drop_left]
      refine Prod.ext (by simpa using e5) (Prod.ext ?_ ?_)
      · simp only; omega
      · simp only; omega
  have a1 := f2 _ hm
  have a2 : ¬ ahead r (bk, bi, bj) := by
    rcases f1 with h | h
    · rw [h]; exact hc _ (.head _)
    · exact hc _ (.tail _ h)
  obtain ⟨r1, r2, r3⟩ := r
  unfold ahead at a1 a2
  simp only at a1 a2
  have : bk = r1 ∧ bi = r2 ∧ bj = r3 := by omega
  obtain ⟨rfl, rfl, rfl⟩ := this
  rfl
end longest

noncomputable abbrev rcE (L : Addr) : Env := envOf (Str.ofString "_law_reach") (fSco (sAt tops 9)) L 261 (.ref 260)
theorem g_reach {P : Params} : nsIn (K P) mainGlobals (Str.ofString "_law_reach") = some (some (.ref 261)) := by kernel_rfl
theorem k261 {P : Params} {h : Heap} (X : (K P).In h) : h.get? 261 = some (o261 P) := X _ _ (by kernel_rfl)
theorem k260 {P : Params} {h : Heap} (X : (K P).In h) : h.get? 260 = some (o260 P) := X _ _ (by kernel_rfl)
/-- values that are the letters l -/
noncomputable def Lets (vs : Array Value) (l : List Nat) : Prop := vs.size = l.length ∧ ∀ (t : Nat) (ht : t < l.length), ∃ tk, vs[t]? = some (.str (St [l[t]]) tk)
/-- the dict sizes -/
noncomputable def SizesAt (w : World) (h : Heap) (a : Addr) (q : Bool) : Prop := ∃ kv : List (Str × Value), h.DictOf (strKind pw w) a kv ∧ ∀ c, (ref q c = true ∧ ∃ t, valueAt kv (St [c]) = some (.int ((wr q c).length : Int) t)) ∨ (ref q c = false ∧ valueAt kv (St [c]) = none)
theorem in_sizes {w : World} {A : Around} {h h' : Heap} {g : Array GenState} {d : Drawn} {tk : Nat} {os : OsState} {E : Value → Shared → Prop} {Q : Value → Shared → Prop} {sz : Addr} {q : Bool} {c : Nat} {t : Tok} (hs : SizesAt w h sz q) (hk : Kp h h') (hsy : (sz == sysModules) = false)
    (qq : Q (.bool (ref q c)) ⟨h', g, d, tk + 1, os⟩) : wpAny (model pw w) A (compareOp .In (.str (St [c]) t) (.ref sz)) Q E ⟨h', g, d, tk, os⟩ := by
  obtain ⟨kv, hd, hc⟩ := hs
  have hd' : h'.DictOf (strKind pw w) sz kv := let ⟨o, es, ep, ho, r⟩ := hd; ⟨o, es, ep, hk _ _ ho, r⟩
  refine wpAny_in_of (k := St [c]) (strKind_is _ _ _ _) hsy hd'.mapOf ?_
  have e : (valueAt kv (St [c])).isSome = ref q c := by
    rcases hc c with ⟨h1, t, h2⟩ | ⟨h1, h2⟩
    · rw [h1, h2]; rfl
    · rw [h1, h2]; rfl
  rw [e]; exact qq
theorem in_tails {tl : List Nat} (htl : tl = [] ∨ tl = [60, 62, 34]) {a : Nat} (ha : a ∈ abc) : (!(Builtin.Str.occurrences (St tl) (St [a]) 0 (St tl).length 1).isEmpty) = (decide (tl ≠ []) && inTail a) := by
  simp only [abc, List.mem_cons, List.not_mem_nil, or_false] at ha
  rcases htl with rfl | rfl <;> rcases ha with rfl | rfl | rfl | rfl | rfl | rfl | rfl <;> decide +kernel
theorem reach_turn {w : World} {A : Around} {h h₁ : Heap} {L : Addr} {g : Array GenState} {d : Drawn} {tk : Nat} {os : OsState} {E : Value → Shared → Prop} {Q : Flow → Shared → Prop} {l : List (Str × Value)} {sz : Addr} {a b n : Nat} {q : Bool} {tl : List Nat} {ta tb tt tn : Tok} {news : List (Addr × Obj)}
    (hA : A.handled = none) (F : Fr h L h₁ (lk l)) (N : News h L h₁ news) (hs : SizesAt w h sz q) (hsy : (sz == sysModules) = false) (htl : tl = [] ∨ tl = [60, 62, 34]) (ha : a ∈ abc) (hb : b ∈ abc) (hn : n < 100000)
    (h1 : lk l (Str.ofString "one") = some (.str (St [a]) ta)) (h2 : lk l (Str.ofString "other") = some (.str (St [b]) tb)) (h3 : lk l (Str.ofString "sizes") = some (.ref sz)) (h4 : lk l (Str.ofString "tails") = some (.str (St tl) tt)) (h5 : lk l (Str.ofString "far") = some (.int (n : Int) tn))
    (q1 : a = b → ∀ h' tk' t, Fr h L h' (lk ((Str.ofString "far", .int ((n + (wr q a).length : Nat) : Int) t) :: l)) → News h L h' news → tk ≤ tk' → Q .next ⟨h', g, d, tk', os⟩)
    (q2 : a ≠ b → ∀ h' tk' t, Kp h h' → tk ≤ tk' → Q (.ret (.int ((n + (if ref q a && ref q b then (if decide (tl ≠ []) && inTail a && inTail b then 2 else 1) else 0) : Nat) : Int) t)) ⟨h', g, d, tk', os⟩) :
    wpAny (model pw w) A (execs (stBody (sAt (fBod (sAt tops 9)) 1)) (rcE L)) Q E ⟨h₁, g, d, tk, os⟩ := by
  conv in (stBody _) => whnf
  walk_at "my go"
  · have hne : a ≠ b := by
      intro e
      subst e
      simp_all
    have fin : ∀ (v : Int) (h' : Heap) (tk' : Nat) (t : Tok), v = ((n + (if ref q a && ref q b then (if decide (tl ≠ []) && inTail a && inTail b then 2 else 1) else 0) : Nat) : Int) → Kp h h' → tk ≤ tk' → Q (.ret (.int v t)) ⟨h', g, d, tk', os⟩ := fun v h' tk' t e k ht => by
      rw [e]; exact q2 hne h' tk' t k ht
    have oa := in_tails htl ha
    have ob := in_tails htl hb
    clear q1 q2
    refine in_sizes hs F.keep hsy ?_
    walk_at "my go"
    · refine in_sizes hs F.keep hsy ?_
      walk_at "my go"
      · rename (Builtin.Str.occurrences (St tl) (St [a]) 0 _ 1).isEmpty = true => hx
        rename ref q a = true => ra
        rename ref q b = true => rb
        rw [hx] at oa
        refine fin _ _ _ _ ?_ F'.keep (by dsimp only; omega)
        rw [← oa, ra, rb]; simp
      · rename (Builtin.Str.occurrences (St tl) (St [a]) 0 _ 1).isEmpty = false => hx
        rename (Builtin.Str.occurrences (St tl) (St [b]) 0 _ 1).isEmpty = true => hy
        rename ref q a = true => ra
        rename ref q b = true => rb
        rw [hx] at oa
        rw [hy] at ob
        refine fin _ _ _ _ ?_ F'.keep (by dsimp only; omega)
        have o2 : (decide (tl ≠ []) && inTail a && inTail b) = false := by
          cases h1 : decide (tl ≠ []) <;> cases h2 : inTail b <;> simp_all
        rw [o2, ra, rb]; simp
      · rename (Builtin.Str.occurrences (St tl) (St [a]) 0 _ 1).isEmpty = false => hx
        rename (Builtin.Str.occurrences (St tl) (St [b]) 0 _ 1).isEmpty = false => hy
        rename ref q a = true => ra
        rename ref q b = true => rb
        rw [hx] at oa
        rw [hy] at ob
        refine fin _ _ _ _ ?_ F'.keep (by dsimp only; omega)
        have o2 : (decide (tl ≠ []) && inTail a && inTail b) = true := by
          cases h1 : decide (tl ≠ []) <;> cases h2 : inTail b <;> simp_all
        rw [o2, ra, rb]; simp
      · rename ref q b = false => rb
        refine fin _ _ _ _ ?_ F.keep (by omega)
        rw [rb]; simp
    · rename ref q a = false => ra
      refine fin _ _ _ _ ?_ F.keep (by omega)
      rw [ra]; simp
  · have heq : a = b := by
      rename (St [a] != St [b]) = false => hx
      exact St1_inj (by simpa using hx)
    obtain ⟨kv, hd, hc⟩ := hs
    have hd' : h₁.DictOf (strKind pw w) sz kv := let ⟨o, es, ep, ho, r⟩ := hd; ⟨o, es, ep, F.keep _ _ ho, r⟩
    refine getMethod_builtin (T := "dict") hd'.mapOf.typeIs PySem.F.plainAttrs_dict PySem.F.slot_dict_get PySem.F.type_dict_get hd'.mapOf.noDict ?_
    refine k_get2 (knd := strKind pw w) hsy ?_
    refine k_nm F (v := .str (St [a]) ta) (by with_unfolding_all exact h1) ?_
    refine k_int ?_
    refine ⟨St [a], _, strKind_is _ _ _ _, hd'.mapOf, ?_⟩
    obtain ⟨t', hv⟩ : ∃ t', (valueAt kv (St [a])).getD (.int 1 tk) = .int ((wr q a).length : Int) t' := by
      rcases hc a with ⟨_, t, h2⟩ | ⟨hr, h2⟩
      · rw [h2]; exact ⟨t, rfl⟩
      · rw [h2]
        have : (wr q a).length = 1 := by
          simp only [abc, List.mem_cons, List.not_mem_nil, or_false] at ha
          rcases ha with rfl | rfl | rfl | rfl | rfl | rfl | rfl <;> cases q <;> simp_all [ref, wr]
        rw [this]; exact ⟨_, rfl⟩
    rw [hv]
    have hw := wr_len6 q a
    walk_at "my go"
    have e : (n : Int) + ((wr q a).length : Int) = ((n + (wr q a).length : Nat) : Int) := by omega
    rw [e] at F'
    exact q1 heq _ _ _ F' N' (by dsimp only; omega)

section
local macro_rules | `(tactic| walk_at "call type:zip") => `(tactic| (refine call_zip_2 (L1' (Fr.keep (by assumption))) (L2' (Fr.keep (by assumption))) ?_; intro hz z1 z2 z3 z4 z5 z6 zk))
theorem reach_call {w : World} {A : Around} {h : Heap} {g : Array GenState} {d : Drawn} {tk : Nat} {os : OsState} {E : Value → Shared → Prop} {Q : Value → Shared → Prop} {mg mb : Str → Option Value} {a1 a2 sz : Addr} {v1 v2 : Array Value} {l1 l2 : List Nat} {q : Bool} {tl : List Nat} {tt : Tok}
    (X : (K w.params).In h) (X' : TopRead Mine.q (looseW Mine.q loose) mg mb h) (hlim : h.NoLimit) (hD : A.depth < recursionLimit) (hA : A.handled = none) (L1 : h.IsList a1 v1) (L2 : h.IsList a2 v2) (e1 : Lets v1 l1) (e2 : Lets v2 l2) (hs : SizesAt w h sz q) (hsy : (sz == sysModules) = false)
    (htl : tl = [] ∨ tl = [60, 62, 34]) (hl1 : l1.length < 1000) (ab1 : ∀ a ∈ l1, a ∈ abc) (ab2 : ∀ a ∈ l2, a ∈ abc)
    (qq : ∀ h' tk' t, Kp h h' → tk ≤ tk' → Q (.int (reach q (decide (tl ≠ [])) l1 l2 : Int) t) ⟨h', g, d, tk', os⟩) :
    wpAny (model pw w) A (call (.ref 261) [.ref a1, .ref a2, .ref sz, .str (St tl) tt]) Q E ⟨h, g, d, tk, os⟩ := by
  refine enter (binds := [(Str.ofString "ones", .ref a1), (Str.ofString "others", .ref a2), (Str.ofString "sizes", .ref sz), (Str.ofString "tails", .str (St tl) tt)]) hD (k261 X) (by with_unfolding_all rfl) hlim ?hcd (by rfl) ?hb ?hc ?hl (by kernel_rfl) (by kernel_rfl) (by kernel_rfl) (by kernel_rfl) (by kernel_rfl) (by kernel_rfl) ?hbody
  case hcd => exact ⟨260, _, _, _, rfl, k260 X, rfl, rfl⟩
  case hb => exact BindsTo.of_eq (by rfl)
  case hc => exact (by decide +kernel : ∀ x ∈ (fSco (sAt tops 9)).names, x.2 ≠ .cell)
  case hl => exact locs (by kernel_rfl)
  case hbody =>
    dsimp only [List.length_cons, List.length_nil]
    intro h₁ F
    have N : News h h.objs.size h₁ [] := News.nil
    have eB : fBod (sAt tops 9) = sAt (fBod (sAt tops 9)) 0 :: sAt (fBod (sAt tops 9)) 1 :: sAt (fBod (sAt tops 9)) 2 :: [] := by kernel_rfl
    rw [eB]
    conv in (sAt (fBod (sAt tops 9)) 0) => whnf
    walk_at "my go"
    conv in (sAt (fBod (sAt tops 9)) 1) => whnf
    refine wpAny_For ?_
    have L1' : ∀ {h' : Heap}, Kp h h' → h'.IsList a1 v1 := fun k => L1.at fun o e => k _ _ e
    have L2' : ∀ {h' : Heap}, Kp h h' → h'.IsList a2 v2 := fun k => L2.at fun o e => k _ _ e
    walk_at "my go"
    dsimp only at z1 z2 z3 z4 z5 z6 zk ⊢
    have hLlt : h.objs.size < h'.objs.size := by obtain ⟨o, _, _, ho, _⟩ := F'.ns; exact Heap.lt_size ho
    have la1 : a1 < h.objs.size := by obtain ⟨o, ho, _⟩ := L1; exact Heap.lt_size ho
    have la2 : a2 < h.objs.size := by obtain ⟨o, ho, _⟩ := L2; exact Heap.lt_size ho
    have hbase : ∀ b, h'.objs.size ≤ b → h.get? b = none := fun b hb => by
      cases e : h.get? b with
      | none => rfl
      | some o => exact absurd (Heap.lt_size (F'.keep _ _ e)) (Nat.not_lt.mpr hb)
    have F2 := F'.keeps zk
    refine wpAny_pyIter_zip z1 ?_
    generalize h'.objs.size = B at *
    have hL2 : h.objs.size ∉ [B + 4, B + 2, B + 3, B, B + 1, a1, a2] := by
      have x1 : @LT.lt Nat _ h.objs.size B := hLlt
      have x2 : @LT.lt Nat _ a1 h.objs.size := la1
      have x3 : @LT.lt Nat _ a2 h.objs.size := la2
      simp only [List.mem_cons, List.not_mem_nil, or_false, not_or]
      refine ⟨?_, ?_, ?_, ?_, ?_, ?_, ?_⟩ <;> (intro e; have e' : @Eq Nat _ _ := e; omega)
    have hap : ZipApart (B + 4) (B + 2) (B + 3) B (B + 1) a1 a2 := by
      have x1 : @LT.lt Nat _ h.objs.size B := hLlt
      have x2 : @LT.lt Nat _ a1 h.objs.size := la1
      have x3 : @LT.lt Nat _ a2 h.objs.size := la2
      constructor <;> (intro e; have e' : @Eq Nat _ _ := e; omega)
    have hA' : (A.deeper (envOf (Str.ofString "_law_reach") (fSco (sAt tops 9)) h.objs.size 261 (.ref 260))).handled = none := hA
    refine for_ledT (h := h) (news := []) (P2 := fun t x y => ∃ a b u v, l1[t]? = some a ∧ l2[t]? = some b ∧ x = .str (St [a]) u ∧ y = .str (St [b]) v) hA' (WalksT.zip2 hA' (B + 4) (B + 2) (B + 3) B (B + 1) a1 a2 hap v1 v2) ?_
      (fun t l' news' tk' => news' = [] ∧ tk ≤ tk' ∧ (∀ v, v ∉ [Str.ofString "one", Str.ofString "other", Str.ofString "far"] → lk l' v = lk _ v) ∧ ∃ n tn, lk l' (Str.ofString "far") = some (.int ((n : Nat) : Int) tn) ∧ reach q (decide (tl ≠ [])) l1 l2 = n + reach q (decide (tl ≠ [])) (l1.drop t) (l2.drop t) ∧ n ≤ 6 * t) hL2 ?_ F2 (fun _ hp => nomatch hp) (fun _ hp => nomatch hp) ?_ ⟨z1, z2, ⟨_, _, z3⟩, z4, z5, L1' F2.keep, L2' F2.keep⟩ ⟨rfl, by omega, fun _ _ => rfl, 0, _, (by with_unfolding_all rfl), by simp, by omega⟩ ?_ ?_
    · rintro i vals ⟨x, y, hx, hy, rfl⟩
      have i1 : i < l1.length := by rw [← e1.1]; exact (Array.getElem?_eq_some_iff.mp hx).1
      have i2 : i < l2.length := by rw [← e2.1]; exact (Array.getElem?_eq_some_iff.mp hy).1
      obtain ⟨u, hu⟩ := e1.2 i i1
      obtain ⟨v, hv⟩ := e2.2 i i2
      rw [hx] at hu
      rw [hy] at hv
      exact ⟨x, y, rfl, _, _, u, v, List.getElem?_eq_getElem i1, List.getElem?_eq_getElem i2, Option.some.inj hu, Option.some.inj hv⟩
    · intro b hb
      simp only [List.mem_cons, List.not_mem_nil, or_false] at hb
      rcases hb with rfl | rfl | rfl | rfl
      · exact hbase _ (Nat.le_add_right _ _)
      · exact hbase _ (Nat.le_add_right _ _)
      · exact hbase _ (Nat.le_refl _)
      · exact hbase _ (Nat.le_add_right _ _)
    · rintro i h9 b hb ⟨y1, y2, ⟨_, _, y3⟩, ⟨o4, y4, _⟩, ⟨o5, y5, _⟩, _, _⟩
      simp only [List.mem_cons, List.not_mem_nil, or_false] at hb
      rcases hb with rfl | rfl | rfl | rfl
      · exact ⟨_, y1⟩
      · exact ⟨_, y3⟩
      · exact ⟨_, y4⟩
      · exact ⟨_, y5⟩
    · rintro t h9 l9 news9 tk0 tk9 x y own ht ⟨a, b, u, v, ga, gb, rfl, rfl⟩ hown hcov F9 N9 hnw ⟨rfl, htk0, hl9, n, tn, hfar, hre, hn⟩ htk9
      have i1 := List.getElem?_eq_some_iff.mp ga
      have i2 := List.getElem?_eq_some_iff.mp gb
      obtain ⟨i1, ea⟩ := i1
      obtain ⟨i2, eb⟩ := i2
      have d1 : l1.drop t = a :: l1.drop (t + 1) := by rw [← ea]; exact List.drop_eq_getElem_cons i1
      have d2 : l2.drop t = b :: l2.drop (t + 1) := by rw [← eb]; exact List.drop_eq_getElem_cons i2
      refine reach_turn (tt := tt) (q := q) (n := n) (tl := tl) (a := a) (b := b) (sz := sz) (l := (Str.ofString "other", .str (St [b]) v) :: (Str.ofString "one", .str (St [a]) u) :: l9) hA' F9 N9 hs hsy htl (ab1 a (ea ▸ List.getElem_mem i1)) (ab2 b (eb ▸ List.getElem_mem i2)) (by omega) (by with_unfolding_all rfl) (by with_unfolding_all rfl) ?_ ?_ (by rw [lk_skip (by decide +kernel), lk_skip (by decide +kernel)]; exact hfar) ?_ ?_
      · rw [lk_skip (by decide +kernel), lk_skip (by decide +kernel), hl9 _ (by decide +kernel)]; with_unfolding_all rfl
      · rw [lk_skip (by decide +kernel), lk_skip (by decide +kernel), hl9 _ (by decide +kernel)]; with_unfolding_all rfl
      · rintro rfl h5 tk5 t5 F5 N5 htk5
        have hw := wr_len6 q a
        refine TurnEnd.next ⟨_, [], F5, N5, fun _ hp => (nomatch hp), rfl, by omega, fun z hz => ?_, n + (wr q a).length, t5, by with_unfolding_all rfl, ?_, by omega⟩
        · simp only [List.mem_cons, not_or] at hz
          rw [lk_skip hz.2.2.1, lk_skip hz.2.1, lk_skip hz.1]
          exact hl9 z (by simp only [List.mem_cons, not_or]; exact hz)
        · rw [hre, d1, d2, reach, if_pos rfl]; omega
      · intro hne h5 tk5 t5 k5 htk5
        show Q (.int _ t5) ⟨h5, g, d, tk5, os⟩
        have : reach q (decide (tl ≠ [])) l1 l2 = n + (if ref q a && ref q b then (if decide (tl ≠ []) && inTail a && inTail b then 2 else 1) else 0) := by
          rw [hre, d1, d2, reach, if_neg hne]
        rw [← this]
        exact qq h5 tk5 t5 k5 (by omega)
    · rintro h9 l9 news9 tk0 tk9 F9 N9 ⟨rfl, htk0, hl9, n, tn, hfar, hre, hn⟩ htk9
      have hz : reach q (decide (tl ≠ [])) (l1.drop (min v1.size v2.size)) (l2.drop (min v1.size v2.size)) = 0 := by
        rw [e1.1, e2.1]
        by_cases h : l1.length ≤ l2.length
        · rw [List.drop_eq_nil_of_le (as := l1) (by omega)]; simp [reach]
        · rw [List.drop_eq_nil_of_le (as := l2) (by omega)]
          cases l1.drop (min l1.length l2.length) <;> simp [reach]
      rw [hz] at hre
      conv in (sAt (fBod (sAt tops 9)) 2) => whnf
      refine c_next ?_
      walk_at "my go"
      rw [hre] at qq
      exact qq _ _ _ F9.keep (by omega)

end
section tlt
variable {prog : Program} {w : World} {A : Around} {E : Value → Shared → Prop} {s : Shared}
theorem arg2 {nm : String} {x y : Value} {Q : Value × List Value → Shared → Prop} (q : Q (x, [y]) s) : wpAny (model prog w) A (slotArgs nm 1 ⟨[x, y], []⟩) Q E s := wpAny_pure q
/-- ints by places: which comes first -/
noncomputable def lexlt : List Int → List Int → Bool
  | a :: r, b :: t => if a == b then lexlt r t else decide (a < b)
  | _, _ => false
/-- the values are the ints -/
noncomputable def IntVs (vs : List Value) (ns : List Int) : Prop := vs.length = ns.length ∧ ∀ (t : Nat) (ht : t < ns.length), ∃ tk, vs[t]? = some (.int ns[t] tk)
theorem IntVs.nil : IntVs [] [] := ⟨rfl, fun _ ht => nomatch ht⟩
theorem IntVs.cons {n : Int} {t : Tok} {vs : List Value} {ns : List Int} (h : IntVs vs ns) : IntVs (.int n t :: vs) (n :: ns) :=
  ⟨by simp [h.1], fun k hk => by
    cases k with
    | zero => exact ⟨t, rfl⟩
    | succ k => exact h.2 k (by simpa using hk)⟩
theorem IntVs.uncons {vs : List Value} {n : Int} {ns : List Int} (h : IntVs vs (n :: ns)) : ∃ t r, vs = .int n t :: r ∧ IntVs r ns := by
  obtain ⟨h1, h2⟩ := h
  cases vs with
  | nil => cases h1
  | cons v r =>
    obtain ⟨t, e⟩ := h2 0 (by simp)
    simp only [List.getElem?_cons_zero, Option.some.injEq, List.getElem_cons_zero] at e
    subst e
    exact ⟨t, r, rfl, by simpa using h1, fun k hk => by
      obtain ⟨t', e⟩ := h2 (k + 1) (by simpa using hk)
      exact ⟨t', by simpa using e⟩⟩
theorem IntVs.none {vs : List Value} (h : IntVs vs []) : vs = [] := List.eq_nil_of_length_eq_zero h.1
theorem tlt_loop {R : Option PySem.Fin × Unit → Shared → Prop} {body : Value × Value → Option PySem.Fin × Unit → Sem (ForInStep (Option PySem.Fin × Unit))}
    (hb : ∀ a b t u (s : Shared) (R' : ForInStep (Option PySem.Fin × Unit) → Shared → Prop), R' (if a == b then .yield (none, ()) else .done (some (.done (.ret (.bool (decide (a < b))))), ())) s → wpAny (model prog w) A (body (.int a t, .int b u) (none, ())) R' E s) :
    ∀ (vs us : List Value) (ns ms : List Int) (s : Shared), IntVs vs ns → IntVs us ms → ns.length = ms.length → (∀ fin, (fin = none ∧ lexlt ns ms = false) ∨ fin = some (.done (.ret (.bool (lexlt ns ms)))) → R (fin, ()) s) →
      wpAny (model prog w) A (forIn (vs.zip us) (none, ()) body) R E s := by
  intro vs us ns
  induction ns generalizing vs us with
  | nil =>
    intro ms s hv hu hl h
    rw [hv.none]
    exact wpAny_pure (h none (.inl ⟨rfl, by cases ms <;> rfl⟩))
  | cons n ns ih =>
    intro ms s hv hu hl h
    cases ms with
    | nil => simp at hl
    | cons m ms =>
      obtain ⟨t, r, rfl, hv'⟩ := hv.uncons
      obtain ⟨u, r', rfl, hu'⟩ := hu.uncons
      rw [List.zip_cons_cons, List.forIn_cons]
      refine wpAny_bind (hb n m t u s _ ?_)
      by_cases e : (n == m) = true
      · rw [if_pos e]
        refine ih r r' ms s hv' hu' (by simpa using hl) fun fin hf => h fin ?_
        rw [lexlt, if_pos e]; exact hf
      · rw [if_neg e]
        refine wpAny_pure (h _ (.inr ?_))
        rw [lexlt, if_neg e]
theorem tlt_body {a b : Addr} {oa ob : Obj} {vs us : Array Value} {na nb : Nat} {ns ms : List Int} {P : PySem.Fin → Shared → Prop} (ha : s.heap.get? a = some oa) (da : oa.data = .seq vs na) (hb : s.heap.get? b = some ob) (db : ob.data = .seq us nb)
    (hi : ∀ Q : Bool → Shared → Prop, Q true s → wpAny (model prog w) A (isInstance (.ref b) (.type "tuple")) Q E s) (hv : IntVs vs.toList ns) (hu : IntVs us.toList ms) (hl : ns.length = ms.length) (h : P (.done (.ret (.bool (lexlt ns ms)))) s) :
    wpAny (model prog w) A (Builtin.«tuple.__lt__» ⟨[.ref a, .ref b], []⟩) P E s := by
  unfold Builtin.«tuple.__lt__»
  refine wpAny_bind (arg2 ?_)
  dsimp only
  refine wpAny_bind (hi _ ?_)
  rw [if_neg (by decide)]
  refine wpAny_bind (wpAny_tupleItemsOf ha da (wpAny_bind (wpAny_tupleItemsOf hb db ?_)))
  have hsz : vs.size = us.size := by rw [← Array.length_toList, ← Array.length_toList, hv.1, hu.1, hl]
  refine wpAny_bind (tlt_loop (fun x y t u s' R' hR => ?_) vs.toList us.toList ns ms s hv hu hl fun fin hf => ?_)
  · refine wpAny_bind (wpAny_eqBool_int ?_)
    by_cases e : (x == y) = true
    · rw [e] at hR ⊢
      simp only [Bool.not_true, Bool.false_eq_true, if_false]
      exact wpAny_pure hR
    · rw [if_neg e] at hR
      have e' : (x == y) = false := by simpa using e
      rw [e']
      simp only [Bool.not_false, if_true]
      refine wpAny_bind (wpAny_rule (wpAny_bind (lt_int (wpAny_bind (wpAny_pure ?_)))))
      exact wpAny_pure hR
  · rcases hf with ⟨rfl, e⟩ | rfl
    · have e2 : Builtin.Tuple.tupleCompareSizes .Lt vs.size us.size = .bool (lexlt ns ms) := by rw [hsz, e]; show Value.bool (decide (us.size < us.size)) = _; rw [decide_eq_false (Nat.lt_irrefl _)]
      rw [e2]
      exact wpAny_pure h
    · exact wpAny_pure h
theorem lt_tup {a b : Addr} {vs us : Array Value} {ns ms : List Int} {Q : Value → Shared → Prop} (ha : IsTup s.heap a vs) (hb : IsTup s.heap b us) (hv : IntVs vs.toList ns) (hu : IntVs us.toList ms) (hl : ns.length = ms.length) (hU : A.units < cLine)
    (h : Q (.bool (lexlt ns ms)) s) : wpAny (model prog w) A (compareOp .Lt (.ref a) (.ref b)) Q E s := by
  have ta := ha.typeIs
  have tb := hb.typeIs
  obtain ⟨oa, ga, _, na, da⟩ := ha
  obtain ⟨ob, gb, _, nb, db⟩ := hb
  show wpAny _ _ (richCompare .Lt (.ref a) (.ref b)) Q E s
  refine wpAny_richCompare_same_room (op := .Lt) (T := "tuple") ta tb F.slot_tuple_lt (wpAny_call_entry F.slot_tuple_lt ta F.entry_tuple_lt (tlt_body ga da gb db (fun Q' q' => wpAny_isInstance tb AutoSeq1.sub_tuple_tuple q') hv hu hl ⟨_, rfl, by simp, h⟩) (F.args_tuple_lt_2 _ _)) hU
end tlt

section lops
variable {prog : Program} {w : World} {A : Around} {E : Value → Shared → Prop} {h h₀ : Heap} {g : Array GenState} {d : Drawn} {tk : Nat} {os : OsState} {L : Addr} {m : Str → Option Value} {news : List (Addr × Obj)}
noncomputable abbrev liO (vs : List Value) : Obj := { cls := .type "list", data := .seq vs.toArray 0 }
noncomputable abbrev tuO (vs : Array Value) : Obj := { cls := .type "tuple", data := .seq vs }
theorem k_sl_to {value slice : PySem.Expr} {l : Addr} {its : Array Value} {i : Nat} {t : Tok} {Q : Value → Shared → Prop} (F : Fr h₀ L h m) (N : News h₀ L h news) (hl : h.IsList l its) (hz : its.size ≤ 1000000)
    (q : ∀ D h', Fr h₀ L h' m → News h₀ L h' ((D, liO (its.toList.take i)) :: news) → (∀ p ∈ news, p.1 < D) → Q (.ref D) ⟨h', g, d, tk, os⟩)
    (hs : subscripted slice false (.ref l) (.ref h.objs.size) = operate [.ref h.objs.size, .ref l] (getItem (.ref l) (.ref h.objs.size)) := by with_unfolding_all rfl) (ht : ∀ r, letTemporaryGo value (.ref l) r = pure () := by intro _; with_unfolding_all rfl) :
    wpAny (model prog w) A (subscriptTail value slice (.ref l) (.ref h.objs.size)) Q E ⟨h.push { cls := .type "slice", data := .fields #[.none, .int (i : Int) t, .none] }, g, d, tk, os⟩ := by
  refine kmk_slice (s := ⟨h, g, d, tk, os⟩) F N hl .none (.int _ _) (fun D h' F' N' l1 => ?_) hs ht (by rw [sizeLine_eq]; omega)
  rw [slicePick_upto'] at N'
  exact q D h' F' N' l1
theorem k_sl_from {value slice : PySem.Expr} {l : Addr} {its : Array Value} {i : Nat} {t : Tok} {Q : Value → Shared → Prop} (F : Fr h₀ L h m) (N : News h₀ L h news) (hl : h.IsList l its) (hz : its.size ≤ 1000000)
    (q : ∀ D h', Fr h₀ L h' m → News h₀ L h' ((D, liO (its.toList.drop i)) :: news) → (∀ p ∈ news, p.1 < D) → Q (.ref D) ⟨h', g, d, tk, os⟩)
    (hs : subscripted slice false (.ref l) (.ref h.objs.size) = operate [.ref h.objs.size, .ref l] (getItem (.ref l) (.ref h.objs.size)) := by with_unfolding_all rfl) (ht : ∀ r, letTemporaryGo value (.ref l) r = pure () := by intro _; with_unfolding_all rfl) :
    wpAny (model prog w) A (subscriptTail value slice (.ref l) (.ref h.objs.size)) Q E ⟨h.push { cls := .type "slice", data := .fields #[.int (i : Int) t, .none, .none] }, g, d, tk, os⟩ := by
  refine kmk_slice (s := ⟨h, g, d, tk, os⟩) F N hl (.int _ _) .none (fun D h' F' N' l1 => ?_) hs ht (by rw [sizeLine_eq]; omega)
  rw [slicePick_from'] at N'
  exact q D h' F' N' l1
theorem k_sl_rev {value slice : PySem.Expr} {l : Addr} {its : Array Value} {t : Tok} {ops : List Value} {Q : Value → Shared → Prop} (F : Fr h₀ L h m) (N : News h₀ L h news) (hl : h.IsList l its) (hz : its.size ≤ 1000000)
    (q : ∀ D h', Fr h₀ L h' m → News h₀ L h' ((D, liO its.toList.reverse) :: news) → (∀ p ∈ news, p.1 < D) → Q (.ref D) ⟨h', g, d, tk, os⟩)
    (hs : subscripted slice false (.ref l) (.ref h.objs.size) = operate ops (getItem (.ref l) (.ref h.objs.size)) := by with_unfolding_all rfl) (ht : ∀ r, letTemporaryGo value (.ref l) r = pure () := by intro _; with_unfolding_all rfl) :
    wpAny (model prog w) A (subscriptTail value slice (.ref l) (.ref h.objs.size)) Q E ⟨h.push { cls := .type "slice", data := .fields #[.none, .none, .int (-1) t] }, g, d, tk, os⟩ :=
  krv_lit (s := ⟨h, g, d, tk, os⟩) F N hl (.int _ _) rfl (fun D h' F' N' l1 => q D h' F' N' l1) hs ht (by rw [sizeLine_eq]; omega)
theorem k_len_list {l : Addr} {its : Array Value} {Q : Value → Shared → Prop} (hl : h.IsList l its) (hz : its.size ≤ 1000000) (q : Q (.int (its.size : Int) (tk + 1)) ⟨h, g, d, tk + 2, os⟩) :
    wpAny (model prog w) A (call (.builtin "len") [.ref l]) Q E ⟨h, g, d, tk, os⟩ := len_list (s := ⟨h, g, d, tk, os⟩) hl (by omega) q
theorem k_item {value slice : PySem.Expr} {l : Addr} {its : Array Value} {i : Nat} {u : Tok} {x : Value} {Q : Value → Shared → Prop} (hl : h.IsList l its) (hz : its.size ≤ 1000000) (hx : its[i]? = some x) (q : Q x ⟨h, g, d, tk, os⟩)
    (hs : subscripted slice false (.ref l) (.int (i : Int) u) = operate [.ref l, .int (i : Int) u] (getItem (.ref l) (.int (i : Int) u)) := by with_unfolding_all rfl) (hg : ∀ r, letTemporaryGo value (.ref l) r = pure () := by intro _; with_unfolding_all rfl) :
    wpAny (model prog w) A (subscriptTail value slice (.ref l) (.int (i : Int) u)) Q E ⟨h, g, d, tk, os⟩ := by
  have hi : i < its.size := (Array.getElem?_eq_some_iff.mp hx).1
  exact item_list (s := ⟨h, g, d, tk, os⟩) hl (by omega) (by omega) (by simpa using hx) q hs hg
theorem k_tup_item {value slice : PySem.Expr} {T : Addr} {its : Array Value} {i : Nat} {u : Tok} {x : Value} {Q : Value → Shared → Prop} (ht : IsTup h T its) (hi : i < 1000000) (hx : its[i]? = some x) (q : Q x ⟨h, g, d, tk, os⟩)
    (hs : subscripted slice false (.ref T) (.int (i : Int) u) = operate [.ref T, .int (i : Int) u] (getItem (.ref T) (.int (i : Int) u)) := by with_unfolding_all rfl) (hg : ∀ r, letTemporaryGo value (.ref T) r = pure () := by intro _; with_unfolding_all rfl) :
    wpAny (model prog w) A (subscriptTail value slice (.ref T) (.int (i : Int) u)) Q E ⟨h, g, d, tk, os⟩ := by
  have hsz := (Array.getElem?_eq_some_iff.mp hx).1
  refine item_tuple (s := ⟨h, g, d, tk, os⟩) (j := i) ht (by omega) (by omega) ?_ hx q hs hg
  unfold seqIndex?
  have h1 : ¬ ((i : Int) < 0) := by omega
  simp only [if_neg h1]
  simp [hsz]
theorem k_tsl_from {value slice : PySem.Expr} {T : Addr} {its : Array Value} {i : Nat} {t : Tok} {Q : Value → Shared → Prop} (F : Fr h₀ L h m) (N : News h₀ L h news) (ht : IsTup h T its) (h1 : 1 ≤ i) (hi : i ≤ its.size) (hz : its.size ≤ 1000000)
    (q : ∀ D h', Fr h₀ L h' m → News h₀ L h' ((D, tuO (its.toList.drop i).toArray) :: news) → (∀ p ∈ news, p.1 < D) → Q (.ref D) ⟨h', g, d, tk, os⟩)
    (hs : subscripted slice false (.ref T) (.ref h.objs.size) = operate [.ref h.objs.size, .ref T] (getItem (.ref T) (.ref h.objs.size)) := by with_unfolding_all rfl) (hg : ∀ r, letTemporaryGo value (.ref T) r = pure () := by intro _; with_unfolding_all rfl) :
    wpAny (model prog w) A (subscriptTail value slice (.ref T) (.ref h.objs.size)) Q E ⟨h.push { cls := .type "slice", data := .fields #[.int (i : Int) t, .none, .none] }, g, d, tk, os⟩ :=
  slice_tuple_from (s := ⟨h, g, d, tk, os⟩) F N ht h1 hi (fun h' F' N' => q _ h' F' N' fun p hp => Nat.lt_succ_of_lt (Heap.lt_size (N p hp).1)) hs hg (by rw [sizeLine_eq]; omega)
end lops

section
local macro_rules | `(tactic| walk_at "my list") => `(tactic| first | exact K1 (Fr.keep (by assumption)) | exact K2 (Fr.keep (by assumption)) | exact K3 (Fr.keep (by assumption)) | exact K4 (Fr.keep (by assumption)) | exact News.isList (by assumption) (by k_mem))
local macro_rules | `(tactic| walk_at "my size") => `(tactic| first | omega | ((try simp only [List.size_toArray, List.length_take, List.length_drop, List.length_reverse, Array.length_toList]); omega))
local macro_rules | `(tactic| walk_at "subscriptTail Name Slice ref ref") => `(tactic| ((try dsimp only); first
  | ((with_unfolding_all refine' k_sl_to ?sl_F ?sl_N ?sl_l ?sl_z ?_ ?sl_hs ?sl_ht); (case sl_F => assumption); (case sl_N => assumption); (case sl_l => walk_at "my list"); (case sl_z => walk_at "my size"); (case sl_hs => with_unfolding_all rfl); (case sl_ht => (intro _; with_unfolding_all rfl)); intro D' h' F' N' l1)
  | ((with_unfolding_all refine' k_sl_from ?sl_F ?sl_N ?sl_l ?sl_z ?_ ?sl_hs ?sl_ht); (case sl_F => assumption); (case sl_N => assumption); (case sl_l => walk_at "my list"); (case sl_z => walk_at "my size"); (case sl_hs => with_unfolding_all rfl); (case sl_ht => (intro _; with_unfolding_all rfl)); intro D' h' F' N' l1)
  | ((with_unfolding_all refine' k_sl_rev ?sl_F ?sl_N ?sl_l ?sl_z ?_ ?sl_hs ?sl_ht); (case sl_F => assumption); (case sl_N => assumption); (case sl_l => walk_at "my list"); (case sl_z => walk_at "my size"); (case sl_hs => with_unfolding_all rfl); (case sl_ht => (intro _; with_unfolding_all rfl)); intro D' h' F' N' l1)
  | ((with_unfolding_all refine' k_tsl_from (i := 1) ?sl_F ?sl_N ?sl_l ?sl_h1 ?sl_hi ?sl_z ?_ ?sl_hs ?sl_ht); (case sl_F => assumption); (case sl_N => assumption); (case sl_l => exact News.isTup (by assumption) (by k_mem)); (case sl_h1 => decide); (case sl_hi => exact Nat.le_of_ble_eq_true rfl); (case sl_z => exact Nat.le_of_ble_eq_true rfl); (case sl_hs => with_unfolding_all rfl); (case sl_ht => (intro _; with_unfolding_all rfl)); intro D' h' F' N' l1)))
local macro_rules | `(tactic| walk_at "subscriptTail Name Name ref int") => `(tactic| ((try dsimp only); first
  | ((with_unfolding_all refine' k_item (K2 (Fr.keep (by assumption))) ?sl_z I2 ?_ ?sl_hs ?sl_ht); (case sl_z => walk_at "my size"); (case sl_hs => with_unfolding_all rfl); (case sl_ht => (intro _; with_unfolding_all rfl)))
  | ((with_unfolding_all refine' k_item (K4 (Fr.keep (by assumption))) ?sl_z I4 ?_ ?sl_hs ?sl_ht); (case sl_z => walk_at "my size"); (case sl_hs => with_unfolding_all rfl); (case sl_ht => (intro _; with_unfolding_all rfl)))))
local macro_rules | `(tactic| walk_at "compareOp Lt ref ref") => `(tactic| ((try dsimp only); (with_reducible refine' k_ltup ?sl_a ?sl_b ?sl_va ?sl_vb ?sl_l ?sl_u ?_); (case sl_a => exact News.isTup (by assumption) (by k_mem)); (case sl_b => exact News.isTup (by assumption) (by k_mem)); (case sl_va => exact IntVs.cons (IntVs.cons IntVs.nil)); (case sl_vb => exact IntVs.cons (IntVs.cons IntVs.nil)); (case sl_l => rfl); (case sl_u => ((show _ < _); omega))))

section lets
theorem lets_iff {v : Array Value} {l : List Nat} : Lets v l ↔ v.toList.length = l.length ∧ ∀ (t a : Nat), l[t]? = some a → ∃ tk, v.toList[t]? = some (Value.str (St [a]) tk) := by
  constructor
  · rintro ⟨h1, h2⟩
    refine ⟨by simpa using h1, fun t a e => ?_⟩
    obtain ⟨ht, rfl⟩ := List.getElem?_eq_some_iff.mp e
    obtain ⟨tk, h⟩ := h2 t ht
    exact ⟨tk, by simpa using h⟩
  · rintro ⟨h1, h2⟩
    refine ⟨by simpa using h1, fun t ht => ?_⟩
    obtain ⟨tk, h⟩ := h2 t l[t] (List.getElem?_eq_getElem ht)
    exact ⟨tk, by simpa using h⟩
theorem Lets.take {v : Array Value} {l : List Nat} (h : Lets v l) (i : Nat) : Lets (v.toList.take i).toArray (l.take i) := by
  rw [lets_iff] at h ⊢
  refine ⟨by simp only [List.toList_toArray, List.length_take, h.1], fun t a e => ?_⟩
  rw [List.getElem?_take] at e
  simp only [List.toList_toArray, List.getElem?_take]
  split at e
  · rename_i hlt; rw [if_pos hlt]; exact h.2 t a e
  · cases e
theorem Lets.drop {v : Array Value} {l : List Nat} (h : Lets v l) (i : Nat) : Lets (v.toList.drop i).toArray (l.drop i) := by
  rw [lets_iff] at h ⊢
  refine ⟨by simp only [List.toList_toArray, List.length_drop, h.1], fun t a e => ?_⟩
  rw [List.getElem?_drop] at e
  simp only [List.toList_toArray, List.getElem?_drop]
  exact h.2 _ a e
theorem Lets.rev {v : Array Value} {l : List Nat} (h : Lets v l) : Lets v.toList.reverse.toArray l.reverse := by
  rw [lets_iff] at h ⊢
  refine ⟨by simp only [List.toList_toArray, List.length_reverse, h.1], fun t a e => ?_⟩
  have ht : t < l.length := by
    have := (List.getElem?_eq_some_iff.mp e).1
    simpa using this
  rw [List.getElem?_reverse ht] at e
  simp only [List.toList_toArray]
  rw [List.getElem?_reverse (by rw [h.1]; exact ht), h.1]
  exact h.2 _ a e
theorem SizesAt.keep {w : World} {h h' : Heap} {a : Addr} {q : Bool} (x : SizesAt w h a q) (k : Kp h h') : SizesAt w h' a q := by
  obtain ⟨kv, ⟨o, es, ep, ho, r⟩, c⟩ := x
  exact ⟨kv, ⟨o, es, ep, k _ _ ho, r⟩, c⟩
end lets
theorem k_ltup {prog : Program} {w : World} {A : Around} {E : Value → Shared → Prop} {h : Heap} {g : Array GenState} {d : Drawn} {tk : Nat} {os : OsState} {a b : Addr} {vs us : Array Value} {ns ms : List Int} {Q : Value → Shared → Prop} (ha : IsTup h a vs) (hb : IsTup h b us) (hv : IntVs vs.toList ns) (hu : IntVs us.toList ms) (hl : ns.length = ms.length) (hU : A.units < cLine)
    (q : Q (.bool (lexlt ns ms)) ⟨h, g, d, tk, os⟩) : wpAny (model prog w) A (compareOp .Lt (.ref a) (.ref b)) Q E ⟨h, g, d, tk, os⟩ := lt_tup (s := ⟨h, g, d, tk, os⟩) ha hb hv hu hl hU q

noncomputable abbrev lgE (L : Addr) : Env := envOf (Str.ofString "_law_longest") (fSco (sAt tops 10)) L 268 (.ref 267)
theorem k268 {P : Params} {h : Heap} (X : (K P).In h) : h.get? 268 = some (o268 P) := X _ _ (by kernel_rfl)
theorem k267 {P : Params} {h : Heap} (X : (K P).In h) : h.get? 267 = some (o267 P) := X _ _ (by kernel_rfl)
noncomputable abbrev lgIn : List Stmt := stBody (sAt (stBody (sAt (fBod (sAt tops 10)) 1)) 0)
/-- values that are the places of the boundaries -/
noncomputable def Heres (q : Bool) (oa : Nat) (vs : Array Value) (l : List Nat) : Prop := vs.size = l.length + 1 ∧ ∀ t, t ≤ l.length → ∃ tk, vs[t]? = some (.int ((oa + (W q (l.take t)).length : Nat) : Int) tk)
noncomputable abbrev triO (b : Tri) (t1 t2 t3 : Tok) : Obj := tuO #[.int (b.1 : Int) t1, .int (b.2.1 : Int) t2, .int (b.2.2 : Int) t3]
noncomputable abbrev lgVars : List Str := [Str.ofString "best", Str.ofString "size", Str.ofString "back"]
theorem long_turn {w : World} {A : Around} {h h₁ : Heap} {L : Addr} {g : Array GenState} {d : Drawn} {tk : Nat} {os : OsState} {E : Value → Shared → Prop} {Q : Flow → Shared → Prop} {mg mb : Str → Option Value} {l : List (Str × Value)} {a1 a2 a3 a4 sz T : Addr} {v1 v2 v3 v4 : Array Value} {xs ys : List Nat} {q : Bool} {i j oa ob : Nat} {b : Tri} {ti tj t1 t2 t3 : Tok} {news : List (Addr × Obj)}
    (X : (K w.params).In h) (X' : TopRead Mine.q (looseW Mine.q loose) mg mb h) (hlim : h.NoLimit) (hD : A.depth < recursionLimit) (hU : A.units + 8 < cLine) (hA : A.handled = none)
    (L1 : h.IsList a1 v1) (L2 : h.IsList a2 v2) (L3 : h.IsList a3 v3) (L4 : h.IsList a4 v4) (e1 : Lets v1 xs) (e2 : Heres q oa v2 xs) (e3 : Lets v3 ys) (e4 : Heres q ob v4 ys) (hs : SizesAt w h sz q) (hsy : (sz == sysModules) = false)
    (hl1 : xs.length < 1000) (hl2 : ys.length < 1000) (ab1 : ∀ a ∈ xs, a ∈ abc) (ab2 : ∀ a ∈ ys, a ∈ abc) (hi : i ≤ xs.length) (hj : j ≤ ys.length)
    (F : Fr h L h₁ (lk l)) (N : News h L h₁ ((T, triO b t1 t2 t3) :: news))
    (x1 : lk l (Str.ofString "ones") = some (.ref a1)) (x2 : lk l (Str.ofString "here") = some (.ref a2)) (x3 : lk l (Str.ofString "others") = some (.ref a3)) (x4 : lk l (Str.ofString "there") = some (.ref a4)) (x5 : lk l (Str.ofString "sizes") = some (.ref sz))
    (xi : lk l (Str.ofString "i") = some (.int (i : Int) ti)) (xj : lk l (Str.ofString "j") = some (.int (j : Int) tj)) (xb : lk l (Str.ofString "best") = some (.ref T)) (hT : ∀ p ∈ news, p.1 ≠ T)
    (qq : ∀ h' tk' l' T' t1 t2 t3, Fr h L h' (lk l') → News h L h' ((T', triO (stepB b (candOf q xs ys oa ob i j)) t1 t2 t3) :: news) → (∀ p ∈ news, p.1 ≠ T') → tk ≤ tk' → lk l' (Str.ofString "best") = some (.ref T') → (∀ x, x ∉ lgVars → lk l' x = lk l x) → Q .next ⟨h', g, d, tk', os⟩) :
    wpAny (model pw w) A (execs lgIn (lgE L)) Q E ⟨h₁, g, d, tk, os⟩ := by
  have K1 : ∀ {h' : Heap}, Kp h h' → h'.IsList a1 v1 := fun k => L1.at fun o e => k _ _ e
  have K2 : ∀ {h' : Heap}, Kp h h' → h'.IsList a2 v2 := fun k => L2.at fun o e => k _ _ e
  have K3 : ∀ {h' : Heap}, Kp h h' → h'.IsList a3 v3 := fun k => L3.at fun o e => k _ _ e
  have K4 : ∀ {h' : Heap}, Kp h h' → h'.IsList a4 v4 := fun k => L4.at fun o e => k _ _ e
  have s1 : v1.size = xs.length := e1.1
  have s3 : v3.size = ys.length := e3.1
  have s2 := e2.1
  have s4 := e4.1
  obtain ⟨ti2, I2⟩ := e2.2 i hi
  obtain ⟨tj2, I4⟩ := e4.2 j hj
  conv in lgIn => whnf
  walk_at "my go"
  refine nm_k F X X' g_reach ?_
  refine callWith_K (K := K w.params) X (by kernel_rfl) ?_ (by kernel_rfl) (by kernel_rfl)
  walk_at "my go"
  have etl : Str.ofString "<>\"" = St [60, 62, 34] := by decide +kernel
  rw [etl]
  refine reach_call (q := q) (tl := [60, 62, 34]) (l1 := (xs.take i).reverse) (l2 := (ys.take j).reverse) (X.keeps F'.keep) (X'.keeps F'.keep) (hlim.keeps F'.keep) hD hA (N'.isList (by k_mem)) (N'.isList (by k_mem)) (e1.take i).rev (e3.take j).rev (hs.keep F'.keep) hsy (.inr rfl) (by simp; omega) (fun a ha => ab1 a (List.mem_of_mem_take (List.mem_reverse.mp ha))) (fun a ha => ab2 a (List.mem_of_mem_take (List.mem_reverse.mp ha))) fun h2 tk2 tb k2 htk2 => ?_
  have F2 := F'.keeps k2
  have N2 := N'.grown k2
  clear F' N'
  walk_at "my go"
  refine nm_k F' X X' g_reach ?_
  refine callWith_K (K := K w.params) X (by kernel_rfl) ?_ (by kernel_rfl) (by kernel_rfl)
  walk_at "my go"
  have etl0 : Str.ofString "" = St [] := by decide +kernel
  rw [etl0]
  refine reach_call (q := q) (tl := []) (l1 := xs.drop i) (l2 := ys.drop j) (X.keeps F'.keep) (X'.keeps F'.keep) (hlim.keeps F'.keep) hD hA (N'.isList (by k_mem)) (N'.isList (by k_mem)) (e1.drop i) (e3.drop j) (hs.keep F'.keep) hsy (.inl rfl) (by simp; omega) (fun a ha => ab1 a (List.mem_of_mem_drop ha)) (fun a ha => ab2 a (List.mem_of_mem_drop ha)) fun h3 tk3 tf k3 htk3 => ?_
  have F3 := F'.keeps k3
  have N3 := N'.grown k3
  clear F' N'
  obtain ⟨bk, hbk⟩ : ∃ n, n = reach q (decide ([60, 62, 34] ≠ [])) (xs.take i).reverse (ys.take j).reverse := ⟨_, rfl⟩
  obtain ⟨fo, hfo⟩ : ∃ n, n = reach q (decide (([] : List Nat) ≠ [])) (xs.drop i) (ys.drop j) := ⟨_, rfl⟩
  rw [← hbk] at F3 ⊢
  rw [← hfo]
  have hc : candOf q xs ys oa ob i j = (bk + fo, oa + (W q (xs.take i)).length - bk, ob + (W q (ys.take j)).length - bk) := by
    rw [hbk, hfo]; rfl
  have hb1 : bk ≤ (W q (xs.take i)).length ∧ bk ≤ (W q (ys.take j)).length := by
    have e := cand_eq q xs ys ab1 ab2 oa ob i j
    have r := (bnd_run q (xs.take i) (xs.drop i) (ys.take j) (ys.drop j)).2
    have eb : bk = backOf q (xs.take i) (ys.take j) := by
      rw [hbk]
      unfold backOf
      have e := lcp_W_r q (xs.take i).reverse (ys.take j).reverse (fun a ha => ab1 a (List.mem_of_mem_take (List.mem_reverse.mp ha))) (fun a ha => ab2 a (List.mem_of_mem_take (List.mem_reverse.mp ha)))
      rw [List.reverse_reverse, List.reverse_reverse] at e
      rw [e]; rfl
    rw [eb]; exact r
  obtain ⟨hb1, hb2⟩ := hb1
  have ea : ((oa + (W q (xs.take i)).length : Nat) : Int) - (bk : Int) = ((oa + (W q (xs.take i)).length - bk : Nat) : Int) := by omega
  have eb : ((ob + (W q (ys.take j)).length : Nat) : Int) - (bk : Int) = ((ob + (W q (ys.take j)).length - bk : Nat) : Int) := by omega
  rw [hc] at qq
  generalize oa + (W q (xs.take i)).length = pa at *
  generalize ob + (W q (ys.take j)).length = pb at *
  have stay : ¬ ahead (bk + fo, pa - bk, pb - bk) b → ∀ (h' : Heap) (tk' : Nat) (v u : Value), Fr h L h' (lk ((Str.ofString "size", v) :: (Str.ofString "back", u) :: l)) → News h L h' ((T, triO b t1 t2 t3) :: news) → tk ≤ tk' → Q .next ⟨h', g, d, tk', os⟩ := fun hn h' tk' v u F N ht => by
    have e : stepB b (bk + fo, pa - bk, pb - bk) = b := by unfold stepB; exact if_neg hn
    rw [e] at qq
    exact qq h' tk' _ T t1 t2 t3 F N hT ht (by rw [lk_skip (by decide +kernel), lk_skip (by decide +kernel)]; exact xb) fun z hz => by
      simp only [lgVars, List.mem_cons, not_or] at hz
      rw [lk_skip hz.2.1, lk_skip hz.2.2.1]
  have upd : ahead (bk + fo, pa - bk, pb - bk) b → ∀ (h' : Heap) (tk' : Nat) (v u : Value) (D : Addr) (t1 t2 t3 : Tok) (mid : List (Addr × Obj)), Fr h L h' (lk ((Str.ofString "best", .ref D) :: (Str.ofString "size", v) :: (Str.ofString "back", u) :: l)) →
      News h L h' ((D, tuO #[.int ((bk : Int) + (fo : Int)) t1, .int ((pa : Int) - (bk : Int)) t2, .int ((pb : Int) - (bk : Int)) t3]) :: mid) → (∀ p ∈ news, p ∈ mid) → (∀ p ∈ mid, p.1 < D) → tk ≤ tk' → Q .next ⟨h', g, d, tk', os⟩ := fun hn h' tk' v u D t1 t2 t3 mid F N hm hl ht => by
    have e : stepB b (bk + fo, pa - bk, pb - bk) = (bk + fo, pa - bk, pb - bk) := by unfold stepB; exact if_pos hn
    rw [e] at qq
    rw [ea, eb] at N
    exact qq h' tk' _ D t1 t2 t3 F (fun p hp => (List.mem_cons.mp hp).elim (fun e => N p (by rw [e]; exact .head _)) fun e => N p (.tail _ (hm p e))) (fun p hp => Nat.ne_of_lt (hl p (hm p hp))) ht (by with_unfolding_all rfl) fun z hz => by
      simp only [lgVars, List.mem_cons, not_or] at hz
      rw [lk_skip hz.1, lk_skip hz.2.1, lk_skip hz.2.2.1]
  clear qq hc
  walk_at "my go"
  · rename (b.1 : Int) < _ => hx
    exact upd (.inl (by dsimp only; omega)) _ _ _ _ _ _ _ _ _ F' N' (fun p hp => by simp [hp]) l1 (by dsimp only at *; omega)
  · rename _ = (b.1 : Int) => hx
    rename lexlt _ _ = true => hy
    rw [ea, eb] at hy
    refine upd (.inr ⟨by dsimp only; omega, ?_⟩) _ _ _ _ _ _ _ _ _ F' N' (fun p hp => by simp [hp]) l1 (by dsimp only at *; omega)
    · simp only [lexlt, beq_iff_eq] at hy
      dsimp only
      split at hy
      · split at hy
        · cases hy
        · have := of_decide_eq_true hy; omega
      · have := of_decide_eq_true hy; omega
  · rename _ = (b.1 : Int) => hx
    rename lexlt _ _ = false => hy
    rw [ea, eb] at hy
    refine stay ?_ _ _ _ _ F' (fun p hp => N' p ?_) (by dsimp only at *; omega)
    · simp only [lexlt, beq_iff_eq] at hy
      unfold ahead
      dsimp only
      split at hy
      · split at hy
        · omega
        · have := of_decide_eq_false hy; omega
      · have := of_decide_eq_false hy; omega
    · simp only [List.mem_cons] at hp ⊢
      rcases hp with e | e <;> simp [e]
  · rename _ ≠ (b.1 : Int) => hx
    rename ¬ (b.1 : Int) < _ => hy
    refine stay ?_ _ _ _ _ F' (fun p hp => N' p ?_) (by dsimp only at *; omega)
    · unfold ahead; dsimp only; omega
    · simp only [List.mem_cons] at hp ⊢
      rcases hp with e | e <;> simp [e]

theorem k_range1 {prog : Program} {w : World} {A : Around} {E : Value → Shared → Prop} {h h₀ : Heap} {g : Array GenState} {d : Drawn} {tk : Nat} {os : OsState} {L : Addr} {m : Str → Option Value} {news : List (Addr × Obj)} {n : Int} {t : Tok} {Q : Value → Shared → Prop} (F : Fr h₀ L h m) (N : News h₀ L h news)
    (q : ∀ r h', Fr h₀ L h' m → News h₀ L h' ((r, { cls := .type "range", data := .fields #[.int ((0 : Nat) : Int) tk, .int n t, .int 1 (tk + 1)] }) :: news) → (∀ p ∈ news, p.1 < r) → Q (.ref r) ⟨h', g, d, tk + 1 + 1, os⟩) :
    wpAny (model prog w) A (call (.type "range") [.int n t]) Q E ⟨h, g, d, tk, os⟩ :=
  call_range_1 (q _ _ (F.push _) (N.push F _) fun p hp => Heap.lt_size (N p hp).1)

theorem long_ret {w : World} {A : Around} {h h₁ : Heap} {L : Addr} {g : Array GenState} {d : Drawn} {tk : Nat} {os : OsState} {E : Value → Shared → Prop} {Q : Flow → Shared → Prop} {l : List (Str × Value)} {T : Addr} {r : Tri} {t1 t2 t3 : Tok}
    (hA : A.handled = none) (F : Fr h L h₁ (lk l)) (N : News h L h₁ [(T, triO r t1 t2 t3)]) (hb : lk l (Str.ofString "best") = some (.ref T))
    (qq : ∀ M h' tk', Kp h h' → tk ≤ tk' → h.get? M = none → h'.get? M = some (tuO #[.int (r.2.1 : Int) t2, .int (r.2.2 : Int) t3, .int (r.1 : Int) t1]) → Q (.ret (.ref M)) ⟨h', g, d, tk', os⟩) :
    wpAny (model pw w) A (exec (sAt (fBod (sAt tops 10)) 2) (lgE L)) Q E ⟨h₁, g, d, tk, os⟩ := by
  conv in (sAt (fBod (sAt tops 10)) 2) => whnf
  walk_at "my go"
  exact qq _ _ _ F'.keep (by omega) (N'.fresh (.head _)) (N'.get (.head _))

local macro_rules | `(tactic| walk_at "call type:range") => `(tactic| ((with_reducible refine' k_range1 ?x1 ?x2 ?_); (case x1 => assumption); (case x2 => assumption); intro D' h' F' N' l1))
local macro_rules | `(tactic| walk_at "call builtin:len") => `(tactic| ((with_reducible refine' k_len_list ?x1 ?x2 ?_); (case x1 => walk_at "my list"); (case x2 => walk_at "my size")))
local macro_rules | `(tactic| walk_at "subscriptTail Name Constant ref int") => `(tactic| ((try dsimp only); first
  | ((with_unfolding_all refine' k_item (i := 0) (K2 (Fr.keep (by assumption))) ?sl_z I2 ?_ ?sl_hs ?sl_ht); (case sl_z => walk_at "my size"); (case sl_hs => with_unfolding_all rfl); (case sl_ht => (intro _; with_unfolding_all rfl)))
  | ((with_unfolding_all refine' k_item (i := 0) (K4 (Fr.keep (by assumption))) ?sl_z I4 ?_ ?sl_hs ?sl_ht); (case sl_z => walk_at "my size"); (case sl_hs => with_unfolding_all rfl); (case sl_ht => (intro _; with_unfolding_all rfl)))))

noncomputable def inB (q : Bool) (xs ys : List Nat) (oa ob i : Nat) (b : Tri) (j : Nat) : Tri := ((List.range j).map (candOf q xs ys oa ob i)).foldl stepB b
noncomputable def outB (q : Bool) (xs ys : List Nat) (oa ob i : Nat) : Tri := ((List.range i).flatMap fun i => (List.range (ys.length + 1)).map fun j => candOf q xs ys oa ob i j).foldl stepB (0, oa, ob)
theorem inB_succ (q : Bool) (xs ys : List Nat) (oa ob i : Nat) (b : Tri) (j : Nat) : inB q xs ys oa ob i b (j + 1) = stepB (inB q xs ys oa ob i b j) (candOf q xs ys oa ob i j) := by
  unfold inB; rw [List.range_succ, List.map_append, List.foldl_append]; rfl
theorem outB_succ (q : Bool) (xs ys : List Nat) (oa ob i : Nat) : outB q xs ys oa ob (i + 1) = inB q xs ys oa ob i (outB q xs ys oa ob i) (ys.length + 1) := by
  unfold outB inB; rw [show List.range (i + 1) = List.range i ++ [i] from List.range_succ, List.flatMap_append, List.foldl_append]; simp
theorem long_inner {w : World} {A : Around} {h h₁ : Heap} {L : Addr} {g : Array GenState} {d : Drawn} {tk : Nat} {os : OsState} {E : Value → Shared → Prop} {Q : Flow → Shared → Prop} {mg mb : Str → Option Value} {l : List (Str × Value)} {a1 a2 a3 a4 sz T : Addr} {v1 v2 v3 v4 : Array Value} {xs ys : List Nat} {q : Bool} {i oa ob : Nat} {b : Tri} {ti t1 t2 t3 : Tok} {news : List (Addr × Obj)}
    (X : (K w.params).In h) (X' : TopRead Mine.q (looseW Mine.q loose) mg mb h) (hlim : h.NoLimit) (hD : A.depth < recursionLimit) (hU : A.units + 8 < cLine) (hA : A.handled = none)
    (L1 : h.IsList a1 v1) (L2 : h.IsList a2 v2) (L3 : h.IsList a3 v3) (L4 : h.IsList a4 v4) (e1 : Lets v1 xs) (e2 : Heres q oa v2 xs) (e3 : Lets v3 ys) (e4 : Heres q ob v4 ys) (hs : SizesAt w h sz q) (hsy : (sz == sysModules) = false)
    (hl1 : xs.length < 1000) (hl2 : ys.length < 1000) (ab1 : ∀ a ∈ xs, a ∈ abc) (ab2 : ∀ a ∈ ys, a ∈ abc) (hi : i ≤ xs.length)
    (F : Fr h L h₁ (lk l)) (N : News h L h₁ ((T, triO b t1 t2 t3) :: news))
    (x1 : lk l (Str.ofString "ones") = some (.ref a1)) (x2 : lk l (Str.ofString "here") = some (.ref a2)) (x3 : lk l (Str.ofString "others") = some (.ref a3)) (x4 : lk l (Str.ofString "there") = some (.ref a4)) (x5 : lk l (Str.ofString "sizes") = some (.ref sz))
    (xi : lk l (Str.ofString "i") = some (.int (i : Int) ti)) (xb : lk l (Str.ofString "best") = some (.ref T)) (hT : ∀ p ∈ news, p.1 ≠ T)
    (qq : ∀ h' tk' l' T' t1 t2 t3, Fr h L h' (lk l') → News h L h' ((T', triO (inB q xs ys oa ob i b (ys.length + 1)) t1 t2 t3) :: news) → (∀ p ∈ news, p.1 ≠ T') → tk ≤ tk' → lk l' (Str.ofString "best") = some (.ref T') → (∀ x, x ∉ Str.ofString "j" :: lgVars → lk l' x = lk l x) → Q .next ⟨h', g, d, tk', os⟩) :
    wpAny (model pw w) A (exec (sAt (stBody (sAt (fBod (sAt tops 10)) 1)) 0) (lgE L)) Q E ⟨h₁, g, d, tk, os⟩ := by
  have K4 : ∀ {h' : Heap}, Kp h h' → h'.IsList a4 v4 := fun k => L4.at fun o e => k _ _ e
  have s4 := e4.1
  conv in (sAt _ 0) => whnf
  refine wpAny_For ?_
  walk_at "my go"
  have es : (v4.size : Int) = ((ys.length + 1 : Nat) : Int) := by rw [s4]
  rw [es] at N'
  refine k_iter_range (a := 0) F' N' (.head _) (Nat.zero_le _) (by omega) fun I h3 F3 N3 r3 st => ?_
  refine for_led (x := Str.ofString "j") (fx := []) (oI := { cls := .type "range_iterator", data := .fields #[rawInt ((0 : Nat) : Int), rawInt ((ys.length + 1 - 0 : Nat) : Int), rawInt 1] }) (body := lgIn) (h := h) (Walks.range hA I ((0 : Nat) : Int) 1 (ys.length + 1 - 0))
    (fun t l' news' tk' => ∃ T' t1 t2 t3, news' = (T', triO (inB q xs ys oa ob i b t) t1 t2 t3) :: news ∧ (∀ p ∈ news, p.1 ≠ T') ∧ lk l' (Str.ofString "best") = some (.ref T') ∧ (∀ x, x ∉ Str.ofString "j" :: lgVars → lk l' x = lk l x) ∧ tk ≤ tk')
    (fun b hb => .inl (by simpa using hb)) (by simp) (fun t h' s => ⟨_, s⟩) (fun _ _ _ _ _ p hp => nomatch hp) F3 (news := (T, triO b t1 t2 t3) :: news) (fun p hp => N3 p ?_) (fun p hp => Nat.ne_of_lt (r3 p (.tail _ hp))) st
    ⟨T, t1, t2, t3, rfl, hT, xb, fun _ _ => rfl, by omega⟩ ?_ ?_
  · simp only [List.mem_cons] at hp ⊢
    rcases hp with e | e | e <;> simp [e]
  · rintro t h4 l' news' tk0 tk' v oI' ht ⟨tv, rfl⟩ F4 N4 hne ⟨T', u1, u2, u3, rfl, hT', hb', hx, htk⟩ htk'
    have hie : (((0 : Nat) : Int) + (t : Int) * 1) = ((t : Nat) : Int) := by push_cast; omega
    have hx1 : ∀ x, x ∉ Str.ofString "j" :: lgVars → lk ((Str.ofString "j", Value.int (((0 : Nat) : Int) + (t : Int) * 1) tv) :: l') x = lk l x := fun x hxx => by
      rw [lk_skip (fun e => hxx (by rw [e]; exact .head _)), hx x hxx]
    refine long_turn (i := i) (j := t) (oa := oa) (ob := ob) (b := inB q xs ys oa ob i b t) (q := q) (t1 := u1) (t2 := u2) (t3 := u3) (news := (I, oI') :: news) X X' hlim hD hU hA L1 L2 L3 L4 e1 e2 e3 e4 hs hsy hl1 hl2 ab1 ab2 hi (by omega) F4 (fun p hp => N4 p ?_)
      (by rw [hx1 _ (by decide +kernel)]; exact x1) (by rw [hx1 _ (by decide +kernel)]; exact x2) (by rw [hx1 _ (by decide +kernel)]; exact x3) (by rw [hx1 _ (by decide +kernel)]; exact x4) (by rw [hx1 _ (by decide +kernel)]; exact x5)
      (by rw [hx1 _ (by decide +kernel)]; exact xi) (by rw [hie]; with_unfolding_all rfl) (by rw [lk_skip (by decide +kernel)]; exact hb') (fun p hp => ?_) ?_
    · simp only [List.mem_cons] at hp ⊢
      rcases hp with e | e | e <;> simp [e]
    · rcases List.mem_cons.mp hp with rfl | hp
      · exact fun e => hne _ (.head _) e.symm
      · exact hT' p hp
    · intro h5 tk5 l5 T5 w1 w2 w3 F5 N5 hT5 htk5 hb5 hx5
      rw [← inB_succ] at N5
      refine TurnEnd.next ⟨l5, (T5, triO (inB q xs ys oa ob i b (t + 1)) w1 w2 w3) :: news, F5, fun p hp => N5 p ?_, fun p hp => ?_, T5, w1, w2, w3, rfl, fun p hp => hT5 p (.tail _ hp), hb5, fun x hxx => ?_, by omega⟩
      · simp only [List.mem_cons] at hp ⊢
        rcases hp with e | e | e <;> simp [e]
      · rcases List.mem_cons.mp hp with rfl | hp
        · exact fun e => hT5 _ (.head _) e.symm
        · exact hne p (.tail _ hp)
      · rw [hx5 x (fun e => hxx (.tail _ e)), hx1 x hxx]
  · rintro h4 l' news' tk0 tk' F4 N4 ⟨T', u1, u2, u3, rfl, hT', hb', hx, htk⟩ htk'
    exact qq _ _ l' T' u1 u2 u3 F4 N4 hT' (by omega) hb' hx

noncomputable abbrev lgL (a1 a2 a3 a4 sz T : Addr) : List (Str × Value) := (Str.ofString "best", .ref T) :: [(Str.ofString "ones", .ref a1), (Str.ofString "here", .ref a2), (Str.ofString "others", .ref a3), (Str.ofString "there", .ref a4), (Str.ofString "sizes", .ref sz)].reverse
theorem long_call {w : World} {A : Around} {h : Heap} {g : Array GenState} {d : Drawn} {tk : Nat} {os : OsState} {E : Value → Shared → Prop} {Q : Value → Shared → Prop} {mg mb : Str → Option Value} {a1 a2 a3 a4 sz : Addr} {v1 v2 v3 v4 : Array Value} {xs ys : List Nat} {q : Bool} {oa ob : Nat}
    (X : (K w.params).In h) (X' : TopRead Mine.q (looseW Mine.q loose) mg mb h) (hlim : h.NoLimit) (hD : A.depth + 1 < recursionLimit) (hU : A.units + 16 < cLine) (hA : A.handled = none)
    (L1 : h.IsList a1 v1) (L2 : h.IsList a2 v2) (L3 : h.IsList a3 v3) (L4 : h.IsList a4 v4) (e1 : Lets v1 xs) (e2 : Heres q oa v2 xs) (e3 : Lets v3 ys) (e4 : Heres q ob v4 ys) (hs : SizesAt w h sz q) (hsy : (sz == sysModules) = false)
    (hl1 : xs.length < 1000) (hl2 : ys.length < 1000) (ab1 : ∀ a ∈ xs, a ∈ abc) (ab2 : ∀ a ∈ ys, a ∈ abc)
    (qq : ∀ M h' tk' t1 t2 t3, Kp h h' → tk ≤ tk' → h.get? M = none → h'.get? M = some (tuO #[.int ((longest q xs ys oa ob).2.1 : Int) t1, .int ((longest q xs ys oa ob).2.2 : Int) t2, .int ((longest q xs ys oa ob).1 : Int) t3]) → Q (.ref M) ⟨h', g, d, tk', os⟩) :
    wpAny (model pw w) A (call (.ref 268) [.ref a1, .ref a2, .ref a3, .ref a4, .ref sz]) Q E ⟨h, g, d, tk, os⟩ := by
  refine enter (binds := [(Str.ofString "ones", .ref a1), (Str.ofString "here", .ref a2), (Str.ofString "others", .ref a3), (Str.ofString "there", .ref a4), (Str.ofString "sizes", .ref sz)]) (by omega) (k268 X) (by with_unfolding_all rfl) hlim ?hcd (by rfl) ?hb ?hc ?hl (by kernel_rfl) (by kernel_rfl) (by kernel_rfl) (by kernel_rfl) (by kernel_rfl) (by kernel_rfl) ?hbody
  case hcd => exact ⟨267, _, _, _, rfl, k267 X, rfl, rfl⟩
  case hb => exact BindsTo.of_eq (by rfl)
  case hc => exact (by decide +kernel : ∀ x ∈ (fSco (sAt tops 10)).names, x.2 ≠ .cell)
  case hl => exact locs (by kernel_rfl)
  case hbody =>
    dsimp only [List.length_cons, List.length_nil]
    intro h₁ F
    have N : News h h.objs.size h₁ [] := News.nil
    have K1 : ∀ {h' : Heap}, Kp h h' → h'.IsList a1 v1 := fun k => L1.at fun o e => k _ _ e
    have K2 : ∀ {h' : Heap}, Kp h h' → h'.IsList a2 v2 := fun k => L2.at fun o e => k _ _ e
    have K3 : ∀ {h' : Heap}, Kp h h' → h'.IsList a3 v3 := fun k => L3.at fun o e => k _ _ e
    have K4 : ∀ {h' : Heap}, Kp h h' → h'.IsList a4 v4 := fun k => L4.at fun o e => k _ _ e
    have s1 := e1.1
    have s2 := e2.1
    have s3 := e3.1
    have s4 := e4.1
    obtain ⟨ti2, I2⟩ := e2.2 0 (Nat.zero_le _)
    obtain ⟨tj2, I4⟩ := e4.2 0 (Nat.zero_le _)
    have eB : fBod (sAt tops 10) = sAt (fBod (sAt tops 10)) 0 :: sAt (fBod (sAt tops 10)) 1 :: sAt (fBod (sAt tops 10)) 2 :: [] := by kernel_rfl
    rw [eB]
    conv in (sAt (fBod (sAt tops 10)) 0) => whnf
    walk_at "my go"
    have ez : ∀ l : List Nat, oa + (W q (l.take 0)).length = oa := fun l => by simp [W]
    have ez' : ∀ l : List Nat, ob + (W q (l.take 0)).length = ob := fun l => by simp [W]
    rw [ez, ez'] at N'
    rename Addr => T0
    conv in (sAt (fBod (sAt tops 10)) 1) => whnf
    refine wpAny_For ?_
    walk_at "my go"
    have es : (v2.size : Int) = ((xs.length + 1 : Nat) : Int) := by rw [s2]
    rw [es] at N'
    refine k_iter_range (a := 0) F' N' (.head _) (Nat.zero_le _) (by omega) fun I h3 F3 N3 r3 st => ?_
    obtain ⟨l0, hl0⟩ : ∃ l0, l0 = lgL a1 a2 a3 a4 sz T0 := ⟨_, rfl⟩
    have F0 : Fr h h.objs.size h3 (lk l0) := by rw [hl0]; exact F3
    have y1 : lk l0 (Str.ofString "ones") = some (.ref a1) := by rw [hl0]; with_unfolding_all rfl
    have y2 : lk l0 (Str.ofString "here") = some (.ref a2) := by rw [hl0]; with_unfolding_all rfl
    have y3 : lk l0 (Str.ofString "others") = some (.ref a3) := by rw [hl0]; with_unfolding_all rfl
    have y4 : lk l0 (Str.ofString "there") = some (.ref a4) := by rw [hl0]; with_unfolding_all rfl
    have y5 : lk l0 (Str.ofString "sizes") = some (.ref sz) := by rw [hl0]; with_unfolding_all rfl
    have y6 : lk l0 (Str.ofString "best") = some (.ref T0) := by rw [hl0]; with_unfolding_all rfl
    clear hl0 F3 F'
    have ho0 : outB q xs ys oa ob 0 = (0, oa, ob) := rfl
    have N0 : ∃ t0, News h h.objs.size h3 [(I, { cls := .type "range_iterator", data := .fields #[rawInt ((0 : Nat) : Int), rawInt ((xs.length + 1 - 0 : Nat) : Int), rawInt 1] }), (T0, triO (outB q xs ys oa ob 0) t0 ti2 tj2)] := by
      rw [ho0]
      exact ⟨_, fun p hp => N3 p (by
        simp only [List.mem_cons, List.not_mem_nil, or_false] at hp ⊢
        rcases hp with e | e
        · exact .inl e
        · exact .inr (.inr e))⟩
    obtain ⟨t0, N0⟩ := N0
    have r0 : T0 < I := r3 (T0, _) (.tail _ (.head _))
    clear N3 N'
    have hA' : (A.deeper (envOf (Str.ofString "_law_longest") (fSco (sAt tops 10)) h.objs.size 268 (.ref 267))).handled = none := hA
    refine for_led (x := Str.ofString "i") (fx := []) (oI := { cls := .type "range_iterator", data := .fields #[rawInt ((0 : Nat) : Int), rawInt ((xs.length + 1 - 0 : Nat) : Int), rawInt 1] }) (h := h) (Walks.range hA' I ((0 : Nat) : Int) 1 (xs.length + 1 - 0))
      (fun t l' news' tk' => ∃ T' t1 t2 t3, news' = [(T', triO (outB q xs ys oa ob t) t1 t2 t3)] ∧ lk l' (Str.ofString "best") = some (.ref T') ∧ (∀ x, x ∉ Str.ofString "i" :: Str.ofString "j" :: lgVars → lk l' x = lk l0 x) ∧ tk ≤ tk')
      (fun b hb => .inl (by simpa using hb)) (by simp) (fun t h' s => ⟨_, s⟩) (fun _ _ _ _ _ p hp => nomatch hp) F0 (news := [(T0, triO (outB q xs ys oa ob 0) t0 ti2 tj2)]) N0 (fun p hp => by rw [List.mem_singleton.mp hp]; exact Nat.ne_of_lt r0) st
      ⟨T0, t0, ti2, tj2, rfl, y6, fun _ _ => rfl, by omega⟩ ?_ ?_
    · rintro t h4 l' news' tk0 tk' v oI' ht ⟨tv, rfl⟩ F4 N4 hne ⟨T', u1, u2, u3, rfl, hb', hx, htk⟩ htk'
      have hie : (((0 : Nat) : Int) + (t : Int) * 1) = ((t : Nat) : Int) := by push_cast; omega
      have hx1 : ∀ x, x ∉ Str.ofString "i" :: Str.ofString "j" :: lgVars → lk ((Str.ofString "i", Value.int (((0 : Nat) : Int) + (t : Int) * 1) tv) :: l') x = lk l0 x := fun x hxx => by
        rw [lk_skip (fun e => hxx (by rw [e]; exact .head _)), hx x hxx]
      have eB2 : stBody (sAt (fBod (sAt tops 10)) 1) = [sAt (stBody (sAt (fBod (sAt tops 10)) 1)) 0] := by kernel_rfl
      show wpAny _ _ (execs (stBody (sAt (fBod (sAt tops 10)) 1)) (lgE h.objs.size)) _ _ _
      rw [eB2]
      refine x_cons ?_
      refine long_inner (i := t) (oa := oa) (ob := ob) (b := outB q xs ys oa ob t) (q := q) (t1 := u1) (t2 := u2) (t3 := u3) (news := [(I, oI')]) X X' hlim hD (by show A.units + 3 + 8 < _; omega) hA' L1 L2 L3 L4 e1 e2 e3 e4 hs hsy hl1 hl2 ab1 ab2 (by omega) F4 (fun p hp => N4 p ?_)
        (by rw [hx1 _ (by decide +kernel)]; exact y1) (by rw [hx1 _ (by decide +kernel)]; exact y2) (by rw [hx1 _ (by decide +kernel)]; exact y3) (by rw [hx1 _ (by decide +kernel)]; exact y4) (by rw [hx1 _ (by decide +kernel)]; exact y5)
        (by rw [hie]; with_unfolding_all rfl) (by rw [lk_skip (by decide +kernel)]; exact hb') (fun p hp => ?_) ?_
      · simp only [List.mem_cons, List.not_mem_nil, or_false] at hp ⊢
        rcases hp with e | e <;> simp [e]
      · rw [List.mem_singleton.mp hp]
        exact fun e => hne _ (.head _) e.symm
      · intro h5 tk5 l5 T5 w1 w2 w3 F5 N5 hT5 htk5 hb5 hx5
        rw [← outB_succ] at N5
        refine c_next (wpAny_execs_nil (TurnEnd.next ⟨l5, [(T5, triO (outB q xs ys oa ob (t + 1)) w1 w2 w3)], F5, fun p hp => N5 p ?_, fun p hp => ?_, T5, w1, w2, w3, rfl, hb5, fun x hxx => ?_, by omega⟩))
        · simp only [List.mem_cons, List.not_mem_nil, or_false] at hp ⊢
          rcases hp with e | e <;> simp [e]
        · rw [List.mem_singleton.mp hp]
          exact fun e => hT5 _ (.head _) e.symm
        · rw [hx5 x (fun e => hxx (.tail _ e)), hx1 x hxx]
    · rintro h4 l' news' tk0 tk' F4 N4 ⟨T', u1, u2, u3, rfl, hb', hx, htk⟩ htk'
      have er : outB q xs ys oa ob (xs.length + 1 - 0) = longest q xs ys oa ob := by rw [Nat.sub_zero]; unfold outB longest candsOf; rfl
      rw [er] at N4
      refine c_next (x_cons (long_ret hA' F4 N4 hb' fun M h5 tk5 k5 htk5 hM hM' => c_ret ?_))
      exact qq M h5 tk5 _ _ _ k5 (by omega) hM hM'

end
theorem k_sum {prog : Program} {w : World} {A : Around} {E : Value → Shared → Prop} {h : Heap} {g : Array GenState} {d : Drawn} {tk : Nat} {os : OsState} {l : Addr} {vs : List Value} {ns : List Int} {Q : Value → Shared → Prop} (hA : A.handled = none) (hl : h.IsList l vs.toArray) (hi : IntsAre vs ns)
    (q : ∀ h' tk' t, Kp h h' → tk ≤ tk' → Q (.int ns.sum t) ⟨h', g, d, tk', os⟩) : wpAny (model prog w) A (call (.builtin "sum") [.ref l]) Q E ⟨h, g, d, tk, os⟩ := by
  obtain ⟨xs, e⟩ := hi.allInts.items
  have en : xs.toList.map (·.1) = ns := by
    rw [← nums_intItems xs, ← e, show vs.toArray.toList = vs from rfl, hi.numsOf]
  rw [e] at hl
  refine wpAny_with_toks (n := tk) (Nat.le_refl _) (sum_intListG hA hl fun h' tk' t k htk => ?_)
  have := q h' tk' t k htk
  rw [preSum_eq, List.take_of_length_le (by simp), en]
  exact this

section dicts
variable {w : World} {A : Around} {E : Value → Shared → Prop} {h h₀ : Heap} {g : Array GenState} {d : Drawn} {tk : Nat} {os : OsState} {L : Addr} {m : Str → Option Value} {news : List (Addr × Obj)} {env : Env} {prog : Program}
theorem pairs_cons {k : Str} {i : Int} {n1 n2 : Nat} {p1 p2 pos : Pos} {rest : List (Sem Value × Sem Value)} {Q : List (Value × Value) → Shared → Prop}
    (q : wpAny (model prog w) A (evalPairs rest) (fun vs s₃ => Q ((.str k tk, .int i (tk + 1)) :: vs) s₃) E ⟨h, g, d, tk + 1 + 1, os⟩) :
    wpAny (model prog w) A (evalPairs ((eval (.Constant (.str k) n1 p1) env, do let x ← eval (.Constant (.int i) n2 p2) env; standAt pos; pure x) :: rest)) Q E ⟨h, g, d, tk, os⟩ :=
  evalPairs_cons (k_str (wpAny_bind (k_int (wpAny_bind (wpAny_standAt (wpAny_pure q))))))
theorem dict_new {kvs : List (Str × Value)} {h1 h' : Heap} (F : Fr h₀ L h m) (N : News h₀ L h news) (hn : (kvs.map (·.1)).Nodup) (e1 : h1 = h.push { cls := .type "dict", data := .dict #[] })
    (hd : h'.DictOf (strKind prog w) h.objs.size (merged [] kvs)) (hs : Heap.SameBut h.objs.size h1 h') : Fr h₀ L h' m ∧ ∃ o, News h₀ L h' ((h.objs.size, o) :: news) ∧ o.IsDictOf (strKind prog w) kvs := by
  subst e1
  rw [merged_nil_of_nodup _ hn] at hd
  obtain ⟨o, ho, hi⟩ := Heap.dictOf_iff.mp hd
  have N1 := N.push F { cls := .type "dict", data := .dict #[] }
  have F1 := F.push { cls := .type "dict", data := .dict #[] }
  have hL := (N1 _ (.head _)).2.1
  have h0 := (N1 _ (.head _)).2.2
  refine ⟨F1.change hs hL h0, o, fun p hp => ?_, hi⟩
  rcases List.mem_cons.mp hp with rfl | hp
  · exact ⟨ho, hL, h0⟩
  · have hne : p.1 ≠ h.objs.size := Nat.ne_of_lt (Heap.lt_size (N p hp).1)
    exact ⟨hs.extBut _ _ hne (N1 p (.tail _ hp)).1, (N p hp).2⟩
theorem e_dict3 {k1 k2 k3 : Str} {i1 i2 i3 : Int} {n1 n2 n3 n4 n5 n6 : Nat} {p1 p2 p3 p4 p5 p6 pos : Pos} {Q : Value → Shared → Prop} (F : Fr h₀ L h m) (N : News h₀ L h news) (hn : [k1, k2, k3].Nodup)
    (q : ∀ D h' o tk' t1 t2 t3, Fr h₀ L h' m → News h₀ L h' ((D, o) :: news) → o.IsDictOf (strKind prog w) [(k1, .int i1 t1), (k2, .int i2 t2), (k3, .int i3 t3)] → (∀ p ∈ news, p.1 < D) → tk ≤ tk' → Q (.ref D) ⟨h', g, d, tk', os⟩) :
    wpAny (model prog w) A (eval (.Dict [some (.Constant (.str k1) n1 p1), some (.Constant (.str k2) n2 p2), some (.Constant (.str k3) n3 p3)] [.Constant (.int i1) n4 p4, .Constant (.int i2) n5 p5, .Constant (.int i3) n6 p6] pos) env) Q E ⟨h, g, d, tk, os⟩ := by
  refine wpAny_Dict_pairs (knd := strKind prog w) (pairs := [(eval (.Constant (.str k1) n1 p1) env, do let x ← eval (.Constant (.int i1) n4 p4) env; standAt pos; pure x), (eval (.Constant (.str k2) n2 p2) env, do let x ← eval (.Constant (.int i2) n5 p5) env; standAt pos; pure x), (eval (.Constant (.str k3) n3 p3) env, do let x ← eval (.Constant (.int i3) n6 p6) env; standAt pos; pure x)]) rfl (by simp) (by simp) ?_
  refine pairs_cons (pairs_cons (pairs_cons (evalPairs_nil ⟨[(k1, _), (k2, _), (k3, _)], ⟨strKind_is _ _ _ _, rfl, strKind_is _ _ _ _, rfl, strKind_is _ _ _ _, rfl, trivial⟩, ?_, fun h' hd hs => ?_⟩)))
  · exact Heap.dictOf_iff.mpr ⟨_, Heap.get?_push_size _ rfl, ⟨#[], 0, ⟨rfl, rfl, rfl⟩, rfl, fun e he => by simp at he, .nil, List.nodup_nil⟩⟩
  · obtain ⟨F', o, N', hi⟩ := dict_new F N (by simpa using hn) rfl hd hs
    exact q _ h' o _ _ _ _ F' N' hi (fun p hp => Heap.lt_size (N p hp).1) (by simp only [List.length_cons, List.length_nil]; omega)
theorem e_dict2 {k1 k2 : Str} {i1 i2 : Int} {n1 n2 n4 n5 : Nat} {p1 p2 p4 p5 pos : Pos} {Q : Value → Shared → Prop} (F : Fr h₀ L h m) (N : News h₀ L h news) (hn : [k1, k2].Nodup)
    (q : ∀ D h' o tk' t1 t2, Fr h₀ L h' m → News h₀ L h' ((D, o) :: news) → o.IsDictOf (strKind prog w) [(k1, .int i1 t1), (k2, .int i2 t2)] → (∀ p ∈ news, p.1 < D) → tk ≤ tk' → Q (.ref D) ⟨h', g, d, tk', os⟩) :
    wpAny (model prog w) A (eval (.Dict [some (.Constant (.str k1) n1 p1), some (.Constant (.str k2) n2 p2)] [.Constant (.int i1) n4 p4, .Constant (.int i2) n5 p5] pos) env) Q E ⟨h, g, d, tk, os⟩ := by
  refine wpAny_Dict_pairs (knd := strKind prog w) (pairs := [(eval (.Constant (.str k1) n1 p1) env, do let x ← eval (.Constant (.int i1) n4 p4) env; standAt pos; pure x), (eval (.Constant (.str k2) n2 p2) env, do let x ← eval (.Constant (.int i2) n5 p5) env; standAt pos; pure x)]) rfl (by simp) (by simp) ?_
  refine pairs_cons (pairs_cons (evalPairs_nil ⟨[(k1, _), (k2, _)], ⟨strKind_is _ _ _ _, rfl, strKind_is _ _ _ _, rfl, trivial⟩, ?_, fun h' hd hs => ?_⟩))
  · exact Heap.dictOf_iff.mpr ⟨_, Heap.get?_push_size _ rfl, ⟨#[], 0, ⟨rfl, rfl, rfl⟩, rfl, fun e he => by simp at he, .nil, List.nodup_nil⟩⟩
  · obtain ⟨F', o, N', hi⟩ := dict_new F N (by simpa using hn) rfl hd hs
    exact q _ h' o _ _ _ F' N' hi (fun p hp => Heap.lt_size (N p hp).1) (by simp only [List.length_cons, List.length_nil]; omega)
theorem k_update {own rest : List (Addr × Obj)} {D D2 : Addr} {o o2 : Obj} {kvs more : List (Str × Value)} {Q : Value → Shared → Prop} (F : Fr h₀ L h m) (N : News h₀ L h (own ++ (D, o) :: rest)) (h1 : ∀ p ∈ own, p.1 ≠ D) (h2 : ∀ p ∈ rest, p.1 ≠ D) (hd : o.IsDictOf (strKind prog w) kvs)
    (g2 : h.get? D2 = some o2) (hd2 : o2.IsDictOf (strKind prog w) more) (hne : D ≠ D2) (lo : (D2 == sysModules) = false) (hsz : kvs.length + more.length ≤ 1000)
    (q : ∀ h' o', Fr h₀ L h' m → News h₀ L h' (own ++ (D, o') :: rest) → o'.IsDictOf (strKind prog w) (merged kvs more) → Q .none ⟨h', g, d, tk, os⟩) :
    wpAny (model prog w) A (call (.builtin "dict.update") [.ref D, .ref D2]) Q E ⟨h, g, d, tk, os⟩ := by
  have hm := N (D, o) (List.mem_append_right _ (.head _))
  have hD : h.DictOf (strKind prog w) D kvs := Heap.dictOf_iff.mpr ⟨o, hm.1, hd⟩
  have hD2 : h.DictOf (strKind prog w) D2 more := Heap.dictOf_iff.mpr ⟨o2, g2, hd2⟩
  refine call_meetsIn (s := ⟨h, g, d, tk, os⟩) PySem.F.slot_dict_update hD.typeIs PySem.F.entry_dict_update (PySem.F.args_dict_update_2 _ _) (meets_dict_update (strKind prog w) D D2 hne lo)
    ⟨kvs, more, hD, hD2, (by rw [sizeLine_eq]; omega), fun h' hmm _ hs => ?_⟩
  obtain ⟨o', ho', hd'⟩ := Heap.dictOf_iff.mp hmm
  exact q h' o' (F.change hs hm.2.1 hm.2.2) (N.setIn h1 h2 hs ho') hd'
end dicts

/-- an object that is a list -/
noncomputable def LiO (o : Obj) (ys : Array Value) : Prop := o.cls = .type "list" ∧ ∃ n, o.data = .seq ys n
theorem LiO.at {o : Obj} {ys : Array Value} {h : Heap} {D : Addr} (s : LiO o ys) (e : h.get? D = some o) : h.IsList D ys := ⟨o, e, s.1, s.2⟩
theorem filter_true (l : List Value) : l.filter (fun _ => true) = l := List.filter_eq_self.mpr fun _ _ => rfl
/-- y = [elt for x in iter] where x is a list and no name is captured -/
theorem k_comp {prog : Program} {w : World} {A : Around} {E : Value → Shared → Prop} {h h₀ : Heap} {g : Array GenState} {d : Drawn} {tk : Nat} {os : OsState} {L f : Addr} {qual : Str} {sc : Scope} {cd : Value} {l : List (Str × Value)} {Q : Flow → Shared → Prop}
    {elt iter : PySem.Expr} {x y : Str} {px py : Pos} {scope : Scope} {pos spos : Pos} (Fv : Value → Value → Prop) (hA : A.handled = none)
    (q : wpAny (model prog w) A (eval iter (envOf qual sc L f cd)) (fun xv s₁ => ∃ ax items h1 tk1 news1, xv = .ref ax ∧ s₁ = ⟨h1, g, d, tk1, os⟩ ∧ Fr h₀ L h1 (lk l) ∧ News h₀ L h1 news1 ∧ h1.IsList ax items ∧ items.size ≤ 1000000 ∧
      (∀ C v h2 g2 d2 tk2 os2 m2 E', v ∈ items → h2.Ns C m2 → m2 x = some v → wpAny (model prog w) A (eval elt (compEnv scope C (envOf qual sc L f cd))) (fun y s₃ => Fv v y ∧ ∃ tk3, s₃ = ⟨h2, g2, d2, tk3, os2⟩) E' ⟨h2, g2, d2, tk2, os2⟩) ∧
      (∀ D oD h' tk' ys, tk ≤ tk' → Fr h₀ L h' (lk ((y, .ref D) :: l)) → News h₀ L h' ((D, oD) :: news1) → (∀ p ∈ news1, p.1 ≠ D) → LiO oD ys → Paired Fv items.toList ys.toList → Q .next ⟨h', g, d, tk', os⟩)) E ⟨h, g, d, tk, os⟩)
    (hsw : swapsWith (.ListComp elt [⟨.Name x px, iter, [], 0⟩] scope pos) (some (.Name y py)) spos.line (envOf qual sc L f cd) = pure true := by kernel_rfl)
    (hfree : scope.names.all (fun z => z.2 != .free) = true := by kernel_rfl) (hcell : scope.names.all (fun z => z.2 != .cell) = true := by kernel_rfl) (hkind : scope.kind = .function := by kernel_rfl)
    (hnames : scope.names.all (fun z => z.2 != .local || scope.names.lookup z.1 == some .local) = true := by kernel_rfl) (hx : scope.names.lookup x = some .local := by kernel_rfl)
    (hy : (envOf qual sc L f cd).kindOf y = some .local := by kernel_rfl) (hk : sc.kind = .function := by kernel_rfl) (hs : ∀ x, foldedSetIterable iter (envOf qual sc L f cd) x = pure x := by intro _; rfl) :
    wpAny (model prog w) A (exec (.Assign [.Name y py] (.ListComp elt [⟨.Name x px, iter, [], 0⟩] scope pos) spos) (envOf qual sc L f cd)) Q E ⟨h, g, d, tk, os⟩ := by
  refine wpAny_with_toks (n := tk) (Nat.le_refl _) ?_
  refine wpAny_Assign_ListComp_map (fun _ => true) Fv hsw hA (fun z hz => by simpa using List.all_eq_true.mp hfree z hz) (fun z hz => by simpa using List.all_eq_true.mp hcell z hz) hkind (fun z hz hl => ?_) hx hy (by show (sc.kind == .class || (sc.kind == .module && _)) = false; rw [hk]; rfl) (wpAny_mono q (fun xv s₁ hq => ?_) fun _ _ e => ?_) hs
  · have := List.all_eq_true.mp hnames z hz
    simp only [hl, bne_self_eq_false, Bool.false_or, beq_iff_eq] at this
    exact this
  · obtain ⟨ax, items, h1, tk1, news1, rfl, rfl, F1, N1, hl1, hsz, helt, hQ⟩ := hq
    refine ⟨ax, items, lk l, rfl, hl1, by rw [sizeLine_eq]; omega, F1.ns, fun C v s₂ m₂ E' hv hn hm hk => wpAny_tests_nil ⟨rfl, s₂.heap, s₂.toks, rfl, fun _ _ e => e⟩, fun C v s₂ m₂ E' hv _ hn hm hk => ?_, fun D h' tk' ys hD hl' hP hns hkeep htk => ?_⟩
    · obtain ⟨h2, g2, d2, tk2, os2⟩ := s₂
      refine wpAny_mono (helt C v h2 g2 d2 tk2 os2 m₂ E' hv hn hm) (fun y s₃ hy => ?_) fun _ _ e => e
      obtain ⟨hF, tk3, rfl⟩ := hy
      exact ⟨hF, h2, tk3, rfl, fun _ _ e => e⟩
    · obtain ⟨oD, hoD, hc, n, hd⟩ := hl'
      have hLs : ∃ o, h1.get? L = some o := let ⟨o, _, _, ho, _⟩ := F1.ns; ⟨o, ho⟩
      obtain ⟨oL, hoL⟩ := hLs
      have hDL : D ≠ L := fun e => by
        have hD' : h1.get? D = none := hD
        rw [e, hoL] at hD'; cases hD'
      have hD0 : h₀.get? D = none := by
        cases e : h₀.get? D with
        | none => rfl
        | some o => have hD' : h1.get? D = none := hD; rw [F1.keep D o e] at hD'; cases hD'
      have hb0 : ∀ b o, h₀.get? b = some o → b ≠ L := fun b o e q => by
        exact Nat.ne_of_lt (Nat.lt_of_lt_of_le (Heap.lt_size e) F1.above) q
      refine hQ D oD h' tk' ys htk ⟨?_, fun b o e => hkeep b o (hb0 b o e) (F1.keep b o e), F1.above⟩ (fun p hp => ?_) (fun p hp e => ?_) ⟨hc, n, hd⟩ (filter_true items.toList ▸ hP)
      · rw [← lk_cons]; exact hns
      · rcases List.mem_cons.mp hp with rfl | hp
        · exact ⟨hoD, hDL, hD0⟩
        · exact ⟨hkeep _ _ (N1 p hp).2.1 (N1 p hp).1, (N1 p hp).2⟩
      · have hD' : h1.get? D = none := hD
        rw [← e, (N1 p hp).1] at hD'; cases hD'
  · exact fun _ => e

section
local macro_rules | `(tactic| walk_at "eval Dict") => `(tactic| first
  | ((with_reducible refine' e_dict3 ?x1 ?x2 ?x3 ?_); (case x1 => assumption); (case x2 => assumption); (case x3 => decide +kernel); intro D' h' oD' tk' t1' t2' t3' F' N' i' l1 htk')
  | ((with_reducible refine' e_dict2 ?x1 ?x2 ?x3 ?_); (case x1 => assumption); (case x2 => assumption); (case x3 => decide +kernel); intro D2' h' oD2' tk' t4' t5' F' N' i2' l1 htk2'))
local macro_rules | `(tactic| walk_at "callWith") => `(tactic| ((with_reducible refine' callWith_method1 ?q ?he ?hp); (case he => kernel_rfl); (case hp => kernel_rfl)))

noncomputable abbrev lwS (i : Nat) : Stmt := sAt (fBod (sAt tops 11)) i
noncomputable abbrev lwE (L fa : Addr) (cd : Value) : Env := envOf (Str.ofString "law") (fSco (sAt tops 11)) L fa cd
theorem law_0 {w : World} {A : Around} {h h₁ : Heap} {L fa sc : Addr} {cd : Value} {g : Array GenState} {d : Drawn} {tk : Nat} {os : OsState} {E : Value → Shared → Prop} {Q : Flow → Shared → Prop} {mg mb : Str → Option Value} {l : List (Str × Value)} {vs : List Value} {ns : List Int} {news : List (Addr × Obj)}
    (hA : A.handled = none) (X : (K w.params).In h) (X' : TopRead Mine.q (looseW Mine.q loose) mg mb h) (F : Fr h L h₁ (lk l)) (N : News h L h₁ news) (L1 : h.IsList sc vs.toArray) (I : IntsAre vs ns) (hn : ns.length ≤ 63)
    (x1 : lk l (Str.ofString "script") = some (.ref sc))
    (qq : ∀ h' tk', Fr h L h' (lk ((Str.ofString "quote", .bool (ns.sum.fmod 2 == 0)) :: l)) → News h L h' news → tk ≤ tk' → Q .next ⟨h', g, d, tk', os⟩) :
    wpAny (model pw w) A (exec (lwS 0) (lwE L fa cd)) Q E ⟨h₁, g, d, tk, os⟩ := by
  have K1 : ∀ {h' : Heap}, Kp h h' → h'.IsList sc vs.toArray := fun k => L1.at fun o e => k _ _ e
  conv in (lwS 0) => whnf
  walk_at "my go"
  refine k_sum hA (K1 F.keep) I fun h2 tk2 t2 k2 htk2 => ?_
  have F2 := F.keeps k2
  have N2 := N.grown k2
  clear F N
  walk_at "my go"
  exact qq _ _ F' N' (by dsimp only; omega)
noncomputable def SizesO (w : World) (q : Bool) (o : Obj) : Prop := ∃ kv : List (Str × Value), o.IsDictOf (strKind pw w) kv ∧ ∀ c, (ref q c = true ∧ ∃ t, valueAt kv (St [c]) = some (.int ((wr q c).length : Int) t)) ∨ (ref q c = false ∧ valueAt kv (St [c]) = none)
theorem SizesO.at {w : World} {q : Bool} {o : Obj} {h : Heap} {D : Addr} (s : SizesO w q o) (e : h.get? D = some o) : SizesAt w h D q :=
  let ⟨kv, hd, r⟩ := s
  ⟨kv, Heap.dictOf_iff.mpr ⟨o, e, hd⟩, r⟩
theorem St1_eq (a c : Nat) : (St [a] = St [c]) ↔ a = c := ⟨St1_inj, fun e => by rw [e]⟩
theorem valueAt_cons {k k' : Str} {v : Value} {kv : List (Str × Value)} : valueAt ((k', v) :: kv) k = if k' = k then some v else valueAt kv k := by
  unfold valueAt
  by_cases h : k' = k <;> simp [h]
theorem sizes_f {w : World} {o : Obj} {t1 t2 t3 : Tok} (hi : o.IsDictOf (strKind pw w) [(St [38], .int 5 t1), (St [60], .int 4 t2), (St [62], .int 4 t3)]) : SizesO w false o := by
  refine ⟨_, hi, fun c => ?_⟩
  simp only [valueAt_cons, St1_eq]
  by_cases h1 : 38 = c
  · subst h1; exact .inl ⟨rfl, t1, rfl⟩
  by_cases h2 : 60 = c
  · subst h2; exact .inl ⟨rfl, t2, rfl⟩
  by_cases h3 : 62 = c
  · subst h3; exact .inl ⟨rfl, t3, rfl⟩
  refine .inr ⟨?_, by rw [if_neg h1, if_neg h2, if_neg h3]; rfl⟩
  have h1 : c ≠ 38 := fun e => h1 e.symm
  have h2 : c ≠ 60 := fun e => h2 e.symm
  have h3 : c ≠ 62 := fun e => h3 e.symm
  simp [ref, h1, h2, h3]
theorem sizes_t {w : World} {o : Obj} {t1 t2 t3 t4 t5 : Tok} (hi : o.IsDictOf (strKind pw w) (merged [(St [38], .int 5 t1), (St [60], .int 4 t2), (St [62], .int 4 t3)] [(St [34], .int 6 t4), (St [39], .int 6 t5)])) : SizesO w true o := by
  rw [merged_append_of_fresh _ _ (by simp only [List.cons_append, List.nil_append, List.map_cons, List.map_nil]; decide)] at hi
  refine ⟨_, hi, fun c => ?_⟩
  simp only [List.cons_append, List.nil_append, valueAt_cons, St1_eq]
  by_cases h1 : 38 = c
  · subst h1; exact .inl ⟨rfl, t1, rfl⟩
  by_cases h2 : 60 = c
  · subst h2; exact .inl ⟨rfl, t2, rfl⟩
  by_cases h3 : 62 = c
  · subst h3; exact .inl ⟨rfl, t3, rfl⟩
  by_cases h4 : 34 = c
  · subst h4; exact .inl ⟨rfl, t4, rfl⟩
  by_cases h5 : 39 = c
  · subst h5; exact .inl ⟨rfl, t5, rfl⟩
  refine .inr ⟨?_, by rw [if_neg h1, if_neg h2, if_neg h3, if_neg h4, if_neg h5]; rfl⟩
  have h1 : c ≠ 38 := fun e => h1 e.symm
  have h2 : c ≠ 60 := fun e => h2 e.symm
  have h3 : c ≠ 62 := fun e => h3 e.symm
  have h4 : c ≠ 34 := fun e => h4 e.symm
  have h5 : c ≠ 39 := fun e => h5 e.symm
  simp [ref, h1, h2, h3, h4, h5]
local macro_rules | `(tactic| walk_at "call builtin:dict.update") => `(tactic| (
  have g2' := N'.get (a := D2') (o := oD2') (.head _)
  have s2' := hsy D2' (N' (D2', oD2') (.head _)).2.2
  have l2' := l1 (D', oD') (.head _)
  with_reducible refine' k_update (own := [(D2', oD2')]) (rest := news) (kvs := [(St [38], .int 5 t1'), (St [60], .int 4 t2'), (St [62], .int 4 t3')]) F' ?xN ?x1 ?x2 i' g2' i2' (Nat.ne_of_lt l2') s2' ?x3 ?_
  case xN => exact N'
  case x1 => (intro p hp; rw [List.mem_singleton.mp hp]; exact Nat.ne_of_gt l2')
  case x2 => exact fun p hp => Nat.ne_of_lt (hlt p hp)
  case x3 => simp
  intro h' oD3' F' N' i3'))
theorem law_12 {w : World} {A : Around} {h h₁ : Heap} {L fa : Addr} {cd : Value} {g : Array GenState} {d : Drawn} {tk : Nat} {os : OsState} {E : Value → Shared → Prop} {Q : Flow → Shared → Prop} {l : List (Str × Value)} {q : Bool} {news : List (Addr × Obj)} {rest : List Stmt}
    (hA : A.handled = none) (F : Fr h L h₁ (lk l)) (N : News h L h₁ news) (hsy : ∀ a, h.get? a = none → (a == sysModules) = false)
    (x1 : lk l (Str.ofString "quote") = some (.bool q))
    (qq : ∀ h' tk' D o, Fr h L h' (lk ((Str.ofString "sizes", .ref D) :: l)) → News h L h' ((D, o) :: news) → SizesO w q o → tk ≤ tk' → wpAny (model pw w) A (execs rest (lwE L fa cd)) Q E ⟨h', g, d, tk', os⟩) :
    wpAny (model pw w) A (execs (lwS 1 :: lwS 2 :: rest) (lwE L fa cd)) Q E ⟨h₁, g, d, tk, os⟩ := by
  refine x_cons ?_
  conv in (lwS 1) => whnf
  walk_at "my go"
  have c1 : Str.ofString "&" = St [38] := by decide +kernel
  have c2 : Str.ofString "<" = St [60] := by decide +kernel
  have c3 : Str.ofString ">" = St [62] := by decide +kernel
  rw [c1, c2, c3] at i'
  have ltk := htk'
  have hlt := l1
  conv in (lwS 2) => whnf
  walk_at "my go"
  · rename q = true => hq
    subst hq
    have hdo : h'.DictOf (strKind pw w) D' _ := Heap.dictOf_iff.mpr ⟨oD', N'.get (.head _), i'⟩
    have hty : Shared.TypeIs ⟨h', g, d, tk' + 1, os⟩ (.ref D') "dict" := hdo.mapOf.typeIs
    have hno := hdo.mapOf.noDict
    with_reducible refine' getMethod_builtin (T := "dict") ?y1 PySem.F.plainAttrs_dict PySem.F.slot_dict_update PySem.F.type_dict_update ?y2 ?_
    case y1 => exact hty
    case y2 => exact hno
    walk_at "my go"
    have c4 : Str.ofString "\"" = St [34] := by decide +kernel
    have c5 : Str.ofString "'" = St [39] := by decide +kernel
    rw [c4, c5] at i3'
    exact qq _ _ _ _ F' (fun p hp => N' p (List.mem_append_right _ hp)) (sizes_t i3') (by omega)
  · rename q = false => hq
    subst hq
    exact qq _ _ _ _ F' N' (sizes_f i') (by omega)

end
section
local macro_rules | `(tactic| walk_at "my list") => `(tactic| first | exact K1 (Fr.keep (by assumption)) | exact K2 (Fr.keep (by assumption)) | exact K3 (Fr.keep (by assumption)) | exact K4 (Fr.keep (by assumption)) | exact News.isList (by assumption) (by k_mem))
local macro_rules | `(tactic| walk_at "my size") => `(tactic| first | omega | ((try simp only [List.size_toArray, List.length_take, List.length_drop, List.length_reverse, Array.length_toList]); omega))
local macro_rules | `(tactic| walk_at "subscriptTail Name Slice ref ref") => `(tactic| ((try dsimp only); first
  | ((with_unfolding_all refine' k_sl_to ?sl_F ?sl_N ?sl_l ?sl_z ?_ ?sl_hs ?sl_ht); (case sl_F => assumption); (case sl_N => assumption); (case sl_l => walk_at "my list"); (case sl_z => walk_at "my size"); (case sl_hs => with_unfolding_all rfl); (case sl_ht => (intro _; with_unfolding_all rfl)); intro D' h' F' N' l1)
  | ((with_unfolding_all refine' k_sl_from ?sl_F ?sl_N ?sl_l ?sl_z ?_ ?sl_hs ?sl_ht); (case sl_F => assumption); (case sl_N => assumption); (case sl_l => walk_at "my list"); (case sl_z => walk_at "my size"); (case sl_hs => with_unfolding_all rfl); (case sl_ht => (intro _; with_unfolding_all rfl)); intro D' h' F' N' l1)
  | ((with_unfolding_all refine' k_sl_rev ?sl_F ?sl_N ?sl_l ?sl_z ?_ ?sl_hs ?sl_ht); (case sl_F => assumption); (case sl_N => assumption); (case sl_l => walk_at "my list"); (case sl_z => walk_at "my size"); (case sl_hs => with_unfolding_all rfl); (case sl_ht => (intro _; with_unfolding_all rfl)); intro D' h' F' N' l1)
  | ((with_unfolding_all refine' k_tsl_from (i := 1) ?sl_F ?sl_N ?sl_l ?sl_h1 ?sl_hi ?sl_z ?_ ?sl_hs ?sl_ht); (case sl_F => assumption); (case sl_N => assumption); (case sl_l => exact News.isTup (by assumption) (by k_mem)); (case sl_h1 => decide); (case sl_hi => exact Nat.le_of_ble_eq_true rfl); (case sl_z => exact Nat.le_of_ble_eq_true rfl); (case sl_hs => with_unfolding_all rfl); (case sl_ht => (intro _; with_unfolding_all rfl)); intro D' h' F' N' l1)))
local macro_rules | `(tactic| walk_at "subscriptTail Name Name ref int") => `(tactic| ((try dsimp only); first
  | ((with_unfolding_all refine' k_item (K2 (Fr.keep (by assumption))) ?sl_z I2 ?_ ?sl_hs ?sl_ht); (case sl_z => walk_at "my size"); (case sl_hs => with_unfolding_all rfl); (case sl_ht => (intro _; with_unfolding_all rfl)))
  | ((with_unfolding_all refine' k_item (K4 (Fr.keep (by assumption))) ?sl_z I4 ?_ ?sl_hs ?sl_ht); (case sl_z => walk_at "my size"); (case sl_hs => with_unfolding_all rfl); (case sl_ht => (intro _; with_unfolding_all rfl)))))
local macro_rules | `(tactic| walk_at "compareOp Lt ref ref") => `(tactic| ((try dsimp only); (with_reducible refine' k_ltup ?sl_a ?sl_b ?sl_va ?sl_vb ?sl_l ?sl_u ?_); (case sl_a => exact News.isTup (by assumption) (by k_mem)); (case sl_b => exact News.isTup (by assumption) (by k_mem)); (case sl_va => exact IntVs.cons (IntVs.cons IntVs.nil)); (case sl_vb => exact IntVs.cons (IntVs.cons IntVs.nil)); (case sl_l => rfl); (case sl_u => ((show _ < _); omega))))

local macro_rules | `(tactic| walk_at "call type:range") => `(tactic| ((with_reducible refine' k_range1 ?x1 ?x2 ?_); (case x1 => assumption); (case x2 => assumption); intro D' h' F' N' l1))
local macro_rules | `(tactic| walk_at "call builtin:len") => `(tactic| ((with_reducible refine' k_len_list ?x1 ?x2 ?_); (case x1 => walk_at "my list"); (case x2 => walk_at "my size")))
local macro_rules | `(tactic| walk_at "subscriptTail Name Constant ref int") => `(tactic| ((try dsimp only); first
  | ((with_unfolding_all refine' k_item (i := 0) (K2 (Fr.keep (by assumption))) ?sl_z I2 ?_ ?sl_hs ?sl_ht); (case sl_z => walk_at "my size"); (case sl_hs => with_unfolding_all rfl); (case sl_ht => (intro _; with_unfolding_all rfl)))
  | ((with_unfolding_all refine' k_item (i := 0) (K4 (Fr.keep (by assumption))) ?sl_z I4 ?_ ?sl_hs ?sl_ht); (case sl_z => walk_at "my size"); (case sl_hs => with_unfolding_all rfl); (case sl_ht => (intro _; with_unfolding_all rfl)))))

local macro_rules | `(tactic| walk_at "my list") => `(tactic| first | exact K1 (Fr.keep (by assumption)) | exact News.isList (by assumption) (by k_mem))

noncomputable def sgn (n : Int) : Nat := ([38, 60, 62, 34, 39, 98, 99, 60] : List Nat)[(n.fmod 8).toNat]?.getD 0
theorem item_sgn (n : Int) : Txt.item (Str.ofString "&<>\"'bc<") (n.fmod 8) = St [sgn n] := by
  unfold sgn
  have h0 : 0 ≤ n.fmod 8 := Int.fmod_nonneg_of_pos n (by decide)
  have h1 : n.fmod 8 < 8 := Int.fmod_lt_of_pos n (by decide)
  generalize n.fmod 8 = m at *
  have : m = 0 ∨ m = 1 ∨ m = 2 ∨ m = 3 ∨ m = 4 ∨ m = 5 ∨ m = 6 ∨ m = 7 := by omega
  rcases this with rfl | rfl | rfl | rfl | rfl | rfl | rfl | rfl <;> decide +kernel
theorem sgn_abc (n : Int) : sgn n ∈ abc := by
  unfold sgn
  have h0 : 0 ≤ n.fmod 8 := Int.fmod_nonneg_of_pos n (by decide)
  have h1 : n.fmod 8 < 8 := Int.fmod_lt_of_pos n (by decide)
  generalize n.fmod 8 = m at *
  have : m = 0 ∨ m = 1 ∨ m = 2 ∨ m = 3 ∨ m = 4 ∨ m = 5 ∨ m = 6 ∨ m = 7 := by omega
  rcases this with rfl | rfl | rfl | rfl | rfl | rfl | rfl | rfl <;> decide +kernel
theorem lets_cons {a : Nat} {t : Tok} {vs : List Value} {l : List Nat} (h : Lets vs.toArray l) : Lets (Value.str (St [a]) t :: vs).toArray (a :: l) := by
  rw [lets_iff] at h ⊢
  refine ⟨by simpa using h.1, fun k b e => ?_⟩
  cases k with
  | zero => simp only [List.getElem?_cons_zero, Option.some.injEq] at e; subst e; exact ⟨t, rfl⟩
  | succ k => simpa using h.2 k b (by simpa using e)
theorem lets_paired : ∀ {vs : List Value} {ns : List Int} {ys : List Value}, IntsAre vs ns → Paired (fun v y => ∃ n t t', v = .int n t ∧ y = Value.str (St [sgn n]) t') vs ys → Lets ys.toArray (ns.map sgn)
  | _, _, _, .nil, .nil => ⟨rfl, fun _ ht => nomatch ht⟩
  | _, _, _, .cons n t I, .cons ⟨n', t', t'', e1, e2⟩ P => by
    cases e1
    subst e2
    exact lets_cons (lets_paired I P)
theorem law_3 {w : World} {A : Around} {h h₁ : Heap} {L fa sc : Addr} {cd : Value} {g : Array GenState} {d : Drawn} {tk : Nat} {os : OsState} {E : Value → Shared → Prop} {Q : Flow → Shared → Prop} {mg mb : Str → Option Value} {l : List (Str × Value)} {vs : List Value} {ns : List Int} {news : List (Addr × Obj)}
    (hA : A.handled = none) (X : (K w.params).In h) (X' : TopRead Mine.q (looseW Mine.q loose) mg mb h) (F : Fr h L h₁ (lk l)) (N : News h L h₁ news) (L1 : h.IsList sc vs.toArray) (I : IntsAre vs ns) (hn : ns.length ≤ 63)
    (x1 : lk l (Str.ofString "script") = some (.ref sc))
    (qq : ∀ h' tk' D oD v, Fr h L h' (lk ((Str.ofString "signs", .ref D) :: l)) → News h L h' ((D, oD) :: news) → LiO oD v → Lets v ((7 :: (ns.length : Int) :: 2 :: ns.take 100).map sgn) → tk ≤ tk' → Q .next ⟨h', g, d, tk', os⟩) :
    wpAny (model pw w) A (exec (lwS 3) (lwE L fa cd)) Q E ⟨h₁, g, d, tk, os⟩ := by
  have K1 : ∀ {h' : Heap}, Kp h h' → h'.IsList sc vs.toArray := fun k => L1.at fun o e => k _ _ e
  have hvl := I.length
  conv in (lwS 3) => whnf
  refine k_comp (h₀ := h) (l := l) (fun v y => ∃ n t t', v = .int n t ∧ y = .str (St [sgn n]) t') hA ?_
  walk_at "my go"
  have I1 : IntsAre (#[Value.int 7 tk, Value.int (vs.toArray.size : Int) (tk + 1 + 1), Value.int 2 (tk + 1 + 2)] : Array Value).toList [7, (vs.toArray.size : Int), 2] := .cons _ _ (.cons _ _ (.cons _ _ .nil))
  have I2 : IntsAre ((vs.toArray.toList.take 100).toArray).toList (ns.take 100) := I.take 100
  refine add_arrays_ints (s := ⟨h', g, d, _, os⟩) F' N' (N'.isList (by k_mem)) (N'.isList (by k_mem)) I1 I2 (fun h2 F2 N2 I3 => ?_) (by simp only [List.length_cons, List.length_nil, List.length_take]; rw [sizeLine_eq]; omega)
  have N3 : News h L h2 _ := fun p hp => N2 p (List.mem_cons.mpr ((List.mem_cons.mp hp).imp id fun e => .tail _ (.tail _ e)))
  refine ⟨_, _, _, _, _, rfl, rfl, F2, N3, N3.isList (.head _), ?_, ?_, ?_⟩
  · simp only [List.size_toArray, List.length_append, List.length_cons, List.length_nil, List.length_take]
    omega
  · intro C v h3 g3 d3 tk3 os3 m3 E' hv hns hm
    obtain ⟨n, t, rfl⟩ : ∃ n t, v = .int n t := by
      have := I3.allInts v (by simpa using hv)
      exact this
    clear F2 N2 N3 F' N'
    walk_at "my go"
    rw [item_sgn]
  · intro D oD h3 tk3 ys htk3 F3 N3' hne hL hP
    refine qq h3 tk3 D oD ys F3 (fun p hp => N3' p ?_) hL ?_ htk3
    · rcases List.mem_cons.mp hp with e | e
      · exact e ▸ .head _
      · exact .tail _ (.tail _ e)
    · have := lets_paired (ys := ys.toList) I3 (by simpa using hP)
      rw [List.size_toArray, hvl] at this
      simpa using this

local macro_rules | `(tactic| walk_at "call builtin:sum") => `(tactic| (refine k_sum hA (K1 (Fr.keep F')) I ?_; intro h2' tk2' t2' k2' htk2'; replace F' := Fr.keeps F' k2'; replace N' := News.grown N' k2'))
local macro_rules | `(tactic| walk_at "my list") => `(tactic| exact LiO.at hLi (News.get (by assumption) (by k_mem)))
noncomputable def cutOf (ns : List Int) (m : Nat) : Nat := 1 + (ns.sum.fmod ((m : Int) - 1)).toNat
theorem law_456 {w : World} {A : Around} {h h₁ : Heap} {L fa sc : Addr} {cd : Value} {g : Array GenState} {d : Drawn} {tk : Nat} {os : OsState} {E : Value → Shared → Prop} {Q : Flow → Shared → Prop} {mg mb : Str → Option Value} {l : List (Str × Value)} {vs : List Value} {ns : List Int} {news : List (Addr × Obj)} {D : Addr} {oD : Obj} {v : Array Value} {xs : List Nat} {rest : List Stmt}
    (hA : A.handled = none) (X : (K w.params).In h) (X' : TopRead Mine.q (looseW Mine.q loose) mg mb h) (F : Fr h L h₁ (lk l)) (N : News h L h₁ ((D, oD) :: news)) (hLi : LiO oD v) (hv : Lets v xs) (hm : 2 ≤ xs.length) (hm2 : xs.length < 1000) (L1 : h.IsList sc vs.toArray) (I : IntsAre vs ns)
    (x1 : lk l (Str.ofString "script") = some (.ref sc)) (x2 : lk l (Str.ofString "signs") = some (.ref D))
    (qq : ∀ h' tk' D1 D2 v1 v2 t, Fr h L h' (lk ((Str.ofString "others", .ref D2) :: (Str.ofString "ones", .ref D1) :: (Str.ofString "cut", .int (cutOf ns xs.length : Int) t) :: l)) → News h L h' ((D2, liO v2) :: (D1, liO v1) :: news) → Lets v1.toArray (xs.take (cutOf ns xs.length)) → Lets v2.toArray (xs.drop (cutOf ns xs.length)) → tk ≤ tk' →
      wpAny (model pw w) A (execs rest (lwE L fa cd)) Q E ⟨h', g, d, tk', os⟩) :
    wpAny (model pw w) A (execs (lwS 4 :: lwS 5 :: lwS 6 :: rest) (lwE L fa cd)) Q E ⟨h₁, g, d, tk, os⟩ := by
  have K1 : ∀ {h' : Heap}, Kp h h' → h'.IsList sc vs.toArray := fun k => L1.at fun o e => k _ _ e
  have hsz := hv.1
  have F' := F
  have N' := N
  clear F N
  refine x_cons ?_
  conv in (lwS 4) => whnf
  walk_at "my go"
  try dsimp only at F' ⊢
  have ec : (1 : Int) + ns.sum.fmod ((v.size : Int) - 1) = (cutOf ns xs.length : Int) := by
    rw [hsz]
    unfold cutOf
    have := Int.fmod_nonneg_of_pos ns.sum (b := (xs.length : Int) - 1) (by omega)
    omega
  rw [ec] at F'
  conv in (lwS 5) => whnf
  walk_at "my go"
  try dsimp only at F' ⊢
  conv in (lwS 6) => whnf
  walk_at "my go"
  try dsimp only at F' ⊢
  exact qq _ _ _ _ _ _ _ F' (fun p hp => N' p (by
    simp only [List.mem_cons] at hp ⊢
    rcases hp with e | e | e <;> simp [e])) (hv.take _) (hv.drop _) (by omega)

end
theorem k_item_last {prog : Program} {w : World} {A : Around} {E : Value → Shared → Prop} {h : Heap} {g : Array GenState} {d : Drawn} {tk : Nat} {os : OsState} {value slice : PySem.Expr} {l : Addr} {its : Array Value} {u : Tok} {x : Value} {Q : Value → Shared → Prop} (hl : h.IsList l its) (hz : its.size ≤ 1000000) (h1 : 1 ≤ its.size) (hx : its[its.size - 1]? = some x) (q : Q x ⟨h, g, d, tk, os⟩)
    (hs : subscripted slice false (.ref l) (.int (-1) u) = operate [.ref l, .int (-1) u] (getItem (.ref l) (.int (-1) u)) := by with_unfolding_all rfl) (hg : ∀ r, letTemporaryGo value (.ref l) r = pure () := by intro _; with_unfolding_all rfl) :
    wpAny (model prog w) A (subscriptTail value slice (.ref l) (.int (-1) u)) Q E ⟨h, g, d, tk, os⟩ := by
  have e : ((-1 : Int) + (its.size : Int)).toNat = its.size - 1 := by omega
  exact subscriptTail_builtin (s := ⟨h, g, d, tk, os⟩) hl.typeIs slot_list_getitem.lookup (wpAny_getItem_list_neg hl (by decide) (by omega) (by decide) (by rw [e]; exact hx) q) hs hg
theorem k_sizes {w : World} {A : Around} {E : Value → Shared → Prop} {h : Heap} {g : Array GenState} {d : Drawn} {tk : Nat} {os : OsState} {sz : Addr} {q : Bool} {a : Nat} {pos : Pos} {e1 e2 : PySem.Expr} {env : Env} {Q : Value → Shared → Prop} {t1 t2 : Tok} {tk' : Nat} (hs : SizesAt w h sz q) (hsy : (sz == sysModules) = false) (ha : a ∈ abc)
    (h1 : ∀ (R : Value → Shared → Prop), wpAny (model pw w) A (eval e1 env) (fun v s₁ => wpAny (model pw w) A (eval e2 env) (fun v' s₂ => v = .str (St [a]) t1 ∧ v' = .int 1 t2 ∧ s₂ = ⟨h, g, d, tk', os⟩) E s₁) E ⟨h, g, d, tk, os⟩)
    (q1 : ∀ t, Q (.int ((wr q a).length : Int) t) ⟨h, g, d, tk' + 1, os⟩)
    (he : backTo pos (starEach [e1, e2] env) = [(false, eval e1 env), (false, eval e2 env)] := by kernel_rfl) :
    wpAny (model pw w) A (callWith pos (.builtin "dict.get") [.ref sz] (backTo pos (starEach [e1, e2] env)) []) Q E ⟨h, g, d, tk, os⟩ := by
  obtain ⟨kv, hd, hc⟩ := hs
  refine k_get2 (knd := strKind pw w) hsy (wpAny_mono (h1 fun _ _ => True) (fun v s₁ hv => wpAny_mono hv (fun v' s₂ hv' => ?_) fun _ _ e => e) fun _ _ e => e) he
  obtain ⟨rfl, rfl, rfl⟩ := hv'
  refine ⟨St [a], _, strKind_is _ _ _ _, hd.mapOf, ?_⟩
  obtain ⟨t', hv⟩ : ∃ t', (valueAt kv (St [a])).getD (.int 1 t2) = .int ((wr q a).length : Int) t' := by
    rcases hc a with ⟨_, t, h2⟩ | ⟨hr, h2⟩
    · rw [h2]; exact ⟨t, rfl⟩
    · rw [h2]
      have : (wr q a).length = 1 := by
        simp only [abc, List.mem_cons, List.not_mem_nil, or_false] at ha
        rcases ha with rfl | rfl | rfl | rfl | rfl | rfl | rfl <;> cases q <;> simp_all [ref, wr]
      rw [this]; exact ⟨_, rfl⟩
  rw [hv]
  exact q1 t'
theorem get_dict {w : World} {A : Around} {E : Value → Shared → Prop} {h : Heap} {g : Array GenState} {d : Drawn} {tk : Nat} {os : OsState} {sz : Addr} {q : Bool} {pl : Sem Bool} {Q : Value × List Value → Shared → Prop} (hs : SizesAt w h sz q)
    (qq : Q (.builtin "dict.get", [.ref sz]) ⟨h, g, d, tk, os⟩) : wpAny (model pw w) A (getMethod (.ref sz) (Str.ofString "get") pl) Q E ⟨h, g, d, tk, os⟩ := by
  obtain ⟨kv, hd, hc⟩ := hs
  have hty : Shared.TypeIs ⟨h, g, d, tk, os⟩ (.ref sz) "dict" := hd.mapOf.typeIs
  have hno := hd.mapOf.noDict
  exact getMethod_builtin (T := "dict") hty PySem.F.plainAttrs_dict PySem.F.slot_dict_get PySem.F.type_dict_get hno qq

theorem acc_turn_here {w : World} {A : Around} {h h₁ : Heap} {L fa : Addr} {cd : Value} {g : Array GenState} {d : Drawn} {tk : Nat} {os : OsState} {E : Value → Shared → Prop} {Q : Flow → Shared → Prop} {l : List (Str × Value)} {H sz : Addr} {its : Array Value} {n : Nat} {q : Bool} {a c : Nat} {t1 t2 : Tok} {news : List (Addr × Obj)} {oS : Obj}
    (hA : A.handled = none) (F : Fr h L h₁ (lk l)) (N : News h L h₁ ((H, W.listOf its n) :: news)) (hm : (sz, oS) ∈ news) (hs : SizesO w q oS) (hsy : (sz == sysModules) = false) (ha : a ∈ abc) (hne : ∀ p ∈ news, p.1 ≠ H) (hz : its.size ≤ 100000) (h1 : 1 ≤ its.size) (hx : its[its.size - 1]? = some (.int (c : Int) t1))
    (x1 : lk l (Str.ofString "here") = some (.ref H)) (x2 : lk l (Str.ofString "sizes") = some (.ref sz)) (x3 : lk l (Str.ofString "sign") = some (.str (St [a]) t2))
    (qq : ∀ h' tk' t, Fr h L h' (lk l) → News h L h' ((H, W.listOf (its.push (.int ((c + (wr q a).length : Nat) : Int) t)) (n + 1)) :: news) → tk ≤ tk' → Q .next ⟨h', g, d, tk', os⟩) :
    wpAny (model pw w) A (execs (stBody (lwS 8)) (lwE L fa cd)) Q E ⟨h₁, g, d, tk, os⟩ := by
  conv in (stBody (lwS 8)) => whnf
  walk_at "my go"
  dsimp only
  refine' k_item_last (N.isList (.head _)) (by omega) h1 hx ?_ ?hs ?hg
  case hs => with_unfolding_all rfl
  case hg => intro _; with_unfolding_all rfl
  walk_at "my go"
  refine get_dict (hs.at (N.get (.tail _ hm))) ?_
  refine k_sizes (a := a) (hs.at (N.get (.tail _ hm))) hsy ha (fun R => k_nm F (by with_unfolding_all exact x3) (k_int ⟨rfl, rfl, rfl⟩)) fun t => ?_
  walk_at "my go"
  refine append_K (s := ⟨h₁, g, d, _, os⟩) F N (.head hne) (fun h' F' N' => ?_) (by rw [sizeLine_eq]; omega)
  have e : (c : Int) + ((wr q a).length : Int) = ((c + (wr q a).length : Nat) : Int) := by omega
  rw [e] at N'
  walk_at "my go"
  exact qq _ _ _ F' N' (by dsimp only; omega)
theorem acc_loop_here {w : World} {A : Around} {h h₁ : Heap} {L fa : Addr} {cd : Value} {g : Array GenState} {d : Drawn} {tk : Nat} {os : OsState} {E : Value → Shared → Prop} {Q : Flow → Shared → Prop} {l : List (Str × Value)} {sz D1 : Addr} {v1 : List Value} {xs : List Nat} {q : Bool} {news : List (Addr × Obj)} {oS : Obj} {rest : List Stmt}
    (hA : A.handled = none) (F : Fr h L h₁ (lk l)) (N : News h L h₁ news) (hm : (sz, oS) ∈ news) (hm1 : (D1, liO v1) ∈ news) (hs : SizesO w q oS) (hsy : (sz == sysModules) = false) (e1 : Lets v1.toArray xs) (ab : ∀ a ∈ xs, a ∈ abc) (hl : xs.length < 1000)
    (x2 : lk l (Str.ofString "sizes") = some (.ref sz)) (x3 : lk l (Str.ofString "ones") = some (.ref D1))
    (qq : ∀ h' tk' l' H its n, Fr h L h' (lk l') → News h L h' ((H, W.listOf its n) :: news) → Heres q 0 its xs → lk l' (Str.ofString "here") = some (.ref H) → (∀ x, x ∉ [Str.ofString "here", Str.ofString "sign"] → lk l' x = lk l x) → tk ≤ tk' →
      wpAny (model pw w) A (execs rest (lwE L fa cd)) Q E ⟨h', g, d, tk', os⟩) :
    wpAny (model pw w) A (execs (lwS 7 :: lwS 8 :: rest) (lwE L fa cd)) Q E ⟨h₁, g, d, tk, os⟩ := by
  have hltH : ∀ p ∈ news, p.1 ≠ h₁.objs.size := fun p hp => Nat.ne_of_lt (Heap.lt_size (N p hp).1)
  refine x_cons ?_
  conv in (lwS 7) => whnf
  walk_at "my go"
  conv in (lwS 8) => whnf
  refine wpAny_For ?_
  walk_at "my go"
  dsimp only at F' N' ⊢
  generalize h₁.objs.size = H at *
  have hl1 : h'.IsList D1 v1.toArray := N'.isList (.tail _ hm1)
  refine wpAny_pyIter_list hl1 ?_
  have hIf : ∀ p ∈ (H, W.listOf #[.int 0 tk] 0) :: news, p.1 ≠ h'.objs.size := fun p hp => Nat.ne_of_lt (Heap.lt_size (N' p hp).1)
  have hD1 : D1 ≠ h'.objs.size := hIf _ (.tail _ hm1)
  have F2 := F'.push { cls := .type "list_iterator", data := .fields #[.ref D1, .int 0 0] }
  have N2 := N'.push F' { cls := .type "list_iterator", data := .fields #[.ref D1, .int 0 0] }
  have st : (h'.push { cls := .type "list_iterator", data := .fields #[.ref D1, .int 0 0] }).IsListIter h'.objs.size D1 0 := ⟨_, N2.get (.head _), rfl, rfl⟩
  generalize h'.push { cls := .type "list_iterator", data := .fields #[.ref D1, .int 0 0] } = h2 at *
  generalize h'.objs.size = I at *
  have esz : v1.toArray.size = xs.length := e1.1
  refine for_led (x := Str.ofString "sign") (fx := [(D1, liO v1)]) (oI := { cls := .type "list_iterator", data := .fields #[.ref D1, .int 0 0] }) (body := stBody (lwS 8)) (h := h) (Walks.list hA I D1 hD1 v1.toArray)
    (fun t l' news' tk' => ∃ its n, news' = (H, W.listOf its n) :: news ∧ its.size = t + 1 ∧ (∀ s, s ≤ t → ∃ tk, its[s]? = some (.int ((0 + (W q (xs.take s)).length : Nat) : Int) tk)) ∧ lk l' (Str.ofString "here") = some (.ref H) ∧ (∀ x, x ∉ [Str.ofString "here", Str.ofString "sign"] → lk l' x = lk l x) ∧ tk ≤ tk')
    (fun b hb => ?_) (by simp) (fun t h' s => let ⟨o, ho, _⟩ := s.1; ⟨o, ho⟩) (fun t l' news' tk' j p hp => ?_) F2 (news := (H, W.listOf #[.int 0 tk] 0) :: news) N2 hIf ⟨st, N2.isList (.tail _ (.tail _ hm1))⟩
    ⟨#[.int 0 tk], 0, rfl, rfl, fun s hs' => ?_, by with_unfolding_all rfl, fun x hx => ?_, by dsimp only; omega⟩ ?_ ?_
  · simp only [List.mem_cons, List.not_mem_nil, or_false] at hb
    rcases hb with rfl | rfl
    · exact .inl rfl
    · exact .inr ⟨_, .head _⟩
  · rw [List.mem_singleton.mp hp]
    obtain ⟨its, n, rfl, _⟩ := j
    exact .inr (.tail _ hm1)
  · have : s = 0 := by omega
    subst this
    exact ⟨tk, by simp [W]⟩
  · simp only [List.mem_cons, not_or] at hx
    rw [lk_skip hx.1]
  · rintro t h3 l' news' tk0 tk' v oI' ht hP F3 N3 hne ⟨its, n, rfl, hsz, hit, hH, hx, htk⟩ htk'
    rw [esz] at ht
    obtain ⟨ts, hvs⟩ := e1.2 t ht
    rw [hP] at hvs
    obtain rfl := Option.some.inj hvs
    obtain ⟨tc, hc⟩ := hit t (Nat.le_refl _)
    have htake : xs.take (t + 1) = xs.take t ++ [xs[t]] := by rw [List.take_succ_eq_append_getElem ht]
    refine acc_turn_here (H := H) (sz := sz) (its := its) (n := n) (a := xs[t]) (c := 0 + (W q (xs.take t)).length) (q := q) (t1 := tc) (t2 := ts) (news := (I, oI') :: news) (oS := oS) hA F3 (fun p hp => N3 p ?_) (.tail _ hm) hs hsy (ab _ (List.getElem_mem ht)) (fun p hp => ?_) (by omega) (by omega) (by rw [hsz]; exact hc)
      (by rw [lk_skip (by decide +kernel)]; exact hH) (by rw [lk_skip (by decide +kernel), hx _ (by decide +kernel)]; exact x2) (by with_unfolding_all rfl) fun h4 tk4 tt F4 N4 htk4 => ?_
    · simp only [List.mem_cons] at hp ⊢
      rcases hp with e | e | e <;> simp [e]
    · rcases List.mem_cons.mp hp with rfl | hp
      · exact fun e => hne _ (.head _) e.symm
      · exact hltH p hp
    · refine TurnEnd.next ⟨_, (H, W.listOf (its.push (.int ((0 + (W q (xs.take t)).length + (wr q xs[t]).length : Nat) : Int) tt)) (n + 1)) :: news, F4, fun p hp => N4 p ?_, fun p hp => ?_, _, _, rfl, by rw [Array.size_push, hsz], fun s hs' => ?_, by rw [lk_skip (by decide +kernel)]; exact hH, fun x hxx => ?_, by omega⟩
      · simp only [List.mem_cons] at hp ⊢
        rcases hp with e | e | e <;> simp [e]
      · rcases List.mem_cons.mp hp with rfl | hp
        · exact hne (H, W.listOf its n) (.head _)
        · exact hne p (.tail _ hp)
      · by_cases e : s ≤ t
        · obtain ⟨tk, h1⟩ := hit s e
          exact ⟨tk, by rw [Array.getElem?_push, if_neg (by omega)]; exact h1⟩
        · have e' : s = t + 1 := by omega
          subst e'
          refine ⟨tt, ?_⟩
          rw [Array.getElem?_push, if_pos hsz.symm, htake, W_append, List.length_append]
          have : (W q [xs[t]]).length = (wr q xs[t]).length := by simp [W]
          rw [this]
          simp [Nat.add_assoc]
      · simp only [List.mem_cons, not_or] at hxx
        rw [lk_skip hxx.2.1]
        exact hx x (by simp only [List.mem_cons, not_or]; exact hxx)
  · rintro h3 l' news' tk0 tk' F3 N3 ⟨its, n, rfl, hsz, hit, hH, hx, htk⟩ htk'
    rw [esz] at hsz hit
    exact c_next (qq h3 tk' l' H its n F3 N3 ⟨hsz, hit⟩ hH hx (by omega))

theorem acc_turn_there {w : World} {A : Around} {h h₁ : Heap} {L fa : Addr} {cd : Value} {g : Array GenState} {d : Drawn} {tk : Nat} {os : OsState} {E : Value → Shared → Prop} {Q : Flow → Shared → Prop} {l : List (Str × Value)} {H sz : Addr} {its : Array Value} {n : Nat} {q : Bool} {a c : Nat} {t1 t2 : Tok} {news : List (Addr × Obj)} {oS : Obj}
    (hA : A.handled = none) (F : Fr h L h₁ (lk l)) (N : News h L h₁ ((H, W.listOf its n) :: news)) (hm : (sz, oS) ∈ news) (hs : SizesO w q oS) (hsy : (sz == sysModules) = false) (ha : a ∈ abc) (hne : ∀ p ∈ news, p.1 ≠ H) (hz : its.size ≤ 100000) (h1 : 1 ≤ its.size) (hx : its[its.size - 1]? = some (.int (c : Int) t1))
    (x1 : lk l (Str.ofString "there") = some (.ref H)) (x2 : lk l (Str.ofString "sizes") = some (.ref sz)) (x3 : lk l (Str.ofString "sign") = some (.str (St [a]) t2))
    (qq : ∀ h' tk' t, Fr h L h' (lk l) → News h L h' ((H, W.listOf (its.push (.int ((c + (wr q a).length : Nat) : Int) t)) (n + 1)) :: news) → tk ≤ tk' → Q .next ⟨h', g, d, tk', os⟩) :
    wpAny (model pw w) A (execs (stBody (lwS 10)) (lwE L fa cd)) Q E ⟨h₁, g, d, tk, os⟩ := by
  conv in (stBody (lwS 10)) => whnf
  walk_at "my go"
  dsimp only
  refine' k_item_last (N.isList (.head _)) (by omega) h1 hx ?_ ?hs ?hg
  case hs => with_unfolding_all rfl
  case hg => intro _; with_unfolding_all rfl
  walk_at "my go"
  refine get_dict (hs.at (N.get (.tail _ hm))) ?_
  refine k_sizes (a := a) (hs.at (N.get (.tail _ hm))) hsy ha (fun R => k_nm F (by with_unfolding_all exact x3) (k_int ⟨rfl, rfl, rfl⟩)) fun t => ?_
  walk_at "my go"
  refine append_K (s := ⟨h₁, g, d, _, os⟩) F N (.head hne) (fun h' F' N' => ?_) (by rw [sizeLine_eq]; omega)
  have e : (c : Int) + ((wr q a).length : Int) = ((c + (wr q a).length : Nat) : Int) := by omega
  rw [e] at N'
  walk_at "my go"
  exact qq _ _ _ F' N' (by dsimp only; omega)
theorem acc_loop_there {w : World} {A : Around} {h h₁ : Heap} {L fa : Addr} {cd : Value} {g : Array GenState} {d : Drawn} {tk : Nat} {os : OsState} {E : Value → Shared → Prop} {Q : Flow → Shared → Prop} {l : List (Str × Value)} {sz D1 : Addr} {v1 : List Value} {xs : List Nat} {q : Bool} {news : List (Addr × Obj)} {oS : Obj} {rest : List Stmt}
    (hA : A.handled = none) (F : Fr h L h₁ (lk l)) (N : News h L h₁ news) (hm : (sz, oS) ∈ news) (hm1 : (D1, liO v1) ∈ news) (hs : SizesO w q oS) (hsy : (sz == sysModules) = false) (e1 : Lets v1.toArray xs) (ab : ∀ a ∈ xs, a ∈ abc) (hl : xs.length < 1000)
    (x2 : lk l (Str.ofString "sizes") = some (.ref sz)) (x3 : lk l (Str.ofString "others") = some (.ref D1))
    (qq : ∀ h' tk' l' H its n, Fr h L h' (lk l') → News h L h' ((H, W.listOf its n) :: news) → Heres q 0 its xs → lk l' (Str.ofString "there") = some (.ref H) → (∀ x, x ∉ [Str.ofString "there", Str.ofString "sign"] → lk l' x = lk l x) → tk ≤ tk' →
      wpAny (model pw w) A (execs rest (lwE L fa cd)) Q E ⟨h', g, d, tk', os⟩) :
    wpAny (model pw w) A (execs (lwS 9 :: lwS 10 :: rest) (lwE L fa cd)) Q E ⟨h₁, g, d, tk, os⟩ := by
  have hltH : ∀ p ∈ news, p.1 ≠ h₁.objs.size := fun p hp => Nat.ne_of_lt (Heap.lt_size (N p hp).1)
  refine x_cons ?_
  conv in (lwS 9) => whnf
  walk_at "my go"
  conv in (lwS 10) => whnf
  refine wpAny_For ?_
  walk_at "my go"
  dsimp only at F' N' ⊢
  generalize h₁.objs.size = H at *
  have hl1 : h'.IsList D1 v1.toArray := N'.isList (.tail _ hm1)
  refine wpAny_pyIter_list hl1 ?_
  have hIf : ∀ p ∈ (H, W.listOf #[.int 0 tk] 0) :: news, p.1 ≠ h'.objs.size := fun p hp => Nat.ne_of_lt (Heap.lt_size (N' p hp).1)
  have hD1 : D1 ≠ h'.objs.size := hIf _ (.tail _ hm1)
  have F2 := F'.push { cls := .type "list_iterator", data := .fields #[.ref D1, .int 0 0] }
  have N2 := N'.push F' { cls := .type "list_iterator", data := .fields #[.ref D1, .int 0 0] }
  have st : (h'.push { cls := .type "list_iterator", data := .fields #[.ref D1, .int 0 0] }).IsListIter h'.objs.size D1 0 := ⟨_, N2.get (.head _), rfl, rfl⟩
  generalize h'.push { cls := .type "list_iterator", data := .fields #[.ref D1, .int 0 0] } = h2 at *
  generalize h'.objs.size = I at *
  have esz : v1.toArray.size = xs.length := e1.1
  refine for_led (x := Str.ofString "sign") (fx := [(D1, liO v1)]) (oI := { cls := .type "list_iterator", data := .fields #[.ref D1, .int 0 0] }) (body := stBody (lwS 10)) (h := h) (Walks.list hA I D1 hD1 v1.toArray)
    (fun t l' news' tk' => ∃ its n, news' = (H, W.listOf its n) :: news ∧ its.size = t + 1 ∧ (∀ s, s ≤ t → ∃ tk, its[s]? = some (.int ((0 + (W q (xs.take s)).length : Nat) : Int) tk)) ∧ lk l' (Str.ofString "there") = some (.ref H) ∧ (∀ x, x ∉ [Str.ofString "there", Str.ofString "sign"] → lk l' x = lk l x) ∧ tk ≤ tk')
    (fun b hb => ?_) (by simp) (fun t h' s => let ⟨o, ho, _⟩ := s.1; ⟨o, ho⟩) (fun t l' news' tk' j p hp => ?_) F2 (news := (H, W.listOf #[.int 0 tk] 0) :: news) N2 hIf ⟨st, N2.isList (.tail _ (.tail _ hm1))⟩
    ⟨#[.int 0 tk], 0, rfl, rfl, fun s hs' => ?_, by with_unfolding_all rfl, fun x hx => ?_, by dsimp only; omega⟩ ?_ ?_
  · simp only [List.mem_cons, List.not_mem_nil, or_false] at hb
    rcases hb with rfl | rfl
    · exact .inl rfl
    · exact .inr ⟨_, .head _⟩
  · rw [List.mem_singleton.mp hp]
    obtain ⟨its, n, rfl, _⟩ := j
    exact .inr (.tail _ hm1)
  · have : s = 0 := by omega
    subst this
    exact ⟨tk, by simp [W]⟩
  · simp only [List.mem_cons, not_or] at hx
    rw [lk_skip hx.1]
  · rintro t h3 l' news' tk0 tk' v oI' ht hP F3 N3 hne ⟨its, n, rfl, hsz, hit, hH, hx, htk⟩ htk'
    rw [esz] at ht
    obtain ⟨ts, hvs⟩ := e1.2 t ht
    rw [hP] at hvs
    obtain rfl := Option.some.inj hvs
    obtain ⟨tc, hc⟩ := hit t (Nat.le_refl _)
    have htake : xs.take (t + 1) = xs.take t ++ [xs[t]] := by rw [List.take_succ_eq_append_getElem ht]
    refine acc_turn_there (H := H) (sz := sz) (its := its) (n := n) (a := xs[t]) (c := 0 + (W q (xs.take t)).length) (q := q) (t1 := tc) (t2 := ts) (news := (I, oI') :: news) (oS := oS) hA F3 (fun p hp => N3 p ?_) (.tail _ hm) hs hsy (ab _ (List.getElem_mem ht)) (fun p hp => ?_) (by omega) (by omega) (by rw [hsz]; exact hc)
      (by rw [lk_skip (by decide +kernel)]; exact hH) (by rw [lk_skip (by decide +kernel), hx _ (by decide +kernel)]; exact x2) (by with_unfolding_all rfl) fun h4 tk4 tt F4 N4 htk4 => ?_
    · simp only [List.mem_cons] at hp ⊢
      rcases hp with e | e | e <;> simp [e]
    · rcases List.mem_cons.mp hp with rfl | hp
      · exact fun e => hne _ (.head _) e.symm
      · exact hltH p hp
    · refine TurnEnd.next ⟨_, (H, W.listOf (its.push (.int ((0 + (W q (xs.take t)).length + (wr q xs[t]).length : Nat) : Int) tt)) (n + 1)) :: news, F4, fun p hp => N4 p ?_, fun p hp => ?_, _, _, rfl, by rw [Array.size_push, hsz], fun s hs' => ?_, by rw [lk_skip (by decide +kernel)]; exact hH, fun x hxx => ?_, by omega⟩
      · simp only [List.mem_cons] at hp ⊢
        rcases hp with e | e | e <;> simp [e]
      · rcases List.mem_cons.mp hp with rfl | hp
        · exact hne (H, W.listOf its n) (.head _)
        · exact hne p (.tail _ hp)
      · by_cases e : s ≤ t
        · obtain ⟨tk, h1⟩ := hit s e
          exact ⟨tk, by rw [Array.getElem?_push, if_neg (by omega)]; exact h1⟩
        · have e' : s = t + 1 := by omega
          subst e'
          refine ⟨tt, ?_⟩
          rw [Array.getElem?_push, if_pos hsz.symm, htake, W_append, List.length_append]
          have : (W q [xs[t]]).length = (wr q xs[t]).length := by simp [W]
          rw [this]
          simp [Nat.add_assoc]
      · simp only [List.mem_cons, not_or] at hxx
        rw [lk_skip hxx.2.1]
        exact hx x (by simp only [List.mem_cons, not_or]; exact hxx)
  · rintro h3 l' news' tk0 tk' F3 N3 ⟨its, n, rfl, hsz, hit, hH, hx, htk⟩ htk'
    rw [esz] at hsz hit
    exact c_next (qq h3 tk' l' H its n F3 N3 ⟨hsz, hit⟩ hH hx (by omega))

theorem lets_strs : ∀ {vs : List Value} {xs : List Nat}, Lets vs.toArray xs → StrsAre vs (xs.map fun a => St [a])
  | [], [], _ => .nil
  | v :: vs, a :: xs, h => by
    rw [lets_iff] at h
    obtain ⟨h1, h2⟩ := h
    obtain ⟨t, e⟩ := h2 0 a rfl
    simp only [List.getElem?_cons_zero, Option.some.injEq] at e
    subst e
    refine .cons _ _ (lets_strs (lets_iff.mpr ⟨by simpa using h1, fun k b e => ?_⟩))
    simpa using h2 (k + 1) b (by simpa using e)
  | [], _ :: _, h => by have := h.1; simp at this
  | _ :: _, [], h => by have := h.1; simp at this
theorem St_app (a b : List Nat) : St a ++ St b = St (a ++ b) := by
  have : (St a ++ St b).cps = (St (a ++ b)).cps := by rw [Str.cps_append]; simp
  cases h : St a ++ St b
  rw [h] at this
  exact congrArg Str.mk this
theorem join_St0 : ∀ xs : List Nat, Str.join (St []) (xs.map fun a => St [a]) = St xs
  | [] => rfl
  | a :: xs => by
    rw [List.map_cons, PyProof.Rows.join_nil_cons, join_St0 xs, St_app]
    rfl
theorem join_St (xs : List Nat) : Txt.join (St []) (xs.map fun a => St [a]) = St xs := by
  exact (StrLaws.glued_eq_join _ _).trans (join_St0 xs)
theorem sum_ones : ∀ xs : List Nat, ((xs.map fun a => St [a]).map (·.length)).sum = xs.length
  | [] => rfl
  | a :: xs => by
    have := sum_ones xs
    simp only [List.map_cons, List.sum_cons, this, List.length_cons]
    simp [Str.length]; omega
theorem k_join {prog : Program} {w : World} {A : Around} {E : Value → Shared → Prop} {h : Heap} {g : Array GenState} {d : Drawn} {tk : Nat} {os : OsState} {D : Addr} {vs : List Value} {xs : List Nat} {t : Tok} {Q : Value → Shared → Prop} (hl : h.IsList D vs.toArray) (hi : Lets vs.toArray xs) (hz : xs.length ≤ 100000)
    (q : ∀ t' tk', tk ≤ tk' → Q (.str (St xs) t') ⟨h, g, d, tk', os⟩) : wpAny (model prog w) A (call (.builtin "str.join") [.str (Str.ofString "") t, .ref D]) Q E ⟨h, g, d, tk, os⟩ := by
  have e0 : Str.ofString "" = St [] := by decide +kernel
  rw [e0]
  refine wpAny_with_toks (n := tk) (Nat.le_refl _) (join_list hl (lets_strs hi) ?_ fun t' k hk => ?_)
  · rw [sum_ones]
    simp [Str.length]
    omega
  · rw [join_St]
    exact q t' k hk

theorem g_SM {P : Params} : nsIn (K P) mainGlobals (Str.ofString "SequenceMatcher") = some (some (.ref 242)) := by kernel_rfl
theorem g_esc {P : Params} : nsIn (K P) mainGlobals (Str.ofString "escape") = some (some (.ref 254)) := by kernel_rfl
theorem g_longest {P : Params} : nsIn (K P) mainGlobals (Str.ofString "_law_longest") = some (some (.ref 268)) := by kernel_rfl
/-- the objects of a heap -/
noncomputable def heapL (h : Heap) : List (Addr × Obj) := (List.range h.objs.size).filterMap fun a => (h.get? a).map (a, ·)
theorem mem_heapL {h : Heap} {a : Addr} {o : Obj} : (a, o) ∈ heapL h ↔ h.get? a = some o := by
  unfold heapL
  simp only [List.mem_filterMap, List.mem_range, Option.map_eq_some_iff]
  constructor
  · rintro ⟨b, _, o', e, h⟩
    cases h; exact e
  · intro e
    exact ⟨a, Heap.lt_size e, o, e, rfl⟩
theorem esc_len (q : Bool) (l : List Nat) : (esc q l).length ≤ 6 * l.length := by
  rw [esc_eq]
  induction l with
  | nil => simp
  | cons a l ih =>
    have := wr_length_le q a
    simp only [List.flatMap_cons, List.length_append, List.length_cons]
    omega
theorem law_11 {w : World} {A : Around} {h h₁ : Heap} {L fa : Addr} {cd : Value} {g : Array GenState} {d : Drawn} {tk : Nat} {os : OsState} {E : Value → Shared → Prop} {Q : Flow → Shared → Prop} {mg mb : Str → Option Value} {l : List (Str × Value)} {news : List (Addr × Obj)} {D1 D2 : Addr} {v1 v2 : List Value} {xs ys : List Nat} {q : Bool} {rest : List Stmt}
    (hA : A.handled = none) (X : (K w.params).In h) (X' : TopRead Mine.q (looseW Mine.q loose) mg mb h) (hlim : h.NoLimit) (hD : A.depth + 8 < recursionLimit) (hsm : ∃ o, h.get? sysModules = some o) (F : Fr h L h₁ (lk l)) (N : News h L h₁ news) (m1 : (D1, liO v1) ∈ news) (m2 : (D2, liO v2) ∈ news) (e1 : Lets v1.toArray xs) (e2 : Lets v2.toArray ys) (hl1 : xs.length ≤ 500) (hl2 : ys.length ≤ 500)
    (x1 : lk l (Str.ofString "ones") = some (.ref D1)) (x2 : lk l (Str.ofString "others") = some (.ref D2)) (x3 : lk l (Str.ofString "quote") = some (.bool q))
    (qq : ∀ h' tk' x hm, Fr h L h' (lk ((Str.ofString "matcher", .ref x) :: l)) → News h L h' (heapL hm ++ news) → Mat w hm x (esc q xs) (esc q ys) (pos (esc q ys) (esc q ys).length) (fun _ => false) → tk ≤ tk' → wpAny (model pw w) A (execs rest (lwE L fa cd)) Q E ⟨h', g, d, tk', os⟩) :
    wpAny (model pw w) A (execs (lwS 11 :: rest) (lwE L fa cd)) Q E ⟨h₁, g, d, tk, os⟩ := by
  refine x_cons ?_
  conv in (lwS 11) => whnf
  walk_at "my go"
  refine nm_k F X X' g_SM ?_
  refine callWith_K (K := K w.params) X (by kernel_rfl) ?_ (by kernel_rfl) (by kernel_rfl)
  walk_at "my go"
  refine nm_k F X X' g_esc ?_
  refine callWith_K (K := K w.params) X (by kernel_rfl) ?_ (by kernel_rfl) (by kernel_rfl)
  walk_at "my go"
  refine k_join (N.isList m1) e1 (by omega) fun t1 tk1 htk1 => ?_
  walk_at "my go"
  refine escape_spec (X.keeps F.keep) (hlim.keeps F.keep) (by omega) (by omega) fun t2 h2 tk2 htk2 k2 => ?_
  have F2 := F.keeps k2
  have N2 := N.grown k2
  clear F N
  walk_at "my go"
  refine nm_k F2 X X' g_esc ?_
  refine callWith_K (K := K w.params) X (by kernel_rfl) ?_ (by kernel_rfl) (by kernel_rfl)
  walk_at "my go"
  refine k_join (N2.isList m2) e2 (by omega) fun t3 tk3 htk3 => ?_
  walk_at "my go"
  refine escape_spec (X.keeps F2.keep) (hlim.keeps F2.keep) (by omega) (by omega) fun t4 h4 tk4 htk4 k4 => ?_
  have F4 := F2.keeps k4
  have N4 := N2.grown k4
  clear F2 N2
  walk_at "my go"
  refine sm_plain (X.keeps F4.keep) (X'.keeps F4.keep) (hlim.keeps F4.keep) hA (by omega) (let ⟨o, ho⟩ := hsm; ⟨o, F4.keep _ _ ho⟩) (Nat.lt_of_le_of_lt (esc_len q xs) (by omega)) (Nat.lt_of_le_of_lt (esc_len q ys) (by omega)) fun x h5 tk5 k5 hx hM htk5 => ?_
  obtain ⟨hm, km, nm, M⟩ := hM
  have F5 := F4.keeps k5
  have N5 : News h L h5 (heapL hm ++ news) := fun p hp => by
    rcases List.mem_append.mp hp with hp | hp
    · obtain ⟨a, o⟩ := p
      have ha := mem_heapL.mp hp
      obtain ⟨oL, _, _, hoL, _⟩ := F4.ns
      refine ⟨km _ _ ha, fun e => ?_, ?_⟩
      · have e' : a = L := e
        rw [e', nm _ _ hoL] at ha; cases ha
      · show h.get? a = none
        cases e : h.get? a with
        | none => rfl
        | some o' => rw [nm _ _ (F4.keep _ _ e)] at ha; cases ha
    · exact N4.grown k5 p hp
  clear F4 N4
  walk_at "my go"
  exact qq _ _ x hm F' N' M (by omega)

section sim2
inductive Orc where
  | old (o : Obj)
  | frag
  | new (j : Nat)
noncomputable abbrev Out2 (α : Type) := Except Value α × List (Addr × Obj) × List (Addr × Nat) × List Orc × List Obj × Nat
noncomputable def addT {α : Type} (a : Addr) (o : Obj) (x : Out2 α) : Out2 α := (x.1, (a, o) :: x.2.1, x.2.2)
noncomputable def addE {α : Type} (a : Addr) (j : Nat) (x : Out2 α) : Out2 α := (x.1, x.2.1, (a, j) :: x.2.2.1, x.2.2.2)
noncomputable def doLoad {α : Type} (Kf : Frag) (a : Addr) (r : Obj → List Orc → List Obj → Nat → Option (Out2 α)) : List Orc → List Obj → Nat → Option (Out2 α)
  | [], _, _ => none
  | .old o :: os, al, tk => (r o os al tk).map (addT a o)
  | .frag :: os, al, tk => (Kf.lookup a).bind fun o => r o os al tk
  | .new j :: os, al, tk => (al[j]?).bind fun o => (r o os al tk).map (addE a j)
noncomputable def doUpd {α : Type} (a : Addr) (f : Obj → Obj) (r : List Orc → List Obj → Nat → Option (Out2 α)) : List Orc → List Obj → Nat → Option (Out2 α)
  | .new j :: os, al, tk => (al[j]?).bind fun o => cond (f o).isFreed none ((r os (al.set j (f o)) tk).map (addE a j))
  | _, _, _ => none
noncomputable def addC {α β : Type} (y : Out2 β) (x : Out2 α) : Out2 α := (x.1, y.2.1 ++ x.2.1, y.2.2.1 ++ x.2.2.1, x.2.2.2)
noncomputable def doCall {α : Type} (o : Option (Out2 Flow)) (r : Result → List Orc → List Obj → Nat → Option (Out2 α)) : Option (Out2 α) := o.bind fun y => (r y.1 y.2.2.2.1 y.2.2.2.2.1 y.2.2.2.2.2).map (addC y)
noncomputable def sim2 {α : Type} (Kf : Frag) (S : Setting) (base : Nat) (run : Code → List Orc → List Obj → Nat → Option (Out2 Flow)) : Sem α → List Orc → List Obj → Nat → Option (Out2 α)
  | .pure a => fun os al tk => some (.ok a, [], [], os, al, tk)
  | .raise e => fun os al tk => some (.error e, [], [], os, al, tk)
  | .rule _ k => sim2 Kf S base run (k ())
  | .at _ k => sim2 Kf S base run (k ())
  | .point _ k => sim2 Kf S base run (k ())
  | .ask k => sim2 Kf S base run (k S)
  | .fresh k => fun os al tk => sim2 Kf S base run (k tk) os al (tk + 1)
  | .handled own k => fun os al tk => cond own none (sim2 Kf S base run (k none) os al tk)
  | .load a _ k => doLoad Kf a fun o => sim2 Kf S base run (k o)
  | .update a _ f k => doUpd a f (sim2 Kf S base run (k ()))
  | .alloc o k => fun os al tk => cond o.isFreed none (sim2 Kf S base run (k (base + al.length)) os (al ++ [o]) tk)
  | .call c hd _ _ k => fun os al tk => cond hd.isSome none (doCall (run c os al tk) fun r => sim2 Kf S base run (k r))
  | _ => fun _ _ _ => none
noncomputable def sim2C (Kf : Frag) (den : Code → Sem PySem.Fin) (S : Setting) (base : Nat) : Nat → Code → List Orc → List Obj → Nat → Option (Out2 Flow)
  | 0, _, _, _, _ => none
  | n + 1, c, os, al, tk => match sim2 Kf S base (sim2C Kf den S base n) (den c) os al tk with
    | some (.ok (.done f), r) => some (.ok f, r)
    | some (.error e, r) => some (.error e, r)
    | some (.ok (.again c'), tr, eq, os', al', tk') => (match c'.quiet with
      | true => (match sim2C Kf den S base n c' os' al' tk' with
        | some (f, tr', eq', r) => some (f, tr ++ tr', eq ++ eq', r)
        | none => none)
      | false => none)
    | none => none
/-- the heap h is hb with the objects al behind it -/
structure Rel2 (hb : Heap) (al : List Obj) (h : Heap) : Prop where
  kp : Kp hb h
  sz : h.objs.size = hb.objs.size + al.length
  get : ∀ j o, al[j]? = some o → h.get? (hb.objs.size + j) = some o
theorem Rel2.start (h : Heap) : Rel2 h [] h := ⟨fun _ _ e => e, rfl, fun j o e => by simp at e⟩
theorem Rel2.push {hb h : Heap} {al : List Obj} (R : Rel2 hb al h) {o : Obj} (ho : o.isFreed = false) : Rel2 hb (al ++ [o]) (h.push o) := by
  refine ⟨fun b x e => Heap.get?_push_of_some _ (R.kp b x e), by rw [Heap.size_push, R.sz, List.length_append]; rfl, fun j x e => ?_⟩
  by_cases hj : j < al.length
  · rw [List.getElem?_append_left hj] at e
    exact Heap.get?_push_of_some _ (R.get j x e)
  · have hj' : j = al.length := by
      have h1 := (List.getElem?_eq_some_iff.mp e).1
      rw [List.length_append, List.length_cons, List.length_nil] at h1
      exact Nat.le_antisymm (Nat.le_of_lt_succ h1) (Nat.not_lt.mp hj)
    subst hj'
    simp at e
    subst e
    rw [← R.sz]
    exact Heap.get?_push_size _ ho
theorem Rel2.set {hb h : Heap} {al : List Obj} (R : Rel2 hb al h) {j : Nat} {o : Obj} {f : Obj → Obj} (hj : al[j]? = some o) (hf : (f o).isFreed = false) : Rel2 hb (al.set j (f o)) (h.update (hb.objs.size + j) f) := by
  refine ⟨fun b x e => ?_, by rw [Heap.size_update, R.sz, List.length_set], fun i x e => ?_⟩
  · rw [Heap.get?_update_other _ _ (fun q => ?_)]
    · exact R.kp b x e
    · have h1 : b < hb.objs.size := Heap.lt_size e
      have h2 : hb.objs.size ≤ b := q ▸ Nat.le_add_right _ _
      exact Nat.lt_irrefl _ (Nat.lt_of_lt_of_le h1 h2)
  · by_cases hij : j = i
    · subst hij
      have hlt := (List.getElem?_eq_some_iff.mp hj).1
      rw [List.getElem?_set_self hlt] at e
      cases e
      exact Heap.get?_update_self _ (R.get j o hj) hf
    · rw [List.getElem?_set_ne hij] at e
      rw [Heap.get?_update_other _ _ (fun q => hij (Nat.add_left_cancel q))]
      exact R.get i x e
variable {prog : Program} {w : World} {E : Value → Shared → Prop}
noncomputable def RunOk2 (Kf : Frag) (prog : Program) (w : World) (hb : Heap) (run : Code → List Orc → List Obj → Nat → Option (Out2 Flow)) : Prop :=
  ∀ (c : Code) (os : List Orc) (al : List Obj) (tk : Nat) (r : Except Value Flow) (tr : List (Addr × Obj)) (eq : List (Addr × Nat)) (os' : List Orc) (al' : List Obj) (tk' : Nat), run c os al tk = some (r, tr, eq, os', al', tk') →
    ∀ (A : Around) (R : Result → Shared → Prop) (s : Shared), A.handled = none → Rel2 hb al s.heap → s.toks = tk → (∀ p ∈ tr, hb.get? p.1 = some p.2) → (∀ p ∈ eq, p.1 = hb.objs.size + p.2) →
      (∀ h', Rel2 hb al' h' → R r { s with heap := h', toks := tk' }) → codeAny (model prog w) A c R s
theorem sim2_ok {α : Type} {Kf : Frag} {hb : Heap} (hK : Kf.In hb) {run : Code → List Orc → List Obj → Nat → Option (Out2 Flow)} (hr : RunOk2 Kf prog w hb run) : ∀ (t : Sem α) (os : List Orc) (al : List Obj) (tk : Nat) (r : Except Value α) (tr : List (Addr × Obj)) (eq : List (Addr × Nat)) (os' : List Orc) (al' : List Obj) (tk' : Nat),
    sim2 Kf ⟨prog, w.params⟩ hb.objs.size run t os al tk = some (r, tr, eq, os', al', tk') →
    ∀ (A : Around) (Q : α → Shared → Prop) (E : Value → Shared → Prop) (s : Shared), A.handled = none → Rel2 hb al s.heap → s.toks = tk → (∀ p ∈ tr, hb.get? p.1 = some p.2) → (∀ p ∈ eq, p.1 = hb.objs.size + p.2) →
      (∀ h', Rel2 hb al' h' → match r with | .ok v => Q v { s with heap := h', toks := tk' } | .error e => E e { s with heap := h', toks := tk' }) → wpAny (model prog w) A t Q E s := by
  intro t
  induction t with
  | pure a =>
    intro os al tk r tr eq os' al' tk' e A Q E s hA hR ht htr heq q
    cases e
    subst ht
    exact wpAny_pure (q s.heap hR)
  | raise a =>
    intro os al tk r tr eq os' al' tk' e A Q E s hA hR ht htr heq q
    cases e
    subst ht
    exact fun Γ p hΓ => q s.heap hR
  | rule _ k ih => intro os al tk r tr eq os' al' tk' e A Q E s hA hR ht htr heq q; exact fun Γ p hΓ => ih () os al tk r tr eq os' al' tk' e A Q E s hA hR ht htr heq q Γ p hΓ
  | «at» _ k ih => intro os al tk r tr eq os' al' tk' e A Q E s hA hR ht htr heq q; exact fun Γ p hΓ => ih () os al tk r tr eq os' al' tk' e A Q E s hA hR ht htr heq q Γ _ hΓ
  | point _ k ih => intro os al tk r tr eq os' al' tk' e A Q E s hA hR ht htr heq q; exact fun Γ p hΓ => ih () os al tk r tr eq os' al' tk' e A Q E s hA hR ht htr heq q Γ p hΓ
  | ask k ih => intro os al tk r tr eq os' al' tk' e A Q E s hA hR ht htr heq q; exact fun Γ p hΓ => ih _ os al tk r tr eq os' al' tk' e A Q E s hA hR ht htr heq q Γ p hΓ
  | fresh k ih =>
    intro os al tk r tr eq os' al' tk' e A Q E s hA hR ht htr heq q
    subst ht
    exact fun Γ p hΓ => ih s.toks os al (s.toks + 1) r tr eq os' al' tk' e A Q E { s with toks := s.toks + 1 } hA hR rfl htr heq q Γ p hΓ
  | handled own k ih =>
    intro os al tk r tr eq os' al' tk' e A Q E s hA hR ht htr heq q
    cases own with
    | true => cases e
    | false =>
      intro Γ p hΓ
      show Sem.wp _ Γ (k Γ.handled) _ _ p s
      rw [hΓ.1, hA]
      exact ih none os al tk r tr eq os' al' tk' e A Q E s hA hR ht htr heq q Γ p hΓ
  | load a _ k ih =>
    intro os al tk r tr eq os' al' tk' e A Q E s hA hR ht htr heq q
    cases os with
    | nil => cases e
    | cons oo os =>
      cases oo with
      | frag =>
        obtain ⟨o, hlk, e⟩ := Option.bind_eq_some_iff.mp (show (Kf.lookup a).bind _ = _ from e)
        exact fun Γ p hΓ => ⟨o, hR.kp _ _ (hK _ _ hlk), ih o os al tk r tr eq os' al' tk' e A Q E s hA hR ht htr heq q Γ p hΓ⟩
      | old o =>
        obtain ⟨⟨v1, tr1, r1⟩, h1, e⟩ := Option.map_eq_some_iff.mp (show Option.map _ _ = _ from e)
        cases e
        exact fun Γ p hΓ => ⟨o, hR.kp _ _ (htr (a, o) (.head _)), ih o os al tk _ tr1 _ _ _ _ h1 A Q E s hA hR ht (fun p hp => htr p (.tail _ hp)) heq q Γ p hΓ⟩
      | new j =>
        obtain ⟨o, hj, e⟩ := Option.bind_eq_some_iff.mp (show (al[j]?).bind _ = _ from e)
        obtain ⟨⟨v1, tr1, eq1, r1⟩, h1, e⟩ := Option.map_eq_some_iff.mp e
        cases e
        have ea : a = hb.objs.size + j := heq (a, j) (.head _)
        exact fun Γ p hΓ => ⟨o, by rw [ea]; exact hR.get j o hj, ih o os al tk _ _ eq1 _ _ _ h1 A Q E s hA hR ht htr (fun p hp => heq p (.tail _ hp)) q Γ p hΓ⟩
  | update a _ f k ih =>
    intro os al tk r tr eq os' al' tk' e A Q E s hA hR ht htr heq q
    cases os with
    | nil => cases e
    | cons oo os =>
      cases oo with
      | frag => cases e
      | old o => cases e
      | new j =>
        obtain ⟨o, hj, e⟩ := Option.bind_eq_some_iff.mp (show (al[j]?).bind _ = _ from e)
        cases hf : (f o).isFreed with
        | true => rw [hf] at e; cases e
        | false =>
          rw [hf] at e
          obtain ⟨⟨v1, tr1, eq1, r1⟩, h1, e⟩ := Option.map_eq_some_iff.mp (show Option.map _ _ = _ from e)
          cases e
          have ea : a = hb.objs.size + j := heq (a, j) (.head _)
          intro Γ p hΓ
          refine ⟨by rw [ea, hR.get j o hj]; rfl, ?_⟩
          rw [ea]
          exact ih () os _ tk _ _ eq1 _ _ _ h1 A Q E { s with heap := s.heap.update (hb.objs.size + j) f } hA (hR.set hj hf) ht htr (fun p hp => heq p (.tail _ hp)) q Γ p hΓ
  | alloc o k ih =>
    intro os al tk r tr eq os' al' tk' e A Q E s hA hR ht htr heq q
    cases ho : o.isFreed with
    | true => replace e : cond o.isFreed none _ = _ := e; rw [ho] at e; cases e
    | false =>
      replace e : cond o.isFreed none (sim2 Kf ⟨prog, w.params⟩ hb.objs.size run (k (hb.objs.size + al.length)) os (al ++ [o]) tk) = _ := e
      rw [ho] at e
      intro Γ p hΓ
      show Sem.wp _ Γ (k s.heap.objs.size) _ _ p _
      rw [hR.sz]
      exact ih _ os _ tk r tr eq os' al' tk' e A Q E { s with heap := s.heap.push o } hA (hR.push ho) ht htr heq q Γ p hΓ
  | call c hd gu l k ih =>
    intro os al tk r tr eq os' al' tk' e A Q E s hA hR ht htr heq q
    cases hd with
    | some _ => cases e
    | none =>
      obtain ⟨⟨f, tr1, eq1, os1, al1, tk1⟩, h1, e⟩ := Option.bind_eq_some_iff.mp (show (run c os al tk).bind _ = _ from e)
      obtain ⟨⟨v2, tr2, eq2, r2⟩, h2, e⟩ := Option.map_eq_some_iff.mp e
      cases e
      have hc := hr c os al tk f tr1 eq1 os1 al1 tk1 h1 A (fun r s' => wpAny (model prog w) A (k r) Q E s') s hA hR ht (fun p hp => htr p (List.mem_append_left _ hp)) (fun p hp => heq p (List.mem_append_left _ hp)) (fun h' R' => ?_)
      · intro Γ p hΓ
        show wpCode _ (Γ.enter c none p) (fun r s' => Sem.wp _ Γ (k r) _ _ p s') p s
        exact wpCode_mono (fun r s' hr' => hr' Γ p hΓ) (hc _ p rfl (hΓ.enter c none p (by intro x; cases x)))
      · exact ih f os1 al1 tk1 _ tr2 eq2 _ _ _ h2 A Q E { s with heap := h', toks := tk1 } hA R' rfl (fun p hp => htr p (List.mem_append_right _ hp)) (fun p hp => heq p (List.mem_append_right _ hp)) q
  | _ => intro os al tk r tr eq os' al' tk' e; cases e
theorem sim2C_ok {Kf : Frag} {hb : Heap} (hK : Kf.In hb) : ∀ n, RunOk2 Kf prog w hb (sim2C Kf (denote table) ⟨prog, w.params⟩ hb.objs.size n)
  | 0 => fun _ _ _ _ _ _ _ _ _ _ e => by cases e
  | n + 1 => by
    intro c os al tk r tr eq os' al' tk' e A R s hA hR ht htr heq q
    simp only [sim2C] at e
    refine codeAny_of_tree ?_
    show wpAny (model prog w) (A.under c) (denote table c) _ _ s
    split at e
    · rename_i f1 r1 h1
      simp only [Option.some.injEq, Prod.mk.injEq] at e
      obtain ⟨rfl, rfl⟩ := e
      exact sim2_ok hK (sim2C_ok hK n) _ os al tk _ tr eq os' al' tk' h1 _ _ _ s hA hR ht htr heq fun h' R' => q h' R'
    · rename_i e1 r1 h1
      simp only [Option.some.injEq, Prod.mk.injEq] at e
      obtain ⟨rfl, rfl⟩ := e
      exact sim2_ok hK (sim2C_ok hK n) _ os al tk _ tr eq os' al' tk' h1 _ _ _ s hA hR ht htr heq fun h' R' => q h' R'
    · rename_i c1 tr1 eq1 os1 al1 tk1 h1
      split at e
      · rename_i hq
        split at e
        · rename_i f2 tr2 eq2 r2 h2
          simp only [Option.some.injEq, Prod.mk.injEq] at e
          obtain ⟨rfl, rfl, rfl, rfl⟩ := e
          refine sim2_ok hK (sim2C_ok hK n) _ os al tk _ tr1 eq1 os1 al1 tk1 h1 _ _ _ s hA hR ht (fun p hp => htr p (List.mem_append_left _ hp)) (fun p hp => heq p (List.mem_append_left _ hp)) fun h' R' => ?_
          exact ⟨hq, sim2C_ok hK n c1 os1 al1 tk1 f2 tr2 eq2 _ _ _ h2 A R _ hA R' rfl (fun p hp => htr p (List.mem_append_right _ hp)) (fun p hp => heq p (List.mem_append_right _ hp)) q⟩
        · cases e
      · cases e
    · cases e
/-- a tree by its run; what is pushed may be changed within -/
theorem by_sim2 {Kf : Frag} {α : Type} {A : Around} {Q : α → Shared → Prop} {t : Sem α} {h : Heap} {g : Array GenState} {d : Drawn} {tk : Nat} {os' : OsState} (X : Kf.In h) (n : Nat) (os : List Orc) {v : α} {tr : List (Addr × Obj)} {eq : List (Addr × Nat)} {al : List Obj} {k : Nat} {os2 : List Orc}
    (e : sim2 Kf ⟨prog, w.params⟩ h.objs.size (sim2C Kf denQ ⟨prog, w.params⟩ h.objs.size n) t os [] tk = some (.ok v, tr, eq, os2, al, k)) (hA : A.handled = none) (htr : ∀ p ∈ tr, h.get? p.1 = some p.2) (heq : ∀ p ∈ eq, p.1 = h.objs.size + p.2)
    (q : ∀ h', Rel2 h al h' → Q v ⟨h', g, d, k, os'⟩) : wpAny (model prog w) A t Q E ⟨h, g, d, tk, os'⟩ :=
  sim2_ok X (sim2C_ok X n) t os [] tk _ tr eq os2 al k (denQ_eq ▸ e) A Q E ⟨h, g, d, tk, os'⟩ hA (Rel2.start h) rfl htr heq fun h' R' => q h' R'
end sim2
section sim2v
noncomputable def orcs (o : Obj) (l : List Nat) : List Orc := l.map fun n => match n with
  | 0 => .old o
  | 1 => .frag
  | n + 2 => .new n
noncomputable def newsOf (l : List Nat) : List Nat := l.filterMap fun n => match n with
  | n + 2 => some n
  | _ => none
noncomputable def oldsOf (l : List Nat) : Nat := (l.filter fun n => n == 0).length
variable {prog : Program} {w : World} {E : Value → Shared → Prop}
/-- a tree by its run over one known object M: what is pushed in place j is o at the end -/
theorem by_sim2v {Kf : Frag} {α : Type} {A : Around} {Q : α → Shared → Prop} {t : Sem α} {h : Heap} {g : Array GenState} {d : Drawn} {tk : Nat} {os' : OsState} (X : Kf.In h) (n : Nat) (l : List Nat) (j : Nat) {M : Addr} {mo o : Obj} {v : α} {k : Nat}
    (e : (sim2 Kf ⟨prog, w.params⟩ h.objs.size (sim2C Kf denQ ⟨prog, w.params⟩ h.objs.size n) t (orcs mo l) [] tk).map (fun r => (r.1, r.2.1, r.2.2.1, r.2.2.2.2.1[j]?, r.2.2.2.2.2)) = some (.ok v, List.replicate (oldsOf l) (M, mo), (newsOf l).map (fun j => (h.objs.size + j, j)), some o, k))
    (hA : A.handled = none) (hM : h.get? M = some mo) (q : ∀ h', Kp h h' → h'.get? (h.objs.size + j) = some o → Q v ⟨h', g, d, k, os'⟩) : wpAny (model prog w) A t Q E ⟨h, g, d, tk, os'⟩ := by
  obtain ⟨⟨r, tr, eq, os2, al, tk'⟩, e1, e2⟩ := Option.map_eq_some_iff.mp e
  simp only [Prod.mk.injEq] at e2
  obtain ⟨rfl, rfl, rfl, ho, rfl⟩ := e2
  refine by_sim2 X n _ e1 hA (fun p hp => by rw [List.eq_of_mem_replicate hp]; exact hM) (fun p hp => ?_) fun h' R' => q h' R'.kp (R'.get j o ho)
  obtain ⟨i, _, rfl⟩ := List.mem_map.mp hp
  rfl
end sim2v

section tupm
variable {prog : Program} {w : World} {E : Value → Shared → Prop}
noncomputable def sim2F (Kf : Frag) (den : Code → Sem PySem.Fin) (S : Setting) (base n : Nat) (t : Sem PySem.Fin) (os : List Orc) (al : List Obj) (tk : Nat) : Option (Out2 Flow) := match sim2 Kf S base (sim2C Kf den S base n) t os al tk with
  | some (.ok (.done f), r) => some (.ok f, r)
  | some (.error e, r) => some (.error e, r)
  | some (.ok (.again c'), tr, eq, os', al', tk') => (match c'.quiet with
    | true => (match sim2C Kf den S base n c' os' al' tk' with
      | some (f, tr', eq', r) => some (f, tr ++ tr', eq ++ eq', r)
      | none => none)
    | false => none)
  | none => none
theorem sim2F_ok {Kf : Frag} {hb : Heap} (hK : Kf.In hb) (n : Nat) {t : Sem PySem.Fin} {os : List Orc} {al : List Obj} {tk : Nat} {r : Except Value Flow} {tr : List (Addr × Obj)} {eq : List (Addr × Nat)} {os' : List Orc} {al' : List Obj} {tk' : Nat}
    (e : sim2F Kf denQ ⟨prog, w.params⟩ hb.objs.size n t os al tk = some (r, tr, eq, os', al', tk')) {A A0 : Around} {R : Result → Shared → Prop} {s : Shared} (hA : A.handled = none) (hA0 : A0.handled = none) (hR : Rel2 hb al s.heap) (ht : s.toks = tk) (htr : ∀ p ∈ tr, hb.get? p.1 = some p.2) (heq : ∀ p ∈ eq, p.1 = hb.objs.size + p.2)
    (q : ∀ h', Rel2 hb al' h' → R r { s with heap := h', toks := tk' }) :
    wpAny (model prog w) A t (fun fin s' => match fin with | .done f => R (.ok f) s' | .again c' => c'.quiet = true ∧ codeAny (model prog w) A0 c' R s') (fun e s' => R (.error e) s') s := by
  rw [← denQ_eq] at e
  unfold sim2F at e
  split at e
  · rename_i f1 r1 h1
    simp only [Option.some.injEq, Prod.mk.injEq] at e
    obtain ⟨rfl, rfl⟩ := e
    exact sim2_ok hK (sim2C_ok hK n) _ os al tk _ tr eq os' al' tk' h1 _ _ _ s hA hR ht htr heq fun h' R' => q h' R'
  · rename_i e1 r1 h1
    simp only [Option.some.injEq, Prod.mk.injEq] at e
    obtain ⟨rfl, rfl⟩ := e
    exact sim2_ok hK (sim2C_ok hK n) _ os al tk _ tr eq os' al' tk' h1 _ _ _ s hA hR ht htr heq fun h' R' => q h' R'
  · rename_i c1 tr1 eq1 os1 al1 tk1 h1
    split at e
    · rename_i hq
      split at e
      · rename_i f2 tr2 eq2 r2 h2
        simp only [Option.some.injEq, Prod.mk.injEq] at e
        obtain ⟨rfl, rfl, rfl, rfl⟩ := e
        refine sim2_ok hK (sim2C_ok hK n) _ os al tk _ tr1 eq1 os1 al1 tk1 h1 _ _ _ s hA hR ht (fun p hp => htr p (List.mem_append_left _ hp)) (fun p hp => heq p (List.mem_append_left _ hp)) fun h' R' => ?_
        exact ⟨hq, sim2C_ok hK n c1 os1 al1 tk1 f2 tr2 eq2 _ _ _ h2 A0 R _ hA0 R' rfl (fun p hp => htr p (List.mem_append_right _ hp)) (fun p hp => heq p (List.mem_append_right _ hp)) q⟩
      · cases e
    · cases e
  · cases e
end tupm
noncomputable abbrev mtO (dx : Addr) (vs : Array Value) : Obj := { cls := .ref 135, dict := some dx, data := .seq vs }
noncomputable def ft (P : Params) (b : Bool) : Params := { P with followText := fun s => if s == "special-get-raises" then b else P.followText s }
theorem ft_eq (P : Params) : P = ft P (P.followText "special-get-raises") := by
  unfold ft
  have e : (fun s => if s == "special-get-raises" then P.followText "special-get-raises" else P.followText s) = P.followText := by
    funext s
    by_cases h : s = "special-get-raises"
    · simp [h]
    · simp [h]
  rw [e]
noncomputable def colO : List Nat := [0, 1, 1, 1, 0, 1, 1, 1, 0, 1, 3, 0, 1, 1, 1, 0, 1, 0, 0, 1, 1, 1, 0, 1, 0, 2, 2, 2, 2, 2, 2, 3, 3, 3, 3, 0, 3, 3, 2, 2, 2, 3, 3, 3, 3, 0, 3, 3, 2, 2, 2, 3, 3, 3, 3, 0, 3, 3, 2, 2, 2, 3, 3, 3, 3, 0, 3, 3, 5]
noncomputable abbrev colAl (b : Nat) (x y z : Value) : List Obj := [{ cls := .type "list", data := .seq #[x, y, z] 5 }, { cls := .type "tuple_iterator", data := .fields #[.none, .int 3 0] }, tuO #[], { cls := .type "StopIteration", data := .fields #[.ref (b + 2), .none, .none, .none, .bool false, .none] }]
theorem collect_match {w : World} {A : Around} {h : Heap} {g : Array GenState} {d : Drawn} {tk : Nat} {os : OsState} {E : Value → Shared → Prop} {Q : List Value → Shared → Prop} {M dx : Addr} {x y z : Value} (X : (K w.params).In h) (hA : A.handled = none) (hM : h.get? M = some (mtO dx #[x, y, z]))
    (q : ∀ h' tk', Kp h h' → tk ≤ tk' → Q [x, y, z] ⟨h', g, d, tk', os⟩) : wpAny (model pw w) A (collect (.ref M)) Q E ⟨h, g, d, tk, os⟩ := by
  unfold collect
  refine wpAny_bind (wpAny_runValue (codeAny_builtin F.entry_proto_collect ?_))
  rw [Around.under_plainId F.plain_proto_collect _]
  show wpAny _ A.in1 (newList [] >>= fun l => again (.builtin "list.__iadd__" ⟨[l, .ref M], []⟩)) _ _ _
  refine wpAny_bind (wpAny_newObj_type ?_)
  refine wpAny_pure ⟨plainId_quiet F.plain_list_iadd _, codeAny_builtin F.entry_list_iadd ?_⟩
  rw [Around.under_plainId F.plain_list_iadd _]
  show wpAny _ A.in1 (Builtin.List.listExtendWith (.ref h.objs.size) (.ref M) (.ref h.objs.size)) _ _ _
  have R1 : Rel2 h [liO []] (h.push (liO [])) := (Rel2.start h).push rfl
  have hM1 : (h.push (liO [])).get? M = some (mtO dx #[x, y, z]) := R1.kp _ _ hM
  have hne : Builtin.List.listSameRef (.ref h.objs.size) (.ref M) = false := by
    have : h.objs.size ≠ M := Nat.ne_of_gt (Heap.lt_size hM)
    simp [Builtin.List.listSameRef, this]
  unfold Builtin.List.listExtendWith
  show wpAny _ _ (load M >>= _) _ _ _
  refine wpAny_bind (wpAny_load hM1 ?_)
  dsimp only
  rw [if_neg (by rw [hne]; decide)]
  have fin' : ∀ h', Rel2 h (colAl h.objs.size x y z) h' → wpAny (model pw w) A (match Value.ref h.objs.size with
      | Value.ref a => do
        match (← load a).data with
          | Data.seq xs _ => pure xs.toList
          | _ => unsupported "internal:collect"
      | _ => unsupported "internal:collect") Q E ⟨h', g, d, tk + 2, os⟩ := fun h' R' => by
    have e0 : h'.get? h.objs.size = some _ := R'.get 0 _ rfl
    show wpAny _ A (load h.objs.size >>= _) _ _ _
    exact wpAny_bind (wpAny_load e0 (wpAny_pure (q h' (tk + 2) R'.kp (by omega))))
  refine wpAny_mono (sim2F_ok (prog := pw) (w := w) (A0 := A) X 50 (os := orcs (mtO dx #[x, y, z]) colO) (al := [liO []]) (tk := tk) (r := .ok (.ret (.ref h.objs.size))) (tr := List.replicate (oldsOf colO) (M, mtO dx #[x, y, z])) (eq := (newsOf colO).map fun j => (h.objs.size + j, j)) (os' := [])
      (al' := colAl h.objs.size x y z) (tk' := tk + 2) (R := fun r s' => r = .ok (.ret (.ref h.objs.size)) ∧ ∃ h', Rel2 h (colAl h.objs.size x y z) h' ∧ s' = ⟨h', g, d, tk + 2, os⟩) ?e hA hA R1 rfl (fun p hp => by rw [List.eq_of_mem_replicate hp]; exact hM) (fun p hp => by obtain ⟨i, _, rfl⟩ := List.mem_map.mp hp; rfl) fun h' R' => ⟨rfl, h', R', rfl⟩) (fun fin s' hh => ?_) (fun e s' hh => ?_)
  case e =>
    rw [ft_eq w.params]
    generalize w.params.followText "special-get-raises" = b
    cases b <;> kernel_rfl
  · cases fin with
    | done f =>
      obtain ⟨e, h', R', rfl⟩ := hh
      cases e
      exact fin' h' R'
    | again c' =>
      refine ⟨hh.1, codeAny_mono hh.2 fun r s'' hr => ?_⟩
      obtain ⟨rfl, h', R', rfl⟩ := hr
      exact fin' h' R'
  · exact absurd hh.1 (by simp)

theorem typeOf_ref {M : Model} {A : Around} {E : Value → Shared → Prop} {s : Shared} {a : Addr} {o : Obj} {Q : Value → Shared → Prop} (ho : s.heap.get? a = some o) (q : Q o.cls s) : wpAny M A (typeOf (.ref a)) Q E s := by
  simp only [typeOf]
  exact wpAny_bind (wpAny_load ho (wpAny_pure q))
theorem code_tuple_match {w : World} {A : Around} {h : Heap} {g : Array GenState} {d : Drawn} {tk : Nat} {os : OsState} {E : Value → Shared → Prop} {Q : Value → Shared → Prop} {M dx : Addr} {x y z : Value} (X : (K w.params).In h) (hA : A.handled = none) (hM : h.get? M = some (mtO dx #[x, y, z]))
    (q : ∀ h' tk', Kp h h' → tk ≤ tk' → Q (.ref h'.objs.size) ⟨h'.push (tuO #[x, y, z]), g, d, tk', os⟩) : codeAny (model pw w) A (.call (.builtin "tuple.__new__") ⟨[.type "tuple", .ref M], []⟩) (wants Q E) ⟨h, g, d, tk, os⟩ := by
  refine codeAny_of_tree ?_
  show wpAny _ A.in1 (do checkBuiltinCall "tuple.__new__" ⟨[.type "tuple", .ref M], []⟩; again (.builtin "tuple.__new__" ⟨[.type "tuple", .ref M], []⟩)) _ _ _
  refine wpAny_bind (wpAny_of_eq (F.newCall_tuple_1 _) (wpAny_pure ⟨plainId_quiet F.plain_tuple_new _, codeAny_builtin F.entry_tuple_new ?_⟩))
  rw [Around.under_plainId F.plain_tuple_new _]
  have hsub := sub_tuple_self
  have hinit := init_tuple_lookup
  have hmh := madeHere_tuple
  have hA1 : A.in1.handled = none := hA
  wp_walk using typeOf_ref hM, collect_match X hA1 hM
  intro h' tk' k' htk
  show wpAny _ _ (Builtin.Tuple.tupleExact [x, y, z].toArray >>= fun v => ret v) _ _ _
  unfold Builtin.Tuple.tupleExact
  refine wpAny_bind (wpAny_newObj_type ?_ (by show 3 ≤ sizeLine; rw [sizeLine_eq]; decide))
  exact wpAny_pure (q h' tk' k' htk)
theorem tup_of_match {w : World} {A : Around} {h : Heap} {g : Array GenState} {d : Drawn} {tk : Nat} {os : OsState} {E : Value → Shared → Prop} {Q : Value → Shared → Prop} {M dx : Addr} {x y z : Value} (X : (K w.params).In h) (hA : A.handled = none) (hM : h.get? M = some (mtO dx #[x, y, z]))
    (q : ∀ T h' tk', Kp h h' → tk ≤ tk' → h.get? T = none → h'.get? T = some (tuO #[x, y, z]) → Q (.ref T) ⟨h', g, d, tk', os⟩) : wpAny (model pw w) A (call (.type "tuple") [.ref M]) Q E ⟨h, g, d, tk, os⟩ := by
  refine callType_codes (Q₁ := fun obj s₁ => s₁.TypeIs obj "tuple" ∧ Q obj s₁) F.called_tuple (F.typeCall_tuple_1 _) F.entry_object_init
    (code_tuple_match X hA hM fun h' tk' k' htk => ⟨⟨_, Heap.get?_push_size _ rfl, rfl⟩, q _ _ tk' (fun b o e => Heap.get?_push_of_some _ (k' b o e)) htk ?_ (Heap.get?_push_size _ rfl)⟩) fun obj s₁ h₁ => ?_
  · cases e : h.get? h'.objs.size with
    | none => rfl
    | some o => exact absurd (Heap.lt_size (k' _ _ e)) (Nat.lt_irrefl _)
  · exact ⟨h₁.1, F.args_object_init_2 obj _, object_init_meets F.called_tuple.init.lookup F.called_tuple.made (by decide) pw w A.in1 _ s₁ ⟨h₁.1, rfl, h₁.2⟩⟩

section tne
variable {prog : Program} {w : World} {A : Around} {E : Value → Shared → Prop} {s : Shared}
theorem tne_loop {R : Option PySem.Fin × Unit → Shared → Prop} {body : Value × Value → Option PySem.Fin × Unit → Sem (ForInStep (Option PySem.Fin × Unit))}
    (hb : ∀ a t u (s : Shared) (R' : ForInStep (Option PySem.Fin × Unit) → Shared → Prop), R' (.yield (none, ())) s → wpAny (model prog w) A (body (.int a t, .int a u) (none, ())) R' E s) :
    ∀ (vs us : List Value) (ns : List Int) (s : Shared), IntVs vs ns → IntVs us ns → R (none, ()) s → wpAny (model prog w) A (forIn (vs.zip us) (none, ()) body) R E s := by
  intro vs us ns
  induction ns generalizing vs us with
  | nil =>
    intro s hv hu h
    rw [hv.none]
    exact wpAny_pure h
  | cons n ns ih =>
    intro s hv hu h
    obtain ⟨t, r, rfl, hv'⟩ := hv.uncons
    obtain ⟨u, r', rfl, hu'⟩ := hu.uncons
    rw [List.zip_cons_cons, List.forIn_cons]
    exact wpAny_bind (hb n t u s _ (ih r r' s hv' hu' h))
theorem k_netup {h : Heap} {g : Array GenState} {d : Drawn} {tk : Nat} {os : OsState} {a b : Addr} {vs us : Array Value} {ns : List Int} {Q : Value → Shared → Prop} (ha : IsTup h a vs) (hb : IsTup h b us) (hv : IntVs vs.toList ns) (hu : IntVs us.toList ns) (hU : A.units < cLine)
    (q : Q (.bool false) ⟨h, g, d, tk, os⟩) : wpAny (model prog w) A (compareOp .NotEq (.ref a) (.ref b)) Q E ⟨h, g, d, tk, os⟩ := by
  have ta : Shared.TypeIs ⟨h, g, d, tk, os⟩ (.ref a) "tuple" := ha.typeIs (s := ⟨h, g, d, tk, os⟩)
  have tb : Shared.TypeIs ⟨h, g, d, tk, os⟩ (.ref b) "tuple" := hb.typeIs (s := ⟨h, g, d, tk, os⟩)
  obtain ⟨oa, ga, _, na, da⟩ := ha
  obtain ⟨ob, gb, _, nb, db⟩ := hb
  show wpAny _ _ (richCompare .NotEq (.ref a) (.ref b)) Q E _
  refine wpAny_richCompare_same_room (op := .NotEq) (T := "tuple") ta tb F.slot_tuple_ne (wpAny_call_entry F.slot_tuple_ne ta F.entry_tuple_ne ?_ (F.args_tuple_ne_2 _ _)) hU
  unfold Builtin.«tuple.__ne__»
  refine wpAny_bind (arg2 ?_)
  dsimp only
  refine wpAny_bind (wpAny_isInstance tb AutoSeq1.sub_tuple_tuple ?_)
  rw [if_neg (by decide)]
  refine wpAny_bind (wpAny_tupleItemsOf ga da (wpAny_bind (wpAny_tupleItemsOf gb db ?_)))
  have hsz : vs.size = us.size := by rw [← Array.length_toList, ← Array.length_toList, hv.1, hu.1]
  refine wpAny_bind (tne_loop (fun x t u s' R' hR => ?_) vs.toList us.toList ns _ hv hu ?_)
  · refine wpAny_bind (wpAny_eqBool_int ?_)
    rw [beq_self_eq_true]
    simp only [Bool.not_true, Bool.false_eq_true, if_false]
    exact wpAny_pure hR
  · have e2 : Builtin.Tuple.tupleCompareSizes .NotEq vs.size us.size = .bool false := by rw [hsz]; show Value.bool (us.size != us.size) = _; rw [bne_self_eq_false]
    rw [e2]
    exact wpAny_pure ⟨_, rfl, by simp, q⟩
end tne

theorem B2J.keep {w : World} {h h' : Heap} {bj : Addr} {pl : Nat → List Nat} (b : B2J w h bj pl) (k : Kp h h') : B2J w h' bj pl := by
  obtain ⟨m, hm, hc⟩ := b
  refine ⟨m, MapOf.kept hm k, fun c => ?_⟩
  rcases hc c with h1 | ⟨lj, vs, h1, ⟨o, ho, r⟩, h3⟩
  · exact .inl h1
  · exact .inr ⟨lj, vs, h1, ⟨o, k _ _ ho, r⟩, h3⟩
theorem Mat.keep {w : World} {h h' : Heap} {x : Addr} {as bs : List Nat} {pl : Nat → List Nat} {junk : Nat → Bool} (m : Mat w h x as bs pl junk) (k : Kp h h') : Mat w h' x as bs pl junk := by
  obtain ⟨⟨mA, bj, jk, ta, tb, js, jep, jtb, I, ea, eb, ej, ek, hJ, hB, hbs, hI, hn⟩, h1, h2, h3⟩ := m
  exact ⟨⟨mA, bj, jk, ta, tb, js, jep, jtb, I.keeps k, ea, eb, ej, ek, k _ _ hJ, hB.keep k, hbs, fun A u hA h2 c t g d tk os Q E k2 => hI A u hA h2 c t g d tk os Q E (fun b o e => k2 b o (k b o e)), hn⟩, h1, h2, h3⟩
theorem flm_method {w : World} {A : Around} {h : Heap} {g : Array GenState} {d : Drawn} {tk : Nat} {os : OsState} {E : Value → Shared → Prop} {Q : Value × List Value → Shared → Prop} {x : Addr} {as bs : List Nat} {pl : Nat → List Nat} {junk : Nat → Bool} {pb : Sem Bool} (X : (K w.params).In h) (m : Mat w h x as bs pl junk)
    (q : Q (.ref 196, [.ref x]) ⟨h, g, d, tk, os⟩) : wpAny (model pw w) A (getMethod (.ref x) (Str.ofString "find_longest_match") pb) Q E ⟨h, g, d, tk, os⟩ := by
  obtain ⟨⟨mA, bj, jk, ta, tb, js, jep, jtb, I, ea, eb, ej, ek, hJ, hB, hbs, hI, hn⟩, h1, h2, h3⟩ := m
  exact sm_meth (f := 196) (of := o196 w.params) X I hn.1 q

/-- the facts that the law's later statements stand on -/
structure Gr (w : World) (h : Heap) (mg mb : Str → Option Value) : Prop where
  X : (K w.params).In h
  X' : TopRead Mine.q (looseW Mine.q loose) mg mb h
  lim : h.NoLimit
  sys : ∃ o, h.get? sysModules = some o
theorem Gr.keep {w : World} {h h' : Heap} {mg mb : Str → Option Value} (G : Gr w h mg mb) (k : Kp h h') : Gr w h' mg mb :=
  ⟨G.X.keeps k, G.X'.keeps k, G.lim.keeps k, let ⟨o, ho⟩ := G.sys; ⟨o, k _ _ ho⟩⟩
theorem Gr.nsys {w : World} {h : Heap} {mg mb : Str → Option Value} (G : Gr w h mg mb) (a : Addr) (e : h.get? a = none) : (a == sysModules) = false := by
  obtain ⟨o, ho⟩ := G.sys
  refine beq_eq_false_iff_ne.mpr fun q => ?_
  rw [q, ho] at e; cases e

theorem law_s12 {w : World} {A : Around} {h h₁ : Heap} {L fa : Addr} {cd : Value} {g : Array GenState} {d : Drawn} {tk : Nat} {os : OsState} {E : Value → Shared → Prop} {Q : Flow → Shared → Prop} {mg mb : Str → Option Value} {l : List (Str × Value)} {news : List (Addr × Obj)} {D1 D2 H1 H2 x S : Addr} {v1 v2 : List Value} {i1 i2 : Array Value} {n1 n2 : Nat} {xs ys : List Nat} {q : Bool} {hm : Heap} {oS : Obj} {rest : List Stmt}
    (hA : A.handled = none) (G : Gr w h mg mb) (hD : A.depth + 8 < recursionLimit) (hU : A.units + 40 < cLine) (F : Fr h L h₁ (lk l)) (N : News h L h₁ news)
    (m1 : (D1, liO v1) ∈ news) (m2 : (D2, liO v2) ∈ news) (m3 : (H1, W.listOf i1 n1) ∈ news) (m4 : (H2, W.listOf i2 n2) ∈ news) (m5 : (S, oS) ∈ news) (m6 : ∀ p ∈ heapL hm, p ∈ news)
    (e1 : Lets v1.toArray xs) (e2 : Lets v2.toArray ys) (e3 : Heres q 0 i1 xs) (e4 : Heres q 0 i2 ys) (e5 : SizesO w q oS) (M : Mat w hm x (esc q xs) (esc q ys) (pos (esc q ys) (esc q ys).length) (fun _ => false)) (ab1 : ∀ a ∈ xs, a ∈ abc) (ab2 : ∀ a ∈ ys, a ∈ abc) (hl1 : xs.length ≤ 500) (hl2 : ys.length ≤ 500)
    (x1 : lk l (Str.ofString "ones") = some (.ref D1)) (x2 : lk l (Str.ofString "others") = some (.ref D2)) (x3 : lk l (Str.ofString "here") = some (.ref H1)) (x4 : lk l (Str.ofString "there") = some (.ref H2)) (x5 : lk l (Str.ofString "sizes") = some (.ref S)) (x6 : lk l (Str.ofString "matcher") = some (.ref x))
    (qq : ∀ h' tk', Fr h L h' (lk l) → News h L h' news → tk ≤ tk' → wpAny (model pw w) A (execs rest (lwE L fa cd)) Q E ⟨h', g, d, tk', os⟩) :
    wpAny (model pw w) A (execs (lwS 12 :: rest) (lwE L fa cd)) Q E ⟨h₁, g, d, tk, os⟩ := by
  have X := G.X
  have X' := G.X'
  refine x_cons ?_
  conv in (lwS 12) => whnf
  walk_at "my go"
  have Mh : ∀ h' (own : List (Addr × Obj)), News h L h' (own ++ news) → Mat w h' x (esc q xs) (esc q ys) (pos (esc q ys) (esc q ys).length) (fun _ => false) := fun h' own N => M.keep fun b o e => N.get (List.mem_append_right _ (m6 _ (mem_heapL.mpr e)))
  refine flm_method (X.keeps F.keep) (Mh _ [] N) ?_
  refine callWith_K0 (K := K w.params) (X.keeps F.keep) (by kernel_rfl) ?_
  have ea : esc q xs = W q xs := esc_W q xs
  have eb : esc q ys = W q ys := esc_W q ys
  have hlong := longest_eq q xs ys [] [] [] [] ab1 ab2
  simp only [List.nil_append, List.append_nil, List.length_nil, Nat.zero_add] at hlong
  rw [← ea, ← eb] at hlong
  have G1 := G.keep F.keep
  refine flm_call0 G1.X G1.X' G1.lim (by omega) hA (Mh _ [] N) G1.nsys (rows_ok (Nat.zero_le _) (Nat.zero_le _) (Nat.le_refl _) (Nat.le_refl _) fun c => pos_sorted _ _ _) fun T0 dx h2 tk2 s1 s2 s3 k2 htk2 hT0 hT0' => ?_
  rw [hlong] at hT0'
  have F2 := F.keeps k2
  have N2 := N.grown k2
  clear F N
  walk_at "my go"
  refine tup_of_match (X.keeps F2.keep) hA hT0' fun T h3 tk3 k3 htk3 hT hT' => ?_
  have F3 := F2.keeps k3
  have hTL : T ≠ L := fun e => by
    obtain ⟨oL, _, _, hoL, _⟩ := F2.ns
    rw [e, hoL] at hT; cases hT
  have hTh : h.get? T = none := by
    cases e : h.get? T with
    | none => rfl
    | some o => rw [F2.keep _ _ e] at hT; cases hT
  have N3 := News.more1 (N2.grown k3) hT' hTL hTh
  clear F2 N2
  walk_at "my go"
  refine nm_k F3 X X' g_longest ?_
  refine callWith_K (K := K w.params) X (by kernel_rfl) ?_ (by kernel_rfl) (by kernel_rfl)
  walk_at "my go"
  have G3 := G.keep F3.keep
  refine long_call (q := q) (oa := 0) (ob := 0) (xs := xs) (ys := ys) G3.X G3.X' G3.lim (by omega) (by omega) hA (N3.isList (.tail _ m1)) (N3.isList (.tail _ m3)) (N3.isList (.tail _ m2)) (N3.isList (.tail _ m4)) e1 e3 e2 e4 (e5.at (N3.get (.tail _ m5))) (G.nsys _ (N3 _ (.tail _ m5)).2.2) (by omega) (by omega) ab1 ab2 fun T2 h4 tk4 t1 t2 t3 k4 htk4 hT2 hT2' => ?_
  have F4 := F3.keeps k4
  have N4 := N3.grown k4
  clear F3 N3
  walk_at "my go"
  refine k_netup (N4.isTup (.head _)) ⟨_, hT2', rfl, 0, rfl⟩ (IntVs.cons (IntVs.cons (IntVs.cons IntVs.nil))) (IntVs.cons (IntVs.cons (IntVs.cons IntVs.nil))) (by omega) ?_
  walk_at "my go"
  exact qq _ _ F4 (fun p hp => N4 p (.tail _ hp)) (by omega)

section
local macro_rules | `(tactic| walk_at "my list") => `(tactic| first | exact K1 (Fr.keep (by assumption)) | exact K2 (Fr.keep (by assumption)) | exact K3 (Fr.keep (by assumption)) | exact K4 (Fr.keep (by assumption)) | exact News.isList (by assumption) (by k_mem))
local macro_rules | `(tactic| walk_at "my size") => `(tactic| first | omega | ((try simp only [List.size_toArray, List.length_take, List.length_drop, List.length_reverse, Array.length_toList]); omega))
local macro_rules | `(tactic| walk_at "subscriptTail Name Slice ref ref") => `(tactic| ((try dsimp only); first
  | ((with_unfolding_all refine' k_sl_to ?sl_F ?sl_N ?sl_l ?sl_z ?_ ?sl_hs ?sl_ht); (case sl_F => assumption); (case sl_N => assumption); (case sl_l => walk_at "my list"); (case sl_z => walk_at "my size"); (case sl_hs => with_unfolding_all rfl); (case sl_ht => (intro _; with_unfolding_all rfl)); intro D' h' F' N' l1)
  | ((with_unfolding_all refine' k_sl_from ?sl_F ?sl_N ?sl_l ?sl_z ?_ ?sl_hs ?sl_ht); (case sl_F => assumption); (case sl_N => assumption); (case sl_l => walk_at "my list"); (case sl_z => walk_at "my size"); (case sl_hs => with_unfolding_all rfl); (case sl_ht => (intro _; with_unfolding_all rfl)); intro D' h' F' N' l1)
  | ((with_unfolding_all refine' k_sl_rev ?sl_F ?sl_N ?sl_l ?sl_z ?_ ?sl_hs ?sl_ht); (case sl_F => assumption); (case sl_N => assumption); (case sl_l => walk_at "my list"); (case sl_z => walk_at "my size"); (case sl_hs => with_unfolding_all rfl); (case sl_ht => (intro _; with_unfolding_all rfl)); intro D' h' F' N' l1)
  | ((with_unfolding_all refine' k_tsl_from (i := 1) ?sl_F ?sl_N ?sl_l ?sl_h1 ?sl_hi ?sl_z ?_ ?sl_hs ?sl_ht); (case sl_F => assumption); (case sl_N => assumption); (case sl_l => exact News.isTup (by assumption) (by k_mem)); (case sl_h1 => decide); (case sl_hi => exact Nat.le_of_ble_eq_true rfl); (case sl_z => exact Nat.le_of_ble_eq_true rfl); (case sl_hs => with_unfolding_all rfl); (case sl_ht => (intro _; with_unfolding_all rfl)); intro D' h' F' N' l1)))
local macro_rules | `(tactic| walk_at "subscriptTail Name Name ref int") => `(tactic| ((try dsimp only); first
  | ((with_unfolding_all refine' k_item (K2 (Fr.keep (by assumption))) ?sl_z I2 ?_ ?sl_hs ?sl_ht); (case sl_z => walk_at "my size"); (case sl_hs => with_unfolding_all rfl); (case sl_ht => (intro _; with_unfolding_all rfl)))
  | ((with_unfolding_all refine' k_item (K4 (Fr.keep (by assumption))) ?sl_z I4 ?_ ?sl_hs ?sl_ht); (case sl_z => walk_at "my size"); (case sl_hs => with_unfolding_all rfl); (case sl_ht => (intro _; with_unfolding_all rfl)))))
local macro_rules | `(tactic| walk_at "compareOp Lt ref ref") => `(tactic| ((try dsimp only); (with_reducible refine' k_ltup ?sl_a ?sl_b ?sl_va ?sl_vb ?sl_l ?sl_u ?_); (case sl_a => exact News.isTup (by assumption) (by k_mem)); (case sl_b => exact News.isTup (by assumption) (by k_mem)); (case sl_va => exact IntVs.cons (IntVs.cons IntVs.nil)); (case sl_vb => exact IntVs.cons (IntVs.cons IntVs.nil)); (case sl_l => rfl); (case sl_u => ((show _ < _); omega))))

local macro_rules | `(tactic| walk_at "call type:range") => `(tactic| ((with_reducible refine' k_range1 ?x1 ?x2 ?_); (case x1 => assumption); (case x2 => assumption); intro D' h' F' N' l1))
local macro_rules | `(tactic| walk_at "call builtin:len") => `(tactic| ((with_reducible refine' k_len_list ?x1 ?x2 ?_); (case x1 => walk_at "my list"); (case x2 => walk_at "my size")))
local macro_rules | `(tactic| walk_at "subscriptTail Name Constant ref int") => `(tactic| ((try dsimp only); first
  | ((with_unfolding_all refine' k_item (i := 0) (K2 (Fr.keep (by assumption))) ?sl_z I2 ?_ ?sl_hs ?sl_ht); (case sl_z => walk_at "my size"); (case sl_hs => with_unfolding_all rfl); (case sl_ht => (intro _; with_unfolding_all rfl)))
  | ((with_unfolding_all refine' k_item (i := 0) (K4 (Fr.keep (by assumption))) ?sl_z I4 ?_ ?sl_hs ?sl_ht); (case sl_z => walk_at "my size"); (case sl_hs => with_unfolding_all rfl); (case sl_ht => (intro _; with_unfolding_all rfl)))))

local macro_rules | `(tactic| walk_at "my mem") => `(tactic| first | exact m1 | exact m2 | exact m3 | exact m4 | exact m5 | exact List.Mem.head _ | (refine List.Mem.tail _ ?_; walk_at "my mem"))
local macro_rules | `(tactic| walk_at "my list") => `(tactic| exact News.isList (by assumption) (by walk_at "my mem"))
local macro_rules | `(tactic| walk_at "my size") => `(tactic| first | omega | ((try simp only [List.size_toArray, List.length_take, List.length_drop, List.length_reverse, Array.length_toList]); omega))

noncomputable abbrev twS (i : Nat) : Stmt := sAt (stBody (lwS 13)) i
theorem turn_a {w : World} {A : Around} {h h₁ : Heap} {L fa : Addr} {cd : Value} {g : Array GenState} {d : Drawn} {tk : Nat} {os : OsState} {E : Value → Shared → Prop} {Q : Flow → Shared → Prop} {mg mb : Str → Option Value} {l : List (Str × Value)} {news : List (Addr × Obj)} {H1 H2 : Addr} {i1 i2 : Array Value} {n1 n2 k : Nat} {t : Tok} {rest : List Stmt}
    (hA : A.handled = none) (X : (K w.params).In h) (X' : TopRead Mine.q (looseW Mine.q loose) mg mb h) (F : Fr h L h₁ (lk l)) (N : News h L h₁ news)
    (m1 : (H1, W.listOf i1 n1) ∈ news) (m2 : (H2, W.listOf i2 n2) ∈ news) (z1 : i1.size ≤ 1000) (z2 : i2.size ≤ 1000) (hk : 1 ≤ k ∧ k ≤ 3)
    (x3 : lk l (Str.ofString "here") = some (.ref H1)) (x4 : lk l (Str.ofString "there") = some (.ref H2)) (x5 : lk l (Str.ofString "k") = some (.int (k : Int) t))
    (qq : ∀ h' tk' ti tj, Fr h L h' (lk ((Str.ofString "j", .int ((i2.size * (4 - k) / 4 : Nat) : Int) tj) :: (Str.ofString "i", .int ((i1.size * k / 4 : Nat) : Int) ti) :: l)) → News h L h' news → tk ≤ tk' → wpAny (model pw w) A (execs rest (lwE L fa cd)) Q E ⟨h', g, d, tk', os⟩) :
    wpAny (model pw w) A (execs (twS 0 :: twS 1 :: rest) (lwE L fa cd)) Q E ⟨h₁, g, d, tk, os⟩ := by
  have m3 := m1
  have m4 := m1
  have m5 := m1
  refine x_cons ?_
  conv in (twS 0) => whnf
  walk_at "my go"
  dsimp only at F' ⊢
  have ei : ((i1.size : Int) * (k : Int)).fdiv 4 = ((i1.size * k / 4 : Nat) : Int) := by
    rw [Int.fdiv_eq_ediv_of_nonneg _ (by decide)]; push_cast; rfl
  rw [ei] at F'
  conv in (twS 1) => whnf
  walk_at "my go"
  dsimp only at F' ⊢
  have ej : ((i2.size : Int) * (4 - (k : Int))).fdiv 4 = ((i2.size * (4 - k) / 4 : Nat) : Int) := by
    rw [Int.fdiv_eq_ediv_of_nonneg _ (by decide)]
    have : (4 : Int) - (k : Int) = ((4 - k : Nat) : Int) := by omega
    rw [this]; push_cast; rfl
  rw [ej] at F'
  exact qq _ _ _ _ F' N' (by omega)

theorem Heres.drop {q : Bool} {vs : Array Value} {l : List Nat} (h : Heres q 0 vs l) {i : Nat} (hi : i ≤ l.length) : Heres q (W q (l.take i)).length (vs.toList.drop i).toArray (l.drop i) := by
  refine ⟨by simp only [List.size_toArray, List.length_drop, Array.length_toList, h.1]; omega, fun t ht => ?_⟩
  rw [List.length_drop] at ht
  obtain ⟨tk, e⟩ := h.2 (i + t) (by omega)
  refine ⟨tk, ?_⟩
  have e1 : l.take (i + t) = l.take i ++ (l.drop i).take t := by rw [List.take_add]
  rw [e1, W_append, List.length_append, Nat.zero_add] at e
  rw [← e]
  simp [List.getElem?_drop]
theorem Heres.take {q : Bool} {vs : Array Value} {l : List Nat} (h : Heres q 0 vs l) {i : Nat} (hi : i ≤ l.length) : Heres q 0 (vs.toList.take (i + 1)).toArray (l.take i) := by
  refine ⟨by simp only [List.size_toArray, List.length_take, Array.length_toList, h.1]; omega, fun t ht => ?_⟩
  rw [List.length_take] at ht
  obtain ⟨tk, e⟩ := h.2 t (by omega)
  refine ⟨tk, ?_⟩
  rw [List.take_take, Nat.min_eq_left (by omega), ← e]
  simp only [List.getElem?_toArray, List.getElem?_take]
  rw [if_pos (by omega)]
  simp
theorem turn_b {w : World} {A : Around} {h h₁ : Heap} {L fa : Addr} {cd : Value} {g : Array GenState} {d : Drawn} {tk : Nat} {os : OsState} {E : Value → Shared → Prop} {Q : Flow → Shared → Prop} {mg mb : Str → Option Value} {l : List (Str × Value)} {news : List (Addr × Obj)} {D1 D2 H1 H2 x S : Addr} {v1 v2 : List Value} {i1 i2 : Array Value} {n1 n2 i j : Nat} {ti tj : Tok} {xs ys : List Nat} {q : Bool} {hm : Heap} {oS : Obj} {rest : List Stmt}
    (hA : A.handled = none) (G : Gr w h mg mb) (hD : A.depth + 8 < recursionLimit) (hU : A.units + 40 < cLine) (F : Fr h L h₁ (lk l)) (N : News h L h₁ news)
    (m1 : (D1, liO v1) ∈ news) (m2 : (D2, liO v2) ∈ news) (m3 : (H1, W.listOf i1 n1) ∈ news) (m4 : (H2, W.listOf i2 n2) ∈ news) (m5 : (S, oS) ∈ news) (m6 : ∀ p ∈ heapL hm, p ∈ news)
    (e1 : Lets v1.toArray xs) (e2 : Lets v2.toArray ys) (e3 : Heres q 0 i1 xs) (e4 : Heres q 0 i2 ys) (e5 : SizesO w q oS) (M : Mat w hm x (esc q xs) (esc q ys) (pos (esc q ys) (esc q ys).length) (fun _ => false)) (ab1 : ∀ a ∈ xs, a ∈ abc) (ab2 : ∀ a ∈ ys, a ∈ abc) (hl1 : xs.length ≤ 500) (hl2 : ys.length ≤ 500) (hi : i ≤ xs.length) (hj : j ≤ ys.length)
    (x1 : lk l (Str.ofString "ones") = some (.ref D1)) (x2 : lk l (Str.ofString "others") = some (.ref D2)) (x3 : lk l (Str.ofString "here") = some (.ref H1)) (x4 : lk l (Str.ofString "there") = some (.ref H2)) (x5 : lk l (Str.ofString "sizes") = some (.ref S)) (x6 : lk l (Str.ofString "matcher") = some (.ref x))
    (x7 : lk l (Str.ofString "i") = some (.int (i : Int) ti)) (x8 : lk l (Str.ofString "j") = some (.int (j : Int) tj))
    (qq : ∀ h' tk' v, Fr h L h' (lk ((Str.ofString "told", v) :: l)) → News h L h' news → tk ≤ tk' → wpAny (model pw w) A (execs rest (lwE L fa cd)) Q E ⟨h', g, d, tk', os⟩) :
    wpAny (model pw w) A (execs (twS 2 :: twS 3 :: rest) (lwE L fa cd)) Q E ⟨h₁, g, d, tk, os⟩ := by
  have X := G.X
  have X' := G.X'
  have s1 := e1.1
  have s2 := e2.1
  have s3 := e3.1
  have s4 := e4.1
  obtain ⟨ti2, I2⟩ := e3.2 i hi
  obtain ⟨tj2, I4⟩ := e4.2 j hj
  rw [Nat.zero_add] at I2 I4
  refine x_cons ?_
  conv in (twS 2) => whnf
  walk_at "my go"
  have Mh : ∀ h' (own : List (Addr × Obj)), News h L h' (own ++ news) → Mat w h' x (esc q xs) (esc q ys) (pos (esc q ys) (esc q ys).length) (fun _ => false) := fun h' own N => M.keep fun b o e => N.get (List.mem_append_right _ (m6 _ (mem_heapL.mpr e)))
  refine flm_method (X.keeps F.keep) (Mh _ [] N) ?_
  refine callWith_K (K := K w.params) X (by kernel_rfl) ?_ (by kernel_rfl) (by kernel_rfl)
  walk_at "my go"
  refine' k_item (N.isList m3) (by omega) I2 ?_ ?hs ?hg
  case hs => with_unfolding_all rfl
  case hg => intro _; with_unfolding_all rfl
  walk_at "my go"
  refine' k_item (N.isList m4) (by omega) I4 ?_ ?hs ?hg
  case hs => with_unfolding_all rfl
  case hg => intro _; with_unfolding_all rfl
  walk_at "my go"
  have ea : esc q xs = W q xs := esc_W q xs
  have eb : esc q ys = W q ys := esc_W q ys
  have hlong := longest_eq q (xs.drop i) (ys.drop j) (W q (xs.take i)) [] (W q (ys.take j)) [] (fun a ha => ab1 a (List.mem_of_mem_drop ha)) (fun a ha => ab2 a (List.mem_of_mem_drop ha))
  have w1 : W q (xs.take i) ++ W q (xs.drop i) = W q xs := by rw [← W_append, List.take_append_drop]
  have w2 : W q (ys.take j) ++ W q (ys.drop j) = W q ys := by rw [← W_append, List.take_append_drop]
  have w3 : (W q (xs.take i)).length + (W q (xs.drop i)).length = (W q xs).length := by rw [← w1, List.length_append]
  have w4 : (W q (ys.take j)).length + (W q (ys.drop j)).length = (W q ys).length := by rw [← w2, List.length_append]
  rw [List.append_nil, List.append_nil, w1, w2, w3, w4, ← ea, ← eb] at hlong
  obtain ⟨R, hR⟩ : ∃ R, R = longest q (xs.drop i) (ys.drop j) (W q (xs.take i)).length (W q (ys.take j)).length := ⟨_, rfl⟩
  rw [← hR] at hlong
  have G1 := G.keep F.keep
  refine flm_call (alo := (W q (xs.take i)).length) (blo := (W q (ys.take j)).length) (ahi := (esc q xs).length) (bhi := (esc q ys).length) G1.X G1.X' G1.lim (by omega) hA (Mh _ [] N) G1.nsys (.inl ⟨rfl, rfl⟩) (.inl ⟨rfl, rfl⟩) (by rw [ea]; omega) (by rw [eb]; omega) (Nat.le_refl _) (Nat.le_refl _) (rows_ok (by rw [ea]; omega) (by rw [eb]; omega) (Nat.le_refl _) (Nat.le_refl _) fun c => pos_sorted _ _ _) fun T0 dx h2 tk2 s1 s2 s3 k2 htk2 hT0 hT0' => ?_
  rw [hlong] at hT0'
  have F2 := F.keeps k2
  have hTL0 : T0 ≠ L := fun e => by
    obtain ⟨oL, _, _, hoL, _⟩ := F.ns
    rw [e, hoL] at hT0; cases hT0
  have hTh0 : h.get? T0 = none := by
    cases e : h.get? T0 with
    | none => rfl
    | some o => rw [F.keep _ _ e] at hT0; cases hT0
  have N2 := News.more1 (N.grown k2) hT0' hTL0 hTh0
  clear F N
  walk_at "my go"
  conv in (twS 3) => whnf
  walk_at "my go"
  refine tup_of_match (X.keeps F'.keep) hA (N'.get (.head _)) fun T h3 tk3 k3 htk3 hT hT' => ?_
  have F3 := F'.keeps k3
  have hTL : T ≠ L := fun e => by
    obtain ⟨oL, _, _, hoL, _⟩ := F'.ns
    rw [e, hoL] at hT; cases hT
  have hTh : h.get? T = none := by
    cases e : h.get? T with
    | none => rfl
    | some o => rw [F'.keep _ _ e] at hT; cases hT
  have N3 := News.more1 (N'.grown k3) hT' hTL hTh
  clear F' N'
  walk_at "my go"
  refine nm_k F3 X X' g_longest ?_
  refine callWith_K (K := K w.params) X (by kernel_rfl) ?_ (by kernel_rfl) (by kernel_rfl)
  walk_at "my go"
  have G3 := G.keep F'.keep
  refine long_call (q := q) (oa := (W q (xs.take i)).length) (ob := (W q (ys.take j)).length) (xs := xs.drop i) (ys := ys.drop j) G3.X G3.X' G3.lim (by omega) (by omega) hA (N'.isList (by k_mem)) (N'.isList (by k_mem)) (N'.isList (by k_mem)) (N'.isList (.head _)) (e1.drop i) (e3.drop hi) (e2.drop j) (e4.drop hj) (e5.at (N'.get (by walk_at "my mem"))) (G.nsys _ (N' (S, oS) (by walk_at "my mem")).2.2) (by rw [List.length_drop]; omega) (by rw [List.length_drop]; omega) (fun a ha => ab1 a (List.mem_of_mem_drop ha)) (fun a ha => ab2 a (List.mem_of_mem_drop ha)) fun T2 h4 tk4 t1 t2 t3 k4 htk4 hT2 hT2' => ?_
  rw [← hR] at hT2'
  have F4 := F'.keeps k4
  have N4 := N'.grown k4
  clear F' N'
  walk_at "my go"
  refine k_netup (N4.isTup (by k_mem)) ⟨_, hT2', rfl, 0, rfl⟩ (IntVs.cons (IntVs.cons (IntVs.cons IntVs.nil))) (IntVs.cons (IntVs.cons (IntVs.cons IntVs.nil))) (by omega) ?_
  walk_at "my go"
  exact qq _ _ _ F4 (fun p hp => N4 p (by simp [hp])) (by dsimp only at *; omega)

theorem turn_c {w : World} {A : Around} {h h₁ : Heap} {L fa : Addr} {cd : Value} {g : Array GenState} {d : Drawn} {tk : Nat} {os : OsState} {E : Value → Shared → Prop} {Q : Flow → Shared → Prop} {mg mb : Str → Option Value} {l : List (Str × Value)} {news : List (Addr × Obj)} {D1 D2 H1 H2 x S : Addr} {v1 v2 : List Value} {i1 i2 : Array Value} {n1 n2 i j : Nat} {ti tj : Tok} {xs ys : List Nat} {q : Bool} {hm : Heap} {oS : Obj} {rest : List Stmt}
    (hA : A.handled = none) (G : Gr w h mg mb) (hD : A.depth + 8 < recursionLimit) (hU : A.units + 40 < cLine) (F : Fr h L h₁ (lk l)) (N : News h L h₁ news)
    (m1 : (D1, liO v1) ∈ news) (m2 : (D2, liO v2) ∈ news) (m3 : (H1, W.listOf i1 n1) ∈ news) (m4 : (H2, W.listOf i2 n2) ∈ news) (m5 : (S, oS) ∈ news) (m6 : ∀ p ∈ heapL hm, p ∈ news)
    (e1 : Lets v1.toArray xs) (e2 : Lets v2.toArray ys) (e3 : Heres q 0 i1 xs) (e4 : Heres q 0 i2 ys) (e5 : SizesO w q oS) (M : Mat w hm x (esc q xs) (esc q ys) (pos (esc q ys) (esc q ys).length) (fun _ => false)) (ab1 : ∀ a ∈ xs, a ∈ abc) (ab2 : ∀ a ∈ ys, a ∈ abc) (hl1 : xs.length ≤ 500) (hl2 : ys.length ≤ 500) (hi : i ≤ xs.length) (hj : j ≤ ys.length)
    (x1 : lk l (Str.ofString "ones") = some (.ref D1)) (x2 : lk l (Str.ofString "others") = some (.ref D2)) (x3 : lk l (Str.ofString "here") = some (.ref H1)) (x4 : lk l (Str.ofString "there") = some (.ref H2)) (x5 : lk l (Str.ofString "sizes") = some (.ref S)) (x6 : lk l (Str.ofString "matcher") = some (.ref x))
    (x7 : lk l (Str.ofString "i") = some (.int (i : Int) ti)) (x8 : lk l (Str.ofString "j") = some (.int (j : Int) tj))
    (qq : ∀ h' tk' v, Fr h L h' (lk ((Str.ofString "told", v) :: l)) → News h L h' news → tk ≤ tk' → wpAny (model pw w) A (execs rest (lwE L fa cd)) Q E ⟨h', g, d, tk', os⟩) :
    wpAny (model pw w) A (execs (twS 4 :: twS 5 :: rest) (lwE L fa cd)) Q E ⟨h₁, g, d, tk, os⟩ := by
  have X := G.X
  have X' := G.X'
  have s1 := e1.1
  have s2 := e2.1
  have s3 := e3.1
  have s4 := e4.1
  obtain ⟨ti2, I2⟩ := e3.2 i hi
  obtain ⟨tj2, I4⟩ := e4.2 j hj
  rw [Nat.zero_add] at I2 I4
  refine x_cons ?_
  conv in (twS 4) => whnf
  walk_at "my go"
  have Mh : ∀ h' (own : List (Addr × Obj)), News h L h' (own ++ news) → Mat w h' x (esc q xs) (esc q ys) (pos (esc q ys) (esc q ys).length) (fun _ => false) := fun h' own N => M.keep fun b o e => N.get (List.mem_append_right _ (m6 _ (mem_heapL.mpr e)))
  refine flm_method (X.keeps F.keep) (Mh _ [] N) ?_
  refine callWith_K (K := K w.params) X (by kernel_rfl) ?_ (by kernel_rfl) (by kernel_rfl)
  walk_at "my go"
  refine' k_item (N.isList m3) (by omega) I2 ?_ ?hs ?hg
  case hs => with_unfolding_all rfl
  case hg => intro _; with_unfolding_all rfl
  walk_at "my go"
  refine' k_item (N.isList m4) (by omega) I4 ?_ ?hs ?hg
  case hs => with_unfolding_all rfl
  case hg => intro _; with_unfolding_all rfl
  walk_at "my go"
  have ea : esc q xs = W q xs := esc_W q xs
  have eb : esc q ys = W q ys := esc_W q ys
  have hlong := longest_eq q (xs.take i) (ys.take j) [] (W q (xs.drop i)) [] (W q (ys.drop j)) (fun a ha => ab1 a (List.mem_of_mem_take ha)) (fun a ha => ab2 a (List.mem_of_mem_take ha))
  have w1 : W q (xs.take i) ++ W q (xs.drop i) = W q xs := by rw [← W_append, List.take_append_drop]
  have w2 : W q (ys.take j) ++ W q (ys.drop j) = W q ys := by rw [← W_append, List.take_append_drop]
  have w3 : (W q (xs.take i)).length + (W q (xs.drop i)).length = (W q xs).length := by rw [← w1, List.length_append]
  have w4 : (W q (ys.take j)).length + (W q (ys.drop j)).length = (W q ys).length := by rw [← w2, List.length_append]
  rw [List.nil_append, List.nil_append, w1, w2, ← ea, ← eb, List.length_nil, Nat.zero_add, Nat.zero_add] at hlong
  obtain ⟨R, hR⟩ : ∃ R, R = longest q (xs.take i) (ys.take j) 0 0 := ⟨_, rfl⟩
  rw [← hR] at hlong
  have G1 := G.keep F.keep
  refine flm_call (alo := 0) (blo := 0) (ahi := (W q (xs.take i)).length) (bhi := (W q (ys.take j)).length) G1.X G1.X' G1.lim (by omega) hA (Mh _ [] N) G1.nsys (.inr ⟨_, rfl⟩) (.inr ⟨_, rfl⟩) (Nat.zero_le _) (Nat.zero_le _) (by rw [ea]; omega) (by rw [eb]; omega) (rows_ok (Nat.zero_le _) (Nat.zero_le _) (by rw [ea]; omega) (by rw [eb]; omega) fun c => pos_sorted _ _ _) fun T0 dx h2 tk2 s1 s2 s3 k2 htk2 hT0 hT0' => ?_
  rw [hlong] at hT0'
  have F2 := F.keeps k2
  have hTL0 : T0 ≠ L := fun e => by
    obtain ⟨oL, _, _, hoL, _⟩ := F.ns
    rw [e, hoL] at hT0; cases hT0
  have hTh0 : h.get? T0 = none := by
    cases e : h.get? T0 with
    | none => rfl
    | some o => rw [F.keep _ _ e] at hT0; cases hT0
  have N2 := News.more1 (N.grown k2) hT0' hTL0 hTh0
  clear F N
  walk_at "my go"
  conv in (twS 5) => whnf
  walk_at "my go"
  refine tup_of_match (X.keeps F'.keep) hA (N'.get (.head _)) fun T h3 tk3 k3 htk3 hT hT' => ?_
  have F3 := F'.keeps k3
  have hTL : T ≠ L := fun e => by
    obtain ⟨oL, _, _, hoL, _⟩ := F'.ns
    rw [e, hoL] at hT; cases hT
  have hTh : h.get? T = none := by
    cases e : h.get? T with
    | none => rfl
    | some o => rw [F'.keep _ _ e] at hT; cases hT
  have N3 := News.more1 (N'.grown k3) hT' hTL hTh
  clear F' N'
  walk_at "my go"
  refine nm_k F3 X X' g_longest ?_
  refine callWith_K (K := K w.params) X (by kernel_rfl) ?_ (by kernel_rfl) (by kernel_rfl)
  walk_at "my go"
  have G3 := G.keep F'.keep
  refine long_call (q := q) (oa := 0) (ob := 0) (xs := xs.take i) (ys := ys.take j) G3.X G3.X' G3.lim (by omega) (by omega) hA (N'.isList (by k_mem)) (N'.isList (by k_mem)) (N'.isList (by k_mem)) (N'.isList (.head _)) (e1.take i) (e3.take hi) (e2.take j) (e4.take hj) (e5.at (N'.get (by walk_at "my mem"))) (G.nsys _ (N' (S, oS) (by walk_at "my mem")).2.2) (by rw [List.length_take]; omega) (by rw [List.length_take]; omega) (fun a ha => ab1 a (List.mem_of_mem_take ha)) (fun a ha => ab2 a (List.mem_of_mem_take ha)) fun T2 h4 tk4 t1 t2 t3 k4 htk4 hT2 hT2' => ?_
  rw [← hR] at hT2'
  have F4 := F'.keeps k4
  have N4 := N'.grown k4
  clear F' N'
  walk_at "my go"
  refine k_netup (N4.isTup (by k_mem)) ⟨_, hT2', rfl, 0, rfl⟩ (IntVs.cons (IntVs.cons (IntVs.cons IntVs.nil))) (IntVs.cons (IntVs.cons (IntVs.cons IntVs.nil))) (by omega) ?_
  walk_at "my go"
  exact qq _ _ _ F4 (fun p hp => N4 p (by simp [hp])) (by dsimp only at *; omega)

end
theorem law_13 {w : World} {A : Around} {h h₁ : Heap} {L fa : Addr} {cd : Value} {g : Array GenState} {d : Drawn} {tk : Nat} {os : OsState} {E : Value → Shared → Prop} {Q : Flow → Shared → Prop} {mg mb : Str → Option Value} {l : List (Str × Value)} {news : List (Addr × Obj)} {D1 D2 H1 H2 x S : Addr} {v1 v2 : List Value} {i1 i2 : Array Value} {n1 n2 : Nat} {xs ys : List Nat} {q : Bool} {hm : Heap} {oS : Obj}
    (hA : A.handled = none) (G : Gr w h mg mb) (hD : A.depth + 8 < recursionLimit) (hU : A.units + 40 < cLine) (F : Fr h L h₁ (lk l)) (N : News h L h₁ news)
    (m1 : (D1, liO v1) ∈ news) (m2 : (D2, liO v2) ∈ news) (m3 : (H1, W.listOf i1 n1) ∈ news) (m4 : (H2, W.listOf i2 n2) ∈ news) (m5 : (S, oS) ∈ news) (m6 : ∀ p ∈ heapL hm, p ∈ news)
    (e1 : Lets v1.toArray xs) (e2 : Lets v2.toArray ys) (e3 : Heres q 0 i1 xs) (e4 : Heres q 0 i2 ys) (e5 : SizesO w q oS) (M : Mat w hm x (esc q xs) (esc q ys) (pos (esc q ys) (esc q ys).length) (fun _ => false)) (ab1 : ∀ a ∈ xs, a ∈ abc) (ab2 : ∀ a ∈ ys, a ∈ abc) (hl1 : xs.length ≤ 500) (hl2 : ys.length ≤ 500)
    (x1 : lk l (Str.ofString "ones") = some (.ref D1)) (x2 : lk l (Str.ofString "others") = some (.ref D2)) (x3 : lk l (Str.ofString "here") = some (.ref H1)) (x4 : lk l (Str.ofString "there") = some (.ref H2)) (x5 : lk l (Str.ofString "sizes") = some (.ref S)) (x6 : lk l (Str.ofString "matcher") = some (.ref x))
    (qq : ∀ h' tk', Kp h h' → Q (.ret (.bool true)) ⟨h', g, d, tk', os⟩) :
    wpAny (model pw w) A (execs [lwS 13, lwS 14] (lwE L fa cd)) Q E ⟨h₁, g, d, tk, os⟩ := by
  have X := G.X
  have X' := G.X'
  have s3 := e3.1
  have s4 := e4.1
  refine x_cons ?_
  conv in (lwS 13) => whnf
  refine wpAny_For ?_
  walk_at "my go"
  refine k_iter_range (a := 1) (b := 4) F' N' (.head _) (by omega) (by omega) fun I h3 F3 N3 r3 st => ?_
  refine for_led (x := Str.ofString "k") (fx := []) (oI := { cls := .type "range_iterator", data := .fields #[rawInt ((1 : Nat) : Int), rawInt ((4 - 1 : Nat) : Int), rawInt 1] }) (body := stBody (lwS 13)) (h := h) (Walks.range hA I ((1 : Nat) : Int) 1 (4 - 1))
    (fun t l' news' tk' => news' = news ∧ (∀ x, x ∉ [Str.ofString "k", Str.ofString "i", Str.ofString "j", Str.ofString "told"] → lk l' x = lk l x) ∧ tk ≤ tk')
    (fun b hb => .inl (by simpa using hb)) (by simp) (fun t h' s => ⟨_, s⟩) (fun _ _ _ _ _ p hp => nomatch hp) F3 (news := news) (fun p hp => N3 p ?_) (fun p hp => Nat.ne_of_lt (r3 p (.tail _ hp))) st
    ⟨rfl, fun _ _ => rfl, by omega⟩ ?_ ?_
  · simp only [List.mem_cons] at hp ⊢
    rcases hp with e | e <;> simp [e]
  · rintro t h4 l' news' tk0 tk' v oI' ht ⟨tv, rfl⟩ F4 N4 hne ⟨hnw, hx, htk⟩ htk'
    rw [hnw] at N4 hne
    have hie : (((1 : Nat) : Int) + (t : Int) * 1) = ((t + 1 : Nat) : Int) := by push_cast; omega
    rw [hie] at F4
    have hx1 : ∀ x, x ∉ [Str.ofString "k", Str.ofString "i", Str.ofString "j", Str.ofString "told"] → lk ((Str.ofString "k", Value.int ((t + 1 : Nat) : Int) tv) :: l') x = lk l x := fun x hxx => by
      rw [lk_skip (fun e => hxx (by rw [e]; exact .head _)), hx x hxx]
    have eB : stBody (lwS 13) = [twS 0, twS 1, twS 2, twS 3, twS 4, twS 5] := by kernel_rfl
    rw [eB]
    refine turn_a (k := t + 1) hA X X' F4 N4 (.tail _ m3) (.tail _ m4) (by omega) (by omega) ⟨by omega, by omega⟩ (by rw [hx1 _ (by decide +kernel)]; exact x3) (by rw [hx1 _ (by decide +kernel)]; exact x4) (by with_unfolding_all rfl) fun h5 tk5 ti tj F5 N5 htk5 => ?_
    generalize hi : i1.size * (t + 1) / 4 = i at F5
    generalize hj : i2.size * (4 - (t + 1)) / 4 = j at F5
    have hi' : i ≤ xs.length := by
      rw [← hi, s3]
      have ht3 : t < 3 := ht
      have : (xs.length + 1) * (t + 1) ≤ (xs.length + 1) * 3 := Nat.mul_le_mul_left _ (by omega)
      omega
    have hj' : j ≤ ys.length := by
      rw [← hj, s4]
      have ht3 : t < 3 := ht
      have : (ys.length + 1) * (4 - (t + 1)) ≤ (ys.length + 1) * 3 := Nat.mul_le_mul_left _ (by omega)
      omega
    generalize hl5 : (Str.ofString "j", Value.int (j : Int) tj) :: (Str.ofString "i", Value.int (i : Int) ti) :: (Str.ofString "k", Value.int ((t + 1 : Nat) : Int) tv) :: l' = l5 at F5
    have hx5 : ∀ x, x ∉ [Str.ofString "k", Str.ofString "i", Str.ofString "j", Str.ofString "told"] → lk l5 x = lk l x := fun x hxx => by
      have h2 := hxx
      simp only [List.mem_cons, not_or] at h2
      rw [← hl5, lk_skip h2.2.2.1, lk_skip h2.2.1, hx1 x hxx]
    have x7 : lk l5 (Str.ofString "i") = some (.int (i : Int) ti) := by rw [← hl5, lk_skip (by decide +kernel)]; with_unfolding_all rfl
    have x8 : lk l5 (Str.ofString "j") = some (.int (j : Int) tj) := by rw [← hl5]; with_unfolding_all rfl
    clear hl5
    refine turn_b (i := i) (j := j) hA G hD hU F5 N5 (.tail _ m1) (.tail _ m2) (.tail _ m3) (.tail _ m4) (.tail _ m5) (fun p hp => .tail _ (m6 p hp)) e1 e2 e3 e4 e5 M ab1 ab2 hl1 hl2 hi' hj' (by rw [hx5 _ (by decide +kernel)]; exact x1) (by rw [hx5 _ (by decide +kernel)]; exact x2) (by rw [hx5 _ (by decide +kernel)]; exact x3) (by rw [hx5 _ (by decide +kernel)]; exact x4) (by rw [hx5 _ (by decide +kernel)]; exact x5) (by rw [hx5 _ (by decide +kernel)]; exact x6) x7 x8 fun h6 tk6 v6 F6 N6 htk6 => ?_
    have hx6 : ∀ x, x ∉ [Str.ofString "k", Str.ofString "i", Str.ofString "j", Str.ofString "told"] → lk ((Str.ofString "told", v6) :: l5) x = lk l x := fun x hxx => by
      have h2 := hxx
      simp only [List.mem_cons, not_or] at h2
      rw [lk_skip h2.2.2.2.1, hx5 x hxx]
    refine turn_c (i := i) (j := j) hA G hD hU F6 N6 (.tail _ m1) (.tail _ m2) (.tail _ m3) (.tail _ m4) (.tail _ m5) (fun p hp => .tail _ (m6 p hp)) e1 e2 e3 e4 e5 M ab1 ab2 hl1 hl2 hi' hj' (by rw [hx6 _ (by decide +kernel)]; exact x1) (by rw [hx6 _ (by decide +kernel)]; exact x2) (by rw [hx6 _ (by decide +kernel)]; exact x3) (by rw [hx6 _ (by decide +kernel)]; exact x4) (by rw [hx6 _ (by decide +kernel)]; exact x5) (by rw [hx6 _ (by decide +kernel)]; exact x6) (by rw [lk_skip (by decide +kernel)]; exact x7) (by rw [lk_skip (by decide +kernel)]; exact x8) fun h7 tk7 v7 F7 N7 htk7 => ?_
    refine wpAny_execs_nil (TurnEnd.next ⟨_, news, F7, N7, fun p hp => hne p hp, rfl, fun x hxx => ?_, by omega⟩)
    have h2 := hxx
    simp only [List.mem_cons, not_or] at h2
    rw [lk_skip h2.2.2.2.1, hx6 x hxx]
  · rintro h4 l' news' tk0 tk' F4 N4 ⟨rfl, hx, htk⟩ htk'
    refine c_next ?_
    conv in (lwS 14) => whnf
    walk_at "my go"
    exact qq _ _ F4.keep

theorem law_main {w : World} {A : Around} {h : Heap} {fa sc : Addr} {o : Obj} {pm cd doc : Value} {g : Array GenState} {d : Drawn} {tk : Nat} {os : OsState} {E : Value → Shared → Prop} {Q : Value → Shared → Prop} {mg mb : Str → Option Value} {vs : List Value} {ns : List Int}
    (G : Gr w h mg mb) (hD : A.depth + 12 < recursionLimit) (hU : A.units + 60 < cLine) (hA : A.handled = none) (ho : h.get? fa = some o) (hd : o.data = .func (docDef (Str.ofString "law") (fPar (sAt tops 11)) (fBod (sAt tops 11)) (fSco (sAt tops 11)) pm cd doc)) (hcd : h.CodeRec cd (Str.ofString "law"))
    (L1 : h.IsList sc vs.toArray) (I : IntsAre vs ns) (hn : ns.length ≤ 63)
    (qq : ∀ h' tk', Kp h h' → Q (.bool true) ⟨h', g, d, tk', os⟩) :
    wpAny (model pw w) A (call (.ref fa) [.ref sc]) Q E ⟨h, g, d, tk, os⟩ := by
  refine enter (binds := [(Str.ofString "script", .ref sc)]) (by omega) ho hd G.lim hcd (by rfl) ?hb ?hc ?hl (by kernel_rfl) (by kernel_rfl) (by kernel_rfl) (by kernel_rfl) (by kernel_rfl) (by kernel_rfl) ?hbody
  case hb => exact BindsTo.of_eq (by rfl)
  case hc => exact (by decide +kernel : ∀ x ∈ (fSco (sAt tops 11)).names, x.2 ≠ .cell)
  case hl => exact locs (by kernel_rfl)
  case hbody =>
    intro h₁ F0
    generalize hA2 : A.deeper _ = A2
    have hA' : A2.handled = none := by rw [← hA2]; exact hA
    have hD' : A2.depth + 8 < recursionLimit := by rw [← hA2]; show A.depth + 1 + 8 < _; omega
    have hU' : A2.units + 40 < cLine := by rw [← hA2]; show A.units + 3 + 40 < _; omega
    have N0 : News h h.objs.size h₁ [] := News.nil
    have eB : fBod (sAt tops 11) = lwS 0 :: lwS 1 :: lwS 2 :: lwS 3 :: lwS 4 :: lwS 5 :: lwS 6 :: lwS 7 :: lwS 8 :: lwS 9 :: lwS 10 :: lwS 11 :: lwS 12 :: [lwS 13, lwS 14] := by kernel_rfl
    show wpAny _ _ (execs (fBod (sAt tops 11)) (lwE h.objs.size fa cd)) _ _ _
    rw [eB]
    dsimp only [List.length_cons, List.length_nil] at F0 ⊢
    refine x_cons (law_0 hA' G.X G.X' F0 N0 L1 I hn (by with_unfolding_all rfl) fun h1 tk1 F1 N1 htk1 => c_next ?_)
    generalize (ns.sum.fmod 2 == 0) = q at F1
    refine law_12 hA' F1 N1 G.nsys (by with_unfolding_all rfl) fun h2 tk2 S oS F2 N2 hS htk2 => ?_
    refine x_cons (law_3 hA' G.X G.X' F2 N2 L1 I hn (by with_unfolding_all rfl) fun h3 tk3 D oD v F3 N3 hLi hv htk3 => c_next ?_)
    generalize hsg : (7 :: (ns.length : Int) :: 2 :: ns.take 100).map sgn = sg at hv
    have hlen : 3 ≤ sg.length ∧ sg.length ≤ 66 := by
      rw [← hsg, List.length_map]
      simp only [List.length_cons, List.length_take]
      omega
    have habc : ∀ a ∈ sg, a ∈ abc := fun a ha => by
      rw [← hsg] at ha
      obtain ⟨n, _, rfl⟩ := List.mem_map.mp ha
      exact sgn_abc n
    clear hsg
    refine law_456 hA' G.X G.X' F3 N3 hLi hv (by omega) (by omega) L1 I (by with_unfolding_all rfl) (by with_unfolding_all rfl) fun h4 tk4 D1 D2 v1 v2 tc F4 N4 e1 e2 htk4 => ?_
    generalize hxs : sg.take (cutOf ns sg.length) = xs at e1
    generalize hys : sg.drop (cutOf ns sg.length) = ys at e2
    have ab1 : ∀ a ∈ xs, a ∈ abc := fun a ha => habc a (by rw [← hxs] at ha; exact List.mem_of_mem_take ha)
    have ab2 : ∀ a ∈ ys, a ∈ abc := fun a ha => habc a (by rw [← hys] at ha; exact List.mem_of_mem_drop ha)
    have hl1 : xs.length ≤ 66 := by rw [← hxs, List.length_take]; omega
    have hl2 : ys.length ≤ 66 := by rw [← hys, List.length_drop]; omega
    clear hxs hys
    have hsy : (S == sysModules) = false := G.nsys _ (N4 (S, oS) (.tail _ (.tail _ (.head _)))).2.2
    generalize hl4 : (Str.ofString "others", Value.ref D2) :: (Str.ofString "ones", Value.ref D1) :: (Str.ofString "cut", Value.int (cutOf ns sg.length : Int) tc) :: (Str.ofString "signs", Value.ref D) :: (Str.ofString "sizes", Value.ref S) :: (Str.ofString "quote", Value.bool q) :: [(Str.ofString "script", Value.ref sc)].reverse = l4 at F4
    have y1 : lk l4 (Str.ofString "ones") = some (.ref D1) := by rw [← hl4]; with_unfolding_all rfl
    have y2 : lk l4 (Str.ofString "others") = some (.ref D2) := by rw [← hl4]; with_unfolding_all rfl
    have y3 : lk l4 (Str.ofString "sizes") = some (.ref S) := by rw [← hl4]; with_unfolding_all rfl
    have y4 : lk l4 (Str.ofString "quote") = some (.bool q) := by rw [← hl4]; with_unfolding_all rfl
    clear hl4 F0 F1 F2 F3 N0 N1 N2 N3
    refine acc_loop_here hA' F4 N4 (.tail _ (.tail _ (.head _))) (.tail _ (.head _)) hS hsy e1 ab1 (by omega) y3 y1 fun h5 tk5 l5 H1 i1 n1 F5 N5 e3 z1 hx5 htk5 => ?_
    refine acc_loop_there hA' F5 N5 (.tail _ (.tail _ (.tail _ (.head _)))) (.tail _ (.head _)) hS hsy e2 ab2 (by omega) (by rw [hx5 _ (by decide +kernel)]; exact y3) (by rw [hx5 _ (by decide +kernel)]; exact y2) fun h6 tk6 l6 H2 i2 n2 F6 N6 e4 z2 hx6 htk6 => ?_
    have w1 : lk l6 (Str.ofString "ones") = some (.ref D1) := by rw [hx6 _ (by decide +kernel), hx5 _ (by decide +kernel)]; exact y1
    have w2 : lk l6 (Str.ofString "others") = some (.ref D2) := by rw [hx6 _ (by decide +kernel), hx5 _ (by decide +kernel)]; exact y2
    have w3 : lk l6 (Str.ofString "sizes") = some (.ref S) := by rw [hx6 _ (by decide +kernel), hx5 _ (by decide +kernel)]; exact y3
    have w4 : lk l6 (Str.ofString "quote") = some (.bool q) := by rw [hx6 _ (by decide +kernel), hx5 _ (by decide +kernel)]; exact y4
    have w5 : lk l6 (Str.ofString "here") = some (.ref H1) := by rw [hx6 _ (by decide +kernel)]; exact z1
    refine law_11 hA' G.X G.X' G.lim hD' G.sys F6 N6 (.tail _ (.tail _ (.tail _ (.head _)))) (.tail _ (.tail _ (.head _))) e1 e2 (by omega) (by omega) w1 w2 w4 fun h7 tk7 x hm F7 N7 M htk7 => ?_
    have m1 : (D1, liO v1) ∈ heapL hm ++ [(H2, W.listOf i2 n2), (H1, W.listOf i1 n1), (D2, liO v2), (D1, liO v1), (S, oS)] := List.mem_append_right _ (.tail _ (.tail _ (.tail _ (.head _))))
    have m2 : (D2, liO v2) ∈ heapL hm ++ [(H2, W.listOf i2 n2), (H1, W.listOf i1 n1), (D2, liO v2), (D1, liO v1), (S, oS)] := List.mem_append_right _ (.tail _ (.tail _ (.head _)))
    have m3 : (H1, W.listOf i1 n1) ∈ heapL hm ++ [(H2, W.listOf i2 n2), (H1, W.listOf i1 n1), (D2, liO v2), (D1, liO v1), (S, oS)] := List.mem_append_right _ (.tail _ (.head _))
    have m4 : (H2, W.listOf i2 n2) ∈ heapL hm ++ [(H2, W.listOf i2 n2), (H1, W.listOf i1 n1), (D2, liO v2), (D1, liO v1), (S, oS)] := List.mem_append_right _ (.head _)
    have m5 : (S, oS) ∈ heapL hm ++ [(H2, W.listOf i2 n2), (H1, W.listOf i1 n1), (D2, liO v2), (D1, liO v1), (S, oS)] := List.mem_append_right _ (.tail _ (.tail _ (.tail _ (.tail _ (.head _)))))
    have m6 : ∀ p ∈ heapL hm, p ∈ heapL hm ++ [(H2, W.listOf i2 n2), (H1, W.listOf i1 n1), (D2, liO v2), (D1, liO v1), (S, oS)] := fun p hp => List.mem_append_left _ hp
    generalize heapL hm ++ [(H2, W.listOf i2 n2), (H1, W.listOf i1 n1), (D2, liO v2), (D1, liO v1), (S, oS)] = nw at *
    have k1 : lk ((Str.ofString "matcher", Value.ref x) :: l6) (Str.ofString "ones") = some (.ref D1) := by rw [lk_skip (by decide +kernel)]; exact w1
    have k2 : lk ((Str.ofString "matcher", Value.ref x) :: l6) (Str.ofString "others") = some (.ref D2) := by rw [lk_skip (by decide +kernel)]; exact w2
    have k3 : lk ((Str.ofString "matcher", Value.ref x) :: l6) (Str.ofString "here") = some (.ref H1) := by rw [lk_skip (by decide +kernel)]; exact w5
    have k4 : lk ((Str.ofString "matcher", Value.ref x) :: l6) (Str.ofString "there") = some (.ref H2) := by rw [lk_skip (by decide +kernel)]; exact z2
    have k5 : lk ((Str.ofString "matcher", Value.ref x) :: l6) (Str.ofString "sizes") = some (.ref S) := by rw [lk_skip (by decide +kernel)]; exact w3
    have k6 : lk ((Str.ofString "matcher", Value.ref x) :: l6) (Str.ofString "matcher") = some (.ref x) := by with_unfolding_all rfl
    generalize (Str.ofString "matcher", Value.ref x) :: l6 = l7 at *
    refine law_s12 hA' G hD' hU' F7 N7 m1 m2 m3 m4 m5 m6 e1 e2 e3 e4 hS M ab1 ab2 (by omega) (by omega) k1 k2 k3 k4 k5 k6 fun h8 tk8 F8 N8 htk8 => ?_
    exact law_13 hA' G hD' hU' F8 N8 m1 m2 m3 m4 m5 m6 e1 e2 e3 e4 hS M ab1 ab2 (by omega) (by omega) k1 k2 k3 k4 k5 k6 fun h9 tk9 k9 => qq h9 tk9 k9

noncomputable section
/-- K and the dict of the modules -/
def K2 (P : Params) : Frag := (1, boot_o_1 P) :: K P
def kAs2 : List Addr := 1 :: kAs
theorem kAs2_eq (P : Params) : kAs2 = (K2 P).map (·.1) := congrArg (1 :: ·) (kAs_eq P)
def H2 : Hook := kHook K2 kAs2 kAs2_eq
theorem look_m (w : World) (os : OsState) : (sF w os).heap.get? 1 = some (boot_o_1 w.params) := by kernel_rfl
theorem look_k2 (w : World) (os : OsState) : kAs2.map (sF w os).heap.get? = (K2 w.params).map (fun p => some p.2) := by
  show (sF w os).heap.get? 1 :: kAs.map (sF w os).heap.get? = some (boot_o_1 w.params) :: (K w.params).map (fun p => some p.2)
  rw [look_m, look_k]
theorem left2 : LeftO pw q loose Xt (Hook.obs H2) (Hook.val H2) 5000 :=
  LeftO.of_pieces open_ok size_ok top_run le_ok fun w => funext fun os =>
    looks_pair (look_a w os) (looks_pair (looks_pair (look_1 w os) (looks_pair (look_2 w os) (looks_pair (look_3 w os) (looks_pair (look_4 w os) (looks_pair (look_5 w os) (looks_pair (look_6 w os) (looks_pair (look_7 w os) (looks_pair (look_8 w os) (look_9 w os))))))))) (look_k2 w os))
theorem k_no1 (P : Params) : (K P).lookup 1 = none := by kernel_rfl
theorem k_of2 {P : Params} {h : Heap} (X : (K2 P).In h) : (K P).In h := fun a o e => X a o (by
  have h1 : (a == 1) = false := beq_eq_false_iff_ne.mpr fun q => by
    rw [q, k_no1] at e; cases e
  show List.lookup a ((1, boot_o_1 P) :: K P) = some o
  rw [List.lookup_cons, h1]
  exact e)
theorem sys_of2 {P : Params} {h : Heap} (X : (K2 P).In h) : ∃ o, h.get? sysModules = some o := ⟨_, X 1 (boot_o_1 P) rfl⟩
theorem hd (hc : ∀ (w : World) (s : Shared) (mg mb : Str → Option Value) (mean : ExcName → Option Value) (fa : Addr) (o : Obj) (pm cd doc : Value) (l : Addr) (vs : List Value) (ns : List Int),
      (K w.params).In s.heap → (∃ o, s.heap.get? sysModules = some o) → Top q (looseW q loose) mean mg mb s.heap → s.heap.get? fa = some o → o.data = .func (docDef (Str.ofString "law") (fPar (sAt tops 11)) (fBod (sAt tops 11)) (fSco (sAt tops 11)) pm cd doc) →
      s.heap.CodeRec cd (Str.ofString "law") → s.gens = #[] → s.heap.IsList l vs.toArray → IntsAre vs ns → ns.length ≤ 63 → (PyData.list (ns.map PyData.int)).layable0 = true →
      wpAny (model pw w) callerA (call (.ref fa) [.ref l]) (fun v s' => v = .bool true ∧ (∀ b o, s.heap.get? b = some o → s'.heap.get? b = some o) ∧ s'.os = s.os ∧ s'.gens = #[]) (fun _ _ => False) s) :
    law0.Holds := by
  w_on
  refine holds_law said fun said => ?_
  refine holds_open (q := q) (loose := loose) (Xt := Xt) (XP := XL q lv) (Yf := Hook.obs H2) (Ya := Hook.val H2) (YP := Hook.says H2) (N := 5000) left2 (Hook.of H2) (Hook.keeps H2) (fun s e => xl_of s (Bool.and_eq_true_iff.mp e).1) XL.keeps (by rfl) (by rfl) (by rfl) (fun s e => recFacts_of (Bool.and_eq_true_iff.mp e).2) (by rfl) (by assumption) (by decide +kernel) ⟨rfl, rfl, rfl, rfl, rfl, by decide +kernel⟩ ?hw ?hc
  case hw => w_witness2
  case hc =>
    intro w s₀ s₁ mg mb G Y fa o pm cd doc dV kV ho hd hcd hD hmg hg args vals as hpre hlay hrd hwl hlo
    have KX2 : (K2 w.params).In s₁.heap := kIn_of Y
    have KX := k_of2 KX2
    have T := G.T
    wrow_args hpre hlay hrd hwl hlo
    rename_i ns hsh _ hl0 _ _ _ _ l vs _ hL _ _ _ hI _ hc1 _
    have hdV : dV = .none := hD.pos.elim (fun h => h.2) (fun h => absurd rfl h.1)
    have hkV : kV = .none := hD.kw.elim (fun h => h.2) (fun h => absurd rfl h.1)
    subst hdV hkV
    refine wpAny_mono (hc w s₁ mg mb (ExcName.means s₀.heap) fa o pm cd doc l vs ns KX (sys_of2 KX2) T ho hd hcd hg hL hI (by omega) hl0) (fun v s' h => ?_) fun _ _ h => h.elim
    obtain ⟨rfl, hk, hos, hgs⟩ := h
    exact GoodW.toG ⟨.inl ⟨_, _, [], rfl, fun cls => rfl, ReadsW.bool true, postW_of (r := law0.row.toRowW) rfl (w_eq_bool (w_res rfl) w_lit) rfl, fun _ => ⟨List.nodup_nil, fun _ hm => (nomatch hm)⟩⟩, hk, hos, hgs⟩
end
end Mine
open Mine in
theorem PySem.Challenge.cw_mu0008_05_holds : PySem.Challenge.rw_mu0008_05.Holds := by
  refine hd fun w s mg mb mean fa o pm cd doc l vs ns X hs T ho hfd hcd hg hL hI hn _ => ?_
  obtain ⟨h, g, d, tk, os⟩ := s
  exact law_main ⟨X, topRead_of T, T.nolimit, hs⟩ (by decide +kernel) (by decide +kernel) rfl ho hfd hcd hL hI hn fun h' tk' k => ⟨rfl, k, rfl, hg⟩
