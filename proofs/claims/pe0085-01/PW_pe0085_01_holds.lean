import PyProof.Rows.All
import Wide.All
import OpenK.AllK
import Wide.FinOn
import Lean
import PySem.Challenge.RW_pe0085_01
set_option Elab.async false
set_option rowWalk.seconds 0
namespace Mine
section
open PySem PySem.W PyProof.Rows
set_option maxRecDepth 100000 in
set_option maxHeartbeats 8000000 in
open_top hd for PySem.Challenge.rw_pe0085_01
end
section
open PySem PySem.W PySem.Spec PySem.Calls PyProof.Rows
set_option maxRecDepth 100000

/-- a call of a plain def, the ledger left out: all that stood stays -/
theorem code_own {prog : Program} {w : World} {A A₀ : Around} {s : Shared} {K : Frag} {L : Addr} {h₀ base : Heap} {m mg mb : Str → Option Value} {p : Program} {loose : List Str} {mean : ExcName → Option Value}
    {env : Env} {outer : List Env} {R : Result → Shared → Prop} {name qual : Str} {params : Arguments} {body : List Stmt} {scope : Scope} {dV kV doc pm cdv ct oc : Value} {an od : Option Addr} {osl : Array (Option Value)} {f : Addr} {args : Args} {binds : List (Str × Value)}
    (B : Below A₀ base outer h₀) (F : Fr h₀ L s.heap m) (X₀ : K.In h₀) (T : Top p loose mean mg mb h₀) (hA : A.frames = some (env :: outer)) (hf : env.frame = some L) (hke : env.scope.kind = .function)
    (ho : K.lookup f = some ⟨oc, od, .func (fnOf name qual params body scope dV kV doc pm an cdv ct), osl⟩) (hcd : codeIn K cdv qual = true) (hroom : A.depth < recursionLimit)
    (hbind : BindsTo s (fnOf name qual params body scope dV kV doc pm an cdv ct) args binds) (hloc : ∀ y ∈ binds, scope.names.lookup y.1 = some .local)
    (h : ∀ g L' h₁, s.heap = g → Fr g L' h₁ (fun y => binds.reverse.lookup y) → News g L' h₁ [] → Below A base (env :: outer) g → K.In g → Top p loose mean mg mb g →
      wpAny (model prog w) (A.deeper (envOf qual scope L' f cdv)) (execs body (envOf qual scope L' f cdv))
        (fun fl s' => LeaveK h₀ L m g R (match fl with | .ret v => v | _ => .none) s')
        (fun e s' => wpAny (model prog w) (A.deeper (envOf qual scope L' f cdv)) (leaving (envOf qual scope L' f cdv) e) (fun _ s'' => R (.error e) s'') (fun e' s'' => R (.error e') s'') s')
        { s with heap := h₁, toks := s.toks + binds.length })
    (hco : scope.isCoroutine = false) (hgen : scope.isGenerator = false) (hk : scope.kind = .function)
    (hcell : ∀ x ∈ scope.names, x.2 ≠ .cell) : codeAny (model prog w) A (.call (.ref f) args) R s := by
  obtain ⟨FG, BG, st, lv⟩ := groundX (R := R) (news := []) B F News.nil hA hf hke
  refine codeAny_call_def (fd := fnOf name qual params body scope dV kV doc pm an cdv ct) (body := body) (binds := binds) hroom ((X₀.keeps F.keep) _ _ ho) rfl (T.nolimit.keeps F.keep) (codeRec_of (X₀.keeps F.keep) hcd) rfl hbind hcell hloc (fun h₁ hns hk₁ => ?_) hco hgen hk
  exact wpAny_mono (h s.heap s.heap.objs.size h₁ rfl ⟨hns, hk₁, Nat.le_refl _⟩ News.nil BG (X₀.keeps st) (T.keeps st)) (fun fl s' hl => lv _ _ hl) fun _ _ y => y

/-- what a call of a def says: nothing that stood is changed, and Ret holds of what comes back -/
def Says (w : World) (mean : ExcName → Option Value) (mg mb : Str → Option Value) (f : Addr) (d : Nat) (vs : List Value) (Ret : Heap → Value → Heap → Prop) : Prop :=
  ∀ (dp un : Nat) (gd : Option (List Code)) (cn : Str) (cs : Scope) (a : Addr) (ccd : Value) (cl : List (Str × Addr)) (outer : List Env) (A₀ : Around) (base h₀ : Heap) (L : Addr) (m : Str → Option Value) (s : Shared) (Q E : Value → Shared → Prop),
    Below A₀ base outer h₀ → Fr h₀ L s.heap m → (hd.heap_39 w.params).In h₀ → Top hd.view_39 (looseW hd.view_39 []) mean mg mb h₀ → cs.kind = .function →
    dp + d < recursionLimit → un + 8 * d < cLine →
    (∀ v h' tk', Fr h₀ L h' m → s.heap.StaysIn h' → Ret s.heap v h' → Q v { s with heap := h', toks := tk' }) →
    wpAny (model PySem.Challenge.rw_pe0085_01.row.prog w) (ktrTop dp un gd cn cs L a ccd cl outer) (call (.ref f) vs) Q E s

theorem news_stay {h₀ h h' : Heap} {L : Addr} {news : List (Addr × Obj)} (N : News h₀ L h news) (S : h.StaysIn h') : News h₀ L h' news :=
  fun p hp => ⟨S _ _ (N p hp).1, (N p hp).2⟩

def IntRet (x : Int) (_ : Heap) (v : Value) (_ : Heap) : Prop := ∃ t, v = .int x t
def BoolRet (x : Bool) (_ : Heap) (v : Value) (_ : Heap) : Prop := v = .bool x
def StrRet (x : Str) (_ : Heap) (v : Value) (_ : Heap) : Prop := ∃ t, v = .str x t

theorem ret_end {h₀ g h' : Heap} {L L' : Addr} {m m' : Str → Option Value} {s : Shared} {Q : Value → Shared → Prop} {Ret : Heap → Value → Heap → Prop} {v : Value} {tk' : Nat}
    (hret : ∀ v h' tk', Fr h₀ L h' m → s.heap.StaysIn h' → Ret s.heap v h' → Q v { s with heap := h', toks := tk' }) (e : s.heap = g) (F : Fr h₀ L h' m) (F' : Fr g L' h' m') (hr : Ret s.heap v h') : Q v { s with heap := h', toks := tk' } :=
  hret v h' tk' F (fun b o q => F'.keep b o (e ▸ q)) hr

/-- the walk stops here -/
def Stop (P : Prop) : Prop := P
theorem stop_here {P : Prop} (h : Stop P) : P := h
/-- a statement cut off: what holds behind it -/
theorem cut_exec {M : Model} {A : Around} {E : Value → Shared → Prop} {s : Shared} {env : Env} {st : Stmt} {Q : Flow → Shared → Prop} (P : Shared → Prop)
    (h1 : wpAny M A (exec st env) (fun fl s' => fl = .next ∧ P s') E s) (h2 : ∀ s', P s' → Q .next s') : wpAny M A (exec st env) Q E s :=
  wpAny_mono h1 (fun fl s' h => by obtain ⟨e, p⟩ := h; subst e; exact h2 s' p) fun _ _ h => h

/-- behind a loop that turns one int -/
def CutInt (g : Heap) (L : Addr) (m : Str → Option Value) (x : Str) (C : Int → Prop) (s : Shared) (fl : Flow) (s' : Shared) : Prop :=
  fl = .next ∧ ∃ k t h' tk, s' = { s with heap := h', toks := tk } ∧ Fr g L h' (fun y => if y = x then some (.int k t) else m y) ∧ C k
theorem cutInt_end {g h' : Heap} {L : Addr} {m m' : Str → Option Value} {x : Str} {C : Int → Prop} {s : Shared} {k : Int} {t : Tok} {tk : Nat} (F : Fr g L h' m') (hC : C k) (e : ∀ y, m' y = (if y = x then some (.int k t) else m y)) :
    CutInt g L m x C s .next { s with heap := h', toks := tk } := ⟨rfl, k, t, h', tk, rfl, (funext e : m' = fun y => if y = x then some (.int k t) else m y) ▸ F, hC⟩
theorem cut_int {M : Model} {A : Around} {E : Value → Shared → Prop} {s : Shared} {env : Env} {st : Stmt} {Q : Flow → Shared → Prop} {g : Heap} {L : Addr} {m : Str → Option Value} (x : Str) (C : Int → Prop) (_F : Fr g L s.heap m)
    (h1 : wpAny M A (exec st env) (CutInt g L m x C s) E s)
    (h2 : ∀ k t h' tk, Fr g L h' (fun y => if y = x then some (.int k t) else m y) → News g L h' [] → C k → Q .next { s with heap := h', toks := tk }) : wpAny M A (exec st env) Q E s :=
  wpAny_mono h1 (fun fl s' h => by
    obtain ⟨e, k, t, h', tk, e2, F', hC⟩ := h
    subst e; subst e2
    exact h2 k t h' tk F' News.nil hC) fun _ _ h => h

section
variable {w : World} {mean : ExcName → Option Value} {mg mb : Str → Option Value} {f : Addr} {d : Nat} {vs : List Value} {dp un : Nat} {gd : Option (List Code)} {cn : Str} {cs : Scope} {a : Addr} {ccd : Value} {cl : List (Str × Addr)} {outer : List Env} {A₀ : Around} {base h₀ : Heap} {L : Addr} {m : Str → Option Value} {s : Shared} {Q E : Value → Shared → Prop} {news : List (Addr × Obj)}
theorem says_use {Ret : Heap → Value → Heap → Prop} (C : Says w mean mg mb f d vs Ret) (B : Below A₀ base outer h₀) (F : Fr h₀ L s.heap m) (X : (hd.heap_39 w.params).In h₀) (N : News h₀ L s.heap news) (T : Top hd.view_39 (looseW hd.view_39 []) mean mg mb h₀) (hk : cs.kind = .function) (hd : dp + d < recursionLimit) (hu : un + 8 * d < cLine)
    (h : ∀ v h' tk', Fr h₀ L h' m → News h₀ L h' news → s.heap.StaysIn h' → Ret s.heap v h' → Q v { s with heap := h', toks := tk' }) :
    wpAny (model PySem.Challenge.rw_pe0085_01.row.prog w) (ktrTop dp un gd cn cs L a ccd cl outer) (call (.ref f) vs) Q E s :=
  C _ _ _ _ _ _ _ _ _ _ _ _ _ _ _ _ _ B F X T hk hd hu fun v h' tk' F' S hr => h v h' tk' F' (news_stay N S) S hr
theorem says_int {x : Int} (C : Says w mean mg mb f d vs (IntRet x)) (B : Below A₀ base outer h₀) (F : Fr h₀ L s.heap m) (X : (hd.heap_39 w.params).In h₀) (N : News h₀ L s.heap news) (T : Top hd.view_39 (looseW hd.view_39 []) mean mg mb h₀) (hk : cs.kind = .function) (hd : dp + d < recursionLimit) (hu : un + 8 * d < cLine)
    (h : ∀ t h' tk', Fr h₀ L h' m → News h₀ L h' news → Q (.int x t) { s with heap := h', toks := tk' }) :
    wpAny (model PySem.Challenge.rw_pe0085_01.row.prog w) (ktrTop dp un gd cn cs L a ccd cl outer) (call (.ref f) vs) Q E s :=
  C _ _ _ _ _ _ _ _ _ _ _ _ _ _ _ _ _ B F X T hk hd hu fun v h' tk' F' S hr => by
    obtain ⟨t, rfl⟩ := hr
    exact h t h' tk' F' (news_stay N S)
theorem says_bool {x : Bool} (C : Says w mean mg mb f d vs (BoolRet x)) (B : Below A₀ base outer h₀) (F : Fr h₀ L s.heap m) (X : (hd.heap_39 w.params).In h₀) (N : News h₀ L s.heap news) (T : Top hd.view_39 (looseW hd.view_39 []) mean mg mb h₀) (hk : cs.kind = .function) (hd : dp + d < recursionLimit) (hu : un + 8 * d < cLine)
    (h : ∀ h' tk', Fr h₀ L h' m → News h₀ L h' news → Q (.bool x) { s with heap := h', toks := tk' }) :
    wpAny (model PySem.Challenge.rw_pe0085_01.row.prog w) (ktrTop dp un gd cn cs L a ccd cl outer) (call (.ref f) vs) Q E s :=
  C _ _ _ _ _ _ _ _ _ _ _ _ _ _ _ _ _ B F X T hk hd hu fun v h' tk' F' S hr => by
    have hr : v = .bool x := hr
    subst hr
    exact h h' tk' F' (news_stay N S)
theorem says_str {x : Str} (C : Says w mean mg mb f d vs (StrRet x)) (B : Below A₀ base outer h₀) (F : Fr h₀ L s.heap m) (X : (hd.heap_39 w.params).In h₀) (N : News h₀ L s.heap news) (T : Top hd.view_39 (looseW hd.view_39 []) mean mg mb h₀) (hk : cs.kind = .function) (hd : dp + d < recursionLimit) (hu : un + 8 * d < cLine)
    (h : ∀ t h' tk', Fr h₀ L h' m → News h₀ L h' news → Q (.str x t) { s with heap := h', toks := tk' }) :
    wpAny (model PySem.Challenge.rw_pe0085_01.row.prog w) (ktrTop dp un gd cn cs L a ccd cl outer) (call (.ref f) vs) Q E s :=
  C _ _ _ _ _ _ _ _ _ _ _ _ _ _ _ _ _ B F X T hk hd hu fun v h' tk' F' S hr => by
    obtain ⟨t, rfl⟩ := hr
    exact h t h' tk' F' (news_stay N S)
end
end
section

/-- edit scripts: a move costs 2, a change sc x y -/
inductive Scr (sc : Nat → Nat → Int) : List Nat → List Nat → Int → Prop
  | nil : Scr sc [] [] 0
  | del {x : Nat} {xs ys : List Nat} {c : Int} : Scr sc xs ys c → Scr sc (x :: xs) ys (c + 2)
  | ins {y : Nat} {xs ys : List Nat} {c : Int} : Scr sc xs ys c → Scr sc xs (y :: ys) (c + 2)
  | sub {x y : Nat} {xs ys : List Nat} {c : Int} : Scr sc xs ys c → Scr sc (x :: xs) (y :: ys) (c + sc x y)

/-- the least cost -/
def ed (sc : Nat → Nat → Int) : List Nat → List Nat → Int
  | [], ys => 2 * (ys.length : Int)
  | x :: xs, [] => 2 * ((x :: xs).length : Int)
  | x :: xs, y :: ys => min (min (ed sc xs (y :: ys)) (ed sc (x :: xs) ys) + 2) (ed sc xs ys + sc x y)

variable {sc : Nat → Nat → Int}

theorem Scr.cast {xs ys : List Nat} {c d : Int} (h : Scr sc xs ys c) (e : c = d) : Scr sc xs ys d := e ▸ h
theorem Scr.inss : ∀ ys : List Nat, Scr sc [] ys (2 * (ys.length : Int))
  | [] => .nil
  | y :: ys => (Scr.ins (y := y) (Scr.inss ys)).cast (by simp only [List.length_cons]; omega)
theorem Scr.dels : ∀ xs : List Nat, Scr sc xs [] (2 * (xs.length : Int))
  | [] => .nil
  | x :: xs => (Scr.del (x := x) (Scr.dels xs)).cast (by simp only [List.length_cons]; omega)

theorem ed_scr : ∀ xs ys : List Nat, Scr sc xs ys (ed sc xs ys)
  | [], ys => by unfold ed; exact Scr.inss ys
  | x :: xs, [] => by unfold ed; exact Scr.dels (x :: xs)
  | x :: xs, y :: ys => by
    have h1 := (ed_scr xs (y :: ys)).del (x := x)
    have h2 := (ed_scr (x :: xs) ys).ins (y := y)
    have h3 := (ed_scr xs ys).sub (x := x) (y := y)
    unfold ed
    by_cases a : ed sc xs ys + sc x y ≤ min (ed sc xs (y :: ys)) (ed sc (x :: xs) ys) + 2
    · exact h3.cast (by omega)
    · by_cases b : ed sc xs (y :: ys) ≤ ed sc (x :: xs) ys
      · exact h1.cast (by omega)
      · exact h2.cast (by omega)
termination_by xs ys => xs.length + ys.length

theorem ed_nil_right (xs : List Nat) : ed sc xs [] = 2 * (xs.length : Int) := by
  cases xs with
  | nil => simp [ed]
  | cons x xs => simp [ed]
theorem ed_nil_left (ys : List Nat) : ed sc [] ys = 2 * (ys.length : Int) := by simp [ed]
theorem ed_del (x : Nat) (xs ys : List Nat) : ed sc (x :: xs) ys ≤ ed sc xs ys + 2 := by
  cases ys with
  | nil => rw [ed_nil_right, ed_nil_right]; simp only [List.length_cons]; omega
  | cons y ys => rw [ed.eq_3]; omega
theorem ed_ins (y : Nat) (xs ys : List Nat) : ed sc xs (y :: ys) ≤ ed sc xs ys + 2 := by
  cases xs with
  | nil => rw [ed_nil_left, ed_nil_left]; simp only [List.length_cons]; omega
  | cons x xs => rw [ed.eq_3]; omega
theorem ed_sub (x y : Nat) (xs ys : List Nat) : ed sc (x :: xs) (y :: ys) ≤ ed sc xs ys + sc x y := by rw [ed.eq_3]; omega

theorem ed_le {xs ys : List Nat} {c : Int} (h : Scr sc xs ys c) : ed sc xs ys ≤ c := by
  induction h with
  | nil => simp [ed]
  | @del x xs ys c _ ih => have := ed_del (sc := sc) x xs ys; omega
  | @ins y xs ys c _ ih => have := ed_ins (sc := sc) y xs ys; omega
  | @sub x y xs ys c _ ih => have := ed_sub (sc := sc) x y xs ys; omega

theorem Scr.app {xs ys us vs : List Nat} {c d : Int} (h : Scr sc xs ys c) (k : Scr sc us vs d) : Scr sc (xs ++ us) (ys ++ vs) (c + d) := by
  induction h with
  | nil => exact k.cast (by omega)
  | del _ ih => exact ih.del.cast (by omega)
  | ins _ ih => exact ih.ins.cast (by omega)
  | sub _ ih => exact ih.sub.cast (by omega)

theorem Scr.rev {xs ys : List Nat} {c : Int} (h : Scr sc xs ys c) : Scr sc xs.reverse ys.reverse c := by
  induction h with
  | nil => exact .nil
  | @del x xs ys c _ ih =>
    rw [List.reverse_cons]
    have := ih.app (Scr.del (x := x) .nil)
    rw [List.append_nil] at this
    exact this.cast (by omega)
  | @ins y xs ys c _ ih =>
    rw [List.reverse_cons]
    have := ih.app (Scr.ins (y := y) .nil)
    rw [List.append_nil] at this
    exact this.cast (by omega)
  | @sub x y xs ys c _ ih =>
    rw [List.reverse_cons, List.reverse_cons]
    exact (ih.app (Scr.sub (x := x) (y := y) .nil)).cast (by omega)

theorem ed_rev (xs ys : List Nat) : ed sc xs.reverse ys.reverse = ed sc xs ys := by
  have h1 := ed_le (ed_scr (sc := sc) xs ys).rev
  have h2 := ed_le (ed_scr (sc := sc) xs.reverse ys.reverse).rev
  rw [List.reverse_reverse, List.reverse_reverse] at h2
  omega

theorem Scr.swap {xs ys : List Nat} {c : Int} (h : Scr sc xs ys c) (hs : ∀ x y, sc x y = sc y x) : Scr sc ys xs c := by
  induction h with
  | nil => exact .nil
  | del _ ih => exact ih.ins
  | ins _ ih => exact ih.del
  | @sub x y xs ys c _ ih => exact (ih.sub (x := y) (y := x)).cast (by rw [hs x y])
theorem ed_swap (hs : ∀ x y, sc x y = sc y x) (xs ys : List Nat) : ed sc xs ys = ed sc ys xs := by
  have h1 := ed_le ((ed_scr (sc := sc) xs ys).swap hs)
  have h2 := ed_le ((ed_scr (sc := sc) ys xs).swap hs)
  omega

/-- the last places -/
theorem ed_snoc (x y : Nat) (xs ys : List Nat) : ed sc (xs ++ [x]) (ys ++ [y]) = min (min (ed sc xs (ys ++ [y])) (ed sc (xs ++ [x]) ys) + 2) (ed sc xs ys + sc x y) := by
  rw [← ed_rev (xs ++ [x]), List.reverse_append, List.reverse_append]
  simp only [List.reverse_cons, List.reverse_nil, List.nil_append, List.singleton_append]
  rw [ed.eq_3]
  have e1 : ed sc xs.reverse (y :: ys.reverse) = ed sc xs (ys ++ [y]) := by rw [← ed_rev xs, List.reverse_append]; rfl
  have e2 : ed sc (x :: xs.reverse) ys.reverse = ed sc (xs ++ [x]) ys := by rw [← ed_rev (xs ++ [x]), List.reverse_append]; rfl
  rw [e1, e2, ed_rev]

/-- a sign at the front that costs p at least against all of the other side -/
theorem front_right {p : Int} (hp : p ≤ 2) {o : Nat} {xs zs : List Nat} {c : Int} (h : Scr sc xs zs c) : ∀ ys, zs = o :: ys → (∀ x ∈ xs, p ≤ sc x o) → ed sc xs ys + p ≤ c + 2 := by
  induction h with
  | nil => intro ys e; cases e
  | @del x xs ys' c h ih =>
    intro ys e hx
    have := ih ys e fun x' m => hx x' (.tail _ m)
    have := ed_del (sc := sc) x xs ys
    omega
  | @ins y xs ys' c h ih =>
    intro ys e hx
    cases e
    have := ed_le h
    omega
  | @sub x y xs ys' c h ih =>
    intro ys e hx
    cases e
    have h1 := ed_le h
    have h2 := ed_del (sc := sc) x xs ys'
    have h3 := hx x (.head _)
    omega
theorem front_left {p : Int} (hp : p ≤ 2) {o : Nat} {ys zs : List Nat} {c : Int} (h : Scr sc zs ys c) : ∀ xs, zs = o :: xs → (∀ y ∈ ys, p ≤ sc o y) → ed sc xs ys + p ≤ c + 2 := by
  induction h with
  | nil => intro ys e; cases e
  | @ins y xs' ys c h ih =>
    intro xs e hx
    have := ih xs e fun x' m => hx x' (.tail _ m)
    have := ed_ins (sc := sc) y xs ys
    omega
  | @del x xs' ys c h ih =>
    intro xs e hx
    cases e
    have := ed_le h
    omega
  | @sub x y xs' ys c h ih =>
    intro xs e hx
    cases e
    have h1 := ed_le h
    have h2 := ed_ins (sc := sc) y xs' ys
    have h3 := hx y (.head _)
    omega
theorem ed_front {m o : Nat} {xs ys : List Nat} (hp : sc m o ≤ 2) (hx : ∀ x ∈ xs, sc m o ≤ sc x o) (hy : ∀ y ∈ ys, sc m o ≤ sc m y) : ed sc (m :: xs) (o :: ys) = ed sc xs ys + sc m o := by
  have h1 := front_right hp (ed_scr (sc := sc) xs (o :: ys)) ys rfl hx
  have h2 := front_left hp (ed_scr (sc := sc) (m :: xs) ys) xs rfl hy
  rw [ed.eq_3]
  omega
theorem ed_back {m o : Nat} {xs ys : List Nat} (hp : sc m o ≤ 2) (hx : ∀ x ∈ xs, sc m o ≤ sc x o) (hy : ∀ y ∈ ys, sc m o ≤ sc m y) : ed sc (xs ++ [m]) (ys ++ [o]) = ed sc xs ys + sc m o := by
  have h := ed_front (sc := sc) (m := m) (o := o) (xs := xs.reverse) (ys := ys.reverse) hp (fun x q => hx x (List.mem_reverse.mp q)) fun y q => hy y (List.mem_reverse.mp q)
  rw [ed_rev] at h
  rw [← ed_rev (xs ++ [m]), List.reverse_append, List.reverse_append]
  exact h

/-- same beginnings, same ends -/
theorem ed_pre (h0 : ∀ x, sc x x = 0) (hn : ∀ x y, 0 ≤ sc x y) : ∀ p xs ys : List Nat, ed sc (p ++ xs) (p ++ ys) = ed sc xs ys
  | [], _, _ => rfl
  | c :: p, xs, ys => by
    rw [List.cons_append, List.cons_append, ed_front (by rw [h0]; omega) (fun x _ => by rw [h0]; exact hn _ _) (fun y _ => by rw [h0]; exact hn _ _), ed_pre h0 hn p xs ys, h0]
    omega
theorem ed_post (h0 : ∀ x, sc x x = 0) (hn : ∀ x y, 0 ≤ sc x y) (p xs ys : List Nat) : ed sc (xs ++ p) (ys ++ p) = ed sc xs ys := by
  rw [← ed_rev (xs ++ p), List.reverse_append, List.reverse_append, ed_pre h0 hn, ed_rev]

theorem Scr.sizes (hn : ∀ x y, 0 ≤ sc x y) {xs ys : List Nat} {c : Int} (h : Scr sc xs ys c) : 2 * (ys.length : Int) ≤ 2 * (xs.length : Int) + c ∧ 2 * (xs.length : Int) ≤ 2 * (ys.length : Int) + c := by
  induction h with
  | nil => simp
  | del _ ih => simp only [List.length_cons]; omega
  | ins _ ih => simp only [List.length_cons]; omega
  | @sub x y _ _ _ _ ih => have := hn x y; simp only [List.length_cons]; omega
theorem ed_ge_sizes (hn : ∀ x y, 0 ≤ sc x y) (xs ys : List Nat) : 2 * ((ys.length : Int) - xs.length) ≤ ed sc xs ys := by
  have := (ed_scr (sc := sc) xs ys).sizes hn
  omega

/-! the figures: a change costs 2; the first figure that is kept -/
theorem ed_most (h2 : ∀ x y, sc x y ≤ 2) : ∀ xs ys : List Nat, ed sc xs ys ≤ 2 * max (xs.length : Int) ys.length
  | [], ys => by rw [ed_nil_left]; simp only [List.length_nil]; omega
  | x :: xs, [] => by rw [ed_nil_right]; simp only [List.length_nil]; omega
  | x :: xs, y :: ys => by
    have h := ed_most h2 xs ys
    have h' := ed_sub (sc := sc) x y xs ys
    have := h2 x y
    simp only [List.length_cons]
    omega
theorem ed_app (xs us ys vs : List Nat) : ed sc (xs ++ us) (ys ++ vs) ≤ ed sc xs ys + ed sc us vs :=
  ed_le ((ed_scr (sc := sc) xs ys).app (ed_scr us vs))
theorem ed_kept (h2 : ∀ x y, sc x y ≤ 2) (h0 : ∀ x, sc x x = 0) {xs ys : List Nat} {i j x : Nat} (hi : xs[i]? = some x) (hj : ys[j]? = some x) :
    ed sc xs ys ≤ 2 * max (i : Int) j + ed sc (xs.drop (i + 1)) (ys.drop (j + 1)) := by
  obtain ⟨li, hi⟩ := List.getElem?_eq_some_iff.mp hi
  obtain ⟨lj, hj⟩ := List.getElem?_eq_some_iff.mp hj
  have e1 : xs = xs.take i ++ x :: xs.drop (i + 1) := by
    conv => lhs; rw [← List.take_append_drop i xs, List.drop_eq_getElem_cons li, hi]
  have e2 : ys = ys.take j ++ x :: ys.drop (j + 1) := by
    conv => lhs; rw [← List.take_append_drop j ys, List.drop_eq_getElem_cons lj, hj]
  have h := ed_app (sc := sc) (xs.take i) (x :: xs.drop (i + 1)) (ys.take j) (x :: ys.drop (j + 1))
  rw [← e1, ← e2] at h
  have hm := ed_most h2 (xs.take i) (ys.take j)
  rw [List.length_take, List.length_take] at hm
  have hs := ed_sub (sc := sc) x x (xs.drop (i + 1)) (ys.drop (j + 1))
  rw [h0] at hs
  omega
theorem kept_or {xs ys : List Nat} {c : Int} (h : Scr sc xs ys c) : (∀ x ∈ xs, ∀ y ∈ ys, x ≠ y → 2 ≤ sc x y) → (∀ x y, 0 ≤ sc x y) → 2 * max (xs.length : Int) ys.length ≤ c ∨
      ∃ i j x : Nat, xs[i]? = some x ∧ ys[j]? = some x ∧ 2 * max (i : Int) j + ed sc (xs.drop (i + 1)) (ys.drop (j + 1)) ≤ c := by
  induction h with
  | nil => intro _ _; left; simp
  | @del x xs ys c h ih =>
    intro hd hn
    rcases ih (fun a m b k => hd a (.tail _ m) b k) hn with h1 | ⟨i, j, z, h1, h2, h3⟩
    · left; simp only [List.length_cons]; omega
    · right
      refine ⟨i + 1, j, z, by simpa using h1, h2, ?_⟩
      rw [List.drop_succ_cons]
      omega
  | @ins y xs ys c h ih =>
    intro hd hn
    rcases ih (fun a m b k => hd a m b (.tail _ k)) hn with h1 | ⟨i, j, z, h1, h2, h3⟩
    · left; simp only [List.length_cons]; omega
    · right
      refine ⟨i, j + 1, z, h1, by simpa using h2, ?_⟩
      rw [List.drop_succ_cons]
      omega
  | @sub x y xs ys c h ih =>
    intro hd hn
    by_cases e : x = y
    · right
      refine ⟨0, 0, x, rfl, by rw [e]; rfl, ?_⟩
      have := ed_le h
      have := hn x y
      simp only [List.drop_succ_cons, List.drop_zero]
      omega
    · have h2 := hd x (.head _) y (.head _) e
      rcases ih (fun a m b k => hd a (.tail _ m) b (.tail _ k)) hn with h1 | ⟨i, j, z, h1, h3, h4⟩
      · left; simp only [List.length_cons]; omega
      · right
        refine ⟨i + 1, j + 1, z, by simpa using h1, by simpa using h3, ?_⟩
        rw [List.drop_succ_cons, List.drop_succ_cons]
        omega
/-- what the law's own reckoning comes to -/
theorem moves_is (hn : ∀ x y, 0 ≤ sc x y) {xs ys : List Nat} (hd : ∀ x ∈ xs, ∀ y ∈ ys, x ≠ y → 2 ≤ sc x y) {k : Int}
    (hk : ed sc xs ys ≤ 2 * k) (hm : k ≤ max (xs.length : Int) ys.length)
    (ha : ∀ i j x : Nat, xs[i]? = some x → ys[j]? = some x → 2 * k ≤ 2 * max (i : Int) j + ed sc (xs.drop (i + 1)) (ys.drop (j + 1))) : 2 * k = ed sc xs ys := by
  rcases kept_or (ed_scr (sc := sc) xs ys) hd hn with h | ⟨i, j, x, h1, h3, h4⟩
  · omega
  · have := ha i j x h1 h3
    omega

/-! the table, row by row -/
def tab (sc : Nat → Nat → Int) (a b : List Nat) (j i : Nat) : Int := ed sc (a.take j) (b.take i)
theorem tab_zero_left (a b : List Nat) {i : Nat} (h : i ≤ b.length) : tab sc a b 0 i = 2 * (i : Int) := by
  unfold tab
  rw [List.take_zero, ed_nil_left, List.length_take]
  omega
theorem tab_zero_right (a b : List Nat) {j : Nat} (h : j ≤ a.length) : tab sc a b j 0 = 2 * (j : Int) := by
  unfold tab
  rw [List.take_zero, ed_nil_right, List.length_take]
  omega
theorem tab_step (a b : List Nat) {j i : Nat} {x y : Nat} (hj : a[j]? = some x) (hi : b[i]? = some y) :
    tab sc a b (j + 1) (i + 1) = min (min (tab sc a b j (i + 1)) (tab sc a b (j + 1) i) + 2) (tab sc a b j i + sc x y) := by
  unfold tab
  have e1 : a.take (j + 1) = a.take j ++ [x] := by rw [List.take_add_one, hj]; rfl
  have e2 : b.take (i + 1) = b.take i ++ [y] := by rw [List.take_add_one, hi]; rfl
  rw [e1, e2, ed_snoc]
theorem tab_whole (a b : List Nat) : tab sc a b a.length b.length = ed sc a b := by
  unfold tab
  rw [List.take_length, List.take_length]
/-- the first column costs no less than the second -/
theorem tab_one (h2 : ∀ x y, sc x y ≤ 2) (a b : List Nat) {i : Nat} (ha : 0 < a.length) (hi : i < b.length) : tab sc a b 1 (i + 1) ≤ 2 * ((i : Int) + 1) := by
  obtain ⟨x, hx⟩ : ∃ x, a[0]? = some x := ⟨a[0], List.getElem?_eq_getElem ha⟩
  obtain ⟨y, hy⟩ : ∃ y, b[i]? = some y := ⟨b[i], List.getElem?_eq_getElem hi⟩
  have h : tab sc a b 1 (i + 1) = min (min (tab sc a b 0 (i + 1)) (tab sc a b 1 i) + 2) (tab sc a b 0 i + sc x y) := tab_step (sc := sc) a b hx hy
  have := h2 x y
  have h0 := tab_zero_left (sc := sc) a b (Nat.le_of_lt hi)
  omega
theorem row_over (hn : ∀ x y, 0 ≤ sc x y) (a b : List Nat) {i : Nat} {c : Int} (hi : i < b.length) (h : ∀ j ≤ a.length, c < tab sc a b j i) : ∀ j ≤ a.length, c < tab sc a b j (i + 1) := by
  intro j
  induction j with
  | zero =>
    intro _
    have h1 := h 0 (Nat.zero_le _)
    rw [tab_zero_left a b (Nat.le_of_lt hi)] at h1
    rw [tab_zero_left a b (by omega)]
    omega
  | succ j ih =>
    intro hj
    obtain ⟨x, hx⟩ : ∃ x, a[j]? = some x := ⟨a[j], List.getElem?_eq_getElem hj⟩
    obtain ⟨y, hy⟩ : ∃ y, b[i]? = some y := ⟨b[i], List.getElem?_eq_getElem hi⟩
    rw [tab_step a b hx hy]
    have h1 := ih (by omega)
    have h3 := h j (by omega)
    have h4 := h (j + 1) hj
    have := hn x y
    omega
theorem rows_over (hn : ∀ x y, 0 ≤ sc x y) (a b : List Nat) {i : Nat} {c : Int} (h : ∀ j ≤ a.length, c < tab sc a b j i) : ∀ k, i + k ≤ b.length → ∀ j ≤ a.length, c < tab sc a b j (i + k) := by
  intro k
  induction k with
  | zero => intro _; exact h
  | succ k ih => intro hk; exact row_over hn a b (i := i + k) (by omega) (ih (by omega))
/-- a row that is over the bound everywhere -/
theorem over_all (h2 : ∀ x y, sc x y ≤ 2) (hn : ∀ x y, 0 ≤ sc x y) (a b : List Nat) {i : Nat} {c : Int} (ha : 0 < a.length) (hi : i < b.length) (h : ∀ j < a.length, c < tab sc a b (j + 1) (i + 1)) : c < ed sc a b := by
  rw [← tab_whole a b]
  have h0 : ∀ j ≤ a.length, c < tab sc a b j (i + 1) := by
    intro j hj
    cases j with
    | zero =>
      have q : c < tab sc a b 1 (i + 1) := h 0 ha
      have := tab_one h2 a b ha hi
      rw [tab_zero_left a b (by omega)]
      omega
    | succ j => exact h j hj
  have := rows_over hn a b h0 (b.length - (i + 1)) (by omega) a.length (Nat.le_refl _)
  rwa [show i + 1 + (b.length - (i + 1)) = b.length by omega] at this
end
end Mine
namespace Mine
open PySem PySem.W PySem.Spec PySem.Calls PyProof.Rows
local macro_rules | `(tactic| cell_enter) => `(tactic| (refine wpAny_call ?_; refine' code_own ?k1 ?k2 ?k3 ?k5 ?kA ?kF ?kK ?k6 ?k7 ?k8 ?k9 ?kB ?_ ?c2 ?c3 ?c4 ?c5; (case kA => exact rfl); (case kF => exact rfl); (case kK => assumption); (case k1 => k_asm); (case k2 => k_asm); (case k3 => k_asm); (case k5 => k_asm); (case k6 => k_is); (case k7 => k_is); (case k8 => ktr_room); (case k9 => exact BindsTo.of_eq rfl); (case c5 => decide); (case kB => exact locs rfl); (case c2 => exact rfl); (case c3 => exact rfl); (case c4 => exact rfl); k_whole; intro g' L' h' hg' F' N' B' X' T'; (try dsimp only); (try k_lift B'); (try k_fold)))
section
open PySem PySem.W PySem.Spec PySem.Calls PyProof.Rows
set_option maxRecDepth 100000

def subCost (a b : Str) : Int := if a = b then 0 else if Txt.lower a = Txt.lower b then 1 else 2
theorem subCost_same {a b : Str} (h : (a == b) = true) : subCost a b = 0 := by
  have e : a = b := by simpa using h
  simp [subCost, e]
theorem subCost_case {a b : Str} (h : (a == b) = false) (h2 : (Txt.lower a == Txt.lower b) = true) : subCost a b = 1 := by
  have e : a ≠ b := by simpa using h
  have e2 : Txt.lower a = Txt.lower b := by simpa using h2
  simp [subCost, e, e2]
theorem subCost_move {a b : Str} (h : (a == b) = false) (h2 : (Txt.lower a == Txt.lower b) = false) : subCost a b = 2 := by
  have e : a ≠ b := by simpa using h
  have e2 : Txt.lower a ≠ Txt.lower b := by simpa using h2
  simp [subCost, e, e2]

set_option maxHeartbeats 8000000 in
theorem sub_says {w : World} {mean : ExcName → Option Value} {mg mb : Str → Option Value} (a b : Str) (t u : Tok) (ha : a.length ≤ 100) (hb : b.length ≤ 100) :
    Says w mean mg mb 65 1 [.str a t, .str b u] (IntRet (subCost a b)) := by
  w_top off
  unfold Says
  k_fill
  intro dp un gd cn cs ad ccd cl outer A₀ base h₀ L m s Q E B F X T hk hd hu hret
  k_dflt cell_enter
  k_steps
  all_goals (refine ret_end (Q := Q) (s := s) hret (by assumption) (by assumption) (by assumption) ?_)
  · exact ⟨_, by rw [subCost_same (by assumption)]⟩
  · exact ⟨_, by rw [subCost_case (by assumption) (by assumption)]⟩
  · exact ⟨_, by rw [subCost_move (by assumption) (by assumption)]⟩

set_option maxHeartbeats 8000000 in
theorem whole_says {w : World} {mean : ExcName → Option Value} {mg mb : Str → Option Value} (x : Int) (t : Tok) :
    Says w mean mg mb 107 1 [.int x t] (BoolRet true) := by
  w_top off
  unfold Says
  k_fill
  intro dp un gd cn cs ad ccd cl outer A₀ base h₀ L m s Q E B F X T hk hd hu hret
  k_dflt cell_enter
  k_steps
  all_goals (refine ret_end (Q := Q) (s := s) hret (by assumption) (by assumption) (by assumption) ?_)
  all_goals exact rfl

set_option maxHeartbeats 8000000 in
theorem reply_says {w : World} {mean : ExcName → Option Value} {mg mb : Str → Option Value} (a b c : Str) (t u v : Tok) (ha : a.length ≤ 100) (hb : b.length ≤ 100) (hc : c.length ≤ 100) :
    Says w mean mg mb 100 1 [.str a t, .str b u, .str c v] (StrRet (Str.ofString "229 on) (" ++ a ++ b ++ c ++ Str.ofString ") ok)")) := by
  w_top off
  unfold Says
  k_fill
  intro dp un gd cn cs ad ccd cl outer A₀ base h₀ L m s Q E B F X T hk hd hu hret
  k_dflt cell_enter
  k_steps
  all_goals (refine ret_end (Q := Q) (s := s) hret (by assumption) (by assumption) (by assumption) ?_)
  all_goals exact ⟨_, rfl⟩

/-- the five marks -/
def markL : List Str := [Str.ofString "|", Str.ofString "\\", Str.ofString "x", Str.ofString "X", Str.ofString "y"]
theorem mark_price : ∀ a ∈ markL, ∀ b ∈ markL, subCost a b = if a == b then 0 else if [Str.ofString "xX", Str.ofString "Xx"].any (fun x => x == a ++ b) then 1 else 2 := by decide +kernel
theorem mark_short : ∀ a ∈ markL, a.length = 1 := by decide +kernel

set_option maxHeartbeats 8000000 in
theorem price_says {w : World} {mean : ExcName → Option Value} {mg mb : Str → Option Value} (a b : Str) (t u : Tok) (ha : a ∈ markL) (hb : b ∈ markL) :
    Says w mean mg mb 86 1 [.str a t, .str b u] (IntRet (subCost a b)) := by
  w_top off
  unfold Says
  k_fill
  intro dp un gd cn cs ad ccd cl outer A₀ base h₀ L m s Q E B F X T hk hd hu hret
  have la := mark_short a ha
  have lb := mark_short b hb
  have hp := mark_price a ha b hb
  clear ha hb
  k_dflt cell_enter
  k_steps
  all_goals (refine ret_end (Q := Q) (s := s) hret (by assumption) (by assumption) (by assumption) ?_)
  all_goals (rw [hp])
  · exact ⟨_, by rw [if_pos (by assumption)]⟩
  · exact ⟨_, by rw [if_neg (by simp_all), if_pos (by assumption)]⟩
  · exact ⟨_, by rw [if_neg (by simp_all), if_neg (by simp_all)]⟩
end
section
open PySem PySem.W PySem.Spec PySem.Calls PyProof.Rows
set_option maxRecDepth 100000

abbrev cs (x : Str) : List Nat := x.cps.toList
theorem cs_length (x : Str) : (cs x).length = x.length := by simp [cs, Str.length]
theorem str_of_cs {x : Str} {l : List Nat} (h : cs x = l) : x = ⟨l.toArray⟩ := by
  cases x with
  | mk c => subst h; simp [cs]
theorem cs_inj {x y : Str} (h : cs x = cs y) : x = y := by rw [str_of_cs h]

theorem slice_cs {x : Str} {i j : Int} (h0 : 0 ≤ i) (h1 : i ≤ j) (h2 : j ≤ x.length) : cs (Txt.slice x (some i) (some j)) = ((cs x).drop i.toNat).take (j - i).toNat := by
  have h := slice_closes (x := x) (i := i) (j := j) ⟨h0, h1, by rw [show x.cps.toList.length = x.length from cs_length x]; exact h2⟩
  rw [beq_iff_eq.mp h]
theorem slice_from_cs {x : Str} {i : Int} (h0 : 0 ≤ i) (h2 : i ≤ x.length) : cs (Txt.slice x (some i) none) = (cs x).drop i.toNat := by
  rw [slice_from_eq h0 h2 rfl]
  show ((x.cps.toList.drop i.toNat).take ((x.length : Int) - i).toNat) = _
  rw [List.take_of_length_le]
  rw [List.length_drop, show x.cps.toList.length = x.length from cs_length x]
  omega
theorem slice_to_cs {x : Str} {j : Int} (h0 : 0 ≤ j) (h2 : j ≤ x.length) : cs (Txt.slice x none (some j)) = (cs x).take j.toNat := by
  have h := slice_closes_to (x := x) (j := j) ⟨h0, by rw [show x.cps.toList.length = x.length from cs_length x]; exact h2⟩
  rw [beq_iff_eq.mp h]
  simp [cs]
theorem slice_all (x : Str) : Txt.slice x none none = x := by
  have e : Builtin.Str.strSliceIndices none none 1 x.length = Builtin.Str.strSliceIndices (some 0) (some (x.length : Int)) 1 x.length := by
    unfold Builtin.Str.strSliceIndices
    have a : ¬ ((x.length : Int) < 0) := by omega
    simp only [a, if_true, if_false, show (1 : Int) > 0 by decide, show ¬ (0 : Int) < 0 by decide]
    rw [show max 0 (min 0 (x.length : Int)) = 0 by omega, show max 0 (min (x.length : Int) (x.length : Int)) = x.length by omega]
  have e2 : Txt.slice x none none = Txt.slice x (some 0) (some (x.length : Int)) := by unfold Txt.slice; rw [e]
  apply cs_inj
  rw [e2, slice_cs (by omega) (by omega) (by omega), List.take_of_length_le]
  · rfl
  · rw [List.length_drop, cs_length]; omega
theorem slice_neg_cs {x : Str} {k : Int} (h0 : k < 0) (h2 : -k ≤ x.length) : cs (Txt.slice x none (some k)) = (cs x).take (x.length + k).toNat := by
  have e : Builtin.Str.strSliceIndices none (some k) 1 x.length = Builtin.Str.strSliceIndices none (some (x.length + k)) 1 x.length := by
    unfold Builtin.Str.strSliceIndices
    have a : ¬ ((x.length : Int) + k < 0) := by omega
    simp only [h0, a, if_true, if_false, show (1 : Int) > 0 by decide]
    rw [Int.add_comm k]
  have e2 : Txt.slice x none (some k) = Txt.slice x none (some (x.length + k)) := by unfold Txt.slice; rw [e]
  rw [e2, slice_to_cs (by omega) (by omega)]

theorem item_cs {x : Str} {i : Int} (h0 : 0 ≤ i) (h1 : i < x.length) : ∃ c, (cs x)[i.toNat]? = some c ∧ Txt.item x i = ⟨#[c]⟩ := by
  have hl : i.toNat < (cs x).length := by rw [cs_length]; omega
  refine ⟨(cs x)[i.toNat], List.getElem?_eq_getElem hl, ?_⟩
  exact item_meets h0 (by rw [← Array.getElem?_toList]; exact List.getElem?_eq_getElem hl)
theorem item_neg_cs {x : Str} {i : Int} (h0 : i < 0) (h1 : -(x.length : Int) ≤ i) : ∃ c, (cs x)[(i + x.length).toNat]? = some c ∧ Txt.item x i = ⟨#[c]⟩ := by
  have hl : (i + x.length).toNat < (cs x).length := by rw [cs_length]; omega
  refine ⟨(cs x)[(i + x.length).toNat], List.getElem?_eq_getElem hl, ?_⟩
  rw [beq_iff_eq.mp (item_closes_neg h0 h1 rfl)]
  have e : x.cps.getD (i + x.length).toNat 0 = (cs x)[(i + x.length).toNat] := by
    have hs : (i + x.length).toNat < x.cps.size := by have := cs_length x; simp only [cs, Array.length_toList, Str.length] at hl this ⊢; omega
    simp [Array.getD, hs, cs]
  rw [e]

/-- what a change of one sign costs -/
def scN (x y : Nat) : Int := subCost ⟨#[x]⟩ ⟨#[y]⟩
theorem subCost_le (a b : Str) : subCost a b ≤ 2 := by unfold subCost; split <;> (try split) <;> omega
theorem subCost_ge (a b : Str) : 0 ≤ subCost a b := by unfold subCost; split <;> (try split) <;> omega
theorem subCost_swap (a b : Str) : subCost a b = subCost b a := by
  unfold subCost
  by_cases e : a = b
  · simp [e]
  · have e' : ¬ b = a := fun h => e h.symm
    by_cases l : Txt.lower a = Txt.lower b
    · simp [e, e', l]
    · have l' : ¬ Txt.lower b = Txt.lower a := fun h => l h.symm
      simp [e, e', l, l']
theorem scN_le (x y : Nat) : scN x y ≤ 2 := subCost_le _ _
theorem scN_ge (x y : Nat) : 0 ≤ scN x y := subCost_ge _ _
theorem scN_swap (x y : Nat) : scN x y = scN y x := subCost_swap _ _
theorem scN_self (x : Nat) : scN x x = 0 := by simp [scN, subCost]

/-- the distance of two texts -/
def dist (a b : Str) : Int := ed scN (cs a) (cs b)
theorem dist_self (a : Str) : dist a a = 0 := by
  have := ed_pre scN_self scN_ge (cs a) [] []
  simpa [dist, ed] using this

/-! the first loop: a common beginning -/
def PreInv (a b : Str) (k : Int) : Prop := 0 ≤ k ∧ k ≤ a.length ∧ k ≤ b.length ∧ (cs a).take k.toNat = (cs b).take k.toNat
theorem preInv_zero (a b : Str) : PreInv a b 0 := ⟨by omega, by omega, by omega, by simp⟩
theorem preInv_succ {a b : Str} {k : Int} (h : PreInv a b k) (ha : ¬ ((Txt.slice a (some k) none).length : Int) = 0) (hb : ¬ ((Txt.slice b (some k) none).length : Int) = 0) (he : (Txt.item a k == Txt.item b k) = true) : PreInv a b (k + 1) := by
  obtain ⟨h0, h1, h2, h3⟩ := h
  have la := congrArg List.length (slice_from_cs h0 h1)
  have lb := congrArg List.length (slice_from_cs h0 h2)
  rw [cs_length, List.length_drop, cs_length] at la lb
  have ka : k < a.length := by omega
  have kb : k < b.length := by omega
  obtain ⟨c, c1, c2⟩ := item_cs h0 ka
  obtain ⟨d, d1, d2⟩ := item_cs h0 kb
  have he' : c = d := by
    have := beq_iff_eq.mp he
    rw [c2, d2] at this
    simpa using this
  refine ⟨by omega, by omega, by omega, ?_⟩
  rw [show (k + 1).toNat = k.toNat + 1 by omega, List.take_add_one, List.take_add_one, h3, c1, d1, he']
theorem preInv_dist {a b : Str} {k : Int} (h : PreInv a b k) : dist (Txt.slice a (some k) none) (Txt.slice b (some k) none) = dist a b := by
  obtain ⟨h0, h1, h2, h3⟩ := h
  unfold dist
  rw [slice_from_cs h0 h1, slice_from_cs h0 h2]
  have e := ed_pre scN_self scN_ge ((cs a).take k.toNat) ((cs a).drop k.toNat) ((cs b).drop k.toNat)
  rw [List.take_append_drop] at e
  rw [← e, h3, List.take_append_drop]

/-! the second loop: a common end -/
def trim (x : Str) (k : Int) : Str := if k = 0 then Txt.slice x none none else Txt.slice x none (some k)
theorem trim_cs {x : Str} {k : Int} (h0 : k ≤ 0) (h2 : -k ≤ x.length) : cs (trim x k) = (cs x).take (x.length + k).toNat := by
  unfold trim
  by_cases e : k = 0
  · rw [if_pos e, slice_all, e, List.take_of_length_le]
    rw [cs_length]; omega
  · rw [if_neg e, slice_neg_cs (by omega) h2]
def PostInv (a b : Str) (k : Int) : Prop := k ≤ 0 ∧ -k ≤ a.length ∧ -k ≤ b.length ∧ (cs a).drop (a.length + k).toNat = (cs b).drop (b.length + k).toNat
theorem postInv_zero (a b : Str) : PostInv a b 0 := by
  refine ⟨by omega, by omega, by omega, ?_⟩
  rw [List.drop_of_length_le (by rw [cs_length]; omega), List.drop_of_length_le (by rw [cs_length]; omega)]
theorem trim_size {x : Str} {k : Int} (h0 : k ≤ 0) (h1 : -k ≤ x.length) : ((trim x k).length : Int) = x.length + k := by
  have la := congrArg List.length (trim_cs h0 h1)
  rw [cs_length, List.length_take, cs_length] at la
  omega
theorem post_full {a b : Str} {k : Int} (h : PostInv a b k) : k ≤ 0 ∧ ((trim a k).length : Int) = a.length + k ∧ ((trim b k).length : Int) = b.length + k ∧ PostInv a b k :=
  ⟨h.1, trim_size h.1 h.2.1, trim_size h.1 h.2.2.1, h⟩
theorem pred_ok {n k : Int} (h : -k ≤ n) (h' : ¬ n + k = 0) : -n ≤ k - 1 ∧ -(k - 1) ≤ n := by omega
theorem pred_neg {k : Int} (h : k ≤ 0) : k - 1 < 0 ∧ k - 1 ≤ 0 := by omega
theorem pred_nat (n k : Int) : (n + (k - 1)).toNat = (k - 1 + n).toNat := by omega
theorem pred_succ {n k : Int} (h : -(k - 1) ≤ n) : (k - 1 + n).toNat + 1 = (n + k).toNat := by omega
theorem postInv_pred {a b : Str} {k : Int} (h : PostInv a b k) (ha : ¬ ((trim a k).length : Int) = 0) (hb : ¬ ((trim b k).length : Int) = 0) (he : (Txt.item a (k - 1) == Txt.item b (k - 1)) = true) : PostInv a b (k - 1) := by
  obtain ⟨h0, h1, h2, h3⟩ := h
  rw [trim_size h0 h1] at ha
  rw [trim_size h0 h2] at hb
  have pa := pred_ok h1 ha
  have pb := pred_ok h2 hb
  have pk := pred_neg h0
  obtain ⟨c, c1, c2⟩ := item_neg_cs (x := a) (i := k - 1) pk.1 pa.1
  obtain ⟨d, d1, d2⟩ := item_neg_cs (x := b) (i := k - 1) pk.1 pb.1
  have he' : c = d := by
    have := beq_iff_eq.mp he
    rw [c2, d2] at this
    simpa using this
  refine ⟨pk.2, pa.2, pb.2, ?_⟩
  obtain ⟨la', c1⟩ := List.getElem?_eq_some_iff.mp c1
  obtain ⟨lb', d1⟩ := List.getElem?_eq_some_iff.mp d1
  rw [pred_nat, pred_nat, List.drop_eq_getElem_cons la', List.drop_eq_getElem_cons lb', c1, d1, he', pred_succ pa.2, pred_succ pb.2, h3]
theorem postInv_dist {a b : Str} {k : Int} (h : PostInv a b k) : dist (trim a k) (trim b k) = dist a b := by
  obtain ⟨h0, h1, h2, h3⟩ := h
  unfold dist
  rw [trim_cs h0 h1, trim_cs h0 h2]
  have e := ed_post scN_self scN_ge ((cs a).drop (a.length + k).toNat) ((cs a).take (a.length + k).toNat) ((cs b).take (b.length + k).toNat)
  rw [List.take_append_drop] at e
  rw [← e, h3, List.take_append_drop]
theorem trim_le (x : Str) (k : Int) : (trim x k).length ≤ x.length := by
  unfold trim
  split
  · exact Txt.slice_le _ _ _
  · exact Txt.slice_le _ _ _
theorem pre_full {a b : Str} {k : Int} (h : PreInv a b k) : 0 ≤ k ∧ k ≤ a.length ∧ k ≤ b.length ∧ PreInv a b k := ⟨h.1, h.2.1, h.2.2.1, h⟩
theorem pre_less {a b : Str} {k : Int} (h : PreInv a b k) (ha : ¬ ((Txt.slice a (some k) none).length : Int) = 0) : a.length - (k + 1).toNat < a.length - k.toNat := by
  obtain ⟨h0, h1, h2, h3⟩ := h
  have la := congrArg List.length (slice_from_cs h0 h1)
  rw [cs_length, List.length_drop, cs_length] at la
  omega
theorem post_less0 {n : Nat} {k : Int} (h0 : k ≤ 0) (h1 : -(k - 1) ≤ (n : Int)) : n - (-(k - 1)).toNat < n - (-k).toNat := by omega
theorem post_less {a b : Str} {k : Int} (h : PostInv a b k) (ha : ¬ ((trim a k).length : Int) = 0) : a.length - (-(k - 1)).toNat < a.length - (-k).toNat := by
  rw [trim_size h.1 h.2.1] at ha
  exact post_less0 h.1 (pred_ok h.2.1 ha).2
theorem post_room {a b : Str} {k : Int} (h : PostInv a b k) (ha : ¬ ((trim a k).length : Int) = 0) (hb : ¬ ((trim b k).length : Int) = 0) : -(a.length : Int) ≤ k - 1 ∧ k - 1 < 0 ∧ -(b.length : Int) ≤ k - 1 := by
  rw [trim_size h.1 h.2.1] at ha
  rw [trim_size h.1 h.2.2.1] at hb
  exact ⟨(pred_ok h.2.1 ha).1, (pred_neg h.1).1, (pred_ok h.2.2.1 hb).1⟩

section
variable {prog : Program} {w : World} {A : Around} {E : Value → Shared → Prop} {s : Shared} {name : Str} {scope : Scope} {L ad : Addr} {cd : Value} {h₀ : Heap} {m : Str → Option Value} {news : List (Addr × Obj)} {Q : Value → Shared → Prop}
/-- a[:post or None] -/
theorem trim_eval {x y : Str} {a : Str} {k : Int} {ta tb : Tok} {p1 p2 p3 p4 p5 p6 : Pos} (F : Fr h₀ L s.heap m) (N : News h₀ L s.heap news) (hx : m x = some (.str a ta)) (hy : m y = some (.int k tb)) (hz : a.length ≤ 100)
    (h : ∀ h' t' tk', Fr h₀ L h' m → News h₀ L h' news → (trim a k).length ≤ a.length → Q (.str (trim a k) t') { s with heap := h', toks := tk' })
    (hk : scope.kind = .function := by rfl) (hl : (envOf name scope L ad cd).kindOf x = some .local := by rfl) (hl' : (envOf name scope L ad cd).kindOf y = some .local := by rfl)
    (hd : (x == ("__debug__" : Str)) = false := by decide) (hd' : (y == ("__debug__" : Str)) = false := by decide) :
    wpAny (model prog w) A (eval (.Subscript (.Name x p1) (.Slice none (some (.BoolOp .Or [.Name y p2, .Constant .none 0 p3] p4)) none p5) p6) (envOf name scope L ad cd)) Q E s := by
  refine Subscript_ (ld F hx ?_ hk hl hd)
  refine wpAny_Slice (evalPart_none_step (evalPart_some_step (BoolOp_or (ld F hy ?_ hk hl' hd'))))
  refine P.truthy_int ?_
  by_cases e : k = 0
  · have ec : ¬ ((k != 0) = true) := by simp [e]
    rw [if_neg ec]
    refine BoolOp_one (Constant_none (evalPart_none_step ?_))
    refine slice_strN_nn_len F N (fun h' t' tk' F' N' hl => ?_) (by with_unfolding_all rfl) (by intro _; with_unfolding_all rfl) (by rw [sizeLine_eq]; omega)
    have et : trim a k = Txt.slice a none none := if_pos e
    rw [← et] at hl ⊢
    exact h h' t' tk' F' N' hl
  · have ec : (k != 0) = true := by simp [e]
    rw [if_pos ec]
    refine evalPart_none_step ?_
    refine slice_strN_ns_len F N (fun h' t' tk' F' N' hl => ?_) (by with_unfolding_all rfl) (by intro _; with_unfolding_all rfl) (by rw [sizeLine_eq]; omega)
    have et : trim a k = Txt.slice a none (some k) := if_neg e
    rw [← et] at hl ⊢
    exact h h' t' tk' F' N' hl
end
end
section
open PySem PySem.W PySem.Spec PySem.Calls PyProof.Rows
set_option maxRecDepth 100000

/-- the first row: 2, 4, 6, .. -/
def row0 (n : Nat) : List Int := (List.range n).map fun (j : Nat) => 2 * ((j : Int) + 1)
theorem row0_length (n : Nat) : (row0 n).length = n := by simp [row0]
theorem ints_of : ∀ (vs : List Value) (f : Nat → Int), (∀ (j : Nat) (v : Value), vs[j]? = some v → ∃ t, v = .int (f j) t) → IntsAre vs ((List.range vs.length).map f)
  | [], _, _ => IntsAre.nil
  | v :: r, f, h => by
    obtain ⟨t, ht⟩ := h 0 v rfl
    subst ht
    rw [List.length_cons, List.range_succ_eq_map, List.map_cons, List.map_map]
    exact IntsAre.cons _ _ (ints_of r (f ∘ Nat.succ) fun j v hj => h (j + 1) v hj)
theorem fits_long {i : Int} (h : -(2 ^ 62) ≤ i) (h' : i < 2 ^ 62) : Builtin.Range.rangeFitsLong i = true := by
  unfold Builtin.Range.rangeFitsLong
  rw [Bool.and_eq_true]
  exact ⟨decide_eq_true (by omega), decide_eq_true (by omega)⟩
section
variable {prog : Program} {w : World} {A : Around} {E : Value → Shared → Prop} {s : Shared} {h₀ : Heap} {L r : Addr} {m : Str → Option Value} {news : List (Addr × Obj)} {t₀ u₀ v₀ : Tok} {Q : Value → Shared → Prop}
theorem row_list {n : Nat} {b : Int} (hh : A.handled = none) (F : Fr h₀ L s.heap m) (N : News h₀ L s.heap news) (hr : IsRange s.heap r 2 b 2 t₀ u₀ v₀) (hb : b = 2 * ((n : Int) + 1)) (hz : n ≤ 100)
    (h : ∀ D us c h' tk, Fr h₀ L h' m → News h₀ L h' ((D, listOf (List.toArray us) c) :: news) → (∀ p ∈ news, p.1 < D) → IntsAre us (row0 n) → Q (.ref D) { s with heap := h', toks := tk }) :
    wpAny (model prog w) A (call (.type "list") [.ref r]) Q E s := by
  subst hb
  have hn : Builtin.Range.rangeSize 2 (2 * ((n : Int) + 1)) 2 = (n : Int) := by
    unfold Builtin.Range.rangeSize
    simp only [show (2 : Int) > 0 by decide, if_true]
    split <;> omega
  have hs : Builtin.Range.small 2 (2 * ((n : Int) + 1)) 2 = true := by
    unfold Builtin.Range.small
    rw [hn, fits_long (i := 2) (by omega) (by omega), fits_long (i := 2 * ((n : Int) + 1)) (by omega) (by omega), fits_long (i := (n : Int)) (by omega) (by omega), if_pos (by decide), fits_long (by omega) (by omega), Bool.or_true]
    rfl
  refine call_list_range hh hr hs hn (by omega) fun h' tk acc c hk hD hI => ?_
  have hD' : h'.get? s.heap.objs.size = some (listOf (List.toArray acc.toList) c) := by
    rw [Array.toArray_toList]
    exact hD
  have hl : acc.toList.length = n := by rw [Array.length_toList]; exact hI.1
  have hi := ints_of acc.toList (fun (j : Nat) => 2 * ((j : Int) + 1)) fun j v hj => by
    obtain ⟨t, ht⟩ := hI.2 j v (by rw [← hj, Array.getElem?_toList])
    refine ⟨t, ?_⟩
    rw [ht, show (2 : Int) + (j : Int) * 2 = 2 * ((j : Int) + 1) by omega]
  rw [hl] at hi
  exact h _ acc.toList c h' tk (F.keeps hk) (news_pushed F N hk hD' rfl) (fun p hp => Heap.lt_size (N p hp).1) hi
end

/-- behind the statement that may swap the two texts -/
def CutTwo (g : Heap) (L : Addr) (m : Str → Option Value) (C : Str → Str → Prop) (s : Shared) (fl : Flow) (s' : Shared) : Prop :=
  fl = .next ∧ ∃ a b ta tb h' tk, s' = { s with heap := h', toks := tk } ∧ Fr g L h' (fun y => if y = Str.ofString "b" then some (.str b tb) else if y = Str.ofString "a" then some (.str a ta) else m y) ∧ C a b
theorem cutTwo_end {g h' : Heap} {L : Addr} {m m' : Str → Option Value} {C : Str → Str → Prop} {s : Shared} {a b : Str} {ta tb : Tok} {tk : Nat} (F : Fr g L h' m') (hC : C a b) (e : ∀ y, m' y = (if y = Str.ofString "b" then some (.str b tb) else if y = Str.ofString "a" then some (.str a ta) else m y)) :
    CutTwo g L m C s .next { s with heap := h', toks := tk } := ⟨rfl, a, b, ta, tb, h', tk, rfl, (funext e : m' = fun y => if y = Str.ofString "b" then some (.str b tb) else if y = Str.ofString "a" then some (.str a ta) else m y) ▸ F, hC⟩
theorem cutTwo_endA {g h' : Heap} {L : Addr} {m m' : Str → Option Value} {C : Str → Str → Prop} {s : Shared} {a b : Str} {ta tb : Tok} {tk : Nat} (F : Fr g L h' m') (hC : C a b) (e : ∀ y, m' y = (if y = Str.ofString "a" then some (.str a ta) else if y = Str.ofString "b" then some (.str b tb) else m y)) :
    CutTwo g L m C s .next { s with heap := h', toks := tk } := by
  refine cutTwo_end F hC (ta := ta) (tb := tb) fun y => (e y).trans ?_
  by_cases h : y = Str.ofString "b"
  · have h2 : ¬ y = Str.ofString "a" := by rw [h]; decide
    rw [if_neg h2, if_pos h, if_pos h]
  · rw [if_neg h, if_neg h]
theorem cutTwo_same {g h' : Heap} {L : Addr} {m : Str → Option Value} {C : Str → Str → Prop} {s : Shared} {a b : Str} {ta tb : Tok} {tk : Nat} (F : Fr g L h' m) (ha : m (Str.ofString "a") = some (.str a ta)) (hb : m (Str.ofString "b") = some (.str b tb)) (hC : C a b) :
    CutTwo g L m C s .next { s with heap := h', toks := tk } := by
  refine cutTwo_end F hC (ta := ta) (tb := tb) fun y => ?_
  by_cases e : y = Str.ofString "b"
  · rw [if_pos e, e]; exact hb
  · rw [if_neg e]
    by_cases e2 : y = Str.ofString "a"
    · rw [if_pos e2, e2]; exact ha
    · rw [if_neg e2]
theorem cut_two {M : Model} {A : Around} {E : Value → Shared → Prop} {s : Shared} {env : Env} {st : Stmt} {Q : Flow → Shared → Prop} {g : Heap} {L : Addr} {m : Str → Option Value} (C : Str → Str → Prop) (_F : Fr g L s.heap m)
    (h1 : wpAny M A (exec st env) (CutTwo g L m C s) E s)
    (h2 : ∀ a b ta tb h' tk, Fr g L h' (fun y => if y = Str.ofString "b" then some (.str b tb) else if y = Str.ofString "a" then some (.str a ta) else m y) → News g L h' [] → C a b → Q .next { s with heap := h', toks := tk }) : wpAny M A (exec st env) Q E s :=
  wpAny_mono h1 (fun fl s' h => by
    obtain ⟨e, a, b, ta, tb, h', tk, e2, F', hC⟩ := h
    subst e; subst e2
    exact h2 a b ta tb h' tk F' News.nil hC) fun _ _ h => h
/-- what is known of the two texts behind it -/
def Two (d : Int) (a b : Str) : Prop := a.length ≤ 40 ∧ b.length ≤ 40 ∧ 0 < a.length ∧ a.length ≤ b.length ∧ dist a b = d
theorem dist_swap (a b : Str) : dist a b = dist b a := ed_swap scN_swap _ _
theorem dist_nil {a b : Str} (h : (a.length : Int) = 0 ∨ (b.length : Int) = 0) : 2 * ((a.length : Int) + b.length) = dist a b := by
  unfold dist
  rcases h with h | h
  · have e : cs a = [] := List.eq_nil_of_length_eq_zero (by rw [cs_length]; omega)
    rw [e, ed_nil_left, cs_length]
    omega
  · have e : cs b = [] := List.eq_nil_of_length_eq_zero (by rw [cs_length]; omega)
    rw [e, ed_nil_right, cs_length]
    omega
theorem dist_sizes (a b : Str) : ((b.length : Int) - a.length) * 2 ≤ dist a b := by
  have h := ed_ge_sizes scN_ge (cs a) (cs b)
  rw [cs_length, cs_length] at h
  unfold dist
  omega

theorem two_same {d : Int} {a b : Str} (ha : a.length ≤ 40) (hb : b.length ≤ 40) (h0 : ¬ (a.length : Int) = 0) (hl : ¬ (b.length : Int) < a.length) (e : dist a b = d) : Two d a b := ⟨ha, hb, by omega, by omega, e⟩
theorem two_swap {d : Int} {a b : Str} (ha : a.length ≤ 40) (hb : b.length ≤ 40) (h0 : ¬ (b.length : Int) = 0) (hl : (b.length : Int) < a.length) (e : dist a b = d) : Two d b a := ⟨hb, ha, by omega, by omega, (dist_swap b a).trans e⟩

def OutInv (a b : Str) (i : Nat) (result : Int) (row : List Int) : Prop :=
  row.length = a.length ∧ (∀ j, j < a.length → row.getD j 0 = tab scN (cs a) (cs b) (j + 1) i) ∧ (0 < i → result = tab scN (cs a) (cs b) a.length i)
def InInv (a b : Str) (i j : Nat) (distance result minimum : Int) (row : List Int) : Prop :=
  row.length = a.length ∧ (∀ k, k < j → row.getD k 0 = tab scN (cs a) (cs b) (k + 1) (i + 1)) ∧ (∀ k, j ≤ k → k < a.length → row.getD k 0 = tab scN (cs a) (cs b) (k + 1) i) ∧
  distance = tab scN (cs a) (cs b) j i ∧ (result = if j = 0 then 2 * (i : Int) else tab scN (cs a) (cs b) j (i + 1)) ∧ (∀ k, k < j → minimum ≤ tab scN (cs a) (cs b) (k + 1) (i + 1))

theorem outInv_start (a b : Str) : OutInv a b 0 0 (row0 a.length) := by
  refine ⟨row0_length _, fun j hj => ?_, fun h => by omega⟩
  rw [tab_zero_right _ _ (by rw [cs_length]; omega)]
  simp [row0, List.getD, hj]
theorem inInv_start {a b : Str} {i : Nat} {r : Int} {row : List Int} (h : OutInv a b i r row) (hi : i < b.length) (M : Int) : InInv a b i 0 (2 * i) (2 * i) M row := by
  obtain ⟨h1, h2, h3⟩ := h
  refine ⟨h1, fun k hk => by omega, fun k _ hk => h2 k hk, ?_, by simp, fun k hk => by omega⟩
  rw [tab_zero_left _ _ (by rw [cs_length]; omega)]
theorem inInv_step {a b : Str} {i j : Nat} {d r M M' c : Int} {row : List Int} (h : InInv a b i j d r M row) (hi : i < b.length) (hj : j < a.length) (hc : c = subCost (Txt.item b i) (Txt.item a j))
    (hM : M' ≤ M) (hM' : M' ≤ min (min r (row.getD j 0) + 2) (d + c)) :
    InInv a b i (j + 1) (row.getD j 0) (min (min r (row.getD j 0) + 2) (d + c)) M' (row.set j (min (min r (row.getD j 0) + 2) (d + c))) := by
  obtain ⟨h1, h2, h3, h4, h5, h6⟩ := h
  obtain ⟨x, x1, x2⟩ := item_cs (x := a) (i := (j : Int)) (by omega) (by omega)
  obtain ⟨y, y1, y2⟩ := item_cs (x := b) (i := (i : Int)) (by omega) (by omega)
  rw [Int.toNat_natCast] at x1 y1
  have hc' : c = scN x y := by rw [hc, x2, y2, scN_swap]; rfl
  have hr : row.getD j 0 = tab scN (cs a) (cs b) (j + 1) i := h3 j (Nat.le_refl _) hj
  have hs := tab_step (sc := scN) (cs a) (cs b) x1 y1
  have hle := scN_le x y
  have key : min (min r (row.getD j 0) + 2) (d + c) = tab scN (cs a) (cs b) (j + 1) (i + 1) := by
    rw [hs, hr, h4, hc', h5]
    by_cases e : j = 0
    · rw [if_pos e]
      subst e
      rw [tab_zero_left _ _ (by rw [cs_length]; omega), tab_zero_left _ _ (by rw [cs_length]; omega)]
      omega
    · rw [if_neg e]
  rw [key] at hM' ⊢
  have hset : ∀ k, (row.set j (tab scN (cs a) (cs b) (j + 1) (i + 1))).getD k 0 = if j = k then (if k < row.length then tab scN (cs a) (cs b) (j + 1) (i + 1) else 0) else row.getD k 0 := by
    intro k
    simp only [List.getD_eq_getElem?_getD, List.getElem?_set]
    by_cases e : j = k
    · simp only [e, if_true]
      by_cases e2 : k < row.length <;> simp [e2]
    · simp [e]
  refine ⟨by rw [List.length_set]; exact h1, fun k hk => ?_, fun k hk hk' => ?_, hr, by simp, fun k hk => ?_⟩
  · rw [hset]
    by_cases e : j = k
    · subst e; simp [h1, hj]
    · rw [if_neg e]; exact h2 k (by omega)
  · rw [hset, if_neg (by omega)]
    exact h3 k (by omega) hk'
  · by_cases e : j = k
    · subst e; exact hM'
    · have := h6 k (by omega); omega
theorem in_start {a b : Str} {bi r M : Int} {pre row : List Int} (h : OutInv a b pre.length r row) (e : bi = 0 + (pre.length : Int)) (hl : pre.length < b.length) : row.length = a.length ∧ InInv a b bi.toNat ([] : List Int).length (bi * 2) (bi * 2) M row := by
  refine ⟨h.1, ?_⟩
  have q := inInv_start h hl M
  rw [show bi.toNat = pre.length by omega, show bi * 2 = 2 * (pre.length : Int) by omega]
  exact q
/-- what a turn of the inner loop makes of its ints -/
abbrev newRes (r d e c : Int) : Int := if d + c < (if e < r then e else r) + 2 then d + c else (if e < r then e else r) + 2
theorem newRes_is (r d e c : Int) : newRes r d e c = min (min r e + 2) (d + c) := by
  show (if d + c < (if e < r then e else r) + 2 then d + c else (if e < r then e else r) + 2) = _
  by_cases h : e < r
  · rw [if_pos h]
    split <;> omega
  · rw [if_neg h]
    split <;> omega
theorem in_end {a b : Str} {bi k d r M M' : Int} {pre row : List Int} (h : InInv a b bi.toNat pre.length d r M row) (e : k = (pre.length : Int)) (hk : pre.length < a.length) (hb : 0 ≤ bi) (hb' : bi < b.length)
    (hM : M' ≤ M) (hM' : M' ≤ newRes r d (row.getD k.toNat 0) (subCost (Txt.item b bi) (Txt.item a k))) :
    (row.set k.toNat (newRes r d (row.getD k.toNat 0) (subCost (Txt.item b bi) (Txt.item a k)))).length = a.length ∧
      InInv a b bi.toNat (pre ++ [k]).length (row.getD k.toNat 0) (newRes r d (row.getD k.toNat 0) (subCost (Txt.item b bi) (Txt.item a k))) M' (row.set k.toNat (newRes r d (row.getD k.toNat 0) (subCost (Txt.item b bi) (Txt.item a k)))) := by
  subst e
  rw [Int.toNat_natCast, List.length_set, List.length_append, List.length_singleton] at *
  refine ⟨h.1, ?_⟩
  rw [newRes_is] at hM' ⊢
  exact inInv_step h (by omega) hk (by rw [Int.toNat_of_nonneg hb]) hM hM'
theorem in_end1 {a b : Str} {bi k d r M : Int} {pre row : List Int} (h : InInv a b bi.toNat pre.length d r M row) (e : k = (pre.length : Int)) (hk : pre.length < a.length) (hb : 0 ≤ bi) (hb' : bi < b.length)
    (hM : newRes r d (row.getD k.toNat 0) (subCost (Txt.item b bi) (Txt.item a k)) < M) :
    (row.set k.toNat (newRes r d (row.getD k.toNat 0) (subCost (Txt.item b bi) (Txt.item a k)))).length = a.length ∧
      InInv a b bi.toNat (pre ++ [k]).length (row.getD k.toNat 0) (newRes r d (row.getD k.toNat 0) (subCost (Txt.item b bi) (Txt.item a k))) (newRes r d (row.getD k.toNat 0) (subCost (Txt.item b bi) (Txt.item a k))) (row.set k.toNat (newRes r d (row.getD k.toNat 0) (subCost (Txt.item b bi) (Txt.item a k)))) :=
  in_end h e hk hb hb' (by omega) (Int.le_refl _)
theorem in_end2 {a b : Str} {bi k d r M : Int} {pre row : List Int} (h : InInv a b bi.toNat pre.length d r M row) (e : k = (pre.length : Int)) (hk : pre.length < a.length) (hb : 0 ≤ bi) (hb' : bi < b.length)
    (hM : ¬ newRes r d (row.getD k.toNat 0) (subCost (Txt.item b bi) (Txt.item a k)) < M) :
    (row.set k.toNat (newRes r d (row.getD k.toNat 0) (subCost (Txt.item b bi) (Txt.item a k)))).length = a.length ∧
      InInv a b bi.toNat (pre ++ [k]).length (row.getD k.toNat 0) (newRes r d (row.getD k.toNat 0) (subCost (Txt.item b bi) (Txt.item a k))) M (row.set k.toNat (newRes r d (row.getD k.toNat 0) (subCost (Txt.item b bi) (Txt.item a k)))) :=
  in_end h e hk hb hb' (Int.le_refl _) (by omega)
theorem rks_length (n : Nat) : (rangeKs 0 ((n : Int) - 0).toNat).length = n := by rw [rangeKs_length]; omega
theorem outInv_step {a b : Str} {i : Nat} {d r M : Int} {row : List Int} (h : InInv a b i a.length d r M row) (ha : 0 < a.length) : OutInv a b (i + 1) r row := by
  obtain ⟨h1, h2, h3, h4, h5, h6⟩ := h
  refine ⟨h1, fun j hj => h2 j hj, fun _ => ?_⟩
  rw [h5, if_neg (by omega)]
theorem inInv_over {a b : Str} {i : Nat} {d r M c : Int} {row : List Int} (h : InInv a b i a.length d r M row) (ha : 0 < a.length) (hi : i < b.length) (hc : c < M) : c < dist a b := by
  obtain ⟨h1, h2, h3, h4, h5, h6⟩ := h
  unfold dist
  refine over_all scN_le scN_ge (cs a) (cs b) (i := i) (by rw [cs_length]; omega) (by rw [cs_length]; omega) fun j hj => ?_
  have := h6 j (by rw [cs_length] at hj; omega)
  omega
theorem out_end {a b : Str} {bi d r M : Int} {pre row : List Int} (h : InInv a b bi.toNat (rangeKs 0 ((a.length : Int) - 0).toNat).length d r M row) (e : bi = (pre.length : Int)) (ha : 0 < a.length) : row.length = a.length ∧ OutInv a b (pre ++ [bi]).length r row := by
  rw [rks_length] at h
  refine ⟨h.1, ?_⟩
  rw [List.length_append, List.length_singleton, show pre.length = bi.toNat by omega]
  exact outInv_step h ha
theorem over_end {a b : Str} {bi d r M c : Int} {row : List Int} (h : InInv a b bi.toNat (rangeKs 0 ((a.length : Int) - 0).toNat).length d r M row) (ha : 0 < a.length) (hb : 0 ≤ bi) (hb' : bi < b.length) (hc : c < M) : c < dist a b := by
  rw [rks_length] at h
  exact inInv_over h ha (by omega) hc
theorem outInv_end {a b : Str} {r : Int} {row : List Int} (h : OutInv a b b.length r row) (hb : 0 < b.length) : r = dist a b := by
  obtain ⟨h1, h2, h3⟩ := h
  rw [h3 hb, dist, ← tab_whole, cs_length, cs_length]
theorem res_end {a b : Str} {r : Int} {row : List Int} (h : OutInv a b (rangeKs 0 ((b.length : Int) - 0).toNat).length r row) (hb : 0 < b.length) : r = dist a b := by
  rw [rks_length] at h
  exact outInv_end h hb
end
section
open PySem PySem.W PySem.Spec PySem.Calls PyProof.Rows
set_option maxRecDepth 100000
local macro_rules | `(tactic| walk_at "exec While BoolOp cons nil") => `(tactic| refine stop_here ?_)
local macro_rules | `(tactic| walk_at "exec If") => `(tactic| ((with_reducible show wpAny _ _ (exec (Stmt.If _ [Stmt.Assign [Expr.Tuple _ _ _] _ _] _ _) _) _ _ _); refine stop_here ?_))
local macro_rules | `(tactic| walk_at "call ref") => `(tactic| (k_here; (with_reducible show wpAny _ _ (call (Value.ref 65) [Value.str _ _, Value.str _ _]) _ _ _); k_dflt (refine' says_int (sub_says _ _ _ _ ?p1 ?p2) ?k1 ?k2 ?k3 ?k4 ?k5 ?k6 ?k7 ?k8 ?_; (case p1 => first | omega | exact Nat.le_of_ble_eq_true rfl); (case p2 => first | omega | exact Nat.le_of_ble_eq_true rfl); (case k1 => k_asm); (case k2 => k_asm); (case k3 => k_asm); (case k4 => k_asm); (case k5 => k_asm); (case k6 => first | exact rfl | assumption); (case k7 => ktr_room); (case k8 => ktr_units); k_whole; intro t9 h9 tk9 F9 N9; (try dsimp only); (try k_sweep))))
local macro_rules | `(tactic| walk_at "call type:list") => `(tactic| (k_here; (with_reducible show wpAny _ _ (call (Value.type _) [Value.ref _]) _ _ _); (rename IsRange _ _ _ _ _ _ _ _ => rgX); (with_unfolding_all refine' row_list ?k0 ?k1 ?k2 rgX ?k4 ?k5 ?_; (case k0 => rfl); (case k1 => k_asm); (case k2 => k_asm); (case k4 => rfl); (case k5 => omega); k_whole); intro D' vs' c' h' tk' F' N' l1 hI'; (try k_lt l1); (try k_sweep)))
local macro_rules | `(tactic| walk_at "eval Subscript") => `(tactic| ((with_reducible show wpAny _ _ (eval (Expr.Subscript (Expr.Name _ _) (Expr.Slice none (some (Expr.BoolOp BoolOp.Or _ _)) none _) _) _) _ _ _); (rename Fr _ _ _ _ => kF9); (rename News _ _ _ _ => kN9); k_dflt (refine' trim_eval kF9 kN9 ?x ?y ?z ?_ ?k1 ?k2 ?k3 ?k4 ?k5; (case x => rfl); (case y => rfl); (case z => omega); (case k1 => rfl); (case k2 => rfl); (case k3 => rfl); (case k4 => decide); (case k5 => decide); k_whole; intro h' t' tk' F' N' hl')))
local macro_rules | `(tactic| walk_at "InvEndN") => `(tactic| refine stop_here ?_)
local macro_rules | `(tactic| walk_at "pyIter ref") => `(tactic| refine stop_here ?_)
local macro_rules | `(tactic| walk_at "exec For Name Call cons nil") => `(tactic| (k_here; (rename Fr _ _ _ _ => lF'); (with_unfolding_all refine' For_invVF lF' ?k1 ?k2 ?_; (case k1 => exact rfl); (case k2 => exact rfl); k_whole)))
def LevRet (a b : Str) (c : Int) (_ : Heap) (v : Value) (_ : Heap) : Prop := ∃ x t, v = .int x t ∧ (x = dist a b ∨ (c < dist a b ∧ x = c + 1))
set_option maxHeartbeats 8000000 in
theorem lev_says {w : World} {mean : ExcName → Option Value} {mg mb : Str → Option Value} (a b : Str) (c : Int) (t u v : Tok) (ha : a.length ≤ 40) (hb : b.length ≤ 40) (h0 : 0 ≤ c) (h1 : c ≤ 100) :
    Says w mean mg mb 72 2 [.str a t, .str b u, .int c v] (LevRet a b c) := by
  w_top off
  unfold Says
  k_fill
  intro dp un gd cn cs ad ccd cl outer A₀ base h₀ L m s Q E B F X T hk hd hu hret
  k_with_none
  k_with "state" => first | exact ⟨row0_length _, outInv_start _ _⟩ | exact in_start (by assumption) (by omega) (by omega) | exact pre_full (preInv_zero _ _) | exact pre_full (preInv_succ (by assumption) (by assumption) (by assumption) (by assumption)) | exact post_full (postInv_zero _ _) | exact post_full (postInv_pred (by assumption) (by assumption) (by assumption) (by assumption))
  k_with "measure" => first | exact pre_less (by assumption) (by assumption) | exact post_less (by assumption) (by assumption)
  k_dflt cell_enter
  (rename Fr _ _ _ (fun y => List.lookup y _) => F9)
  with_unfolding_all (change Fr _ _ _ (fun y => List.lookup y [(Str.ofString "max_cost", Value.int c v), (Str.ofString "b", Value.str b u), (Str.ofString "a", Value.str a t)]) at F9)
  k_steps
  · refine ret_end (Q := Q) (s := s) hret (by assumption) (by assumption) (by assumption) ⟨0, _, rfl, .inl ?_⟩
    rename (_ == _) = true => he
    rw [beq_iff_eq.mp he, dist_self]
  · unfold Stop
    refine' cut_int (Str.ofString "pre") (PreInv a b) ?F ?h1 ?h2
    case F => k_asm
    case h1 =>
      k_while_given ["a", "b"] (fun a b _ pre => 0 ≤ pre ∧ pre ≤ a.length ∧ pre ≤ b.length ∧ PreInv a b pre) (fun a b _ pre => a.length - pre.toNat) "pre"
      k_steps
      all_goals (refine' cutInt_end ?cf ?cc ?ce; (case cf => assumption); (case cc => assumption); (case ce => exact fun y => rfl))
    case h2 =>
      intro k tk hh tt F1 N1 hk1
      have hD := preInv_dist hk1
      k_steps
      unfold Stop
      have la := Txt.slice_le a (some k) none
      have lb := Txt.slice_le b (some k) none
      generalize Txt.slice a (some k) none = a1 at *
      generalize Txt.slice b (some k) none = b1 at *
      clear hk1
      refine' cut_int (Str.ofString "post") (PostInv a1 b1) ?F ?h1 ?h2
      case F => k_asm
      case h1 =>
        k_while_given ["a", "b"] (fun a b _ k => k ≤ 0 ∧ ((trim a k).length : Int) = a.length + k ∧ ((trim b k).length : Int) = b.length + k ∧ PostInv a b k) (fun a b _ k => a.length - (-k).toNat) "post"
        k_steps
        all_goals (refine' cutInt_end ?cf ?cc ?ce; (case cf => assumption); (case cc => assumption); (case ce => exact fun y => rfl))
      case h2 =>
        intro k2 tk2 hh2 tt2 F2 N2 hk2
        have hD2 := (postInv_dist hk2).trans hD
        have la2 := trim_le a1 k2
        have lb2 := trim_le b1 k2
        k_steps
        · unfold Stop
          refine' cut_two (Two (dist a b)) ?F ?h1 ?h2
          case F => k_asm
          case h1 =>
            refine wpAny_If ?_
            k_steps
            · refine' cutTwo_endA ?cf ?cc ?ce; (case cf => assumption); (case cc => exact two_swap (by omega) (by omega) (by assumption) (by assumption) hD2); (case ce => exact fun y => rfl)
            · refine' cutTwo_same ?cf ?ca ?cb ?cc; (case cf => assumption); (case ca => rfl); (case cb => rfl); (case cc => exact two_same (by omega) (by omega) (by assumption) (by assumption) hD2)
          case h2 =>
            intro a3 b3 ta3 tb3 hh3 tt3 F3 N3 hT
            obtain ⟨q1, q2, q3, q4, q5⟩ := hT
            k_steps
            · refine ret_end (Q := Q) (s := s) hret (by assumption) (by assumption) (by assumption) ⟨_, _, rfl, .inr ⟨?_, rfl⟩⟩
              have := dist_sizes a3 b3
              omega
            · unfold Stop
              k_state (fun pre result row => row.length = a3.length ∧ OutInv a3 b3 pre.length result row) "result" "row"
              · k_steps
                · unfold Stop
                  k_state_given ["bindex"] (fun bi pre distance result minimum row => row.length = a3.length ∧ InInv a3 b3 bi.toNat pre.length distance result minimum row) "distance" "result" "minimum" "row"
                  · k_steps
                    · unfold Stop
                      k_with "state" => exact in_end1 (by assumption) (by omega) (by omega) (by omega) (by omega) (by assumption)
                      kst_close
                    · unfold Stop
                      k_with "state" => exact in_end2 (by assumption) (by omega) (by omega) (by omega) (by omega) (by assumption)
                      kst_close
                  · k_steps
                    · refine ret_end (Q := Q) (s := s) hret (by assumption) (by assumption) (by assumption) ⟨_, _, rfl, .inr ⟨?_, rfl⟩⟩
                      rw [← q5]
                      exact over_end (by assumption) q3 (by omega) (by omega) (by assumption)
                    · unfold Stop
                      k_with "state" => exact out_end (by assumption) (by omega) (by omega)
                      kst_close
              · k_steps
                refine ret_end (Q := Q) (s := s) hret (by assumption) (by assumption) (by assumption) ⟨_, _, rfl, .inl ?_⟩
                rw [← q5]
                exact res_end (by assumption) (by omega)
        · refine ret_end (Q := Q) (s := s) hret (by assumption) (by assumption) (by assumption) ⟨_, _, rfl, .inl ?_⟩
          rw [dist_nil (.inr (by assumption)), hD2]
        · refine ret_end (Q := Q) (s := s) hret (by assumption) (by assumption) (by assumption) ⟨_, _, rfl, .inl ?_⟩
          rw [dist_nil (.inl (by assumption)), hD2]
end
section
open PySem PySem.W PySem.Spec PySem.Calls PyProof.Rows
set_option maxRecDepth 100000
/-- texts of figures alone -/
def Figs (x : Str) : Prop := ∀ c ∈ cs x, 48 ≤ c ∧ c ≤ 57
theorem figs_cost : ∀ x ∈ List.range' 48 10, ∀ y ∈ List.range' 48 10, x ≠ y → scN x y = 2 := by decide +kernel
theorem fig_cost {x y : Nat} (hx : 48 ≤ x ∧ x ≤ 57) (hy : 48 ≤ y ∧ y ≤ 57) (h : x ≠ y) : 2 ≤ scN x y := by
  rw [figs_cost x (by rw [List.mem_range'_1]; omega) y (by rw [List.mem_range'_1]; omega) h]
  omega
theorem slice_from_len {x : Str} {i : Int} (h0 : 0 ≤ i) (h2 : i ≤ x.length) : ((Txt.slice x (some i) none).length : Int) = x.length - i := by
  have la := congrArg List.length (slice_from_cs h0 h2)
  rw [cs_length, List.length_drop, cs_length] at la
  omega
theorem figs_slice {x : Str} {i : Int} (h : Figs x) (h0 : 0 ≤ i) (h2 : i ≤ x.length) : Figs (Txt.slice x (some i) none) := by
  intro c hc
  rw [slice_from_cs h0 h2] at hc
  exact h c (List.mem_of_mem_drop hc)

theorem sl_lt {x : Str} {i : Int} {n : Nat} (h0 : 0 ≤ i) (h1 : i < x.length) (h : x.length < n + 1) : (Txt.slice x (some (i + 1)) none).length < n := by
  have := slice_from_len (x := x) (i := i + 1) (by omega) (by omega)
  omega
abbrev restD (a b : Str) (i j : Nat) : Int := ed scN ((cs a).drop (i + 1)) ((cs b).drop (j + 1))
def MOut (a b : Str) (i : Nat) (least : Int) : Prop :=
  dist a b ≤ 2 * least ∧ least ≤ max (a.length : Int) b.length ∧ ∀ k, k < i → ∀ j x : Nat, (cs a)[k]? = some x → (cs b)[j]? = some x → 2 * least ≤ 2 * max (k : Int) j + restD a b k j
def MIn (a b : Str) (i j : Nat) (least : Int) : Prop :=
  MOut a b i least ∧ ∀ k, k < j → ∀ x : Nat, (cs a)[i]? = some x → (cs b)[k]? = some x → 2 * least ≤ 2 * max (i : Int) k + restD a b i k
abbrev mx (x y : Int) : Int := if y > x then y else x
theorem mx_is (x y : Int) : mx x y = max x y := by
  show (if y > x then y else x) = _
  split <;> omega
theorem mOut_start (a b : Str) : MOut a b ([] : List Int).length (mx a.length b.length) := by
  rw [mx_is]
  refine ⟨?_, Int.le_refl _, fun k hk => absurd hk (Nat.not_lt_zero _)⟩
  have h := ed_most scN_le (cs a) (cs b)
  rw [cs_length, cs_length] at h
  exact h
theorem mIn_start {a b : Str} {i l : Int} {pre : List Int} (h : MOut a b pre.length l) (e : i = (pre.length : Int)) : MIn a b i.toNat ([] : List Int).length l := by
  refine ⟨?_, fun k hk => absurd hk (Nat.not_lt_zero _)⟩
  rw [show i.toNat = pre.length by omega]
  exact h
theorem mIn_other {a b : Str} {i j l : Int} {pre : List Int} (h : MIn a b i.toNat pre.length l) (e : j = (pre.length : Int)) (hi : 0 ≤ i) (hi' : i < a.length) (hj : pre.length < b.length) (hx : (Txt.item a i == Txt.item b j) = false) : MIn a b i.toNat (pre ++ [j]).length l := by
  rw [List.length_append, List.length_singleton]
  refine ⟨h.1, fun k hk x h1 h2 => ?_⟩
  by_cases q : k = pre.length
  · exfalso
    subst q
    obtain ⟨c, c1, c2⟩ := item_cs (x := a) hi hi'
    obtain ⟨d, d1, d2⟩ := item_cs (x := b) (i := j) (by omega) (by omega)
    rw [show j.toNat = pre.length by omega] at d1
    rw [c1] at h1
    rw [d1] at h2
    cases h1
    cases h2
    rw [c2, d2] at hx
    simp at hx
  · exact h.2 k (by omega) x h1 h2
theorem ite_r (x l : Int) : (if x < l then x else l) ≤ l := by split <;> omega
theorem ite_l (x l : Int) : (if x < l then x else l) ≤ x := by split <;> omega
theorem ite_g {d x l : Int} (h : d ≤ 2 * x) (h' : d ≤ 2 * l) : d ≤ 2 * (if x < l then x else l) := by split <;> assumption
theorem dbl {x y : Int} (h : x ≤ y) : 2 * x ≤ 2 * y := by omega
theorem mx_nat {i j : Int} {n : Nat} (hi : 0 ≤ i) (e : j = (n : Int)) : mx i j = max (i.toNat : Int) n := by
  rw [mx_is, e, Int.toNat_of_nonneg hi]
theorem nat_of {j : Int} {n m : Nat} (e : j = (n : Int)) (h : n < m) : 0 ≤ j ∧ j < m ∧ j.toNat = n ∧ 0 ≤ j + 1 ∧ j + 1 ≤ m ∧ (j + 1).toNat = n + 1 := by omega
theorem nat_up {i : Int} {m : Nat} (h : 0 ≤ i) (h' : i < m) : 0 ≤ i + 1 ∧ i + 1 ≤ m ∧ (i + 1).toNat = i.toNat + 1 := by omega
theorem mIn_same {a b : Str} {i j l v : Int} {pre : List Int} (h : MIn a b i.toNat pre.length l) (e : j = (pre.length : Int)) (hi : 0 ≤ i) (hi' : i < a.length) (hj : pre.length < b.length) (hx : (Txt.item a i == Txt.item b j) = true)
    (hv : 2 * v = dist (Txt.slice a (some (i + 1)) none) (Txt.slice b (some (j + 1)) none)) : MIn a b i.toNat (pre ++ [j]).length (if mx i j + v < l then mx i j + v else l) := by
  rw [List.length_append, List.length_singleton]
  have nj := nat_of e hj
  have ni := nat_up hi hi'
  obtain ⟨c, c1, c2⟩ := item_cs (x := a) hi hi'
  obtain ⟨d, d1, d2⟩ := item_cs (x := b) (i := j) nj.1 nj.2.1
  have ec : c = d := by
    have := beq_iff_eq.mp hx
    rw [c2, d2] at this
    simpa using this
  subst ec
  rw [nj.2.2.1] at d1
  have hr : 2 * v = restD a b i.toNat pre.length := by
    rw [hv, dist, slice_from_cs ni.1 ni.2.1, slice_from_cs nj.2.2.2.1 nj.2.2.2.2.1, ni.2.2, nj.2.2.2.2.2]
  have hX : 2 * (mx i j + v) = 2 * max (i.toNat : Int) pre.length + restD a b i.toNat pre.length := by rw [mx_nat hi e, Int.mul_add, hr]
  have hk : dist a b ≤ 2 * (mx i j + v) := by rw [hX]; exact ed_kept scN_le scN_self c1 d1
  generalize mx i j + v = X at *
  refine ⟨⟨ite_g hk h.1.1, Int.le_trans (ite_r _ _) h.1.2.1, fun k hk' j' x h1 h2 => Int.le_trans (dbl (ite_r _ _)) (h.1.2.2 k hk' j' x h1 h2)⟩, fun k hk' x h1 h2 => ?_⟩
  by_cases q : k = pre.length
  · subst q
    rw [← hX]
    exact dbl (ite_l _ _)
  · exact Int.le_trans (dbl (ite_r _ _)) (h.2 k (Nat.lt_of_le_of_ne (Nat.le_of_lt_succ hk') q) x h1 h2)

theorem mOut_step {a b : Str} {i l : Int} {pre : List Int} (h : MIn a b i.toNat (rangeKs 0 ((b.length : Int) - 0).toNat).length l) (e : i = (pre.length : Int)) : MOut a b (pre ++ [i]).length l := by
  rw [rks_length] at h
  rw [List.length_append, List.length_singleton, show pre.length = i.toNat by omega]
  refine ⟨h.1.1, h.1.2.1, fun k hk j x h1 h2 => ?_⟩
  by_cases q : k = i.toNat
  · subst q
    exact h.2 j (by have := (List.getElem?_eq_some_iff.mp h2).1; rw [cs_length] at this; exact this) x h1 h2
  · exact h.1.2.2 k (by omega) j x h1 h2
theorem mOut_end {a b : Str} {l : Int} (h : MOut a b (rangeKs 0 ((a.length : Int) - 0).toNat).length l) (fa : Figs a) (fb : Figs b) : 2 * l = dist a b := by
  rw [rks_length] at h
  refine moves_is scN_ge (fun x hx y hy hn => fig_cost (fa x hx) (fb y hy) hn) h.1 (by rw [cs_length, cs_length]; exact h.2.1) fun i j x h1 h2 => ?_
  exact h.2.2 i (by have := (List.getElem?_eq_some_iff.mp h1).1; rw [cs_length] at this; exact this) j x h1 h2
def MovRet (a b : Str) (_ : Heap) (v : Value) (_ : Heap) : Prop := ∃ x t, v = .int x t ∧ 2 * x = dist a b
end
section
open PySem PySem.W PySem.Spec PySem.Calls PyProof.Rows
set_option maxRecDepth 100000
local macro_rules | `(tactic| walk_at "InvEndN") => `(tactic| refine stop_here ?_)
local macro_rules | `(tactic| walk_at "pyIter ref") => `(tactic| refine stop_here ?_)
local macro_rules | `(tactic| walk_at "exec For Name Call cons nil") => `(tactic| (k_here; (rename Fr _ _ _ _ => lF'); (with_unfolding_all refine' For_invVF lF' ?k1 ?k2 ?_; (case k1 => exact rfl); (case k2 => exact rfl); k_whole)))
local macro_rules | `(tactic| walk_at "call ref") => `(tactic| refine stop_here ?_)
set_option maxHeartbeats 8000000 in
theorem moves_says {w : World} {mean : ExcName → Option Value} {mg mb : Str → Option Value} : ∀ (n : Nat) (a b : Str) (t u : Tok), a.length < n → b.length ≤ 40 → n ≤ 40 → Figs a → Figs b →
    Says w mean mg mb 93 n [.str a t, .str b u] (MovRet a b) := by
  intro n
  induction n with
  | zero => intro a b t u h; exact absurd h (Nat.not_lt_zero _)
  | succ n ih =>
    intro a b t u ha hb hn fa fb
    w_top off
    unfold Says
    k_fill
    intro dp un gd cn cs ad ccd cl outer A₀ base h₀ L m s Q E B F X T hk hd hu hret
    k_with_none
    k_dflt cell_enter
    (rename Fr _ _ _ (fun y => List.lookup y _) => F9)
    with_unfolding_all (change Fr _ _ _ (fun y => List.lookup y [(Str.ofString "right", Value.str b u), (Str.ofString "left", Value.str a t)]) at F9)
    k_steps
    unfold Stop
    k_with "state" => exact mOut_start a b
    k_state (fun pre least => MOut a b pre.length least) "least"
    · k_steps
      unfold Stop
      k_with "state" => exact mIn_start (by assumption) (by omega)
      k_state_given ["i"] (fun i pre least => MIn a b i.toNat pre.length least) "least"
      · k_steps
        · unfold Stop
          k_dflt (refine' says_use (ih _ _ _ _ ?p1 ?p2 ?p3 ?p4 ?p5) ?k1 ?k2 ?k3 ?k4 ?k5 ?k6 ?k7 ?k8 ?_)
          case p1 => exact sl_lt (by omega) (by omega) ha
          case p2 => omega
          case p3 => omega
          case p4 => exact figs_slice fa (by omega) (by omega)
          case p5 => exact figs_slice fb (by omega) (by omega)
          case k1 => k_asm
          case k2 => k_asm
          case k3 => k_asm
          case k4 => k_asm
          case k5 => k_asm
          case k6 => first | exact rfl | assumption
          case k7 => ktr_room
          case k8 => ktr_units
          intro v9 h9 tk9 F9 N9 _ hr9
          obtain ⟨x9, t9, e9, hx9⟩ := hr9
          subst e9
          k_steps
          unfold Stop
          k_with "state" => exact mIn_same (by assumption) (by omega) (by omega) (by omega) (by omega) (by assumption) (by assumption)
          kst_close
        · unfold Stop
          k_with "state" => exact mIn_other (by assumption) (by omega) (by omega) (by omega) (by omega) (by assumption)
          kst_close
      · k_steps
        unfold Stop
        k_with "state" => exact mOut_step (by assumption) (by omega)
        kst_close
    · k_steps
      refine ret_end (Q := Q) (s := s) hret (by assumption) (by assumption) (by assumption) ⟨_, _, rfl, ?_⟩
      exact mOut_end (by assumption) fa fb
end
section
open PySem PySem.W PySem.Spec PySem.Calls PyProof.Rows
set_option maxRecDepth 100000
def FigW (r s : Int) : Prop := 0 ≤ r ∧ ((s = 1 ∧ r < 11110) ∨ (s = 2 ∧ r < 11100) ∨ (s = 3 ∧ r < 11000) ∨ (s = 4 ∧ r < 10000))
theorem figW_start (n : Int) : FigW ((n.fdiv 5).fmod 11110) 1 := by
  have h1 := fmod_lo (n.fdiv 5) (show (0 : Int) < 11110 by decide)
  have h2 := fmod_hi (n.fdiv 5) (show (0 : Int) < 11110 by decide)
  exact ⟨h1, .inl ⟨rfl, h2⟩⟩
theorem p1 : (10 : Int) ^ Int.toNat 1 = 10 := by decide
theorem p2 : (10 : Int) ^ Int.toNat 2 = 100 := by decide
theorem p3 : (10 : Int) ^ Int.toNat 3 = 1000 := by decide
theorem p4 : (10 : Int) ^ Int.toNat 4 = 10000 := by decide
theorem figW_1 {r : Int} (h : r < 11110) (k : 10 ^ Int.toNat 1 ≤ r) : FigW (r - 10 ^ Int.toNat 1) (1 + 1) := by rw [p1] at *; exact ⟨by omega, .inr (.inl ⟨rfl, by omega⟩)⟩
theorem figW_2 {r : Int} (h : r < 11100) (k : 10 ^ Int.toNat 2 ≤ r) : FigW (r - 10 ^ Int.toNat 2) (2 + 1) := by rw [p2] at *; exact ⟨by omega, .inr (.inr (.inl ⟨rfl, by omega⟩))⟩
theorem figW_3 {r : Int} (h : r < 11000) (k : 10 ^ Int.toNat 3 ≤ r) : FigW (r - 10 ^ Int.toNat 3) (3 + 1) := by rw [p3] at *; exact ⟨by omega, .inr (.inr (.inr ⟨rfl, by omega⟩))⟩
theorem figL_1 {r : Int} (k : 10 ^ Int.toNat 1 ≤ r) : (r - 10 ^ Int.toNat 1).toNat < r.toNat := by rw [p1] at *; omega
theorem figL_2 {r : Int} (k : 10 ^ Int.toNat 2 ≤ r) : (r - 10 ^ Int.toNat 2).toNat < r.toNat := by rw [p2] at *; omega
theorem figL_3 {r : Int} (k : 10 ^ Int.toNat 3 ≤ r) : (r - 10 ^ Int.toNat 3).toNat < r.toNat := by rw [p3] at *; omega
theorem fig_no {r : Int} (h : r < 10000) (k : 10 ^ Int.toNat 4 ≤ r) : False := by rw [p4] at *; omega

/-- a text of one to four figures, and its worth -/
def FigOk (w : Str) (r : Int) : Prop := Figs w ∧ 1 ≤ w.length ∧ w.length ≤ 4 ∧ r = ((NumText.digitsVal (cs w) : Nat) : Int)
abbrev dg (r : Int) (e : Nat) : Str := Txt.item (Str.ofString "0123456789") ((r.fdiv (10 ^ e)).fmod 10)
theorem dg_all : ∀ d : Fin 10, Txt.item (Str.ofString "0123456789") ((d.val : Nat) : Int) = ⟨#[48 + d.val]⟩ := by decide +kernel
theorem dg_is (r : Int) (e : Nat) : ∃ d : Nat, d < 10 ∧ (d : Int) = (r.fdiv (10 ^ e)).fmod 10 ∧ cs (dg r e) = [48 + d] := by
  have h1 := fmod_lo (r.fdiv (10 ^ e)) (show (0 : Int) < 10 by decide)
  have h2 := fmod_hi (r.fdiv (10 ^ e)) (show (0 : Int) < 10 by decide)
  refine ⟨((r.fdiv (10 ^ e)).fmod 10).toNat, by omega, by omega, ?_⟩
  have h := dg_all ⟨((r.fdiv (10 ^ e)).fmod 10).toNat, by omega⟩
  have h3 : ((((r.fdiv (10 ^ e)).fmod 10).toNat : Nat) : Int) = (r.fdiv (10 ^ e)).fmod 10 := by omega
  simp only [h3] at h
  show cs (Txt.item (Str.ofString "0123456789") ((r.fdiv (10 ^ e)).fmod 10)) = _
  rw [h]
theorem cs_append (x y : Str) : cs (x ++ y) = cs x ++ cs y := by
  show (x ++ y).cps.toList = _
  rw [Str.cps_append, Array.toList_append]
theorem cs_nil : cs (Str.ofString "") = [] := rfl
theorem fdm (r : Int) (a : Int) (ha : 0 ≤ a) : (r.fdiv a).fmod 10 = r / a % 10 := by
  rw [Int.fmod_eq_emod_of_nonneg _ (by decide), Int.fdiv_eq_ediv_of_nonneg _ ha]
theorem figOk_of {w : Str} {r : Int} {l : List Nat} (e : cs w = l) (hl : 1 ≤ l.length ∧ l.length ≤ 4) (ha : ∀ c ∈ l, 48 ≤ c ∧ c ≤ 57) (hr : r = ((NumText.digitsVal l : Nat) : Int)) : FigOk w r := by
  subst e
  rw [cs_length] at hl
  exact ⟨ha, hl.1, hl.2, hr⟩
theorem fig_ok1 {r : Int} (h0 : 0 ≤ r) (h : ¬ 10 ^ Int.toNat 1 ≤ r) : FigOk (dg r 0 ++ Str.ofString "") r := by
  rw [p1] at h
  obtain ⟨d, h1, h2, h3⟩ := dg_is r 0
  rw [fdm _ _ (by decide)] at h2
  refine figOk_of (by rw [cs_append, h3, cs_nil]) (by simp) (by simp; omega) ?_
  simp [NumText.digitsVal] at *
  omega
theorem fig_ok2 {r : Int} (h0 : 0 ≤ r) (h : ¬ 10 ^ Int.toNat 2 ≤ r) : FigOk (dg r 1 ++ (dg r 0 ++ Str.ofString "")) r := by
  rw [p2] at h
  obtain ⟨d, h1, h2, h3⟩ := dg_is r 0
  obtain ⟨d', h1', h2', h3'⟩ := dg_is r 1
  rw [fdm _ _ (by decide)] at h2 h2'
  refine figOk_of (by rw [cs_append, cs_append, h3, h3', cs_nil]) (by simp) (by simp; omega) ?_
  simp [NumText.digitsVal] at *
  omega
theorem fig_ok3 {r : Int} (h0 : 0 ≤ r) (h : ¬ 10 ^ Int.toNat 3 ≤ r) : FigOk (dg r 2 ++ (dg r 1 ++ (dg r 0 ++ Str.ofString ""))) r := by
  rw [p3] at h
  obtain ⟨d, h1, h2, h3⟩ := dg_is r 0
  obtain ⟨d', h1', h2', h3'⟩ := dg_is r 1
  obtain ⟨d2, h12, h22, h32⟩ := dg_is r 2
  rw [fdm _ _ (by decide)] at h2 h2' h22
  refine figOk_of (by rw [cs_append, cs_append, cs_append, h3, h3', h32, cs_nil]) (by simp) (by simp; omega) ?_
  simp [NumText.digitsVal] at *
  omega
theorem fig_ok4 {r : Int} (h0 : 0 ≤ r) (h : r < 10000) : FigOk (dg r 3 ++ (dg r 2 ++ (dg r 1 ++ (dg r 0 ++ Str.ofString "")))) r := by
  obtain ⟨d, h1, h2, h3⟩ := dg_is r 0
  obtain ⟨d', h1', h2', h3'⟩ := dg_is r 1
  obtain ⟨d2, h12, h22, h32⟩ := dg_is r 2
  obtain ⟨d3, h13, h23, h33⟩ := dg_is r 3
  rw [fdm _ _ (by decide)] at h2 h2' h22 h23
  refine figOk_of (by rw [cs_append, cs_append, cs_append, cs_append, h3, h3', h32, h33, cs_nil]) (by simp) (by simp; omega) ?_
  simp [NumText.digitsVal] at *
  omega
def FigRet (g : Heap) (v : Value) (h : Heap) : Prop := ∃ D w r t1 t2 c, v = .ref D ∧ h.get? D = some { cls := .type "tuple", data := .seq #[.str w t1, .int r t2] c } ∧ g.get? D = none ∧ FigOk w r
theorem fig_end {g g' h : Heap} {L D : Addr} {w : Str} {r : Int} {t1 t2 : Tok} {c : Nat} (e : g' = g) (N : News g L h [(D, { cls := .type "tuple", data := .seq #[.str w t1, .int r t2] c })]) (ok : FigOk w r) : FigRet g' (.ref D) h :=
  ⟨D, w, r, t1, t2, c, rfl, (N _ (.head _)).1, e ▸ (N _ (.head _)).2.2, ok⟩
end
section
open PySem PySem.W PySem.Spec PySem.Calls PyProof.Rows
set_option maxRecDepth 100000
local macro_rules | `(tactic| walk_at "exec While Compare cons nil") => `(tactic| refine stop_here ?_)
set_option maxHeartbeats 8000000 in
theorem fig_says {w : World} {mean : ExcName → Option Value} {mg mb : Str → Option Value} (n : Int) (t : Tok) :
    Says w mean mg mb 79 1 [.int n t] FigRet := by
  w_top off
  unfold Says
  k_fill
  intro dp un gd cn cs ad ccd cl outer A₀ base h₀ L m s Q E B F X T hk hd hu hret
  k_with_none
  k_dflt cell_enter
  (rename Fr _ _ _ (fun y => List.lookup y _) => F9)
  with_unfolding_all (change Fr _ _ _ (fun y => List.lookup y [(Str.ofString "number", Value.int n t)]) at F9)
  k_steps
  unfold Stop
  k_with "state" => first | exact figW_start _ | exact figW_1 (by assumption) (by assumption) | exact figW_2 (by assumption) (by assumption) | exact figW_3 (by assumption) (by assumption)
  k_with "measure" => first | exact figL_1 (by assumption) | exact figL_2 (by assumption) | exact figL_3 (by assumption)
  k_while (fun _ r s => FigW r s) (fun _ r s => r.toNat) "rest" "size"
  obtain ⟨q0, ⟨q1, q2⟩ | ⟨q1, q2⟩ | ⟨q1, q2⟩ | ⟨q1, q2⟩⟩ := kInv
  all_goals (subst q1)
  · k_steps
    exact ret_end (Q := Q) (s := s) hret (by assumption) (by assumption) (by assumption) (fig_end (by assumption) (by assumption) (fig_ok1 q0 (by assumption)))
  · k_steps
    exact ret_end (Q := Q) (s := s) hret (by assumption) (by assumption) (by assumption) (fig_end (by assumption) (by assumption) (fig_ok2 q0 (by assumption)))
  · k_steps
    exact ret_end (Q := Q) (s := s) hret (by assumption) (by assumption) (by assumption) (fig_end (by assumption) (by assumption) (fig_ok3 q0 (by assumption)))
  · k_steps
    · exact absurd (fig_no q2 (by assumption)) id
    · exact ret_end (Q := Q) (s := s) hret (by assumption) (by assumption) (by assumption) (fig_end (by assumption) (by assumption) (fig_ok4 q0 q2))
end
end Mine
namespace Mine
section
open PySem PySem.W PySem.Spec PySem.Calls PyProof.Rows
set_option maxRecDepth 100000
open Sem (wp)
open Builtin Builtin.Str Builtin.BaseException Builtin.Exceptions
section
variable {prog : Program} {w : World} {A : Around} {E : Value → Shared → Prop} {s : Shared} {K : Frag} {e t C : Addr} {oe : Obj} {ws : Array Value} {m : Str} {u : Tok}
theorem own_args {M : Model} {items : List Value} {Q : Value × List Value → Shared → Prop} (ho : s.heap.get? e = some oe) (hd : oe.data = .fields ws) (h0 : ws[0]? = some (.ref t)) (ht : s.heap.TupAt t items) (hq : Q (.ref t, items) s) :
    wpAny M A (bexcArgs (.ref e)) Q E s := by
  obtain ⟨ot, k, hto, _, htd⟩ := ht
  unfold bexcArgs
  refine wpAny_bind (wpAny_field ho hd h0 (wpAny_bind (wpAny_seqItems hto htd ?_)))
  have : items.toArray.toList = items := by simp
  show wpAny M A (pure (Value.ref t, items.toArray.toList)) Q E s
  rw [this]; exact wpAny_pure hq
theorem own_bexc {Q : Value → Shared → Prop} (X : K.In s.heap) (ho : s.heap.get? e = some oe) (hc : oe.cls = .ref C) (hd : oe.data = .fields ws) (h0 : ws[0]? = some (.ref t)) (ht : s.heap.TupAt t [.str m u]) (hm : mroIn K C (.type "BaseException") = some true)
    (hq : Q (.str m u) s) : wpAny (model prog w) A (call (.builtin "BaseException.__str__") [.ref e]) Q E s := by
  have hT : ∀ M : Model, Looks M s.heap (typeOf (.ref e)) (.ref C) := fun M => hc ▸ (Looks.ld ho).andThen .now
  refine wpAny_call (codeAny_call_builtin PySem.F.excStr_Exception.str.plain PySem.F.entry_bexc_str (check_slot (i := "BaseException.__str__") (owner := "BaseException") (n := "__str__") (by decide +kernel) (by decide +kernel) ((hT _).andThen (looks_mroIn X hm)) (PySem.F.args_bexc_str _) ?_))
  unfold Builtin.«BaseException.__str__»
  repeat (first | with_reducible refine own_args ho hd h0 ht ?_ | wp_step)
  exact hq
theorem own_special {M : Model} {name : Str} {id : String} {args : List Value} {Q : Option Value → Shared → Prop} (X : K.In s.heap) (hT : Looks M s.heap (typeOf (.ref e)) (.ref C)) (hs : findIn K (.ref C) name = some (some (.builtin id)))
    (hb : ∀ self, bindSpecial (.builtin id) self = pure (.builtin id, [self])) (h : wpAny M A (call (.builtin id) (.ref e :: args)) (fun v => Q (some v)) E s) : wpAny M A (callSpecial? (.ref e) name args) Q E s :=
  wpAny_bind (wpAny_bind (hT.here ((looks_findIn X hs).here (wpAny_holding (wpAny_bind ((Looks.of_pure (hb _)).here (wpAny_bind (wpAny_mono h (fun _ _ z => wpAny_pure z) fun _ _ z => z))))))))
theorem str_own {Q : Value → Shared → Prop} {h₀ : Heap} {L : Addr} {news : List (Addr × Obj)} (hu : A.in1.in1.units < cLine) (X : K.In s.heap) (N : News h₀ L s.heap news) (G : Got news e t (.ref C) [.str m u])
    (hs : findIn K (.ref C) "__str__" = some (some (.builtin "BaseException.__str__"))) (hm : mroIn K C (.type "BaseException") = some true) (hq : Q (.str m u) s) : wpAny (model prog w) A (call (.type "str") [.ref e]) Q E s := by
  obtain ⟨oe, ot, ws, nt, h1, h2, hc, hd, h0, htc, htd⟩ := G
  have ho := (N _ h1).1
  have ht : s.heap.TupAt t [.str m u] := ⟨ot, nt, (N _ h2).1, htc, htd⟩
  have hT : ∀ M : Model, Looks M s.heap (typeOf (.ref e)) (.ref C) := fun M => hc ▸ (Looks.ld ho).andThen .now
  refine callType_codes (T := "str") (Bi := Builtin.«object.__init__») (Q₁ := fun r s₁ => ∃ y u, r = .str y u ∧ Q r s₁) PySem.F.called_str (PySem.F.typeCall_str_1 _) PySem.F.entry_object_init ?_ ?_
  · refine codeAny_of_tree ?_
    show wpAny _ A.in1.in1 (do checkBuiltinCall "str.__new__" ⟨[.type "str", .ref e], []⟩; again (.builtin "str.__new__" ⟨[.type "str", .ref e], []⟩)) _ _ s
    refine wpAny_bind (wpAny_of_eq (PySem.F.newCall_str_1 _) (wpAny_pure ⟨plainId_quiet (by decide +kernel) _, codeAny_builtin PySem.F.entry_str_new ?_⟩))
    rw [Around.under_plainId (by decide +kernel) _]
    rw [str_new_tree]
    refine wpAny_bind (wpAny_pure ?_)
    refine wpAny_bind (wpAny_of_eq isSubtype_str_str ?_)
    have key : wpAny (model prog w) A.in1.in1 (PySem.Builtin.Str.strOf (.ref e)) (fun r s₁ => ∃ y u, r = .str y u ∧ Q r s₁) E s := by
      unfold PySem.Builtin.Str.strOf
      rw [show isExactStr (.ref e) = false from rfl]
      refine wpAny_bind (m := cRoomFor _ _) (wpAny_cRoomFor hu ?_)
      refine wpAny_bind (m := callSpecial? (.ref e) (Str.ofString "__str__")) (own_special X (hT _) hs PySem.F.excStr_Exception.str.bind (own_bexc X ho hc hd h0 ht hm ?_))
      exact wpAny_pure ⟨_, _, rfl, hq⟩
    exact wpAny_bind (wpAny_mono key (fun r s₁ hr => wpAny_pure hr) fun _ _ y => y)
  · rintro obj s₁ ⟨y, u, rfl, hq⟩
    exact ⟨typeIs_str _ _ _, PySem.F.args_object_init_2 _ _, object_init_meets PySem.F.called_str.init.lookup PySem.F.called_str.made (by decide) prog w A.in1 _ s₁ ⟨typeIs_str _ _ _, rfl, hq⟩⟩
end

/-- a call from the law's own frame of a def that catches: all but that frame stays -/
theorem code_ownS {prog : Program} {w : World} {A A₀ : Around} {s : Shared} {K : Frag} {L a : Addr} {h₀ base : Heap} {m mg mb : Str → Option Value} {p : Program} {loose : List Str} {mean : ExcName → Option Value} {cn : Str} {cs : Scope} {ccd : Value}
    {R : Result → Shared → Prop} {name qual : Str} {params : Arguments} {body : List Stmt} {scope : Scope} {dV kV doc pm cdv ct oc : Value} {an od : Option Addr} {osl : Array (Option Value)} {f : Addr} {args : Args} {binds : List (Str × Value)}
    (B : Below A₀ base [] h₀) (F : Fr h₀ L s.heap m) (X₀ : K.In h₀) (T : Top p loose mean mg mb h₀) (hA : A.frames = some [envOf cn cs L a ccd])
    (ho : K.lookup f = some ⟨oc, od, .func (fnOf name qual params body scope dV kV doc pm an cdv ct), osl⟩) (hcd : codeIn K cdv qual = true) (hroom : A.depth < recursionLimit)
    (hbind : BindsTo s (fnOf name qual params body scope dV kV doc pm an cdv ct) args binds) (hloc : ∀ y ∈ binds, scope.names.lookup y.1 = some .local)
    (h : ∀ g L' h₁, s.heap = g → Fr g L' h₁ (fun y => binds.reverse.lookup y) → News g L' h₁ [] → Below A base [envOf cn cs L a ccd] g → K.In g → Top p loose mean mg mb g → KtsDicts ([envOf cn cs L a ccd].filterMap (·.frame)) g →
      wpAny (model prog w) (A.deeper (envOf qual scope L' f cdv)) (execs body (envOf qual scope L' f cdv))
        (fun fl s' => LeaveS0 ([envOf cn cs L a ccd].filterMap (·.frame)) h₀ L m g R (match fl with | .ret v => v | _ => .none) s')
        (fun e s' => wpAny (model prog w) (A.deeper (envOf qual scope L' f cdv)) (leaving (envOf qual scope L' f cdv) e) (fun _ s'' => R (.error e) s'') (fun e' s'' => R (.error e') s'') s')
        { s with heap := h₁, toks := s.toks + binds.length })
    (hck : cs.kind = .function) (hco : scope.isCoroutine = false) (hgen : scope.isGenerator = false) (hk : scope.kind = .function)
    (hcell : ∀ x ∈ scope.names, x.2 ≠ .cell) : codeAny (model prog w) A (.call (.ref f) args) R s := by
  have X := X₀.keeps F.keep
  refine codeAny_call_def (fd := fnOf name qual params body scope dV kV doc pm an cdv ct) (body := body) (binds := binds) hroom (X _ _ ho) rfl (T.nolimit.keeps F.keep) (codeRec_of X hcd) rfl hbind hcell hloc (fun h₁ hns hk₁ => ?_) hco hgen hk
  obtain ⟨oL, es, ep, hLg, hLd, hN, hNs, st, B₂⟩ := kts_enter (news := []) B F News.nil hA hck
  refine wpAny_mono (h s.heap s.heap.objs.size h₁ rfl ⟨hns, hk₁, Nat.le_refl _⟩ News.nil B₂ (X₀.keeps st) (T.keeps st) (fun b hb => by
      rcases kts_mem hb with rfl | z
      · exact ⟨oL, es, ep, hLg, hLd⟩
      · simp at z)) (fun fl s' hl => ?_) fun _ _ y => y
  obtain ⟨g', L', m', news', T', F', N', k⟩ := hl
  have nL₀ : h₀.get? L = none := kts_self F
  obtain ⟨sl, hs⟩ := T'.up hLg
  refine k ⟨hNs sl _ (F'.keep _ _ hs), fun b o e => F'.keep b o (T'.other b o (st b o e) (fun q => by
    rcases kts_mem q with z | z
    · rw [z, nL₀] at e
      cases e
    · simp at z)), F.above⟩ fun p hp => ⟨(N' p hp).1, fun q => ?_, ?_⟩
  · have := (N' p hp).2.2; rw [q, hs] at this; cases this
  · cases q : h₀.get? p.1 with
    | none => rfl
    | some o =>
      obtain ⟨sl', hs'⟩ := T'.up (st _ _ q)
      have := (N' p hp).2.2; rw [hs'] at this; cases this

/-- what a call says that changes the caller's frame at most (its slots) -/
def SaysL (w : World) (mean : ExcName → Option Value) (mg mb : Str → Option Value) (f : Addr) (d : Nat) (vs : List Value) (Ret : Heap → Value → Heap → Prop) : Prop :=
  ∀ (dp un : Nat) (gd : Option (List Code)) (cn : Str) (cs : Scope) (a : Addr) (ccd : Value) (A₀ : Around) (base h₀ : Heap) (L : Addr) (m : Str → Option Value) (s : Shared) (Q E : Value → Shared → Prop),
    Below A₀ base [] h₀ → Fr h₀ L s.heap m → (hd.heap_39 w.params).In h₀ → Top hd.view_39 (looseW hd.view_39 []) mean mg mb h₀ → (hd.heap_39 w.params).In base → Top hd.view_39 (looseW hd.view_39 []) mean mg mb base → cs.kind = .function →
    dp + d < recursionLimit → un + 8 * d < cLine →
    (∀ v h' tk', Fr h₀ L h' m → (∀ b o, b ≠ L → s.heap.get? b = some o → h'.get? b = some o) → Ret s.heap v h' → Q v { s with heap := h', toks := tk' }) →
    wpAny (model PySem.Challenge.rw_pe0085_01.row.prog w) { handled := none, depth := dp, frames := some [envOf cn cs L a ccd], guards := gd, units := un } (call (.ref f) vs) Q E s
theorem retS_end {h₀ g g' h' : Heap} {L L' : Addr} {m m' : Str → Option Value} {s : Shared} {Q : Value → Shared → Prop} {Ret : Heap → Value → Heap → Prop} {v : Value} {tk' : Nat} {cn : Str} {cs : Scope} {a : Addr} {ccd : Value}
    (hret : ∀ v h' tk', Fr h₀ L h' m → (∀ b o, b ≠ L → s.heap.get? b = some o → h'.get? b = some o) → Ret s.heap v h' → Q v { s with heap := h', toks := tk' }) (e : s.heap = g) (T : KtsTurn ([envOf cn cs L a ccd].filterMap (·.frame)) g g') (F : Fr h₀ L h' m) (F' : Fr g' L' h' m') (hr : Ret s.heap v h') : Q v { s with heap := h', toks := tk' } :=
  hret v h' tk' F (fun b o n q => F'.keep b o (T.other b o (e ▸ q) fun z => by
    rcases kts_mem z with z | z
    · exact n z
    · simp at z)) hr
end
section
open PySem PySem.W PySem.Spec PySem.Calls PyProof.Rows
set_option maxRecDepth 100000

/-! where a sign is found -/
theorem find3_is {x : Str} {c k : Nat} {i : Int} (h1 : PySem.fromIndex x.length i ≤ k) (h2 : (cs x)[k]? = some c) (h3 : ∀ v, PySem.fromIndex x.length i ≤ v → v < k → (cs x)[v]? ≠ some c) : Txt.find3 x ⟨#[c]⟩ i = (k : Int) := by
  have hk : k < x.length := by have := (List.getElem?_eq_some_iff.mp h2).1; rw [cs_length] at this; exact this
  rcases StrLaws.find3_spec x c i with ⟨_, hn⟩ | ⟨k', e, hlo, hlt, hc, hn⟩
  · exact absurd (StrLaws.getD_of_getElem? h2) (hn k h1 hk)
  · rw [e]
    have hc' : (cs x)[k']? = some c := StrLaws.getElem?_of_getD hlt hc
    rcases Nat.lt_trichotomy k' k with q | q | q
    · exact absurd hc' (h3 k' hlo q)
    · rw [q]
    · exact absurd (StrLaws.getD_of_getElem? h2) (hn k h1 q)
theorem find_from (x y : Str) : Txt.find x y = Txt.find3 x y 0 := by
  unfold Txt.find Txt.find3
  rw [show PySem.fromIndex x.length 0 = 0 from rfl]
  cases Builtin.Str.occurrences x y 0 x.length 1 <;> rfl

/-! parted at a sign: the parts are known by what they join to -/
theorem join_cs (sep x : Str) (r : List Str) (h : r ≠ []) : cs (Str.join sep (x :: r)) = cs x ++ (cs sep ++ cs (Str.join sep r)) := by
  cases r with
  | nil => exact absurd rfl h
  | cons y r =>
    show cs (x ++ sep ++ Str.join sep (y :: r)) = _
    rw [cs_append, cs_append, List.append_assoc]
theorem parts_same {c : Nat} : ∀ (ps qs : List Str), ps ≠ [] → qs ≠ [] → (∀ p ∈ ps, c ∉ cs p) → (∀ p ∈ qs, c ∉ cs p) → cs (Str.join ⟨#[c]⟩ ps) = cs (Str.join ⟨#[c]⟩ qs) → ps = qs := by
  have key : ∀ (l m r : List Nat), c ∉ l → c ∉ m → ∀ r', l ++ c :: r = m ++ c :: r' → l = m ∧ r = r' := by
    intro l
    induction l with
    | nil =>
      intro m r hl hm r' e
      cases m with
      | nil => simp at e; exact ⟨rfl, e⟩
      | cons y m => simp at e; exact absurd (e.1 ▸ List.Mem.head _) hm
    | cons x l ih =>
      intro m r hl hm r' e
      cases m with
      | nil => simp at e; exact absurd (e.1 ▸ List.Mem.head _) hl
      | cons y m =>
        simp at e
        obtain ⟨e1, e2⟩ := ih m r (fun q => hl (.tail _ q)) (fun q => hm (.tail _ q)) r' e.2
        exact ⟨by rw [e.1, e1], e2⟩
  intro ps
  induction ps with
  | nil => intro qs h; exact absurd rfl h
  | cons p ps ih =>
    intro qs _ hq fp fq e
    cases qs with
    | nil => exact absurd rfl hq
    | cons q qs =>
      have hp : c ∉ cs p := fp p (.head _)
      have hq' : c ∉ cs q := fq q (.head _)
      by_cases a : ps = []
      · subst a
        by_cases b : qs = []
        · subst b
          exact congrArg (· :: []) (cs_inj e)
        · rw [join_cs _ q qs b] at e
          exact absurd (show c ∈ cs p by rw [show cs p = _ from e]; simp [cs]) hp
      · by_cases b : qs = []
        · subst b
          rw [join_cs _ p ps a] at e
          exact absurd (show c ∈ cs q by rw [show cs q = _ from e.symm]; simp [cs]) hq'
        · rw [join_cs _ p ps a, join_cs _ q qs b] at e
          obtain ⟨e1, e2⟩ := key (cs p) (cs q) _ hp hq' _ e
          rw [cs_inj e1, ih qs a b (fun x m => fp x (.tail _ m)) (fun x m => fq x (.tail _ m)) e2]
theorem split_ne (x y : Str) : Txt.split x y ≠ [] := by
  unfold Txt.split
  split
  · simp
  · split
    · simp
    · rw [StrLaws.partsBetween_eq]
      obtain ⟨p, r, e⟩ := StrLaws.partsFrom_ne x y.length 0 (Builtin.Str.occurrences x y 0 x.length (x.length + 1))
      rw [e]
      simp
theorem split_is {x : Str} {c : Nat} {qs : List Str} (hq : qs ≠ []) (fq : ∀ p ∈ qs, c ∉ cs p) (e : cs x = cs (Str.join ⟨#[c]⟩ qs)) : Txt.split x ⟨#[c]⟩ = qs := by
  refine parts_same _ _ (split_ne _ _) hq (StrLaws.split_free x c) fq ?_
  rw [StrLaws.join_split, e]

/-! a reply: head, what stands in brackets, tail -/
def headL : List Nat := [50, 50, 57, 32, 111, 110, 41, 32, 40]
def tailL : List Nat := [41, 32, 111, 107, 41]
theorem head_is : cs (Str.ofString "229 on) (") = headL := by decide
theorem tail_is : cs (Str.ofString ") ok)") = tailL := by decide
def Shape (r : Str) (body : List Nat) : Prop := cs r = headL ++ (body ++ tailL) ∧ 41 ∉ body ∧ body ≠ []
section
variable {r : Str} {body : List Nat} (h : Shape r body)
include h
theorem shape_len : r.length = 14 + body.length := by
  rw [← cs_length, h.1]
  simp [headL, tailL]
  omega
theorem shape_at (i : Nat) (hi : i < body.length) : (cs r)[9 + i]? = body[i]? := by
  rw [h.1, List.getElem?_append_right (by simp [headL]), show 9 + i - headL.length = i by simp [headL], List.getElem?_append_left hi]
theorem shape_head : Txt.slice r none (some 3) = Str.ofString "229" := by
  apply cs_inj
  have hl := shape_len h
  rw [slice_to_cs (by omega) (by omega), h.1]
  rfl
theorem shape_left : Txt.find r (Str.ofString "(") = 8 := by
  rw [find_from, show Str.ofString "(" = ⟨#[40]⟩ by decide]
  refine find3_is (k := 8) (by rw [show PySem.fromIndex r.length 0 = 0 from rfl]; omega) (by rw [h.1]; rfl) fun v _ hv => ?_
  rw [h.1, List.getElem?_append_left (by simp [headL]; omega)]
  have : v = 0 ∨ v = 1 ∨ v = 2 ∨ v = 3 ∨ v = 4 ∨ v = 5 ∨ v = 6 ∨ v = 7 := by omega
  rcases this with e | e | e | e | e | e | e | e <;> subst e <;> simp [headL]
theorem shape_right : Txt.find3 r (Str.ofString ")") (8 + 1) = 9 + (body.length : Int) := by
  rw [show Str.ofString ")" = ⟨#[41]⟩ by decide]
  have e0 : PySem.fromIndex r.length (8 + 1) = 9 := rfl
  have hh := find3_is (x := r) (c := 41) (k := 9 + body.length) (i := 8 + 1) (by rw [e0]; omega) (by
    rw [h.1, List.getElem?_append_right (by simp [headL]), show 9 + body.length - headL.length = body.length by simp [headL], List.getElem?_append_right (by omega)]
    simp [tailL]) (fun v hv hv' => by
    rw [e0] at hv
    obtain ⟨i, rfl⟩ : ∃ i, v = 9 + i := ⟨v - 9, by omega⟩
    rw [shape_at h i (by omega)]
    exact fun q => h.2.1 (List.mem_of_getElem? q))
  rw [hh]
  omega
theorem shape_first {x : Nat} (hx : body[0]? = some x) : Txt.item r (8 + 1) = ⟨#[x]⟩ := by
  refine item_meets (by omega) ?_
  rw [← Array.getElem?_toList]
  have := shape_at h 0 (List.length_pos_iff.mpr h.2.2)
  exact this.trans hx
theorem shape_last {z : Nat} (hz : body[body.length - 1]? = some z) : Txt.item r (9 + (body.length : Int) - 1) = ⟨#[z]⟩ := by
  have hp := List.length_pos_iff.mpr h.2.2
  refine item_meets (by omega) ?_
  rw [← Array.getElem?_toList, show (9 + (body.length : Int) - 1).toNat = 9 + (body.length - 1) by omega]
  exact (shape_at h _ (by omega)).trans hz
theorem shape_cut : Txt.slice r (some (8 + 1)) (some (9 + (body.length : Int))) = ⟨body.toArray⟩ := by
  have hl := shape_len h
  apply cs_inj
  rw [slice_cs (by omega) (by omega) (by omega), h.1, show (8 + 1 : Int).toNat = headL.length by rfl, List.drop_left, show (9 + (body.length : Int) - (8 + 1)).toNat = body.length by omega, List.take_left]
end
theorem map5 {l : List (Str × Tok)} {a b c d e : Str} (h : List.map (fun x => x.fst) l = [a, b, c, d, e]) : ∃ t0 t1 t2 t3 t4, l = [(a, t0), (b, t1), (c, t2), (d, t3), (e, t4)] := by
  match l, h with
  | [p0, p1, p2, p3, p4], h =>
    simp only [List.map_cons, List.map_nil, List.cons.injEq, and_true] at h
    obtain ⟨h0, h1, h2, h3, h4⟩ := h
    exact ⟨p0.2, p1.2, p2.2, p3.2, p4.2, by rw [← h0, ← h1, ← h2, ← h3, ← h4]⟩
theorem map6 {l : List (Str × Tok)} {a b c d e f : Str} (h : List.map (fun x => x.fst) l = [a, b, c, d, e, f]) : ∃ t0 t1 t2 t3 t4 t5, l = [(a, t0), (b, t1), (c, t2), (d, t3), (e, t4), (f, t5)] := by
  match l, h with
  | [p0, p1, p2, p3, p4, p5], h =>
    simp only [List.map_cons, List.map_nil, List.cons.injEq, and_true] at h
    obtain ⟨h0, h1, h2, h3, h4, h5⟩ := h
    exact ⟨p0.2, p1.2, p2.2, p3.2, p4.2, p5.2, by rw [← h0, ← h1, ← h2, ← h3, ← h4, ← h5]⟩
theorem fig_reads {w : Str} {p : Int} (h : FigOk w p) : PySem.intText? w = some p := by
  obtain ⟨h1, h2, h3, h4⟩ := h
  rw [PySem.intText_digits h1 (fun e => by have := cs_length w; rw [show cs w = [] from e] at this; simp at this; omega) (by omega), h4]
/-- x x x w x -/
theorem split_ok {x : Nat} {w : Str} (hx : x ∉ cs w) : Txt.split ⟨(x :: x :: x :: (cs w ++ [x])).toArray⟩ ⟨#[x]⟩ = [Str.empty, Str.empty, Str.empty, w, Str.empty] := by
  refine split_is (by simp) (fun p hp => ?_) ?_
  · simp only [List.mem_cons, List.not_mem_nil, or_false] at hp
    rcases hp with rfl | rfl | rfl | rfl | rfl <;> first | exact hx | exact List.not_mem_nil
  · rw [join_cs _ _ _ (by simp), join_cs _ _ _ (by simp), join_cs _ _ _ (by simp), join_cs _ _ _ (by simp)]
    simp [cs, Str.join, Str.empty]
/-- x x x w x x -/
theorem split_two {x : Nat} {w : Str} (hx : x ∉ cs w) : Txt.split ⟨(x :: x :: x :: (cs w ++ [x, x])).toArray⟩ ⟨#[x]⟩ = [Str.empty, Str.empty, Str.empty, w, Str.empty, Str.empty] := by
  refine split_is (by simp) (fun p hp => ?_) ?_
  · simp only [List.mem_cons, List.not_mem_nil, or_false] at hp
    rcases hp with rfl | rfl | rfl | rfl | rfl | rfl <;> first | exact hx | exact List.not_mem_nil
  · rw [join_cs _ _ _ (by simp), join_cs _ _ _ (by simp), join_cs _ _ _ (by simp), join_cs _ _ _ (by simp), join_cs _ _ _ (by simp)]
    simp [cs, Str.join, Str.empty]
end
section
open PySem PySem.W PySem.Spec PySem.Calls PyProof.Rows
set_option maxRecDepth 100000
local macro_rules | `(tactic| cell_enter) => `(tactic| (refine wpAny_call ?_; refine' code_ownS ?k1 ?k2 ?k3 ?k5 ?kA ?k6 ?k7 ?k8 ?k9 ?kB ?_ ?cK ?c2 ?c3 ?c4 ?c5; (case kA => exact rfl); (case k1 => k_asm); (case k2 => k_asm); (case k3 => k_asm); (case k5 => k_asm); (case k6 => k_is); (case k7 => k_is); (case k8 => ktr_room); (case k9 => exact BindsTo.of_eq rfl); (case c5 => decide); (case kB => exact locs rfl); (case cK => assumption); (case c2 => exact rfl); (case c3 => exact rfl); (case c4 => exact rfl); k_whole; intro g' L' h' hg' F' N' B' X' T' D'; (try dsimp only); (try k_lift B'); (try k_fold)))
local macro_rules | `(tactic| ktr_enter) => `(tactic| (refine wpAny_call ?_; refine' code_defS ?k1 ?k2 ?k3 ?k4 ?k5 ?XB ?TB ?D ?T0 ?kA ?k6 ?k7 ?k8 ?k9 ?kB ?_ ?cK ?c2 ?c3 ?c4 ?c5; (case kA => exact rfl); (case k2 => k_asm); (case k1 => k_asm); (case XB => assumption); (case TB => assumption); (case D => assumption); (case T0 => first | assumption | exact KtsTurn.refl); (case k3 => k_asm); (case k4 => k_asm); (case k5 => k_asm); (case k6 => k_is); (case k7 => k_is); (case k8 => ktr_room); (case k9 => exact BindsTo.of_eq rfl); (case kB => exact locs rfl); (case cK => exact rfl); (case c2 => exact rfl); (case c3 => exact rfl); (case c4 => exact rfl); (case c5 => decide); k_whole; intro g' L' h' FG' F' N' B' X' T' D'; (try dsimp only); (try k_lift B'); (try k_fold)))
local macro_rules | `(tactic| walk_at "call ref") => `(tactic| (k_here; (with_reducible show wpAny _ _ (call (Value.ref 107) [Value.int _ _]) _ _ _); k_dflt (refine' says_bool (whole_says _ _) ?k1 ?k2 ?k3 ?k4 ?k5 ?k6 ?k7 ?k8 ?_; (case k1 => k_asm); (case k2 => k_asm); (case k3 => k_asm); (case k4 => k_asm); (case k5 => k_asm); (case k6 => first | exact rfl | assumption); (case k7 => ktr_room); (case k8 => ktr_units); k_whole; intro h9 tk9 F9 N9; (try dsimp only); (try k_sweep))))
local macro_rules | `(tactic| walk_at "call ref") => `(tactic| ((with_reducible show wpAny _ _ (call (Value.ref 58) _) _ _ _); refine stop_here ?_))
structure MarkR : Prop where
local macro_rules | `(tactic| walk_at "exec If") => `(tactic| refine stop_here ?_)
local macro_rules | `(tactic| walk_at "exec Raise some none") => `(tactic| ((rename MarkR => mk9); refine stop_here ?_))
local macro_rules | `(tactic| walk_at "call type:str") => `(tactic| (k_here; (with_reducible show wpAny _ _ (call (Value.type "str") [Value.ref _]) _ _ _); (rename Got _ _ _ _ _ => gX); k_dflt (refine' str_own ?u ?X ?N gX ?s ?m ?_; (case X => k_in); (case N => k_asm); (case s => k_is); (case m => k_is); (case u => ktr_units); k_whole)))
def ReadOk (p : Int) (g : Heap) (v : Value) (h : Heap) : Prop := ∃ D t1 t2 c, v = .ref D ∧ h.get? D = some { cls := .type "tuple", data := .seq #[.str (Str.ofString "h") t1, .int p t2] c } ∧ g.get? D = none
theorem read_end {g g' h : Heap} {L D : Addr} {p : Int} {t1 t2 : Tok} {c : Nat} {rest : List (Addr × Obj)} (e : g' = g) (N : News g L h ((D, { cls := .type "tuple", data := .seq #[.str (Str.ofString "h") t1, .int p t2] c }) :: rest)) : ReadOk p g' (.ref D) h :=
  ⟨D, t1, t2, c, rfl, (N _ (.head _)).1, e ▸ (N _ (.head _)).2.2⟩
set_option maxHeartbeats 8000000 in
theorem read_ok {w : World} {mean : ExcName → Option Value} {mg mb : Str → Option Value} (r : Str) (t : Tok) (x : Nat) (wd : Str) (p : Int) (hS : Shape r (x :: x :: x :: (cs wd ++ [x]))) (hx : x ∉ cs wd) (hw : FigOk wd p) (hr : r.length ≤ 100) :
    SaysL w mean mg mb 114 3 [.str r t] (ReadOk p) := by
  have e7 := split_ok hx
  have hI := fig_reads hw
  have hwl := hw.2.2.1
  have e1 := shape_head hS
  have e2 := shape_left hS
  have e3 := shape_right hS
  have e4 := shape_first hS rfl
  have e5 := shape_last hS (z := x) (by simp)
  have e6 := shape_cut hS
  have hl := shape_len hS
  have hn : 4 ≤ (x :: x :: x :: (cs wd ++ [x])).length := by simp
  generalize hN : (x :: x :: x :: (cs wd ++ [x])).length = n at *
  clear hN hS
  w_top off
  unfold SaysL
  k_fill
  intro dp un gd cn csc ad ccd A₀ base h₀ L m s Q E B F X T XB TB hk hd hu hret
  have mkR : MarkR := ⟨⟩
  k_with_none
  k_dflt cell_enter
  (rename Fr _ _ _ (fun y => List.lookup y _) => F9)
  with_unfolding_all (change Fr _ _ _ (fun y => List.lookup y [(Str.ofString "reply", Value.str r t)]) at F9)
  k_steps
  unfold Stop
  k_dflt ktr_enter
  (rename Fr _ _ _ (fun y => List.lookup y _) => F8)
  with_unfolding_all (change Fr _ _ _ (fun y => List.lookup y [(Str.ofString "peer", _), (Str.ofString "resp", Value.str r t)]) at F8)
  k_steps
  unfold Stop
  refine wpAny_If ?_
  k_steps
  · exfalso
    simp_all
  unfold Stop
  (rename Fr _ _ _ _ => F7)
  rw [e2] at F7
  refine wpAny_If ?_
  k_steps
  unfold Stop
  (rename Fr _ _ _ _ => F6)
  rw [e3] at F6
  refine wpAny_If ?_
  k_steps
  · exfalso
    omega
  unfold Stop
  refine wpAny_If ?_
  k_steps
  · exfalso
    rw [e4, e5] at *
    simp_all
  unfold Stop
  (rename _ = Txt.split _ _ => hM)
  rw [e6, e4, e7] at hM
  obtain ⟨t0, t1, t2, t3, t4, eM⟩ := map5 hM
  subst eM
  (rename News _ _ _ _ => N5)
  simp only [strValues, List.map_cons, List.map_nil] at N5
  refine wpAny_If ?_
  k_steps
  exact retS_end (Q := Q) (s := s) (cn := cn) (cs := csc) (a := ad) (ccd := ccd) hret (by assumption) KtsTurn.refl (by assumption) (by assumption) (read_end (by assumption) (by assumption))

set_option maxHeartbeats 8000000 in
theorem read_two {w : World} {mean : ExcName → Option Value} {mg mb : Str → Option Value} (r : Str) (t : Tok) (x : Nat) (wd : Str) (hS : Shape r (x :: x :: x :: (cs wd ++ [x, x]))) (hx : x ∉ cs wd) (hr : r.length ≤ 100) :
    SaysL w mean mg mb 114 3 [.str r t] (StrRet r) := by
  have e7 := split_two hx
  have e1 := shape_head hS
  have e2 := shape_left hS
  have e3 := shape_right hS
  have e4 := shape_first hS rfl
  have e5 := shape_last hS (z := x) (by simp)
  have e6 := shape_cut hS
  have hl := shape_len hS
  have hn : 4 ≤ (x :: x :: x :: (cs wd ++ [x, x])).length := by simp
  generalize hN : (x :: x :: x :: (cs wd ++ [x, x])).length = n at *
  clear hN hS
  w_top off
  unfold SaysL
  k_fill
  intro dp un gd cn csc ad ccd A₀ base h₀ L m s Q E B F X T XB TB hk hd hu hret
  have mkR : MarkR := ⟨⟩
  k_with_none
  k_dflt cell_enter
  (rename Fr _ _ _ (fun y => List.lookup y _) => F9)
  with_unfolding_all (change Fr _ _ _ (fun y => List.lookup y [(Str.ofString "reply", Value.str r t)]) at F9)
  k_steps
  unfold Stop
  k_dflt ktr_enter
  (rename Fr _ _ _ (fun y => List.lookup y _) => F8)
  with_unfolding_all (change Fr _ _ _ (fun y => List.lookup y [(Str.ofString "peer", _), (Str.ofString "resp", Value.str r t)]) at F8)
  k_steps
  unfold Stop
  refine wpAny_If ?_
  k_steps
  · exfalso
    simp_all
  unfold Stop
  (rename Fr _ _ _ _ => F7)
  rw [e2] at F7
  refine wpAny_If ?_
  k_steps
  unfold Stop
  (rename Fr _ _ _ _ => F6)
  rw [e3] at F6
  refine wpAny_If ?_
  k_steps
  · exfalso
    omega
  unfold Stop
  refine wpAny_If ?_
  k_steps
  · exfalso
    rw [e4, e5] at *
    simp_all
  unfold Stop
  (rename _ = Txt.split _ _ => hM)
  rw [e6, e4, e7] at hM
  obtain ⟨t0, t1, t2, t3, t4, t5, eM⟩ := map6 hM
  subst eM
  (rename News _ _ _ _ => N5)
  simp only [strValues, List.map_cons, List.map_nil] at N5
  clear mkR
  refine wpAny_If ?_
  k_steps
  exact retS_end (Q := Q) (s := s) (cn := cn) (cs := csc) (a := ad) (ccd := ccd) hret (by assumption) (by assumption) (by assumption) (by assumption) ⟨_, rfl⟩

set_option maxHeartbeats 8000000 in
theorem read_other {w : World} {mean : ExcName → Option Value} {mg mb : Str → Option Value} (r : Str) (t : Tok) (x z : Nat) (body : List Nat) (hS : Shape r body) (hn : 2 ≤ body.length) (hx : body[0]? = some x) (hz : body[body.length - 1]? = some z) (hne : x ≠ z) (hr : r.length ≤ 100) :
    SaysL w mean mg mb 114 3 [.str r t] (StrRet r) := by
  have e1 := shape_head hS
  have e2 := shape_left hS
  have e3 := shape_right hS
  have e4 := shape_first hS hx
  have e5 := shape_last hS (z := z) hz
  have e6 := shape_cut hS
  have hl := shape_len hS
  generalize hN : body.length = n at *
  clear hN hS hz
  w_top off
  unfold SaysL
  k_fill
  intro dp un gd cn csc ad ccd A₀ base h₀ L m s Q E B F X T XB TB hk hd hu hret
  have mkR : MarkR := ⟨⟩
  k_with_none
  k_dflt cell_enter
  (rename Fr _ _ _ (fun y => List.lookup y _) => F9)
  with_unfolding_all (change Fr _ _ _ (fun y => List.lookup y [(Str.ofString "reply", Value.str r t)]) at F9)
  k_steps
  unfold Stop
  k_dflt ktr_enter
  (rename Fr _ _ _ (fun y => List.lookup y _) => F8)
  with_unfolding_all (change Fr _ _ _ (fun y => List.lookup y [(Str.ofString "peer", _), (Str.ofString "resp", Value.str r t)]) at F8)
  k_steps
  unfold Stop
  refine wpAny_If ?_
  k_steps
  · exfalso
    simp_all
  unfold Stop
  (rename Fr _ _ _ _ => F7)
  rw [e2] at F7
  refine wpAny_If ?_
  k_steps
  unfold Stop
  (rename Fr _ _ _ _ => F6)
  rw [e3] at F6
  refine wpAny_If ?_
  k_steps
  · exfalso
    omega
  unfold Stop
  clear mkR
  refine wpAny_If ?_
  k_steps
  · exact retS_end (Q := Q) (s := s) (cn := cn) (cs := csc) (a := ad) (ccd := ccd) hret (by assumption) (by assumption) (by assumption) (by assumption) ⟨_, rfl⟩
  · exfalso
    rw [e4, e5] at *
    simp_all
end
section
open PySem PySem.W PySem.Spec PySem.Calls PyProof.Rows
set_option maxRecDepth 100000
theorem news_new {h₀ h h' : Heap} {L D : Addr} {m : Str → Option Value} {o : Obj} {news : List (Addr × Obj)} (F : Fr h₀ L h m) (N : News h₀ L h' news) (hg : h'.get? D = some o) (hn : h.get? D = none) : News h₀ L h' ((D, o) :: news) := by
  intro p hp
  rcases List.mem_cons.mp hp with rfl | hp
  · refine ⟨hg, fun e => ?_, ?_⟩
    · obtain ⟨oL, _, _, hL, _⟩ := F.ns
      rw [← e, hn] at hL
      cases hL
    · cases q : h₀.get? D with
      | none => rfl
      | some o' => have := F.keep _ _ q; rw [hn] at this; cases this
  · exact N p hp
section
variable {w : World} {mean : ExcName → Option Value} {mg mb : Str → Option Value} {dp un : Nat} {gd : Option (List Code)} {cn : Str} {cs : Scope} {a : Addr} {ccd : Value} {cl : List (Str × Addr)} {outer : List Env} {A₀ : Around} {base h₀ : Heap} {L : Addr} {m : Str → Option Value} {s : Shared} {Q E : Value → Shared → Prop} {news : List (Addr × Obj)}
theorem call_fig {n : Int} {t : Tok} (B : Below A₀ base outer h₀) (F : Fr h₀ L s.heap m) (X : (hd.heap_39 w.params).In h₀) (N : News h₀ L s.heap news) (T : Top hd.view_39 (looseW hd.view_39 []) mean mg mb h₀) (hk : cs.kind = .function) (hd : dp + 1 < recursionLimit) (hu : un + 8 * 1 < cLine)
    (h : ∀ D wd p t1 t2 c h' tk', FigOk wd p → Fr h₀ L h' m → News h₀ L h' ((D, { cls := .type "tuple", data := .seq #[.str wd t1, .int p t2] c }) :: news) → Q (.ref D) { s with heap := h', toks := tk' }) :
    wpAny (model PySem.Challenge.rw_pe0085_01.row.prog w) (ktrTop dp un gd cn cs L a ccd cl outer) (call (.ref 79) [.int n t]) Q E s :=
  says_use (fig_says n t) B F X N T hk hd hu fun v h' tk' F' N' _ hr => by
    obtain ⟨D, wd, p, t1, t2, c, rfl, hg, hn, ok⟩ := hr
    exact h D wd p t1 t2 c h' tk' ok F' (news_new F N' hg hn)
theorem call_mov {x y : Str} {t u : Tok} (fx : Figs x) (fy : Figs y) (hx : x.length ≤ 4) (hy : y.length ≤ 4) (B : Below A₀ base outer h₀) (F : Fr h₀ L s.heap m) (X : (hd.heap_39 w.params).In h₀) (N : News h₀ L s.heap news) (T : Top hd.view_39 (looseW hd.view_39 []) mean mg mb h₀) (hk : cs.kind = .function) (hd : dp + 5 < recursionLimit) (hu : un + 8 * 5 < cLine)
    (h : ∀ k t h' tk', 2 * k = dist x y → Fr h₀ L h' m → News h₀ L h' news → Q (.int k t) { s with heap := h', toks := tk' }) :
    wpAny (model PySem.Challenge.rw_pe0085_01.row.prog w) (ktrTop dp un gd cn cs L a ccd cl outer) (call (.ref 93) [.str x t, .str y u]) Q E s :=
  says_use (moves_says 5 x y t u (by omega) (by omega) (by omega) fx fy) B F X N T hk hd hu fun v h' tk' F' N' _ hr => by
    obtain ⟨k, t, rfl, hx⟩ := hr
    exact h k t h' tk' hx F' N'
theorem call_lev {x y : Str} {t u v : Tok} {c : Int} (hx : x.length ≤ 40) (hy : y.length ≤ 40) (h0 : 0 ≤ c) (h1 : c ≤ 100) (B : Below A₀ base outer h₀) (F : Fr h₀ L s.heap m) (X : (hd.heap_39 w.params).In h₀) (N : News h₀ L s.heap news) (T : Top hd.view_39 (looseW hd.view_39 []) mean mg mb h₀) (hk : cs.kind = .function) (hd : dp + 2 < recursionLimit) (hu : un + 8 * 2 < cLine)
    (h : ∀ k t h' tk', (k = dist x y ∨ (c < dist x y ∧ k = c + 1)) → Fr h₀ L h' m → News h₀ L h' news → Q (.int k t) { s with heap := h', toks := tk' }) :
    wpAny (model PySem.Challenge.rw_pe0085_01.row.prog w) (ktrTop dp un gd cn cs L a ccd cl outer) (call (.ref 72) [.str x t, .str y u, .int c v]) Q E s :=
  says_use (lev_says x y c t u v hx hy h0 h1) B F X N T hk hd hu fun v h' tk' F' N' _ hr => by
    obtain ⟨k, t, rfl, hx⟩ := hr
    exact h k t h' tk' hx F' N'
theorem keeps_news {h h' : Heap} (N : News h₀ L h news) (S : ∀ b o, b ≠ L → h.get? b = some o → h'.get? b = some o) : News h₀ L h' news :=
  fun p hp => ⟨S _ _ (N p hp).2.1 (N p hp).1, (N p hp).2⟩
theorem call_read_ok {r : Str} {t : Tok} {p : Int} (C : SaysL w mean mg mb 114 3 [.str r t] (ReadOk p)) (B : Below A₀ base [] h₀) (F : Fr h₀ L s.heap m) (X : (hd.heap_39 w.params).In h₀) (N : News h₀ L s.heap news) (T : Top hd.view_39 (looseW hd.view_39 []) mean mg mb h₀) (XB : (hd.heap_39 w.params).In base) (TB : Top hd.view_39 (looseW hd.view_39 []) mean mg mb base) (hk : cs.kind = .function) (hd : dp + 3 < recursionLimit) (hu : un + 8 * 3 < cLine)
    (h : ∀ D t1 t2 c h' tk', Fr h₀ L h' m → News h₀ L h' ((D, { cls := .type "tuple", data := .seq #[.str (Str.ofString "h") t1, .int p t2] c }) :: news) → Q (.ref D) { s with heap := h', toks := tk' }) :
    wpAny (model PySem.Challenge.rw_pe0085_01.row.prog w) { handled := none, depth := dp, frames := some [envOf cn cs L a ccd], guards := gd, units := un } (call (.ref 114) [.str r t]) Q E s :=
  C _ _ _ _ _ _ _ _ _ _ _ _ _ _ _ B F X T XB TB hk hd hu fun v h' tk' F' S hr => by
    obtain ⟨D, t1, t2, c, rfl, hg, hn⟩ := hr
    exact h D t1 t2 c h' tk' F' (news_new F (keeps_news N S) hg hn)
theorem call_read_no {r : Str} {t : Tok} (C : SaysL w mean mg mb 114 3 [.str r t] (StrRet r)) (B : Below A₀ base [] h₀) (F : Fr h₀ L s.heap m) (X : (hd.heap_39 w.params).In h₀) (N : News h₀ L s.heap news) (T : Top hd.view_39 (looseW hd.view_39 []) mean mg mb h₀) (XB : (hd.heap_39 w.params).In base) (TB : Top hd.view_39 (looseW hd.view_39 []) mean mg mb base) (hk : cs.kind = .function) (hd : dp + 3 < recursionLimit) (hu : un + 8 * 3 < cLine)
    (h : ∀ t h' tk', Fr h₀ L h' m → News h₀ L h' news → Q (.str r t) { s with heap := h', toks := tk' }) :
    wpAny (model PySem.Challenge.rw_pe0085_01.row.prog w) { handled := none, depth := dp, frames := some [envOf cn cs L a ccd], guards := gd, units := un } (call (.ref 114) [.str r t]) Q E s :=
  C _ _ _ _ _ _ _ _ _ _ _ _ _ _ _ B F X T XB TB hk hd hu fun v h' tk' F' S hr => by
    obtain ⟨t, rfl⟩ := hr
    exact h t h' tk' F' (keeps_news N S)
end
/-- a loop over a range that keeps nothing of its own -/
theorem plain_range {prog : Program} {w : World} {A : Around} {E : Value → Shared → Prop} {s : Shared} {env : Env} {h₀ : Heap} {x : Str} {body : List Stmt} {Q : Flow → Shared → Prop} {r : Addr} {a₀ b₀ : Int} {t₀ u₀ v₀ : Tok} {n : Nat} {m₀ : Str → Option Value} {news : List (Addr × Obj)} (stored : List Str)
    (hh : A.handled = none) (hr : IsRange s.heap r a₀ b₀ 1 t₀ u₀ v₀) (hsmall : Builtin.Range.small a₀ b₀ 1 = true) (hn : Builtin.Range.rangeSize a₀ b₀ 1 = (n : Int)) (F : Fr h₀ env.locals s.heap m₀) (N : News h₀ env.locals s.heap news)
    (turn : ∀ (pre : List Int) (k : Int) t (u : Str → Option Value) h tk own, a₀ ≤ k → k < a₀ + n → OwnOff own (news.map (·.1)) →
      Fr h₀ env.locals h (fun y => if y = x then some (.int k t) else if stored.contains y then u y else m₀ y) → News h₀ env.locals h (news ++ own) →
      wpAny (model prog w) A (execs body env) (InvPostN h₀ env.locals (KstS (fun _ : Unit => news) (fun _ => []) (fun _ => True) x stored m₀ (fun _ _ => True) (pre ++ [k])) own (news.map (·.1)) { s with heap := h, toks := tk } Q) E { s with heap := h, toks := tk })
    (done : ∀ (u : Str → Option Value) h tk, Fr h₀ env.locals h (fun y => if y = x then u y else if stored.contains y then u y else m₀ y) → News h₀ env.locals h news → Q .next { s with heap := h, toks := tk }) :
    wpAny (model prog w) A (pyIter (.ref r)) (fun it s₂ => LoopAtV prog w A h₀ env x body Q E it s₂) E s :=
  kst_range (fun _ : Unit => news) (fun _ => []) (fun _ => True) stored (fun _ _ => True) () hh hr hsmall hn F N trivial (fun _ hp => nomatch hp) trivial
    (fun _ pre k t u h tk own e hl ho _ _ F' N' => turn pre k t u h tk own (by omega) (by omega) ho F' N')
    (fun _ u h tk _ _ F' N' => done u h tk F' N')
end
section
open PySem PySem.W PySem.Spec PySem.Calls PyProof.Rows
set_option maxRecDepth 100000
/-- the marks' codes -/
def markC : List Nat := [124, 92, 120, 88, 121]
theorem mark_all : ∀ d : Fin 5, ∃ c ∈ markC, Txt.item (Str.ofString "|\\xXy") ((d.val : Nat) : Int) = ⟨#[c]⟩ := by decide +kernel
theorem mark_gen {n : Int} (_ : (Txt.item (Str.ofString "|\\xXy") (n.fmod 5)).length = 1) : ∃ c ∈ markC, Txt.item (Str.ofString "|\\xXy") (n.fmod 5) = ⟨#[c]⟩ := by
  have h1 := fmod_lo n (show (0 : Int) < 5 by decide)
  have h2 := fmod_hi n (show (0 : Int) < 5 by decide)
  have h := mark_all ⟨(n.fmod 5).toNat, by omega⟩
  have h3 : (((n.fmod 5).toNat : Nat) : Int) = n.fmod 5 := by omega
  simp only [h3] at h
  exact h
theorem mark_in : ∀ c ∈ markC, (⟨#[c]⟩ : Str) ∈ markL := by decide +kernel
theorem mark_fig : ∀ c ∈ markC, ∀ d ∈ List.range' 48 10, scN c d = 2 := by decide +kernel
theorem mark_same : ∀ c ∈ markC, ∀ d ∈ markC, scN c d = 0 → c = d := by decide +kernel
theorem mark_41 : ∀ c ∈ markC, c ≠ 41 ∧ ¬ (48 ≤ c ∧ c ≤ 57) := by decide +kernel
/-- the whole replies' distance -/
theorem dist_reply {m o : Nat} (hm : m ∈ markC) (ho : o ∈ markC) {wd fg A B : Str} (fw : Figs wd) (ff : Figs fg) (hA : cs A = headL ++ (([m, m, m] ++ (cs wd ++ [m])) ++ tailL)) (hB : cs B = headL ++ (([o, o, o] ++ (cs fg ++ [o])) ++ tailL)) :
    dist A B = 4 * scN m o + dist wd fg := by
  have fig : ∀ {x : Nat} {c : Nat}, x ∈ markC → 48 ≤ c ∧ c ≤ 57 → scN x c = 2 := fun hx hc => mark_fig _ hx _ (by rw [List.mem_range'_1]; omega)
  have le2 := scN_le m o
  unfold dist
  rw [hA, hB, ed_pre scN_self scN_ge, ed_post scN_self scN_ge]
  have hx1 : ∀ x ∈ cs wd ++ [m], scN m o ≤ scN x o := fun x hx => by
    rcases List.mem_append.mp hx with q | q
    · rw [scN_swap x o, fig ho (fw x q)]; exact le2
    · rw [List.mem_singleton.mp q]; exact Int.le_refl _
  have hy1 : ∀ y ∈ cs fg ++ [o], scN m o ≤ scN m y := fun y hy => by
    rcases List.mem_append.mp hy with q | q
    · rw [fig hm (ff y q)]; exact le2
    · rw [List.mem_singleton.mp q]; exact Int.le_refl _
  have hx2 : ∀ x ∈ m :: (cs wd ++ [m]), scN m o ≤ scN x o := fun x hx => by
    rcases List.mem_cons.mp hx with q | q
    · rw [q]; exact Int.le_refl _
    · exact hx1 x q
  have hy2 : ∀ y ∈ o :: (cs fg ++ [o]), scN m o ≤ scN m y := fun y hy => by
    rcases List.mem_cons.mp hy with q | q
    · rw [q]; exact Int.le_refl _
    · exact hy1 y q
  have hx3 : ∀ x ∈ m :: m :: (cs wd ++ [m]), scN m o ≤ scN x o := fun x hx => by
    rcases List.mem_cons.mp hx with q | q
    · rw [q]; exact Int.le_refl _
    · exact hx2 x q
  have hy3 : ∀ y ∈ o :: o :: (cs fg ++ [o]), scN m o ≤ scN m y := fun y hy => by
    rcases List.mem_cons.mp hy with q | q
    · rw [q]; exact Int.le_refl _
    · exact hy2 y q
  show ed scN (m :: m :: m :: (cs wd ++ [m])) (o :: o :: o :: (cs fg ++ [o])) = _
  rw [ed_front le2 hx3 hy3, ed_front le2 hx2 hy2, ed_front le2 hx1 hy1, ed_back le2 (fun x hx => hx1 x (List.mem_append_left _ hx)) fun y hy => hy1 y (List.mem_append_left _ hy)]
  omega
theorem dist_figs {wd fg : Str} (hw : wd.length ≤ 4) (hf : fg.length ≤ 4) : 0 ≤ dist wd fg ∧ dist wd fg ≤ 8 := by
  have h := ed_most scN_le (cs wd) (cs fg)
  rw [cs_length, cs_length] at h
  have h1 := ed_ge_sizes scN_ge (cs wd) (cs fg)
  have h2 := ed_ge_sizes scN_ge (cs fg) (cs wd)
  rw [ed_swap scN_swap] at h2
  rw [cs_length, cs_length] at h1 h2
  unfold dist
  omega
section
variable {prog : Program} {w : World} {A : Around} {E : Value → Shared → Prop} {s : Shared} {c : Nat} {t u : Tok} {n : Int} {Q : Value → Shared → Prop}
theorem mul_any {k : Nat} (hn : n = (k : Int)) (hk : k ≤ 8) (h : ∀ t' tk, Q (.str (Txt.mul ⟨#[c]⟩ n) t') { s with toks := tk }) : wpAny (model prog w) A (binaryOp .Mult (.str ⟨#[c]⟩ t) (.int n u)) Q E s := by
  have hl : (⟨#[c]⟩ : Str).length = 1 := rfl
  exact SB.mul (mulOk_of 16 1048576 (by omega) (by omega) (by omega) (by decide) (by decide)) h
theorem mul_c0 (hn : n = 0) (h : ∀ t' tk, Q (.str ⟨#[]⟩ t') { s with toks := tk }) : wpAny (model prog w) A (binaryOp .Mult (.str ⟨#[c]⟩ t) (.int n u)) Q E s := by subst hn; exact mul_any (k := 0) rfl (by omega) h
theorem mul_c1 (hn : n = 1) (h : ∀ t' tk, Q (.str ⟨#[c]⟩ t') { s with toks := tk }) : wpAny (model prog w) A (binaryOp .Mult (.str ⟨#[c]⟩ t) (.int n u)) Q E s := by subst hn; exact mul_any (k := 1) rfl (by omega) h
theorem mul_c2 (hn : n = 2) (h : ∀ t' tk, Q (.str ⟨#[c, c]⟩ t') { s with toks := tk }) : wpAny (model prog w) A (binaryOp .Mult (.str ⟨#[c]⟩ t) (.int n u)) Q E s := by subst hn; exact mul_any (k := 2) rfl (by omega) h
theorem mul_c3 (hn : n = 3) (h : ∀ t' tk, Q (.str ⟨#[c, c, c]⟩ t') { s with toks := tk }) : wpAny (model prog w) A (binaryOp .Mult (.str ⟨#[c]⟩ t) (.int n u)) Q E s := by subst hn; exact mul_any (k := 3) rfl (by omega) h
theorem mul_c4 (hn : n = 4) (h : ∀ t' tk, Q (.str ⟨#[c, c, c, c]⟩ t') { s with toks := tk }) : wpAny (model prog w) A (binaryOp .Mult (.str ⟨#[c]⟩ t) (.int n u)) Q E s := by subst hn; exact mul_any (k := 4) rfl (by omega) h
end
/-- behind a statement that changes nothing -/
def CutSame (g : Heap) (L : Addr) (m : Str → Option Value) (news : List (Addr × Obj)) (s : Shared) (fl : Flow) (s' : Shared) : Prop :=
  fl = .next ∧ ∃ h' tk, s' = { s with heap := h', toks := tk } ∧ Fr g L h' m ∧ News g L h' news
theorem cutSame_end {g h' : Heap} {L : Addr} {m : Str → Option Value} {news : List (Addr × Obj)} {s : Shared} {tk : Nat} (F : Fr g L h' m) (N : News g L h' news) : CutSame g L m news s .next { s with heap := h', toks := tk } := ⟨rfl, h', tk, rfl, F, N⟩
theorem cut_same {M : Model} {A : Around} {E : Value → Shared → Prop} {s : Shared} {env : Env} {st : Stmt} {Q : Flow → Shared → Prop} {g : Heap} {L : Addr} {m : Str → Option Value} {news : List (Addr × Obj)} (_F : Fr g L s.heap m) (_N : News g L s.heap news)
    (h1 : wpAny M A (exec st env) (CutSame g L m news s) E s)
    (h2 : ∀ h' tk, Fr g L h' m → News g L h' news → Q .next { s with heap := h', toks := tk }) : wpAny M A (exec st env) Q E s :=
  wpAny_mono h1 (fun fl s' h => by
    obtain ⟨e, h', tk, e2, F', N'⟩ := h
    subst e; subst e2
    exact h2 h' tk F' N') fun _ _ h => h
theorem figs_41 {w : Str} (h : Figs w) : 41 ∉ cs w := fun q => by have := h 41 q; omega
theorem shape_of {a w b : Str} {la lb : List Nat} (ha : cs a = la) (hb : cs b = lb) (fw : Figs w) (h1 : 41 ∉ la) (h2 : 41 ∉ lb) (hne : la ≠ []) : Shape (Str.ofString "229 on) (" ++ a ++ w ++ b ++ Str.ofString ") ok)") (la ++ (cs w ++ lb)) := by
  refine ⟨?_, ?_, ?_⟩
  · rw [cs_append, cs_append, cs_append, cs_append, head_is, tail_is, ha, hb]
    simp only [List.append_assoc]
  · simp only [List.mem_append, not_or]
    exact ⟨h1, figs_41 fw, h2⟩
  · simp [hne]
theorem reply_cs {a w b : Str} {la lb : List Nat} (ha : cs a = la) (hb : cs b = lb) : cs (Str.ofString "229 on) (" ++ a ++ w ++ b ++ Str.ofString ") ok)") = headL ++ ((la ++ (cs w ++ lb)) ++ tailL) := by
  rw [cs_append, cs_append, cs_append, cs_append, head_is, tail_is, ha, hb]
  simp only [List.append_assoc]
theorem reply_len {a w b : Str} (ha : a.length ≤ 4) (hw : w.length ≤ 4) (hb : b.length ≤ 4) : (Str.ofString "229 on) (" ++ a ++ w ++ b ++ Str.ofString ") ok)").length ≤ 40 := by
  rw [Str.length_append, Str.length_append, Str.length_append, Str.length_append, show (Str.ofString "229 on) (").length = 9 by decide, show (Str.ofString ") ok)").length = 5 by decide]
  omega
theorem mark_out {c : Nat} (h : c ∈ markC) {w : Str} (fw : Figs w) : c ∉ cs w := fun q => (mark_41 c h).2 (fw c q)
theorem marks_cut {x : Str} {a b c d : Nat} (h : cs x = [a, b, c, d]) : cs (Txt.slice x none (some 3)) = [a, b, c] ∧ cs (Txt.item x 3) = [d] := by
  have hl : x.length = 4 := by rw [← cs_length, h]; rfl
  constructor
  · rw [slice_to_cs (by omega) (by omega), h]; rfl
  · obtain ⟨e, e1, e2⟩ := item_cs (x := x) (i := 3) (by omega) (by omega)
    rw [h] at e1
    rw [e2]
    exact congrArg (fun y => [y]) (Option.some.inj e1.symm)
theorem cs_len_le {x : Str} {l : List Nat} {n : Nat} (h : cs x = l) (hl : l.length ≤ n) : x.length ≤ n := by rw [← cs_length, h]; exact hl
section
variable {w : World} {mean : ExcName → Option Value} {mg mb : Str → Option Value}
theorem last_is (l : List Nat) (z : Nat) : (l ++ [z])[(l ++ [z]).length - 1]? = some z := by simp
theorem rd_ok {a wd b : Str} {t : Tok} {c : Nat} {p : Int} (hc : c ∈ markC) (ok : FigOk wd p) (ha : cs a = [c, c, c]) (hb : cs b = [c]) : SaysL w mean mg mb 114 3 [.str (Str.ofString "229 on) (" ++ a ++ wd ++ b ++ Str.ofString ") ok)") t] (ReadOk p) :=
  have h41 : 41 ≠ c := (mark_41 c hc).1.symm
  read_ok _ t c wd p (shape_of (la := [c, c, c]) (lb := [c]) ha hb ok.1 (by simp [h41]) (by simp [h41]) (by simp)) (mark_out hc ok.1) ok
    (Nat.le_trans (reply_len (cs_len_le ha (by simp)) ok.2.2.1 (cs_len_le hb (by simp))) (by omega))
theorem rd_two {a wd b : Str} {t : Tok} {c : Nat} (hc : c ∈ markC) (fw : Figs wd) (lw : wd.length ≤ 4) (ha : cs a = [c, c, c]) (hb : cs b = [c, c]) : SaysL w mean mg mb 114 3 [.str (Str.ofString "229 on) (" ++ a ++ wd ++ b ++ Str.ofString ") ok)") t] (StrRet (Str.ofString "229 on) (" ++ a ++ wd ++ b ++ Str.ofString ") ok)")) :=
  have h41 : 41 ≠ c := (mark_41 c hc).1.symm
  read_two _ t c wd (shape_of (la := [c, c, c]) (lb := [c, c]) ha hb fw (by simp [h41]) (by simp [h41]) (by simp)) (mark_out hc fw)
    (Nat.le_trans (reply_len (cs_len_le ha (by simp)) lw (cs_len_le hb (by simp))) (by omega))
theorem rd_other {a wd b : Str} {t : Tok} {x y v z : Nat} {lb : List Nat} (hx : x ≠ 41) (hy : y ≠ 41) (hv : v ≠ 41) (hz : z ≠ 41) (hl : 41 ∉ lb) (hn : lb.length ≤ 3) (fw : Figs wd) (lw : wd.length ≤ 4) (ha : cs a = [x, y, v]) (hb : cs b = lb ++ [z]) (hne : x ≠ z) :
    SaysL w mean mg mb 114 3 [.str (Str.ofString "229 on) (" ++ a ++ wd ++ b ++ Str.ofString ") ok)") t] (StrRet (Str.ofString "229 on) (" ++ a ++ wd ++ b ++ Str.ofString ") ok)")) := by
  have hS := shape_of (la := [x, y, v]) (lb := lb ++ [z]) ha hb fw (by simp [hx.symm, hy.symm, hv.symm]) (by simp [hl, hz.symm]) (by simp)
  refine read_other _ t x z _ hS (by simp) rfl ?_ hne (Nat.le_trans (reply_len (cs_len_le ha (by simp)) lw (cs_len_le hb (by simp; omega))) (by omega))
  rw [show [x, y, v] ++ (cs wd ++ (lb ++ [z])) = ([x, y, v] ++ (cs wd ++ lb)) ++ [z] by simp only [List.append_assoc]]
  exact last_is _ _
theorem fig_first {wd : Str} (fw : Figs wd) (h1 : 1 ≤ wd.length) : ∃ d, (48 ≤ d ∧ d ≤ 57) ∧ cs (Txt.item wd 0) = [d] := by
  obtain ⟨d, d1, d2⟩ := item_cs (x := wd) (i := 0) (by omega) (by omega)
  exact ⟨d, fw d (List.mem_of_getElem? d1), by rw [d2]⟩
end
/-! a loop over a made list that keeps nothing of its own -/
def ListEnd (h₀ : Heap) (L : Addr) (x : Str) (stored : List Str) (m₀ : Str → Option Value) (I : Addr) (it : Obj) (news : List (Addr × Obj)) (s₁ s₂ : Shared) : Prop :=
  ∃ h' tk m', s₂ = { s₁ with heap := h', toks := tk } ∧ Fr h₀ L h' m' ∧ News h₀ L h' ((I, it) :: news) ∧ ∀ z, z ≠ x → stored.contains z = false → m' z = m₀ z
def ListPost (h₀ : Heap) (L : Addr) (x : Str) (stored : List Str) (m₀ : Str → Option Value) (I : Addr) (it : Obj) (news : List (Addr × Obj)) (s₁ : Shared) (Q : Flow → Shared → Prop) (f : Flow) (s₂ : Shared) : Prop :=
  match f with
  | .ret v => Q (.ret v) s₂
  | .brk => Q .next s₂
  | _ => ListEnd h₀ L x stored m₀ I it news s₁ s₂
theorem listEnd_ {h₀ h' : Heap} {L I : Addr} {x : Str} {stored : List Str} {m₀ m' : Str → Option Value} {it : Obj} {news all : List (Addr × Obj)} {s₁ : Shared} {tk : Nat} (F : Fr h₀ L h' m') (N : News h₀ L h' all) (hs : ∀ p ∈ (I, it) :: news, p ∈ all) (hm : ∀ z, z ≠ x → stored.contains z = false → m' z = m₀ z) :
    ListEnd h₀ L x stored m₀ I it news s₁ { s₁ with heap := h', toks := tk } := ⟨h', tk, m', rfl, F, fun p hp => N p (hs p hp), hm⟩
section
variable {prog : Program} {w : World} {A : Around} {E : Value → Shared → Prop} {s : Shared} {env : Env} {h₀ : Heap} {x : Str} {body : List Stmt} {Q : Flow → Shared → Prop}
theorem list_rest {stored : List Str} {m₀ : Str → Option Value} {news : List (Addr × Obj)} {I : Addr} {lp : Addr × Obj} (hlp : lp ∈ news) (hI : ∀ p ∈ news, p.1 < I) : ∀ (vs : List Value),
    (∀ v ∈ vs, ∀ (u : Str → Option Value) it h tk, Fr h₀ env.locals h (fun y => if y = x then some v else if stored.contains y then u y else m₀ y) → News h₀ env.locals h ((I, it) :: news) →
      wpAny (model prog w) A (execs body env) (ListPost h₀ env.locals x stored m₀ I it news { s with heap := h, toks := tk } Q) E { s with heap := h, toks := tk }) →
    (∀ (u : Str → Option Value) h tk, Fr h₀ env.locals h (fun y => if y = x then u y else if stored.contains y then u y else m₀ y) → News h₀ env.locals h news → Q .next { s with heap := h, toks := tk }) →
    ∀ m : Str → Option Value, (∀ z, z ≠ x → stored.contains z = false → m z = m₀ z) → ListRest prog w A E h₀ env x body Q s I lp vs m news := by
  intro vs
  induction vs with
  | nil =>
    intro _ done m hm
    refine ListRest.zero fun h tk F N => done m h tk ?_ N
    have e : (fun y => if y = x then m y else if stored.contains y then m y else m₀ y) = m := by
      funext y
      by_cases h1 : y = x
      · rw [if_pos h1]
      · rw [if_neg h1]
        cases h2 : stored.contains y with
        | true => simp
        | false => simp only [Bool.false_eq_true, if_false]; exact (hm y h1 h2).symm
    rw [e]
    exact F
  | cons v vs ih =>
    intro turn done m hm
    refine ListRest.succ fun it h tk _ F N => ?_
    have e : (fun y => if y = x then some v else if stored.contains y then m y else m₀ y) = fun y => if y = x then some v else m y := by
      funext y
      by_cases h1 : y = x
      · rw [if_pos h1, if_pos h1]
      · rw [if_neg h1, if_neg h1]
        cases h2 : stored.contains y with
        | true => simp
        | false => simp only [Bool.false_eq_true, if_false]; exact (hm y h1 h2).symm
    refine wpAny_mono (turn v (.head _) m it h tk (e ▸ F) N) (fun f s₂ p => ?_) fun _ _ q => q
    have fin : ListEnd h₀ env.locals x stored m₀ I it news { s with heap := h, toks := tk } s₂ →
        UnrEnd h₀ env.locals { s with heap := h, toks := tk } I it (fun m' n' => lp ∈ n' ∧ ListRest prog w A E h₀ env x body Q s I lp vs m' n') s₂ := by
      rintro ⟨h', tk', m', rfl, F', N', hm'⟩
      exact ⟨h', tk', m', news, rfl, F', N', fun p hp => Nat.ne_of_lt (hI p hp), hlp, ih (fun v hv => turn v (.tail _ hv)) done m' hm'⟩
    cases f with
    | ret v => exact p
    | brk => exact p
    | next => exact fin p
    | cont => exact fin p
theorem list_loop {ax : Addr} {lo : Obj} {vs : List Value} {n : Nat} {m₀ : Str → Option Value} {news : List (Addr × Obj)} (stored : List Str)
    (hh : A.handled = none) (F : Fr h₀ env.locals s.heap m₀) (N : News h₀ env.locals s.heap news) (hm : (ax, lo) ∈ news) (hc : lo.cls = .type "list") (hd : lo.data = .seq vs.toArray n)
    (turn : ∀ v ∈ vs, ∀ (u : Str → Option Value) I it h tk, Fr h₀ env.locals h (fun y => if y = x then some v else if stored.contains y then u y else m₀ y) → News h₀ env.locals h ((I, it) :: news) →
      wpAny (model prog w) A (execs body env) (ListPost h₀ env.locals x stored m₀ I it news { s with heap := h, toks := tk } Q) E { s with heap := h, toks := tk })
    (done : ∀ (u : Str → Option Value) h tk, Fr h₀ env.locals h (fun y => if y = x then u y else if stored.contains y then u y else m₀ y) → News h₀ env.locals h news → Q .next { s with heap := h, toks := tk }) :
    wpAny (model prog w) A (pyIter (.ref ax)) (fun it s₂ => LoopAtV prog w A h₀ env x body Q E it s₂) E s :=
  iter_listUnr hh F N hm hc hd fun I hI => list_rest hm hI vs (fun v hv u it h tk => turn v hv u I it h tk) done m₀ fun _ _ _ => rfl
end
theorem mul_all (c : Nat) : ∀ d : Fin 5, cs (Txt.mul ⟨#[c]⟩ ((d.val : Nat) : Int)) = List.replicate d.val c
  | ⟨0, _⟩ => rfl
  | ⟨1, _⟩ => rfl
  | ⟨2, _⟩ => rfl
  | ⟨3, _⟩ => rfl
  | ⟨4, _⟩ => rfl
theorem mul_sym {prog : Program} {w : World} {A : Around} {E : Value → Shared → Prop} {s : Shared} {c : Nat} {t u : Tok} {n : Int} {Q : Value → Shared → Prop} (h0 : 0 ≤ n) (h4 : n ≤ 4)
    (h : ∀ x t' tk, cs x = List.replicate n.toNat c → (x.length : Int) = n → Q (.str x t') { s with toks := tk }) : wpAny (model prog w) A (binaryOp .Mult (.str ⟨#[c]⟩ t) (.int n u)) Q E s := by
  refine mul_any (k := n.toNat) (by omega) (by omega) fun t' tk => ?_
  have e := mul_all c ⟨n.toNat, by omega⟩
  have e2 : ((n.toNat : Nat) : Int) = n := by omega
  simp only [e2] at e
  refine h _ t' tk e ?_
  have := congrArg List.length e
  rw [cs_length, List.length_replicate] at this
  omega
theorem marks_of {x1 x2 : Str} {oc mc : Nat} {k : Int} (h1 : cs x1 = List.replicate k.toNat oc) (h2 : cs x2 = List.replicate (4 - k).toNat mc) (h0 : 0 ≤ k) (h4 : k ≤ 4) :
    (oc = mc → cs (x1 ++ x2) = [mc, mc, mc, mc]) ∧ (k = 0 → cs (x1 ++ x2) = [mc, mc, mc, mc]) ∧ (k = 4 → cs (x1 ++ x2) = [oc, oc, oc, oc]) ∧
      (k ≠ 0 → k ≠ 4 → ∃ y v, cs (x1 ++ x2) = [oc, y, v, mc] ∧ (y = oc ∨ y = mc) ∧ (v = oc ∨ v = mc)) := by
  rw [cs_append, h1, h2]
  have hk : k = 0 ∨ k = 1 ∨ k = 2 ∨ k = 3 ∨ k = 4 := by omega
  rcases hk with q | q | q | q | q <;> subst q
  · exact ⟨fun _ => rfl, fun _ => rfl, fun q => by omega, fun q => absurd rfl q⟩
  · exact ⟨fun q => by rw [q]; rfl, fun q => by omega, fun q => by omega, fun _ _ => ⟨mc, mc, rfl, .inr rfl, .inr rfl⟩⟩
  · exact ⟨fun q => by rw [q]; rfl, fun q => by omega, fun q => by omega, fun _ _ => ⟨oc, mc, rfl, .inl rfl, .inr rfl⟩⟩
  · exact ⟨fun q => by rw [q]; rfl, fun q => by omega, fun q => by omega, fun _ _ => ⟨oc, oc, rfl, .inl rfl, .inl rfl⟩⟩
  · exact ⟨fun q => by rw [q]; rfl, fun q => by omega, fun _ => rfl, fun _ q => absurd rfl q⟩
theorem in04 {k : Int} (h : ([0, 4].any fun x => x == k) = true) : k = 0 ∨ k = 4 := by
  simp at h
  omega
theorem out04 {k : Int} (h : ([0, 4].any fun x => x == k) = false) : k ≠ 0 ∧ k ≠ 4 := by
  simp at h
  omega
theorem marks_one {x1 x2 : Str} {oc mc : Nat} {k : Int} (hm : mc ∈ markC) (ho : oc ∈ markC) (h1 : cs x1 = List.replicate k.toNat oc) (h2 : cs x2 = List.replicate (4 - k).toNat mc) (h0 : 0 ≤ k) (h4 : k ≤ 4) (h : ([0, 4].any fun x => x == k) = true) :
    ∃ c ∈ markC, cs (x1 ++ x2) = [c, c, c, c] := by
  have M := marks_of h1 h2 h0 h4
  rcases in04 h with q | q
  · exact ⟨mc, hm, M.2.1 q⟩
  · exact ⟨oc, ho, M.2.2.1 q⟩
theorem marks_mid {x1 x2 : Str} {oc mc : Nat} {k : Int} (hm : mc ≠ 41) (ho : oc ≠ 41) (h1 : cs x1 = List.replicate k.toNat oc) (h2 : cs x2 = List.replicate (4 - k).toNat mc) (h0 : 0 ≤ k) (h4 : k ≤ 4) (h : ([0, 4].any fun x => x == k) = false) :
    ∃ y v, cs (x1 ++ x2) = [oc, y, v, mc] ∧ y ≠ 41 ∧ v ≠ 41 := by
  obtain ⟨y, v, e, hy, hv⟩ := (marks_of h1 h2 h0 h4).2.2.2 (out04 h).1 (out04 h).2
  refine ⟨y, v, e, ?_, ?_⟩
  · rcases hy with q | q <;> rw [q] <;> assumption
  · rcases hv with q | q <;> rw [q] <;> assumption
theorem cost_ne {mc oc : Nat} (h : subCost ⟨#[mc]⟩ ⟨#[oc]⟩ ≠ 0) : oc ≠ mc := fun q => h (by rw [q]; exact scN_self mc)
/-! the end of a turn, by hand -/
theorem plain_end {h₀ h' : Heap} {L : Addr} {x : Str} {stored : List Str} {m₀ m' : Str → Option Value} {news own all : List (Addr × Obj)} {pre : List Int} {s₁ : Shared} {tk : Nat}
    (F : Fr h₀ L h' m') (N : News h₀ L h' all) (hn : ∀ p ∈ news, p ∈ all) (ho : ∀ p ∈ own, p ∈ all) (hm : ∀ z, z ≠ x → stored.contains z = false → m' z = m₀ z) :
    InvEndN h₀ L (KstS (fun _ : Unit => news) (fun _ => []) (fun _ => True) x stored m₀ (fun _ _ => True) pre) own (news.map (·.1)) s₁ { s₁ with heap := h', toks := tk } :=
  kst_end () F N hn ho rfl trivial (fun _ hp => nomatch hp) (fun z h1 _ h3 => hm z h1 h3) trivial
theorem ne_st {stored : List Str} {z n : Str} (h : stored.contains z = false) (hn : stored.contains n = true) : ¬ z = n := fun e => by rw [e, hn] at h; cases h
theorem sub_st {stored inner : List Str} {z : Str} (h : stored.contains z = false) (hs : (inner.all fun n => stored.contains n) = true) : ¬ inner.contains z = true := fun e => by
  rw [List.all_eq_true] at hs
  have := hs z (by simpa using e)
  rw [this] at h
  cases h
theorem peel_st {stored : List Str} {z n : Str} {a b c : Option Value} (h : stored.contains z = false) (hn : stored.contains n = true) (k : b = c) : (if z = n then a else b) = c := by rw [if_neg (ne_st h hn)]; exact k
theorem peel_x {z n : Str} {a b c : Option Value} (h : z ≠ n) (k : b = c) : (if z = n then a else b) = c := by rw [if_neg h]; exact k
theorem peel_in {stored inner : List Str} {z : Str} {a b c : Option Value} (h : stored.contains z = false) (hs : (inner.all fun n => stored.contains n) = true) (k : b = c) : (if inner.contains z = true then a else b) = c := by rw [if_neg (sub_st h hs)]; exact k
end
section
open PySem PySem.W PySem.Spec PySem.Calls PyProof.Rows
set_option maxRecDepth 100000
structure MarkT : Prop where
local macro_rules | `(tactic| walk_at "call ref") => `(tactic| refine stop_here ?_)
local macro_rules | `(tactic| ktr_step) => `(tactic| ((case k1 => k_asm); (case k2 => k_asm); (case k3 => k_asm); (case k4 => k_asm); (case k5 => k_asm); (case k6 => first | exact rfl | assumption); (case k7 => ktr_room); (case k8 => ktr_units)))
local macro_rules | `(tactic| walk_at "call ref") => `(tactic| (k_here; (with_reducible show wpAny _ _ (call (Value.ref 65) [Value.str _ _, Value.str _ _]) _ _ _); k_dflt (refine' says_int (sub_says _ _ _ _ ?p1 ?p2) ?k1 ?k2 ?k3 ?k4 ?k5 ?k6 ?k7 ?k8 ?_; (case p1 => exact Nat.le_of_ble_eq_true rfl); (case p2 => exact Nat.le_of_ble_eq_true rfl); ktr_step; k_whole; intro t9 h9 tk9 F9 N9; (try dsimp only); (try k_sweep))))
local macro_rules | `(tactic| walk_at "call ref") => `(tactic| (k_here; (with_reducible show wpAny _ _ (call (Value.ref 86) [Value.str _ _, Value.str _ _]) _ _ _); k_dflt (refine' says_int (price_says _ _ _ _ ?p1 ?p2) ?k1 ?k2 ?k3 ?k4 ?k5 ?k6 ?k7 ?k8 ?_; (case p1 => assumption); (case p2 => assumption); ktr_step; k_whole; intro t9 h9 tk9 F9 N9; (try dsimp only); (try k_sweep))))
local macro_rules | `(tactic| walk_at "call ref") => `(tactic| (k_here; (with_reducible show wpAny _ _ (call (Value.ref 107) [Value.int _ _]) _ _ _); k_dflt (refine' says_bool (whole_says _ _) ?k1 ?k2 ?k3 ?k4 ?k5 ?k6 ?k7 ?k8 ?_; ktr_step; k_whole; intro h9 tk9 F9 N9; (try dsimp only); (try k_sweep))))
local macro_rules | `(tactic| walk_at "InvEndN") => `(tactic| refine stop_here ?_)
local macro_rules | `(tactic| walk_at "exec For Name Call cons nil") => `(tactic| (k_here; (with_reducible show wpAny _ _ (exec (Stmt.For (Expr.Name (Str.ofString "k") _) _ _ _ _) _) _ _ _); (rename Fr _ _ _ _ => lF'); (with_unfolding_all refine' For_invVF lF' ?k1 ?k2 ?_; (case k1 => exact rfl); (case k2 => exact rfl); k_whole)))
local macro_rules | `(tactic| walk_at "pyIter ref") => `(tactic| ((with_reducible show wpAny _ _ (pyIter (Value.ref _)) (fun it s₂ => LoopAtV _ _ _ _ _ (Str.ofString "k") _ _ _ it s₂) _ _); refine stop_here ?_))
local macro_rules | `(tactic| walk_at "binaryOp Mult str int") => `(tactic| ((with_reducible show wpAny _ _ (binaryOp _ (Value.str (Str.mk _) _) (Value.int _ _)) _ _ _); k_dflt (first | (refine mul_c3 (by decide) ?_) | (refine mul_c2 (by decide) ?_) | (refine mul_c1 (by decide) ?_) | (refine mul_c0 (by decide) ?_) | (refine mul_c4 (by decide) ?_)); intro t9 tk9))
local macro_rules | `(tactic| walk_at "call ref") => `(tactic| (k_here; (with_reducible show wpAny _ _ (call (Value.ref 100) [Value.str _ _, Value.str _ _, Value.str _ _]) _ _ _); k_dflt (refine' says_str (reply_says _ _ _ _ _ _ ?p1 ?p2 ?p3) ?k1 ?k2 ?k3 ?k4 ?k5 ?k6 ?k7 ?k8 ?_; (case p1 => first | omega | exact Nat.le_of_ble_eq_true rfl); (case p2 => first | omega | exact Nat.le_of_ble_eq_true rfl); (case p3 => first | omega | exact Nat.le_of_ble_eq_true rfl); ktr_step; k_whole; intro t9 h9 tk9 F9 N9; (try dsimp only); (try k_sweep))))
local macro_rules | `(tactic| walk_at "exec If") => `(tactic| ((with_reducible show wpAny _ _ (exec (Stmt.If (Expr.BoolOp BoolOp.And _ _) _ _ _) _) _ _ _); refine stop_here ?_))
local macro_rules | `(tactic| walk_at "exec For Name Call cons nil") => `(tactic| ((with_reducible show wpAny _ _ (exec (Stmt.For (Expr.Name (Str.ofString "turned") _) _ _ _ _) _) _ _ _); (rename MarkR => mk9); refine stop_here ?_))
local macro_rules | `(tactic| walk_at "pyIter ref") => `(tactic| ((with_reducible show wpAny _ _ (pyIter (Value.ref _)) (fun it s₂ => LoopAtV _ _ _ _ _ (Str.ofString "turned") _ _ _ it s₂) _ _); refine stop_here ?_))
local macro_rules | `(tactic| walk_at "pyIter ref") => `(tactic| ((with_reducible show wpAny _ _ (pyIter (Value.ref _)) (fun it s₂ => LoopAtV _ _ _ _ _ (Str.ofString "behind") _ _ _ it s₂) _ _); refine stop_here ?_))
local macro_rules | `(tactic| walk_at "ListPost") => `(tactic| refine stop_here ?_)
local macro_rules | `(tactic| walk_at "binaryOp Mult str int") => `(tactic| ((rename MarkT => mt9); (with_reducible show wpAny _ _ (binaryOp _ (Value.str (Str.mk _) _) (Value.int _ _)) _ _ _); k_dflt (refine mul_sym (by omega) (by omega) ?_); intro x9 t9 tk9 hc9 hl9))
set_option maxHeartbeats 12000000 in
theorem tt : PySem.Challenge.rw_pe0085_01.Holds := hd (by
  w_top off
  k_with_none
  k_go0
  (all_goals try k_fold)
  k_steps
  unfold Stop
  (rename Fr _ _ _ _ => lF')
  (rename News _ _ _ _ => lN')
  (rename IsRange _ _ _ _ _ _ _ _ => rgX)
  (with_unfolding_all refine' plain_range [Str.ofString "mark", Str.ofString "other", Str.ofString "written", Str.ofString "port", Str.ofString "figures", Str.ofString "last", Str.ofString "price", Str.ofString "far", Str.ofString "cost", Str.ofString "ahead", Str.ofString "reply", Str.ofString "full", Str.ofString "told", Str.ofString "behind", Str.ofString "spoilt", Str.ofString "turned", Str.ofString "marks", Str.ofString "between", Str.ofString "due"] (by rfl) (by exact rgX) (by first | exact small_one (by omega) (by omega) (by omega) (by omega) | exact small_one (by l_bnd) (by l_bnd) (by l_bnd) (by l_bnd)) (by exact rangeSize_nat _ _) lF' lN' ?turn ?done)
  case done =>
    intro u h tk F1 N1
    k_steps
  case turn =>
    intro pre k t u h tk own hk1 hk2 hoff F1 N1
    k_steps
    unfold Stop
    (with_reducible rename (Txt.item _ (Int.fmod (List.getD _ (Int.toNat (k - 1)) _) _)).length = 1 => hm1)
    (with_reducible rename (Txt.item _ (Int.fmod (List.getD _ (Int.toNat k) _) _)).length = 1 => ho1)
    obtain ⟨mc, hmc, em⟩ := mark_gen hm1
    obtain ⟨oc, hoc, eo⟩ := mark_gen ho1
    have hmL := mark_in mc hmc
    have hoL := mark_in oc hoc
    (rename Fr _ _ _ _ => F2)
    rw [em, eo] at F2
    clear F1 N1 hm1 ho1 em eo
    k_dflt (refine' call_fig ?k1 ?k2 ?k3 ?k4 ?k5 ?k6 ?k7 ?k8 ?_)
    ktr_step
    intro D1 wd p1 t11 t12 c1 h1 tk1 ok1 F3 N3
    k_steps
    unfold Stop
    k_dflt (refine' call_fig ?k1 ?k2 ?k3 ?k4 ?k5 ?k6 ?k7 ?k8 ?_)
    ktr_step
    intro D2 fg p2 t21 t22 c2 h2 tk2 ok2 F4 N4
    k_steps
    unfold Stop
    have fw := ok1.1
    have lw := ok1.2.2.1
    have lw1 := ok1.2.1
    have ff := ok2.1
    have lf := ok2.2.2.1
    have lf1 := ok2.2.1
    k_dflt (refine' call_mov fw ff lw lf ?k1 ?k2 ?k3 ?k4 ?k5 ?k6 ?k7 ?k8 ?_)
    ktr_step
    intro mv t31 h3 tk3 hmv F5 N5
    k_steps
    unfold Stop
    have hdf := dist_figs lw lf
    have hsl := subCost_le ⟨#[mc]⟩ ⟨#[oc]⟩
    have hsg := subCost_ge ⟨#[mc]⟩ ⟨#[oc]⟩
    have hdr := dist_reply hmc hoc fw ff (reply_cs (a := ⟨#[mc, mc, mc]⟩) (w := wd) (b := ⟨#[mc]⟩) rfl rfl) (reply_cs (a := ⟨#[oc, oc, oc]⟩) (w := fg) (b := ⟨#[oc]⟩) rfl rfl)
    have hdr2 : scN mc oc = subCost ⟨#[mc]⟩ ⟨#[oc]⟩ := rfl
    have la1 := reply_len (a := ⟨#[mc, mc, mc]⟩) (w := wd) (b := ⟨#[mc]⟩) (Nat.le_of_ble_eq_true rfl) lw (Nat.le_of_ble_eq_true rfl)
    have lr1 := reply_len (a := ⟨#[oc, oc, oc]⟩) (w := fg) (b := ⟨#[oc]⟩) (Nat.le_of_ble_eq_true rfl) lf (Nat.le_of_ble_eq_true rfl)
    k_dflt (refine' call_lev ?p1 ?p2 ?p3 ?p4 ?k1 ?k2 ?k3 ?k4 ?k5 ?k6 ?k7 ?k8 ?_)
    case p1 => exact la1
    case p2 => exact lr1
    case p3 => omega
    case p4 => omega
    ktr_step
    intro fu t41 h4 tk4 hfu F6 N6
    have efu : fu = 4 * subCost ⟨#[mc]⟩ ⟨#[oc]⟩ + 2 * mv := by omega
    subst efu
    clear hfu
    k_steps
    unfold Stop
    k_dflt (refine' call_lev ?p1 ?p2 ?p3 ?p4 ?k1 ?k2 ?k3 ?k4 ?k5 ?k6 ?k7 ?k8 ?_)
    case p1 => omega
    case p2 => omega
    case p3 => exact fmod_lo _ (by decide)
    case p4 => exact Int.le_trans (Int.le_of_lt (fmod_hi _ (by decide))) (by decide)
    ktr_step
    intro td t51 h5 tk5 htd F7 N7
    rw [dist_swap fg wd, ← hmv] at htd
    have mkR : MarkR := ⟨⟩
    k_steps
    unfold Stop
    refine' cut_same ?kf ?kn ?h1 ?h2
    case kf => k_asm
    case kn => k_asm
    case h1 =>
      refine wpAny_If ?_
      k_steps
      all_goals first | (exfalso; omega) | (refine' cutSame_end ?cf ?cn; (case cf => assumption); (case cn => assumption))
    case h2 =>
      intro h6 tk6 F8 N8
      k_steps
      unfold Stop
      have hm41 := (mark_41 mc hmc).1
      have ho41 := (mark_41 oc hoc).1
      k_dflt (refine' call_read_ok (rd_ok hoc ok2 rfl rfl) ?k1 ?k2 ?k3 ?k4 ?k5 ?xb ?tb ?k6 ?k7 ?k8 ?_)
      case xb => assumption
      case tb => assumption
      ktr_step
      intro D3 t61 t62 c3 h7 tk7 F10 N10
      k_steps
      unfold Stop
      obtain ⟨fd, hfd, hfd1⟩ := fig_first fw lw1
      (rename Fr _ _ _ _ => lF2)
      (rename News _ _ _ _ => lN2)
      (with_unfolding_all refine' list_loop [Str.ofString "spoilt"] (by rfl) lF2 lN2 (by k_mem) (by rfl) (by rfl) ?turn2 ?done2)
      case turn2 =>
        intro v hv u2 I2 it2 h8 tk8 F11 N11
        rcases List.mem_cons.mp hv with hv | hv
        · subst hv
          k_steps
          unfold Stop
          k_dflt (refine' call_read_no (rd_other (x := mc) (y := mc) (v := mc) (z := fd) (lb := [mc]) hm41 hm41 hm41 (by omega) (by simp [hm41.symm]) (by simp) fw lw rfl ?q1 ?q2) ?k1 ?k2 ?k3 ?k4 ?k5 ?xb ?tb ?k6 ?k7 ?k8 ?_)
          case q1 => rw [cs_append, hfd1]
          case q2 => exact fun q => (mark_41 mc hmc).2 (q ▸ hfd)
          case xb => assumption
          case tb => assumption
          ktr_step
          intro t71 h9 tk9 F12 N12
          k_steps
          all_goals first | (exfalso; (with_reducible rename (_ != _) = true => hq9); simp at hq9; done) | (unfold Stop; (refine' listEnd_ ?le1 ?le2 ?le3 ?le4; (case le1 => assumption); (case le2 => exact N12); (case le3 => exact fun p hp => hp); (case le4 => (intro z z1 z2; (simp only [List.contains_cons, List.contains_nil, Bool.or_false, beq_eq_false_iff_ne, ne_eq] at z2); (simp [z1, z2])))))
        · rw [List.mem_singleton.mp hv] at F11
          k_steps
          unfold Stop
          k_dflt (refine' call_read_no (rd_two hmc fw lw rfl rfl) ?k1 ?k2 ?k3 ?k4 ?k5 ?xb ?tb ?k6 ?k7 ?k8 ?_)
          case xb => assumption
          case tb => assumption
          ktr_step
          intro t71 h9 tk9 F12 N12
          k_steps
          all_goals first | (exfalso; (with_reducible rename (_ != _) = true => hq9); simp at hq9; done) | (unfold Stop; (refine' listEnd_ ?le1 ?le2 ?le3 ?le4; (case le1 => assumption); (case le2 => exact N12); (case le3 => exact fun p hp => hp); (case le4 => (intro z z1 z2; (simp only [List.contains_cons, List.contains_nil, Bool.or_false, beq_eq_false_iff_ne, ne_eq] at z2); (simp [z1, z2])))))
      case done2 =>
        intro u2 h8 tk8 F11 N11
        k_steps
        unfold Stop
        (rename Fr _ _ _ _ => lF3)
        (with_unfolding_all refine' For_invVF lF3 ?kq1 ?kq2 ?_; (case kq1 => exact rfl); (case kq2 => exact rfl))
        k_steps
        unfold Stop
        (rename Fr _ _ _ _ => lF4)
        (rename News _ _ _ _ => lN4)
        (rename IsRange _ _ _ _ _ _ _ _ => rgY)
        (with_unfolding_all refine' plain_range [Str.ofString "marks", Str.ofString "between", Str.ofString "due"] (by rfl) (by exact rgY) (by first | decide | exact small_one (by omega) (by omega) (by omega) (by omega)) (by exact rangeSize_nat _ _) lF4 lN4 ?turn3 ?done3)
        case done3 =>
          intro u3 h10 tk10 F13 N13
          k_steps
          unfold Stop
          (refine' plain_end ?pe1 ?pe2 ?pe3 ?pe4 ?pe5; (case pe1 => assumption); (case pe2 => assumption); (case pe3 => (intro p9 hp9; repeat (first | exact hp9 | exact List.mem_append_left _ hp9 | refine List.mem_cons_of_mem _ ?_))); (case pe4 => (intro p9 hp9; repeat (first | exact List.mem_append_right _ hp9 | refine List.mem_cons_of_mem _ ?_))); (case pe5 => (intro z9 z1 z2; (try dsimp only); repeat (first | (with_reducible rfl) | refine peel_st z2 (by decide) ?_ | refine peel_x z1 ?_ | refine peel_in z2 (by decide) ?_))))
        case turn3 =>
          intro pre3 k3 t81 u3 h10 tk10 own3 hk31 hk32 hoff3 F13 N13
          have hk34 : k3 ≤ 4 := by simp at hk32; omega
          have mkT : MarkT := ⟨⟩
          have hp0 : subCost ⟨#[mc]⟩ ⟨#[oc]⟩ = 0 → oc = mc := fun q => (mark_same mc hmc oc hoc q).symm
          k_steps
          · unfold Stop
            have eM := (marks_of (x1 := _) (x2 := _) (by assumption) (by assumption) hk31 hk34).1 (hp0 (by assumption))
            have eC := marks_cut eM
            k_dflt (refine' call_read_ok (rd_ok hmc ok1 eC.1 eC.2) ?k1 ?k2 ?k3 ?k4 ?k5 ?xb ?tb ?k6 ?k7 ?k8 ?_)
            case xb => assumption
            case tb => assumption
            ktr_step
            intro D4 t91 t92 c4 h11 tk11 F14 N14
            k_steps
            all_goals (unfold Stop; (refine' plain_end ?pe1 ?pe2 ?pe3 ?pe4 ?pe5; (case pe1 => assumption); (case pe2 => assumption); (case pe3 => (intro p9 hp9; repeat (first | exact hp9 | exact List.mem_append_left _ hp9 | refine List.mem_cons_of_mem _ ?_))); (case pe4 => (intro p9 hp9; repeat (first | exact List.mem_append_right _ hp9 | refine List.mem_cons_of_mem _ ?_))); (case pe5 => (intro z9 z1 z2; (try dsimp only); repeat (first | (with_reducible rfl) | refine peel_st z2 (by decide) ?_ | refine peel_x z1 ?_ | refine peel_in z2 (by decide) ?_)))))
          · unfold Stop
            obtain ⟨cc, hcc, eM⟩ := marks_one hmc hoc (by assumption) (by assumption) hk31 hk34 (by assumption)
            have eC := marks_cut eM
            k_dflt (refine' call_read_ok (rd_ok hcc ok1 eC.1 eC.2) ?k1 ?k2 ?k3 ?k4 ?k5 ?xb ?tb ?k6 ?k7 ?k8 ?_)
            case xb => assumption
            case tb => assumption
            ktr_step
            intro D4 t91 t92 c4 h11 tk11 F14 N14
            k_steps
            all_goals (unfold Stop; (refine' plain_end ?pe1 ?pe2 ?pe3 ?pe4 ?pe5; (case pe1 => assumption); (case pe2 => assumption); (case pe3 => (intro p9 hp9; repeat (first | exact hp9 | exact List.mem_append_left _ hp9 | refine List.mem_cons_of_mem _ ?_))); (case pe4 => (intro p9 hp9; repeat (first | exact List.mem_append_right _ hp9 | refine List.mem_cons_of_mem _ ?_))); (case pe5 => (intro z9 z1 z2; (try dsimp only); repeat (first | (with_reducible rfl) | refine peel_st z2 (by decide) ?_ | refine peel_x z1 ?_ | refine peel_in z2 (by decide) ?_)))))
          · unfold Stop
            obtain ⟨yc, vc, eM, hy41, hv41⟩ := marks_mid hm41 ho41 (by assumption) (by assumption) hk31 hk34 (by assumption)
            have eC := marks_cut eM
            have hne := cost_ne (mc := mc) (oc := oc) (by assumption)
            k_dflt (refine' call_read_no (rd_other (lb := []) ho41 hy41 hv41 hm41 (by simp) (by simp) fw lw eC.1 eC.2 hne) ?k1 ?k2 ?k3 ?k4 ?k5 ?xb ?tb ?k6 ?k7 ?k8 ?_)
            case xb => assumption
            case tb => assumption
            ktr_step
            intro t91 h11 tk11 F14 N14
            k_steps
            all_goals first | (exfalso; (with_reducible rename (_ != _) = true => hq9); simp at hq9; done) | (unfold Stop; (refine' plain_end ?pe1 ?pe2 ?pe3 ?pe4 ?pe5; (case pe1 => assumption); (case pe2 => assumption); (case pe3 => (intro p9 hp9; repeat (first | exact hp9 | exact List.mem_append_left _ hp9 | refine List.mem_cons_of_mem _ ?_))); (case pe4 => (intro p9 hp9; repeat (first | exact List.mem_append_right _ hp9 | refine List.mem_cons_of_mem _ ?_))); (case pe5 => (intro z9 z1 z2; (try dsimp only); repeat (first | (with_reducible rfl) | refine peel_st z2 (by decide) ?_ | refine peel_x z1 ?_ | refine peel_in z2 (by decide) ?_))))))
end
end Mine
theorem PySem.Challenge.cw_pe0085_01_holds : PySem.Challenge.rw_pe0085_01.Holds :=
  Mine.tt
