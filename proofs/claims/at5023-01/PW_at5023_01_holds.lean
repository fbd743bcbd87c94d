import PyProof.Rows.All
import Wide.All
import OpenK.AllK
import Wide.FinOn
import Lean
import PySem.Challenge.RW_at5023_01
open PySem PySem.W PyProof.Rows PySem.Calls
set_option Elab.async false
set_option maxRecDepth 100000

namespace Mine

/-- the def of that name at the text's top -/
def defOf (x : Str) : List Stmt → Option (Arguments × List Stmt × Scope)
  | [] => none
  | .FunctionDef name args body _ _ _ scope _ _ _ :: r => if name == x then some (args, body, scope) else defOf x r
  | _ :: r => defOf x r
def top : List Stmt := PySem.Challenge.pw_at5023_01.main.body
def nilScope : Scope := { kind := .function, names := [], isGenerator := false, isCoroutine := false, more := [] }
def nilArgs : Arguments := { posonlyargs := [], args := [], vararg := none, kwonlyargs := [], kw_defaults := [], kwarg := none, defaults := [] }
def permDef : Arguments × List Stmt × Scope := (defOf (Str.ofString "_permute") top).getD (nilArgs, [], nilScope)

/-- a tuple of the written part, its items -/
def tupOf (K : Frag) (a : Addr) : Option (List Value) := match K.lookup a with
  | some ⟨.type n, _, .seq vs _, _⟩ => if n == "tuple" then some vs.toList else none
  | _ => none
def natsOf : List Value → Option (List Nat)
  | [] => some []
  | .int (.ofNat n) _ :: r => (natsOf r).map (n :: ·)
  | _ => none
def rowsOf (K : Frag) : List Value → Option (List (List Nat))
  | [] => some []
  | .ref a :: r => match tupOf K a with
    | some vs => match natsOf vs with
      | some ns => (rowsOf K r).map (ns :: ·)
      | none => none
    | none => none
  | _ => none
def tabOf (K : Frag) (a : Addr) : Option (List (List Nat)) := match tupOf K a with
  | some vs => rowsOf K vs
  | none => none

theorem tupOf_at {K : Frag} {h : Heap} {a : Addr} {vs : List Value} (X : K.In h) (e : tupOf K a = some vs) : IsTup h a vs.toArray := by
  unfold tupOf at e
  split at e
  · rename_i n d vs' ep sl q
    split at e
    · rename_i hn
      cases e
      refine ⟨_, X _ _ q, by simpa using hn, ep, ?_⟩
      simp
    · cases e
  · cases e
theorem natsOf_get : ∀ {vs : List Value} {ns : List Nat}, natsOf vs = some ns → vs.length = ns.length ∧ ∀ (i n : Nat), ns[i]? = some n → ∃ t, vs[i]? = some (Value.int (n : Int) t)
  | [], ns, e => by cases e; exact ⟨rfl, fun i n h => by simp at h⟩
  | .int (.ofNat k) t :: r, ns, e => by
    simp only [natsOf] at e
    cases hr : natsOf r with
    | none => rw [hr] at e; cases e
    | some ms =>
      rw [hr] at e; cases e
      obtain ⟨hl, hg⟩ := natsOf_get hr
      refine ⟨by simp [hl], fun i n h => ?_⟩
      cases i with
      | zero => simp at h; subst h; exact ⟨t, rfl⟩
      | succ i => simp at h ⊢; exact hg i n h
theorem rowsOf_get {K : Frag} : ∀ {vs : List Value} {rs : List (List Nat)}, rowsOf K vs = some rs → vs.length = rs.length ∧ ∀ (i : Nat) (ns : List Nat), rs[i]? = some ns → ∃ a us, vs[i]? = some (Value.ref a) ∧ tupOf K a = some us ∧ natsOf us = some ns
  | [], rs, e => by cases e; exact ⟨rfl, fun i n h => by simp at h⟩
  | .ref a :: r, rs, e => by
    simp only [rowsOf] at e
    cases hu : tupOf K a with
    | none => rw [hu] at e; cases e
    | some us =>
      rw [hu] at e
      cases hn : natsOf us with
      | none => simp only [hn] at e; cases e
      | some ns =>
        simp only [hn] at e
        cases hr : rowsOf K r with
        | none => rw [hr] at e; cases e
        | some ms =>
          rw [hr] at e; cases e
          obtain ⟨hl, hg⟩ := rowsOf_get hr
          refine ⟨by simp [hl], fun i n h => ?_⟩
          cases i with
          | zero => simp at h; subst h; exact ⟨a, us, by simp, hu, hn⟩
          | succ i =>
            simp only [List.getElem?_cons_succ] at h ⊢
            exact hg i n h

/-- one turn of the loop, and the whole -/
def pstep (st : Nat × Nat) (r : List Nat) : Nat × Nat := (st.1 >>> 4, st.2 ||| r.getD (st.1 % 16) 0)
def perm (rows : List (List Nat)) (c : Nat) : Nat := (rows.foldl pstep (c, 0)).2

theorem bitAnd_nat (a b : Nat) : Builtin.bitAnd (a : Int) (b : Int) = ((a &&& b : Nat) : Int) := by
  have ha : decide ((0 : Int) ≤ (a : Int)) = true := decide_eq_true (Int.natCast_nonneg a)
  have hb : decide ((0 : Int) ≤ (b : Int)) = true := decide_eq_true (Int.natCast_nonneg b)
  unfold Builtin.bitAnd
  rw [ha, hb]
  simp
theorem bitOr_nat (a b : Nat) : Builtin.bitOr (a : Int) (b : Int) = ((a ||| b : Nat) : Int) := by
  have key : ∀ n : Nat, Builtin.bitNot (n : Int) = -(n : Int) - 1 := fun n => by unfold Builtin.bitNot; omega
  have neg : ∀ n : Nat, decide ((0 : Int) ≤ Builtin.bitNot (n : Int)) = false := fun n => by rw [key]; exact decide_eq_false (by omega)
  have back : ∀ n : Nat, Builtin.bitNot (Builtin.bitNot (n : Int)) = (n : Int) := fun n => by rw [key]; unfold Builtin.bitNot; omega
  unfold Builtin.bitOr
  conv => lhs; arg 1; unfold Builtin.bitAnd
  rw [neg a, neg b]
  simp only [back, Int.toNat_natCast]
end Mine

namespace Mine

theorem isTuple_of {h : Heap} {a : Addr} {vs : Array Value} (x : IsTup h a vs) : h.IsTuple a vs := x

theorem up_same {m : Str → Option Value} {x : Str} {v : Value} : (fun y => if y = x then some v else m y) x = some v := if_pos rfl
theorem up_ne {m : Str → Option Value} {x y : Str} {v : Value} {r : Option Value} (e : m y = r) (h : (y == x) = false := by decide +kernel) : (fun z => if z = x then some v else m z) y = r := by
  have h' : ¬ (y = x) := by simpa using h
  exact (if_neg h').trans e
section
variable {prog : Program} {w : World} {A₀ A : Around} {E : Value → Shared → Prop} {s : Shared} {base h₀ : Heap} {outer : List Env} {L : Addr} {m : Str → Option Value} {env : Env} {news : List (Addr × Obj)} {K : Frag}
  {p : Program} {loose : List Str} {mean : ExcName → Option Value} {mg mb : Str → Option Value}

theorem fdiv_pow_nat (n k : Nat) : (n : Int).fdiv (2 ^ k) = ((n >>> k : Nat) : Int) := by
  have h2 : ((2 : Int) ^ k) = ((2 ^ k : Nat) : Int) := by simp
  rw [h2, Int.fdiv_eq_ediv_of_nonneg _ (Int.natCast_nonneg _), Nat.shiftRight_eq_div_pow]
  exact (Int.natCast_ediv n (2 ^ k)).symm
def forBodyOf : Stmt → List Stmt
  | .For _ _ body _ _ => body
  | _ => []
def permLoop : List Stmt := forBodyOf ((permDef.2.1[1]?).getD (.Pass ⟨0, 0, 0, 0⟩))

theorem perm_turn {g : Heap} {f : Addr} {cdv : Value} {cc u : Nat} {tc tu : Tok} {ar : Addr} {us : List Value} {ns : List Nat} {Q : Flow → Shared → Prop}
    (F : Fr g L s.heap m) (N : News g L s.heap news) (X : K.In g) (hr : m (Str.ofString "r") = some (.ref ar)) (hc : m (Str.ofString "c") = some (.int (cc : Int) tc)) (hu : m (Str.ofString "out") = some (.int (u : Int) tu))
    (hus : tupOf K ar = some us) (hns : natsOf us = some ns) (h16 : ns.length = 16)
    (h : ∀ h' tk' m', Fr g L h' m' → News g L h' news → (∃ t, m' (Str.ofString "c") = some (.int ((pstep (cc, u) ns).1 : Int) t)) → (∃ t, m' (Str.ofString "out") = some (.int ((pstep (cc, u) ns).2 : Int) t)) → Q .next { s with heap := h', toks := tk' }) :
    wpAny (model prog w) A (execs permLoop (envOf (Str.ofString "_permute") permDef.2.2 L f cdv)) Q E s := by
  obtain ⟨hul, hget⟩ := natsOf_get hns
  refine wpAny_execs_cons (wpAny_AugAssign_Name (ldn F hu (Subscript_ (ld F hr (wpAny_BinOp (ld F hc (wpAny_Constant_int (and_int ?_))))))))
  have e15 : Builtin.bitAnd (cc : Int) 15 = ((cc % 16 : Nat) : Int) := by
    rw [show (15 : Int) = ((15 : Nat) : Int) from rfl, bitAnd_nat]
    congr 1
    exact Nat.and_two_pow_sub_one_eq_mod cc 4
  rw [e15]
  have hlt : cc % 16 < 16 := Nat.mod_lt _ (by decide)
  obtain ⟨tv, hv⟩ := hget (cc % 16) (ns.getD (cc % 16) 0) (by rw [List.getD_eq_getElem?_getD, List.getElem?_eq_getElem (by omega)]; rfl)
  refine item_tupleT ((tupOf_at X hus).keeps F.keep) (by omega) (by omega) (seqIndex_of (by omega) (by omega)) (by rw [Int.toNat_natCast]; exact hv) ?_
  refine ior_int ?_
  rw [bitOr_nat]
  refine stN F N fun h₁ F₁ N₁ => ?_
  dsimp only
  refine wpAny_execs_cons (wpAny_AugAssign_Name (ldn (v := .int (cc : Int) tc) F₁ (up_ne hc) (wpAny_Constant_int (irshift_int (by decide) ?_))))
  rw [show (4 : Int).toNat = 4 from rfl, fdiv_pow_nat]
  refine stN F₁ N₁ fun h₂ F₂ N₂ => ?_
  dsimp only
  have q : ∀ v x : Value, (fun z => if z = Str.ofString "c" then some v else (fun y => if y = Str.ofString "out" then some x else m y) z) (Str.ofString "out") = some x := fun v x => up_ne (x := Str.ofString "c") (y := Str.ofString "out") (m := fun y => if y = Str.ofString "out" then some x else m y) up_same
  exact wpAny_execs_nil (h _ _ _ F₂ N₂ ⟨_, up_same⟩ ⟨_, q _ _⟩)

abbrev permFn (doc pm : Value) (an : Option Addr) (cdv ct : Value) : FuncData :=
  fnOf (Str.ofString "_permute") (Str.ofString "_permute") permDef.1 permDef.2.1 permDef.2.2 .none .none doc pm an cdv ct

theorem perm_call {doc pm cdv ct oc : Value} {an od : Option Addr} {osl : Array (Option Value)} {f a : Addr} {rows : List (List Nat)} {c : Nat} {t : Tok} {Q : Value → Shared → Prop}
    (B : Below A₀ base outer h₀) (F : Fr h₀ L s.heap m) (X : K.In h₀) (N : News h₀ L s.heap news) (T : Top p loose mean mg mb h₀) (hA : A.frames = some (env :: outer)) (hf : env.frame = some L) (hke : env.scope.kind = .function)
    (ho : K.lookup f = some ⟨oc, od, .func (permFn doc pm an cdv ct), osl⟩) (hcd : codeIn K cdv (Str.ofString "_permute") = true) (hroom : A.depth < recursionLimit) (hh : A.handled = none)
    (ht : tabOf K a = some rows) (h16 : ∀ r ∈ rows, r.length = 16)
    (h : ∀ t' h' tk', Fr h₀ L h' m → News h₀ L h' news → Q (.int (perm rows c : Int) t') { s with heap := h', toks := tk' }) :
    wpAny (model prog w) A (call (.ref f) [.int (c : Int) t, .ref a]) Q E s := by
  refine wpAny_call (code_defG (name := Str.ofString "_permute") B F X N T hA hf hke ho hcd hroom (binds := [(Str.ofString "c", .int (c : Int) t), (Str.ofString "p", .ref a)]) (BindsTo.of_eq (by with_unfolding_all rfl)) (locs (by with_unfolding_all rfl)) (fun g L' h₁ FG F' N' B' X' T' G' => ?_) rfl rfl rfl (by decide))
  dsimp only
  refine wpAny_execs_cons (wpAny_Assign_Name (wpAny_Constant_int (stN F' N' fun h₂ F₂ N₂ => ?_)))
  dsimp only
  obtain ⟨m₀, F₂, hc0, hp0, tu0, hu0⟩ : ∃ m₀, Fr g L' h₂ m₀ ∧ m₀ (Str.ofString "c") = some (.int (c : Int) t) ∧ m₀ (Str.ofString "p") = some (.ref a) ∧ ∃ t', m₀ (Str.ofString "out") = some (.int 0 t') :=
    ⟨_, F₂, by with_unfolding_all rfl, by with_unfolding_all rfl, _, by with_unfolding_all rfl⟩
  obtain ⟨rs, hrs, hro⟩ : ∃ rs, tupOf K a = some rs ∧ rowsOf K rs = some rows := by
    unfold tabOf at ht
    split at ht
    · rename_i rs e; exact ⟨rs, e, ht⟩
    · cases ht
  obtain ⟨hlen, hget⟩ := rowsOf_get hro
  have htup : IsTup h₂ a rs.toArray := (tupOf_at X' hrs).keeps F₂.keep
  have hlt : a < g.objs.size := by obtain ⟨o, e, _⟩ := tupOf_at X' hrs; exact Heap.lt_size e
  have hLlt : L' < h₂.objs.size := F₂.ns.lt
  have hne : a ≠ h₂.objs.size := Nat.ne_of_lt (Nat.lt_trans (Nat.lt_of_lt_of_le hlt F₂.above) hLlt)
  have haL : L' ≠ a := fun e => Nat.lt_irrefl _ (Nat.lt_of_lt_of_le (e ▸ hlt) F₂.above)
  refine wpAny_execs_cons (For_invV g (by rfl) (by rfl) (ld F₂ hp0 (wpAny_pyIter_tuple htup ?_)))
  have W := Walks.tuple (prog := prog) (w := w) (A := A.deeper (envOf (Str.ofString "_permute") permDef.2.2 L' f cdv)) hh h₂.objs.size a hne rs.toArray
  refine loop_invN (m₀ := m₀) (news := news)
    (fun i m' nx => nx = news ∧ (∃ t, m' (Str.ofString "c") = some (.int (((rows.take i).foldl pstep (c, 0)).1 : Int) t)) ∧ ∃ t, m' (Str.ofString "out") = some (.int (((rows.take i).foldl pstep (c, 0)).2 : Int) t))
    W ?_ ?_ ?_ ?_ ⟨⟨_, Heap.get?_push_size _ rfl, rfl, rfl⟩, htup.keeps fun _ _ e => Heap.get?_push_of_some _ e⟩ (F₂.push _) (N₂.grown fun _ _ e => Heap.get?_push_of_some _ e) ⟨rfl, ⟨t, hc0⟩, ⟨_, hu0⟩⟩ ?_ ?_
  · intro hm
    rcases List.mem_cons.mp hm with e | hm
    · exact absurd hLlt (e ▸ Nat.lt_irrefl _)
    · exact haL (List.mem_singleton.mp hm)
  · intro b hb
    rw [List.mem_singleton.mp hb]
    exact next_is_new F₂
  · intro q hq hI
    exact absurd (Heap.lt_size (N₂ q hq).1) ((List.mem_singleton.mp hI) ▸ Nat.lt_irrefl _)
  · intro q hq hI
    rcases List.mem_cons.mp hI with e | hm
    · exact absurd (Heap.lt_size (N₂ q hq).1) (e ▸ Nat.lt_irrefl _)
    · have := (N₂ q hq).2.2
      rw [List.mem_singleton.mp hm] at this
      obtain ⟨o, e, _⟩ := tupOf_at X' hrs
      rw [e] at this; cases this
  · rintro i v m₁ nx h₃ tk own hi hv hadr hoff ⟨rfl, ⟨tc, hc⟩, ⟨tu, hu⟩⟩ F₃ N₃
    have hi' : i < rows.length := by rw [← hlen]; simpa using hi
    obtain ⟨ar, us, h1, h2, h3⟩ := hget i rows[i] (List.getElem?_eq_getElem hi')
    have ev : v = .ref ar := by
      have hv' : rs[i]? = some v := by simpa using hv
      rw [h1] at hv'; exact (Option.some.inj hv').symm
    subst ev
    have hs : (rows.take (i + 1)).foldl pstep (c, 0) = pstep ((rows.take i).foldl pstep (c, 0)) rows[i] := by
      rw [List.take_add_one, List.getElem?_eq_getElem hi', List.foldl_append]; rfl
    refine perm_turn F₃ N₃ X' up_same (up_ne hc) (up_ne hu) h2 h3 (h16 _ (List.getElem_mem hi')) fun h' tk' m' F₄ N₄ c₄ u₄ => ?_
    refine ⟨h', tk', m', nx ++ own, nx, rfl, F₄, N₄, fun q hq => List.mem_append_left _ hq, fun q hq => List.mem_append_right _ hq, rfl, rfl, ?_, ?_⟩
    · rw [hs]; exact c₄
    · rw [hs]; exact u₄
  · rintro m₁ nx h₃ tk ⟨rfl, _, ⟨tu, hu⟩⟩ F₃ N₃
    dsimp only
    refine wpAny_execs_cons (wpAny_Return_some (ld F₃ hu ?_))
    dsimp only
    refine leaveK_ F₃ N₃ fun FF NN => ?_
    dsimp only
    have el : rs.toArray.size = rows.length := by rw [List.size_toArray, hlen]
    have ep : (rows.take rs.toArray.size).foldl pstep (c, 0) = rows.foldl pstep (c, 0) := by rw [el, List.take_length]
    have := h tu h₃ tk FF NN
    rw [ep] at *
    exact this
end
end Mine

namespace Mine

section
variable {prog : Program} {w : World} {A : Around} {E : Value → Shared → Prop} {R : Result → Shared → Prop} {s : Shared}

/-- the inner clause's start -/
theorem compStart_in {elt t0 i0 t1 i1 : Expr} {scope : Scope} {pos : Pos} {it acc : Value} {env : Env}
    (h0 : codeAny (model prog w) A (.compLoop (.ListComp elt [⟨t0, i0, [], 0⟩, ⟨t1, i1, [], 0⟩] scope pos) 1 it acc env) R s)
    (h : wpAny (model prog w) A (pyIter it) (fun it' s' => codeAny (model prog w) A (.compLoop (.ListComp elt [⟨t0, i0, [], 0⟩, ⟨t1, i1, [], 0⟩] scope pos) 1 it' acc env) R s')
      (notedBy (model prog w) A env fun x s' => R (.error x) s') s) :
    codeAny (model prog w) A (.compStart (.ListComp elt [⟨t0, i0, [], 0⟩, ⟨t1, i1, [], 0⟩] scope pos) 1 it acc env) R s := by
  refine codeAny_of_tree ?_
  show wpAny _ _ ((compStart (.ListComp elt [⟨t0, i0, [], 0⟩, ⟨t1, i1, [], 0⟩] scope pos) 1 it acc env).onRaise (fun x => do noteFrame x env; standAt theWindowsPlace)) _ _ s
  refine wpAny_notedAt ?_
  unfold compStart
  show wpAny _ _ (ask >>= _) _ _ s
  refine wpAny_bind (wpAny_askSetting (wpAny_ite ?_))
  split
  · first
      | exact wpAny_bind (wpAny_pure (wpAny_pure (And.intro rfl h0)))
      | exact wpAny_pure (And.intro rfl h0)
  · first
      | exact wpAny_bind (wpAny_rule (wpAny_bind (wpAny_standAt (wpAny_bind (wpAny_mono h (fun it' s' h' => wpAny_pure (And.intro rfl h')) fun _ _ x => x)))))
      | (refine wpAny_bind (wpAny_rule ?_); show wpAny _ _ (standAt _ >>= _) _ _ s; exact wpAny_bind (wpAny_standAt (wpAny_bind (wpAny_mono h (fun it' s' h' => wpAny_pure (And.intro rfl h')) fun _ _ x => x))))

/-- the inner clause's turns -/
theorem compLoop_in {elt t0 i0 t1 i1 : Expr} {scope : Scope} {pos : Pos} {it acc : Value} {env : Env} (I : Nat → Shared → Prop)
    (turn : ∀ n s, I n s → wpAny (model prog w) A (pyNext it) (fun r s₁ => match r with
      | none => R (.ok .next) s₁
      | some v => wpAny (model prog w) A (assign t1 env v) (fun _ s₂ => wpAny (model prog w) A (eval elt env) (fun x s₃ =>
          wpAny (model prog w) A (call (.builtin "list.append") [acc, x]) (fun _ s₄ => ∃ m, m < n ∧ I m s₄) (notedBy (model prog w) A env fun e s' => R (.error e) s') s₃)
            (notedBy (model prog w) A env fun e s' => R (.error e) s') s₂) (notedBy (model prog w) A env fun e s' => R (.error e) s') s₁) (notedBy (model prog w) A env fun e s' => R (.error e) s') s)
    (n : Nat) (h : I n s) (ht : ∀ v, letOwnedTupleGo t1 it v = pure () := by intro _; rfl) :
    codeAny (model prog w) A (.compLoop (.ListComp elt [⟨t0, i0, [], 0⟩, ⟨t1, i1, [], 0⟩] scope pos) 1 it acc env) R s := by
  refine codeAny_loop rfl I (fun n s hI => ?_) n h
  show wpAny _ A ((compTurn (.ListComp elt [⟨t0, i0, [], 0⟩, ⟨t1, i1, [], 0⟩] scope pos) 1 it acc env).onRaise (fun x => do noteFrame x env; theTreesLotGoes x)) _ _ s
  refine wpAny_noted ?_
  have e : compTurn (.ListComp elt [⟨t0, i0, [], 0⟩, ⟨t1, i1, [], 0⟩] scope pos) 1 it acc env = (standAt i1.pos >>= fun _ => pyNext it >>= fun r => match r with
      | none => pure (.done .next)
      | some v => letOwnedTupleGo t1 it v >>= fun _ => assign t1 env v >>= fun _ =>
        (eval elt env >>= fun x => call (.builtin "list.append") [acc, x] >>= fun _ => pure ()) >>= fun _ =>
          again (.compLoop (.ListComp elt [⟨t0, i0, [], 0⟩, ⟨t1, i1, [], 0⟩] scope pos) 1 it acc env)) := by rfl
  rw [e]
  refine wpAny_bind (wpAny_standAt (wpAny_bind (wpAny_mono (turn n s hI) (fun r s₁ h₁ => ?_) fun _ _ h' => h')))
  cases r with
  | none => exact wpAny_pure h₁
  | some v =>
    refine wpAny_bind (wpAny_of_eq (ht v) ?_)
    refine wpAny_bind (wpAny_mono h₁ (fun _ s₂ h₂ => ?_) fun _ _ h' => h')
    exact wpAny_bind (wpAny_bind (wpAny_mono h₂ (fun x s₄ h₄ => wpAny_bind (wpAny_mono h₄ (fun _ s₅ h₅ => wpAny_pure (wpAny_pure ⟨rfl, h₅⟩)) fun _ _ h' => h')) fun _ _ h' => h'))

/-- the outer clause's turns -/
theorem compLoop_out {elt t0 i0 t1 i1 : Expr} {scope : Scope} {pos : Pos} {it acc : Value} {env : Env} (I : Nat → Shared → Prop)
    (turn : ∀ n s, I n s → wpAny (model prog w) A (pyNext it) (fun r s₁ => match r with
      | none => R (.ok .next) s₁
      | some v => wpAny (model prog w) A (assign t0 env v) (fun _ s₂ => wpAny (model prog w) A (eval i1 env) (fun x s₃ =>
          wpAny (model prog w) A (pyIter x) (fun it1 s₄ => codeAny (model prog w) A (.compStart (.ListComp elt [⟨t0, i0, [], 0⟩, ⟨t1, i1, [], 0⟩] scope pos) 1 it1 acc env)
            (fun r s₅ => r = .ok .next ∧ ∃ m, m < n ∧ I m s₅) s₄)
            (notedBy (model prog w) A env fun e s' => R (.error e) s') s₃)
            (notedBy (model prog w) A env fun e s' => R (.error e) s') s₂) (notedBy (model prog w) A env fun e s' => R (.error e) s') s₁) (notedBy (model prog w) A env fun e s' => R (.error e) s') s)
    (n : Nat) (h : I n s) (ht : ∀ v, letOwnedTupleGo t0 it v = pure () := by intro _; rfl) (hs : ∀ x, foldedSetIterable i1 env x = pure x := by intro _; rfl) :
    codeAny (model prog w) A (.compLoop (.ListComp elt [⟨t0, i0, [], 0⟩, ⟨t1, i1, [], 0⟩] scope pos) 0 it acc env) R s := by
  refine codeAny_loop rfl I (fun n s hI => ?_) n h
  show wpAny _ A ((compTurn (.ListComp elt [⟨t0, i0, [], 0⟩, ⟨t1, i1, [], 0⟩] scope pos) 0 it acc env).onRaise (fun x => do noteFrame x env; theTreesLotGoes x)) _ _ s
  refine wpAny_noted ?_
  have e : compTurn (.ListComp elt [⟨t0, i0, [], 0⟩, ⟨t1, i1, [], 0⟩] scope pos) 0 it acc env = (standAt i0.pos >>= fun _ => pyNext it >>= fun r => match r with
      | none => pure (.done .next)
      | some v => letOwnedTupleGo t0 it v >>= fun _ => assign t0 env v >>= fun _ =>
        (eval i1 env >>= fun x => standAt i1.pos >>= fun _ => foldedSetIterable i1 env x >>= fun x => holding [x] (pyIter x) >>= fun y =>
          runOwn (.compStart (.ListComp elt [⟨t0, i0, [], 0⟩, ⟨t1, i1, [], 0⟩] scope pos) 1 y acc env) env >>= fun _ => 
          again (.compLoop (.ListComp elt [⟨t0, i0, [], 0⟩, ⟨t1, i1, [], 0⟩] scope pos) 0 it acc env))) := by rfl
  rw [e]
  refine wpAny_bind (wpAny_standAt (wpAny_bind (wpAny_mono (turn n s hI) (fun r s₁ h₁ => ?_) fun _ _ h' => h')))
  cases r with
  | none => exact wpAny_pure h₁
  | some v =>
    refine wpAny_bind (wpAny_of_eq (ht v) ?_)
    refine wpAny_bind (wpAny_mono h₁ (fun _ s₂ h₂ => ?_) fun _ _ h' => h')
    refine wpAny_bind (wpAny_mono h₂ (fun x s₃ h₃ => ?_) fun _ _ h' => h')
    refine wpAny_bind (wpAny_standAt (wpAny_bind (wpAny_of_eq (hs x) (wpAny_bind (wpAny_holding (wpAny_mono h₃ (fun it1 s₄ h₄ => ?_) fun _ _ h' => h'))))))
    refine wpAny_bind (wpAny_runOwn (codeAny_mono h₄ fun r s₅ h₅ => ?_))
    obtain ⟨rfl, h₅⟩ := h₅
    exact wpAny_pure ⟨rfl, h₅⟩
end
end Mine

namespace Mine

/-- a state's heap with all that it had, and more -/
def Up (h h' : Heap) : Prop := ∀ b o, h.get? b = some o → h'.get? b = some o
theorem Up.refl (h : Heap) : Up h h := fun _ _ e => e
theorem Up.trans {a b c : Heap} (x : Up a b) (y : Up b c) : Up a c := fun p o e => y p o (x p o e)
theorem Up.push (h : Heap) (o : Obj) : Up h (h.push o) := fun _ _ e => Heap.get?_push_of_some _ e
theorem fresh_of (h : Heap) (a : Addr) (ha : h.objs.size ≤ a) : h.get? a = none := by
  cases e : h.get? a with
  | none => rfl
  | some o' => exact absurd (Heap.lt_size e) (Nat.not_lt.mpr ha)
/-- an update of one new place keeps what was there before -/
theorem Up.but {h₀ h h' : Heap} {D : Addr} (u : Up h₀ h) (hD : h₀.get? D = none) (hs : Heap.SameBut D h h') : Up h₀ h' := fun b o e => hs.extBut b o (fun q => by rw [q, hD] at e; cases e) (u b o e)
theorem Up.but1 {h₀ h h' : Heap} {D : Addr} (u : Up h₀ h) (hD : h₀.get? D = none) (hs : ∀ b o, b ∉ [D] → h.get? b = some o → h'.get? b = some o) : Up h₀ h' := fun b o e => hs b o (fun q => by rw [List.mem_singleton.mp q, hD] at e; cases e) (u b o e)

def prodOf (g : Int → Int → Int) (as bs : List Int) : List Int := as.flatMap fun u => bs.map fun v => g u v
theorem prodOf_length (g : Int → Int → Int) (bs : List Int) : ∀ as : List Int, (prodOf g as bs).length = as.length * bs.length
  | [] => by simp [prodOf]
  | a :: r => by
    have ih := prodOf_length g bs r
    unfold prodOf at ih ⊢
    rw [List.flatMap_cons, List.length_append, ih, List.length_map, List.length_cons, Nat.succ_mul, Nat.add_comm]

section
variable {prog : Program} {w : World} {A : Around} {E : Value → Shared → Prop} {s : Shared} {env : Env}

/-- the values are these ints -/
def Vals (vs : List Value) (ns : List Int) : Prop := IntsAre vs ns

theorem inner2 {elt t0 i0 i1 : Expr} {x y : Str} {py : Pos} {scope : Scope} {cl : List (Str × Addr)} {pos : Pos} {n1 : Nat} {g : Int → Int → Int} {R : Result → Shared → Prop} {h0 : Heap} {C D J : Addr} {ys : List Value} {m : Str → Option Value} {u : Int} {tu : Tok}
    (hh : A.handled = none) (hkind : scope.kind = .function) (hy : scope.names.lookup y = some .local) (hxy : (x == y) = false)
    (hDC : D ≠ C) (hJC : J ≠ C) (hJD : J ≠ D) (hC₀ : h0.get? C = none) (hD₀ : h0.get? D = none) (hJ₀ : h0.get? J = none)
    (U : Up h0 s.heap) (hit : IsRangeIter s.heap J 0 n1 1) (hd : s.heap.get? D = some (LCg.lst ys)) (hn : s.heap.Ns C m) (hmx : m x = some (.int u tu)) (hlen : ys.length + n1 ≤ sizeLine)
    (helt : ∀ s' m' v tv (Q' E' : Value → Shared → Prop), Up h0 s'.heap → s'.heap.Ns C m' → v < n1 → m' x = some (.int u tu) → m' y = some (.int ((v : Nat) : Int) tv) →
      (∀ t tk, Q' (.int (g u ((v : Nat) : Int)) t) { s' with toks := tk }) → wpAny (model prog w) A (eval elt (compEnvC scope cl C env)) Q' E' s')
    (hR : ∀ h' tk zs m', (∀ b o, b ≠ C → b ≠ D → b ≠ J → s.heap.get? b = some o → h'.get? b = some o) → h'.get? D = some (LCg.lst (ys ++ zs)) → IntsAre zs (((List.range n1).map fun (i : Nat) => (i : Int)).map fun v => g u v) → h'.Ns C m' →
      R (.ok .next) { s with heap := h', toks := tk }) :
    codeAny (model prog w) A (.compLoop (.ListComp elt [⟨t0, i0, [], 0⟩, ⟨.Name y py, i1, [], 0⟩] scope pos) 1 (.ref J) (.ref D) (compEnvC scope cl C env)) R s := by
  have W := Walks.range (prog := prog) (w := w) hh J 0 1 n1
  have hly : (compEnvC scope cl C env).kindOf y = some .local := lookup_relabel_local hy
  refine compLoop_in
    (fun k s' => ∃ h' tk j zs m', s' = { s with heap := h', toks := tk } ∧ j ≤ n1 ∧ k = n1 + 1 - j ∧ (∀ b o, b ≠ C → b ≠ D → b ≠ J → s.heap.get? b = some o → h'.get? b = some o) ∧ h'.get? D = some (LCg.lst (ys ++ zs)) ∧
      IntsAre zs (((List.range j).map fun (i : Nat) => (i : Int)).map fun v => g u v) ∧ h'.Ns C m' ∧ m' x = some (.int u tu) ∧ IsRangeIter h' J (0 + (j : Nat) * 1) ((n1 : Int) - (j : Nat)) 1) ?_ (n1 + 1)
    ⟨s.heap, s.toks, 0, [], m, rfl, Nat.zero_le _, rfl, fun _ _ _ _ _ e => e, by simpa using hd, .nil, hn, hmx, by simpa using hit⟩
  rintro k s' ⟨h', tk, j, zs, m', rfl, hj, rfl, K', d', z', n', x', r'⟩
  have off : ∀ {h₁ h₂ : Heap}, (∀ b o, b ≠ C → b ≠ D → b ≠ J → h₁.get? b = some o → h₂.get? b = some o) → Up h0 h₁ → Up h0 h₂ := fun k u b o e =>
    k b o (fun q => by rw [q, hC₀] at e; cases e) (fun q => by rw [q, hD₀] at e; cases e) (fun q => by rw [q, hJ₀] at e; cases e) (u b o e)
  by_cases hlt : j < n1
  · refine W.item j _ _ _ hlt r' fun v h₁ tk₁ hv st₁ k₁ => ?_
    obtain ⟨tv, rfl⟩ := hv
    dsimp only
    refine wpAny_assign_Name (wpAny_storeName_local hly (n'.at' fun o e => k₁ _ o (by simpa using Ne.symm hJC) e) (fun h₂ hn₂ hs₂ => ?_) (by simp [compEnvC, relabel, hkind]))
    have k₂ : ∀ b o, b ≠ C → b ≠ D → b ≠ J → s.heap.get? b = some o → h₂.get? b = some o := fun b o h1 h2 h3 e => hs₂.extBut b o h1 (k₁ b o (by simpa using h3) (K' b o h1 h2 h3 e))
    have d₂ : h₂.get? D = some (LCg.lst (ys ++ zs)) := hs₂.extBut _ _ hDC (k₁ _ _ (by simpa using Ne.symm hJD) d')
    have r₂ : IsRangeIter h₂ J (0 + ((j + 1 : Nat) : Int) * 1) ((n1 : Int) - ((j + 1 : Nat) : Int)) 1 := hs₂.extBut _ _ hJC st₁
    have ex : (if x = y then some (Value.int (0 + (j : Int) * 1) tv) else m' x) = some (.int u tu) := by rw [if_neg (by simpa using hxy)]; exact x'
    refine helt _ _ j tv _ _ (off k₂ U) hn₂ hlt ex (by rw [if_pos rfl]; congr 2; simp) fun t tk₂ => ?_
    have hl : zs.length = j := by rw [z'.length]; simp
    refine append_at (hsz := by show (ys ++ zs).toArray.size ≤ sizeLine; rw [List.size_toArray, List.length_append, hl]; omega) d₂ fun h₃ hs₃ d₃ => ?_
    refine ⟨n1 + 1 - (j + 1), by omega, h₃, _, j + 1, zs ++ [.int (g u (j : Int)) t], _, rfl, hlt, rfl, fun b o h1 h2 h3 e => hs₃.extBut b o h2 (k₂ b o h1 h2 h3 e), ?_, ?_, hn₂.sameBut hs₃ (Ne.symm hDC), ex, hs₃.extBut _ _ hJD r₂⟩
    · rw [d₃, LCg.lst_snoc, List.append_assoc]
    · rw [List.range_succ, List.map_append, List.map_append]
      exact z'.append (.cons _ _ .nil)
  · obtain rfl : j = n1 := Nat.le_antisymm hj (Nat.not_lt.mp hlt)
    refine W.done _ _ _ r' fun h₁ tk₁ k₁ => ?_
    exact hR _ _ zs m' (fun b o h1 h2 h3 e => k₁ b o (by simpa using h3) (K' b o h1 h2 h3 e)) (k₁ _ _ (by simpa using Ne.symm hJD) d') z' (n'.at' fun o e => k₁ _ o (by simpa using Ne.symm hJC) e)

theorem block2 {elt t0 i0 i1 : Expr} {x y : Str} {px py : Pos} {scope : Scope} {cl : List (Str × Addr)} {pos : Pos} {ax : Addr} {its : List Value} {as : List Int} {n1 : Nat} {g : Int → Int → Int} {Q : Value → Shared → Prop}
    (hh : A.handled = none) (ht0 : t0 = .Name x px)
    (ht : IsTup s.heap ax its.toArray) (hi : IntsAre its as)
    (hcell : ∀ z ∈ scope.names, z.2 ≠ .cell) (hkind : scope.kind = .function) (hx : scope.names.lookup x = some .local) (hy : scope.names.lookup y = some .local) (hxy : (x == y) = false)
    (hsz : as.length * n1 ≤ sizeLine)
    (hi1 : ∀ C s' m' (Q' E' : Value → Shared → Prop), Up s.heap s'.heap → s'.heap.Ns C m' →
      (∀ r t u v h' tk, Up s'.heap h' → IsRange h' r 0 n1 1 t u v → Q' (.ref r) { s' with heap := h', toks := tk }) → wpAny (model prog w) A (eval i1 (compEnvC scope cl C env)) Q' E' s')
    (helt : ∀ C s' m' u tu v tv (Q' E' : Value → Shared → Prop), Up s.heap s'.heap → s'.heap.Ns C m' → u ∈ as → v < n1 → m' x = some (.int u tu) → m' y = some (.int ((v : Nat) : Int) tv) →
      (∀ t tk, Q' (.int (g u ((v : Nat) : Int)) t) { s' with toks := tk }) → wpAny (model prog w) A (eval elt (compEnvC scope cl C env)) Q' E' s')
    (hsm : Builtin.Range.small 0 n1 1 = true) (hrs : Builtin.Range.rangeSize 0 n1 1 = (n1 : Int))
    (hf1 : ∀ C x, foldedSetIterable i1 (compEnvC scope cl C env) x = pure x)
    (hQ : ∀ D h' tk ys, Up s.heap h' → s.heap.get? D = none → h'.get? D = some (LCg.lst ys) → IntsAre ys (prodOf g as ((List.range n1).map fun (i : Nat) => (i : Int))) → Q (.ref D) { s with heap := h', toks := tk }) :
    wpAny (model prog w) A (pyIter (.ref ax)) (fun it s₂ => wpAny (model prog w) A (newList []) (fun acc s₃ => wpAny (model prog w) A (newFunctionEnv scope env.globals cl [] env.qual none .none (some env)) (fun cenv s₄ =>
      codeAny (model prog w) A (.compStart (.ListComp elt [⟨t0, i0, [], 0⟩, ⟨.Name y py, i1, [], 0⟩] scope pos) 0 it acc { cenv with scope := relabel scope env }) (compPost (model prog w) A E none Q acc cenv.locals) s₄) E s₃) E s₂) E s := by
  subst ht0
  refine wpAny_pyIter_tuple ht ?_
  refine wpAny_newObj_type (wpAny_newFunctionEnv hcell (by intro z hz; simp at hz) (fun h₁ hns₁ hsb₁ => ?_) hkind)
  dsimp only at hns₁ hsb₁ ⊢
  generalize hH1 : s.heap.push { cls := .type "tuple_iterator", dict := none, data := .fields #[.ref ax, .int 0 0] } = H1 at hns₁ hsb₁ ⊢
  generalize hH2 : H1.push { cls := .type "list", dict := none, data := .seq ([] : List Value).toArray } = H2 at hns₁ hsb₁ ⊢
  have hD : H1.objs.size = s.heap.objs.size + 1 := by rw [← hH1, Heap.size_push]
  have hC : H2.objs.size = s.heap.objs.size + 1 + 1 := by rw [← hH2, Heap.size_push, hD]
  generalize hI' : s.heap.objs.size = I at hD hC ⊢
  have hD₀ : s.heap.get? H1.objs.size = none := fresh_of _ _ (by rw [hI', hD]; exact Nat.le_succ _)
  have hC₀ : s.heap.get? H2.objs.size = none := fresh_of _ _ (by rw [hI', hC]; exact Nat.le_add_right _ 2)
  have hI₀ : s.heap.get? I = none := fresh_of _ _ (Nat.le_of_eq hI')
  generalize hDD : H1.objs.size = D at hD hD₀ ⊢
  generalize hCC : H2.objs.size = C at hns₁ hsb₁ hC hC₀ ⊢
  have hDI : D ≠ I := by rw [hD]; exact Nat.succ_ne_self I
  have hCI : C ≠ I := by rw [hC]; exact Nat.ne_of_gt (Nat.lt_succ_of_lt (Nat.lt_succ_self I))
  have hCD : C ≠ D := by rw [hC, hD]; exact Nat.succ_ne_self (I + 1)
  have haI : ax ≠ I := fun e => by obtain ⟨o, q, _⟩ := ht; rw [e, hI₀] at q; cases q
  have U₁ : Up s.heap h₁ := fun b o e => hsb₁.extBut b o (fun q => by rw [q, hC₀] at e; cases e) (Heap.get?_push_of_some _ (hH2 ▸ Heap.get?_push_of_some _ (hH1 ▸ Heap.get?_push_of_some _ e)))
  have itAt : H1.get? I = some { cls := .type "tuple_iterator", dict := none, data := .fields #[.ref ax, .int 0 0] } := by rw [← hH1, ← hI']; exact Heap.get?_push_size _ rfl
  have dAt : H2.get? D = some (LCg.lst []) := by rw [← hH2, ← hDD]; exact Heap.get?_push_size _ rfl
  have it₁ : h₁.IsTupleIter I ax 0 := ⟨_, hsb₁.extBut _ _ (Ne.symm hCI) (Heap.get?_push_of_some _ (hH2 ▸ Heap.get?_push_of_some _ itAt)), rfl, rfl⟩
  have d₁ : h₁.get? D = some (LCg.lst []) := hsb₁.extBut _ _ (Ne.symm hCD) (Heap.get?_push_of_some _ dAt)
  have W := Walks.tuple (prog := prog) (w := w) hh I ax haI its.toArray
  have hly : (compEnvC scope cl C env).kindOf x = some .local := lookup_relabel_local hx
  have hil := hi.length
  have loop : ∀ s₃ : Shared, s₃ = { s with heap := h₁, toks := s.toks + ([] : List (Str × Value)).length } →
      codeAny (model prog w) A (.compLoop (.ListComp elt [⟨.Name x px, i0, [], 0⟩, ⟨.Name y py, i1, [], 0⟩] scope pos) 0 (.ref I) (.ref D) (compEnvC scope cl C env)) (compPost (model prog w) A E none Q (.ref D) C) s₃ := by
    rintro s₃ rfl
    refine compLoop_out (hs := hf1 C)
      (fun k s' => ∃ h' tk i ys m', s' = { s with heap := h', toks := tk } ∧ i ≤ its.length ∧ k = its.length + 1 - i ∧ Up s.heap h' ∧ h'.IsTupleIter I ax i ∧ h'.get? D = some (LCg.lst ys) ∧
        IntsAre ys (prodOf g (as.take i) ((List.range n1).map fun (i : Nat) => (i : Int))) ∧ h'.Ns C m') ?_ (its.length + 1)
      ⟨h₁, _, 0, [], _, rfl, Nat.zero_le _, rfl, U₁, it₁, d₁, .nil, hns₁⟩
    rintro k s' ⟨h', tk, i, ys, m', rfl, hil', rfl, U', it', d', z', n'⟩
    have tup : ∀ {h : Heap}, Up s.heap h → h.IsTuple ax its.toArray := fun u => by obtain ⟨o, e, r⟩ := ht; exact ⟨o, u _ _ e, r⟩
    by_cases hlt : i < its.length
    · refine W.item i _ _ _ (by simpa using hlt) ⟨it', tup U'⟩ fun v h₂ tk₂ hv st₂ k₂ => ?_
      obtain ⟨u, hu⟩ : ∃ u, as[i]? = some u := ⟨as[i]'(by omega), List.getElem?_eq_getElem (by omega)⟩
      obtain ⟨tu, hvu⟩ := hi.get i u hu
      obtain rfl : v = .int u tu := by
        have hv' : its[i]? = some v := by simpa using hv
        rw [hvu] at hv'; exact (Option.some.inj hv').symm
      dsimp only
      refine wpAny_assign_Name (wpAny_storeName_local hly (n'.at' fun o e => k₂ _ o (by simpa using hCI) e) (fun h₃ hn₃ hs₃ => ?_) (by simp [compEnvC, relabel, hkind]))
      have U₃ : Up s.heap h₃ := (U'.but1 hI₀ k₂).but hC₀ hs₃
      have d₃ : h₃.get? D = some (LCg.lst ys) := hs₃.extBut _ _ (Ne.symm hCD) (k₂ _ _ (by simpa using hDI) d')
      have it₃ : h₃.IsTupleIter I ax (i + 1) := st₂.1.at fun o e => hs₃.extBut _ _ (Ne.symm hCI) e
      refine hi1 C _ _ _ _ U₃ hn₃ fun r t₁ t₂ t₃ h₄ tk₄ u₄ r₄ => ?_
      refine wpAny_pyIter_range r₄ hsm ?_
      rw [hrs]
      generalize hH5 : h₄.push { cls := .type "range_iterator", dict := none, data := .fields #[rawInt 0, rawInt (n1 : Int), rawInt 1] } = h₅
      have u₅ : Up h₃ h₅ := u₄.trans (hH5 ▸ Up.push _ _)
      have U₅ := U₃.trans u₅
      have j₅ : IsRangeIter h₅ h₄.objs.size 0 n1 1 := by rw [← hH5]; exact Heap.get?_push_size _ rfl
      have old : ∀ b o, h₃.get? b = some o → b ≠ h₄.objs.size := fun b o e => Nat.ne_of_lt (Heap.lt_size (u₄ b o e))
      have hJ₀ : s.heap.get? h₄.objs.size = none := by
        cases e : s.heap.get? h₄.objs.size with
        | none => rfl
        | some o => exact absurd rfl (old _ o (U₃ _ _ e))
      obtain ⟨oC, _, _, eC, _⟩ := id hn₃
      obtain ⟨oI, eI, _⟩ := id it₃
      have hlen : ys.length + n1 ≤ sizeLine := by
        refine Nat.le_trans ?_ hsz
        have e1 : ys.length = i * n1 := by
          rw [z'.length, prodOf_length, List.length_take, List.length_map, List.length_range, Nat.min_eq_left (by omega)]
        have e2 : (i + 1) * n1 ≤ as.length * n1 := Nat.mul_le_mul_right _ (by omega)
        rw [Nat.succ_mul] at e2
        omega
      have inner : ∀ s₅ : Shared, s₅ = { s with heap := h₅, toks := tk₄ } → codeAny (model prog w) A (.compLoop (.ListComp elt [⟨.Name x px, i0, [], 0⟩, ⟨.Name y py, i1, [], 0⟩] scope pos) 1 (.ref h₄.objs.size) (.ref D) (compEnvC scope cl C env))
          (fun r s₅ => r = .ok .next ∧ ∃ m₁, m₁ < its.length + 1 - i ∧ ∃ h' tk i ys m', s₅ = { s with heap := h', toks := tk } ∧ i ≤ its.length ∧ m₁ = its.length + 1 - i ∧ Up s.heap h' ∧ h'.IsTupleIter I ax i ∧ h'.get? D = some (LCg.lst ys) ∧
        IntsAre ys (prodOf g (as.take i) ((List.range n1).map fun (i : Nat) => (i : Int))) ∧ h'.Ns C m') s₅ := by
        rintro s₅ rfl
        refine inner2 (h0 := s.heap) (g := g) (u := u) (tu := tu) (x := x) (ys := ys) hh hkind hy hxy (Ne.symm hCD) (Ne.symm (old _ _ eC)) (Ne.symm (old _ _ d₃)) hC₀ hD₀ hJ₀ U₅ j₅ (u₅ _ _ d₃) (hn₃.at' fun o e => u₅ _ _ e) (if_pos rfl) hlen
          (fun s' m' v tv Q' E' a b c d e f => helt C s' m' u tu v tv Q' E' a b (List.mem_of_getElem? hu) c d e f) fun h₆ tk₆ zs m₆ k₆ d₆ z₆ n₆ => ?_
        refine ⟨rfl, its.length + 1 - (i + 1), by omega, h₆, tk₆, i + 1, ys ++ zs, m₆, rfl, hlt, rfl, fun b o e => k₆ b o (fun q => by rw [q, hC₀] at e; cases e) (fun q => by rw [q, hD₀] at e; cases e) (fun q => by rw [q, hJ₀] at e; cases e) (U₅ b o e),
          it₃.at fun o e => k₆ _ o (Ne.symm hCI) (Ne.symm hDI) (old _ _ eI) (u₅ _ _ e), d₆, ?_, n₆⟩
        have e1 : prodOf g (as.take (i + 1)) ((List.range n1).map fun (i : Nat) => (i : Int)) = prodOf g (as.take i) ((List.range n1).map fun (i : Nat) => (i : Int)) ++ ((List.range n1).map fun (i : Nat) => (i : Int)).map fun v => g u v := by
          unfold prodOf
          rw [List.take_add_one, hu, List.flatMap_append]
          simp
        rw [e1]
        exact z'.append z₆
      refine compStart_in (inner _ rfl) ?_
      exact wpAny_pyIter_rangeiter j₅ (inner _ rfl)
    · obtain rfl : i = its.length := Nat.le_antisymm hil' (Nat.not_lt.mp hlt)
      refine W.done _ _ _ (by rw [List.size_toArray]; exact ⟨it', tup U'⟩) fun h₂ tk₂ k₂ => ?_
      refine ⟨m', n'.at' fun o e => k₂ _ o (by simpa using hCI) e, fun h₃ hs₃ => ?_⟩
      have z₃ : IntsAre ys (prodOf g as ((List.range n1).map fun (i : Nat) => (i : Int))) := by
        rw [hil, List.take_length] at z'; exact z'
      exact hQ D h₃ tk₂ ys ((U'.but1 hI₀ k₂).but hC₀ hs₃) hD₀ (hs₃.extBut _ _ (Ne.symm hCD) (k₂ _ _ (by simpa using hDI) d')) z₃
  exact codeAny_compStart_list (loop _ rfl) (wpAny_pyIter_tupleiter it₁ (loop _ rfl))
end
end Mine

namespace Mine

def lawDef : Arguments × List Stmt × Scope := (defOf (Str.ofString "law") top).getD (nilArgs, [], nilScope)
abbrev lawEnv (L a : Addr) (cd : Value) : Env := envOfC (Str.ofString "law") lawDef.2.2 L a cd
def lawStmt (n : Nat) : Stmt := (lawDef.2.1[n]?).getD (.Pass ⟨0, 0, 0, 0⟩)
abbrev lst0 (vs : List Value) : Obj := { cls := .type "list", data := .seq vs.toArray }
def upto (n : Nat) : List Int := (List.range n).map fun (i : Nat) => (i : Int)
def row0 : List Int := prodOf (fun u v => 8 * v + u) [7, 6, 5] (upto 8) ++ [4, 12, 20, 28]
def row1 : List Int := prodOf (fun u v => 8 * v + u) [1, 2, 3] (upto 8) ++ [36, 44, 52, 60]

section
variable {prog : Program} {w : World} {A : Around} {E : Value → Shared → Prop} {s : Shared} {h₀ : Heap} {L a : Addr} {m : Str → Option Value} {news : List (Addr × Obj)} {K : Frag} {cn : Str} {cs : Scope} {ccd : Value} {cl : List (Str × Addr)}
  {p : Program} {loose : List Str} {mean : ExcName → Option Value} {mg mb : Str → Option Value}

theorem news_skip2 {h : Heap} {q q1 q2 : Addr × Obj} (N : News h₀ L h (q :: q1 :: q2 :: news)) : News h₀ L h (q :: news) := fun r hr => by
  rcases List.mem_cons.mp hr with rfl | hr
  · exact N _ List.mem_cons_self
  · exact N r (List.mem_cons_of_mem _ (List.mem_cons_of_mem _ (List.mem_cons_of_mem _ hr)))

theorem row_list {x y : Str} {px py q0 q1 q2 q3 q4 q5 q6 q7 q8 q9 qa qb qc qd qe qf qg pos pos' : Pos} {k0 k1 k2 k3 k4 k5 k6 k7 k8 : Nat} {c0 c1 c2 d0 d1 d2 d3 : Int} {kt : Nat} {scope : Scope} {Q : Value → Shared → Prop}
    (hh : A.handled = none) (F : Fr h₀ L s.heap m) (N : News h₀ L s.heap news) (X : K.In h₀) (T : Top p loose mean mg mb h₀) (hr : nsIn K mainGlobals (Str.ofString "range") = some none)
    (hclos : closureFor scope (envX cn cs L a ccd cl) = pure [])
    (hcell : ∀ z ∈ scope.names, z.2 ≠ .cell) (hkind : scope.kind = .function) (hnames : ∀ z ∈ scope.names, z.2 = .local → scope.names.lookup z.1 = some .local)
    (hx : scope.names.lookup x = some .local) (hy : scope.names.lookup y = some .local) (hxy : (x == y) = false)
    (hxd : (x == ("__debug__" : Str)) = false) (hyd : (y == ("__debug__" : Str)) = false)
    (hrg : ∀ C, (compEnvC scope [] C (envX cn cs L a ccd cl)).kindOf (Str.ofString "range") = some .globalImplicit)
    (h : ∀ r vs h' tk, Fr h₀ L h' m → News h₀ L h' ((r, lst0 vs) :: news) → IntsAre vs (prodOf (fun u v => 8 * v + u) [c0, c1, c2] (upto 8) ++ [d0, d1, d2, d3]) → Q (.ref r) { s with heap := h', toks := tk }) :
    wpAny (model prog w) A (eval (.BinOp (.ListComp (.BinOp (.BinOp (.Constant (.int 8) k0 q0) .Mult (.Name y q1) q2) .Add (.Name x q3) q4)
      [⟨.Name x px, .Tuple [.Constant (.int c0) k1 q5, .Constant (.int c1) k2 q6, .Constant (.int c2) k3 q7] kt q8, [], 0⟩, ⟨.Name y py, .Call (.Name (Str.ofString "range") q9) [.Constant (.int 8) k4 qa] [] qb, [], 0⟩] scope pos)
      .Add (.List [.Constant (.int d0) k5 qc, .Constant (.int d1) k6 qd, .Constant (.int d2) k7 qe, .Constant (.int d3) k8 qf] qg) pos') (envX cn cs L a ccd cl)) Q E s := by
  refine wpAny_BinOp ?_
  rw [eval_ListComp]
  refine wpAny_comprehension_free (use := none) rfl (fun _ => rfl) hclos hkind hnames ?_
  show wpAny _ _ (eval (.Tuple _ kt q8) _) _ _ _
  refine Tuple_ (args_cons (wpAny_Constant_int (args_cons (wpAny_Constant_int (args_cons (wpAny_Constant_int (args_nil ?_)))))))
  refine newTuple_N F N (fun h₁ F₁ N₁ => ?_) (show 3 ≤ sizeLine by decide)
  dsimp only
  refine block2 (x := x) (y := y) (g := fun u v => 8 * v + u) (as := [c0, c1, c2]) (n1 := 8) hh rfl ⟨_, (N₁ _ (List.Mem.head _)).1, rfl, _, rfl⟩ (.cons _ _ (.cons _ _ (.cons _ _ .nil))) hcell hkind hx hy hxy (show 3 * 8 ≤ sizeLine by decide) ?_ ?_ (by decide) (by decide) (fun _ _ => rfl) ?_
  · intro C s' m' Q' E' U hn hQ'
    have F₂ : Fr h₀ L s'.heap m := F₁.keeps U
    refine Call_ (LCgL.ld_built F₂ X T hr boot_range (by decide) ?_ rfl rfl (by simp [compEnvC, relabel, hkind]) (hrg C))
    refine Pv.callWith_type1 (args_cons (wpAny_Constant_int (args_nil (call_range_1 ?_))))
    exact hQ' _ _ _ _ _ _ (Up.push _ _) (IsRange.new ..)
  · intro C s' m' u tu v tv Q' E' U hn hu hv hux hvy hQ'
    have kx : (compEnvC scope [] C (envX cn cs L a ccd cl)).kindOf x = some .local := lookup_relabel_local hx
    have ky : (compEnvC scope [] C (envX cn cs L a ccd cl)).kindOf y = some .local := lookup_relabel_local hy
    have kf : (compEnvC scope [] C (envX cn cs L a ccd cl)).scope.kind = .function := by simp [compEnvC, relabel, hkind]
    refine wpAny_BinOp (wpAny_BinOp (wpAny_Constant_int (ldVarK hn hvy ?_ kf ky hyd)))
    refine mul_int (ldVarK hn hux (add_int ?_) kf kx hxd) ?_
    · exact hQ' _ _
    · exact IntMulOk.of_left (intBits_le_64 (by decide) (by decide))
  · intro D h₂ tk ys U hD d₂ hz
    have F₂ : Fr h₀ L h₂ m := F₁.keeps U
    refine List_ (args_cons (wpAny_Constant_int (args_cons (wpAny_Constant_int (args_cons (wpAny_Constant_int (args_cons (wpAny_Constant_int (args_nil ?_)))))))))
    have N₂ : News h₀ L h₂ ((D, LCg.lst ys) :: news) := fun q hq => by
      rcases List.mem_cons.mp hq with rfl | hq
      · refine ⟨d₂, fun e => ?_, ?_⟩
        · obtain ⟨o, _, _, e', _⟩ := F₁.ns
          have hD' : h₁.get? D = none := hD
          rw [show D = L from e, e'] at hD'; cases hD'
        · cases e : h₀.get? D with
          | none => rfl
          | some o => have hD' : h₁.get? D = none := hD; rw [F₁.keep _ _ e] at hD'; cases hD'
      · exact (N₁.grown U) q (List.mem_cons_of_mem _ hq)
    refine newList_N F₂ N₂ (fun h₃ F₃ N₃ => ?_) (show 4 ≤ sizeLine by decide)
    have l1 : h₃.IsList D ys.toArray := ⟨_, (N₃ _ (List.mem_cons_of_mem _ List.mem_cons_self)).1, rfl, _, rfl⟩
    have l2 := (N₃ _ List.mem_cons_self).1
    have hl := hz.length
    have e24 : ys.length = 24 := by rw [hl]; rfl
    refine add_arrays F₃ N₃ l1 ⟨_, l2, rfl, _, rfl⟩ (fun h₄ F₄ N₄ => ?_) (by show ys.length + 4 ≤ sizeLine; rw [e24]; decide)
    exact h _ _ h₄ _ F₄ (news_skip2 N₄) (hz.append (.cons _ _ (.cons _ _ (.cons _ _ (.cons _ _ .nil)))))
end
end Mine

namespace Mine
section
variable {prog : Program} {w : World} {A : Around} {E : Value → Shared → Prop} {s : Shared} {h₀ : Heap} {L fa : Addr} {m : Str → Option Value} {news : List (Addr × Obj)} {K : Frag} {cd : Value}
  {p : Program} {loose : List Str} {mean : ExcName → Option Value} {mg mb : Str → Option Value}

theorem rows_stmt {Q : Flow → Shared → Prop} (hh : A.handled = none) (F : Fr h₀ L s.heap m) (N : News h₀ L s.heap news) (X : K.In h₀) (T : Top p loose mean mg mb h₀) (hr : nsIn K mainGlobals (Str.ofString "range") = some none)
    (h : ∀ r ra rb vs us h' tk, Fr h₀ L h' (fun y => if y = Str.ofString "rows" then some (.ref r) else m y) → News h₀ L h' ((r, lst0 [.ref ra, .ref rb]) :: (rb, lst0 us) :: (ra, lst0 vs) :: news) → IntsAre vs row0 → IntsAre us row1 → Q .next { s with heap := h', toks := tk }) :
    wpAny (model prog w) A (exec (lawStmt 2) (lawEnv L fa cd)) Q E s := by
  refine wpAny_Assign_Name (List_ (args_cons ?_))
  refine row_list hh F N X T hr (by rfl) (by decide) (by rfl) (by decide) (by rfl) (by rfl) (by rfl) (by rfl) (by rfl) (fun _ => by rfl) fun ra vs h₁ tk₁ F₁ N₁ z₁ => ?_
  refine args_cons ?_
  refine row_list hh F₁ N₁ X T hr (by rfl) (by decide) (by rfl) (by decide) (by rfl) (by rfl) (by rfl) (by rfl) (by rfl) (fun _ => by rfl) fun rb us h₂ tk₂ F₂ N₂ z₂ => ?_
  refine args_nil ?_
  refine newList_N F₂ N₂ (fun h₃ F₃ N₃ => ?_) (show 2 ≤ sizeLine by decide)
  refine storeX_L F₃ N₃ (fun h₄ F₄ N₄ => ?_) (by rfl) (by rfl)
  exact h _ _ _ _ _ _ _ F₄ N₄ z₁ z₂
end
end Mine

namespace Mine
section
variable {prog : Program} {w : World} {A₀ A : Around} {E : Value → Shared → Prop} {s : Shared} {base h₀ : Heap} {outer : List Env} {L fa : Addr} {m : Str → Option Value} {env : Env} {news : List (Addr × Obj)} {K : Frag} {cd : Value}
  {p : Program} {loose : List Str} {mean : ExcName → Option Value} {mg mb : Str → Option Value}

/-- the turns of a comprehension whose element is an int of its item's -/
theorem rest_ints {elt : Expr} {x : Str} {scope : Scope} {cl : List (Str × Addr)} {S : List (Addr × Obj) → Prop} {P : Nat → Value → Prop} {Fin : List Value → List (Addr × Obj) → Prop} {ns : List Int} {f : Int → Int}
    (hP : ∀ i v, P i v → ∀ n, ns[i]? = some n → ∃ t, v = .int n t) (hS : S news) (hFin : ∀ ys, IntsAre ys (ns.map f) → Fin ys news)
    (helt : ∀ n t I oI C oC D ys m₂ h tk (Q' E' : Value → Shared → Prop), n ∈ ns → LCg.NsObj oC m₂ → m₂ x = some (.int n t) → Fr h₀ L h m → News h₀ L h ((I, oI) :: (C, oC) :: (D, LCg.lst ys) :: news) →
      (∀ t' h' tk', Fr h₀ L h' m → News h₀ L h' ((I, oI) :: (C, oC) :: (D, LCg.lst ys) :: news) → Q' (.int (f n) t') { s with heap := h', toks := tk' }) →
      wpAny (model prog w) A (eval elt (compEnvC scope cl C env)) Q' E' { s with heap := h, toks := tk }) :
    ∀ k i ys, i + k = ns.length → IntsAre ys ((ns.take i).map f) → LCg.CompRest prog w A h₀ L m env elt x scope cl s S P Fin k i ys news
  | 0, i, ys, hik, hz => by
    refine LCg.CompRest.zero (hFin ys ?_)
    rw [List.take_of_length_le (by omega)] at hz
    exact hz
  | k + 1, i, ys, hik, hz => by
    refine LCg.CompRest.succ fun v I oI C oC D m₂ h tk E' hv hC hx F N off ne => ?_
    have hn : ns[i]? = some (ns[i]'(by omega)) := List.getElem?_eq_getElem (by omega)
    obtain ⟨t, rfl⟩ := hP i v hv _ hn
    refine helt _ t I oI C oC D ys m₂ h tk _ E' (List.mem_of_getElem? hn) hC hx F N fun t' h' tk' F' N' => ?_
    refine ⟨h', tk', news, rfl, F', N', off, hS, rest_ints hP hS hFin helt k (i + 1) _ (by omega) ?_⟩
    rw [List.take_add_one, hn, List.map_append]
    exact hz.append (.cons _ _ .nil)

/-- f(1 << bit, TABLE) in a comprehension's frame -/
theorem perm_elt {scope : Scope} {C : Addr} {oC : Obj} {m₂ : Str → Option Value} {x nf nt : Str} {q0 q1 q2 q3 q4 q5 : Pos} {k0 : Nat} {b : Nat} {t : Tok} {f a : Addr} {rows : List (List Nat)} {env' : Env} {Q : Value → Shared → Prop}
    {doc pm cdv ct oc : Value} {an od : Option Addr} {osl : Array (Option Value)}
    (B : Below A₀ base outer h₀) (F : Fr h₀ L s.heap m) (X : K.In h₀) (N : News h₀ L s.heap news) (T : Top p loose mean mg mb h₀) (hA : A.frames = some (env :: outer)) (hf : env.frame = some L) (hke : env.scope.kind = .function)
    (ho : K.lookup f = some ⟨oc, od, .func (permFn doc pm an cdv ct), osl⟩) (hcd : codeIn K cdv (Str.ofString "_permute") = true) (hroom : A.depth < recursionLimit) (hh : A.handled = none)
    (ht : tabOf K a = some rows) (h16 : ∀ r ∈ rows, r.length = 16) (hkeep : keepIn K (.ref f) = true)
    (hnf : nsIn K mainGlobals nf = some (some (.ref f))) (hnt : nsIn K mainGlobals nt = some (some (.ref a)))
    (hkind : scope.kind = .function) (hg : env'.globals = mainGlobals) (kx : (compEnvC scope [] C env').kindOf x = some .local) (kf : (compEnvC scope [] C env').kindOf nf = some .globalImplicit) (kt : (compEnvC scope [] C env').kindOf nt = some .globalImplicit)
    (dx : (x == ("__debug__" : Str)) = false) (df : (nf == ("__debug__" : Str)) = false) (dt : (nt == ("__debug__" : Str)) = false)
    (hb : b ≤ 64) (hm : (C, oC) ∈ news) (hC : LCg.NsObj oC m₂) (hx : m₂ x = some (.int (b : Int) t))
    (h : ∀ t' h' tk', Fr h₀ L h' m → News h₀ L h' news → Q (.int (perm rows (1 <<< b) : Nat) t') { s with heap := h', toks := tk' }) :
    wpAny (model prog w) A (eval (.Call (.Name nf q0) [.BinOp (.Constant (.int 1) k0 q1) .LShift (.Name x q2) q3, .Name nt q4] [] q5) (compEnvC scope [] C env')) Q E s := by
  have kk : (compEnvC scope [] C env').scope.kind = .function := by simp [compEnvC, relabel, hkind]
  refine Call_ (LCgL.ld_global F X T hnf ?_ hg kk kf df)
  refine callWith_K X hkeep (args_cons (wpAny_BinOp (wpAny_Constant_int (LCgL.ld_own N hm hC hx (lshift_int_small (by omega) (by omega) (by decide) ?_) kk kx dx))))
  have e : (1 : Int) * (2 : Int) ^ ((b : Int)).toNat = ((1 <<< b : Nat) : Int) := by rw [Int.toNat_natCast, Nat.shiftLeft_eq, Int.natCast_mul, Int.natCast_pow]; rfl
  rw [e]
  refine args_cons (LCgL.ld_global F X T hnt (args_nil ⟨X.keeps F.keep, ?_⟩) hg kk kt dt)
  exact perm_call B F X N T hA hf hke ho hcd hroom hh ht h16 fun t' h' tk' F' N' => h t' h' tk' F' N'
end
end Mine

namespace Mine
section
variable {prog : Program} {w : World} {A₀ A : Around} {E : Value → Shared → Prop} {s : Shared} {base h₀ : Heap} {outer : List Env} {L fa : Addr} {m : Str → Option Value} {env : Env} {news : List (Addr × Obj)} {K : Frag} {cd : Value}
  {p : Program} {loose : List Str} {mean : ExcName → Option Value} {mg mb : Str → Option Value}

def place (rows : List (List Nat)) (n : Int) : Int := ((perm rows (1 <<< n.toNat) : Nat) : Int)

/-- [f(1 << bit, TABLE) for bit in row], in a frame whose own name is the row's -/
theorem perm_comp {scope : Scope} {x y nf nt : Str} {px q0 q1 q2 q3 q4 q5 q6 pos : Pos} {k0 : Nat} {f a : Addr} {rows : List (List Nat)} {env' : Env} {Q : Value → Shared → Prop}
    {doc pm cdv ct oc : Value} {an od : Option Addr} {osl : Array (Option Value)} {scope' : Scope} {C ax : Addr} {oC : Obj} {m₂ : Str → Option Value} {vs : List Value} {ns : List Int}
    (B : Below A₀ base outer h₀) (F : Fr h₀ L s.heap m) (X : K.In h₀) (N : News h₀ L s.heap news) (T : Top p loose mean mg mb h₀) (hA : A.frames = some (env :: outer)) (hf : env.frame = some L) (hke : env.scope.kind = .function)
    (ho : K.lookup f = some ⟨oc, od, .func (permFn doc pm an cdv ct), osl⟩) (hcd : codeIn K cdv (Str.ofString "_permute") = true) (hroom : A.depth < recursionLimit) (hh : A.handled = none)
    (ht : tabOf K a = some rows) (h16 : ∀ r ∈ rows, r.length = 16) (hkeep : keepIn K (.ref f) = true)
    (hnf : nsIn K mainGlobals nf = some (some (.ref f))) (hnt : nsIn K mainGlobals nt = some (some (.ref a))) (hg : env'.globals = mainGlobals)
    -- the frame around
    (hk' : scope'.kind = .function) (ky : (compEnvC scope' [] C env').kindOf y = some .local) (dy : (y == ("__debug__" : Str)) = false) (hC : LCg.NsObj oC m₂) (hCm : (C, oC) ∈ news) (hy : m₂ y = some (.ref ax)) (hax : (ax, lst0 vs) ∈ news) (hz : IntsAre vs ns) (hns : ∀ n ∈ ns, 0 ≤ n ∧ n ≤ 64) (hlen : ns.length ≤ 1000)
    -- the block
    (hclos : closureFor scope (compEnvC scope' [] C env') = pure []) (hcell : ∀ z ∈ scope.names, z.2 ≠ .cell) (hkind : scope.kind = .function) (hnames : ∀ z ∈ scope.names, z.2 = .local → scope.names.lookup z.1 = some .local) (hx : scope.names.lookup x = some .local)
    (kf : ∀ C', (compEnvC scope [] C' (compEnvC scope' [] C env')).kindOf nf = some .globalImplicit) (kt : ∀ C', (compEnvC scope [] C' (compEnvC scope' [] C env')).kindOf nt = some .globalImplicit)
    (dx : (x == ("__debug__" : Str)) = false) (df : (nf == ("__debug__" : Str)) = false) (dt : (nt == ("__debug__" : Str)) = false)
    (h : ∀ D ys h' tk', Fr h₀ L h' m → News h₀ L h' ((D, LCg.lst ys) :: news) → LCg.Off1 D news → IntsAre ys (ns.map (place rows)) → Q (.ref D) { s with heap := h', toks := tk' }) :
    wpAny (model prog w) A (eval (.ListComp (.Call (.Name nf q0) [.BinOp (.Constant (.int 1) k0 q1) .LShift (.Name x q2) q3, .Name nt q4] [] q5) [⟨.Name x px, .Name y q6, [], 0⟩] scope pos) (compEnvC scope' [] C env')) Q E s := by
  have hk2 : (compEnvC scope' [] C env').scope.kind = .function := by simp [compEnvC, relabel, hk']
  have hzl := hz.length
  refine LCg.ListComp_U (cl := []) F hclos hcell hkind hnames hx ?_ (fun _ => rfl)
  refine LCgL.ld_own N hCm hC hy ?_ hk2 ky dy
  refine LCg.CompSrc.ledger (k := 0) (its := vs.toArray) hh F N hax (by rw [List.size_toArray, hzl]; exact Nat.le_trans hlen (by decide)) fun g => ?_
  have hsz : vs.toArray.size = ns.length := by rw [List.size_toArray, hzl]
  rw [hsz]
  refine rest_ints (f := place rows) (ns := ns) ?_ ?_ ?_ ?_ _ 0 [] (by simp) .nil
  · intro i v hv n hn
    obtain ⟨t, e⟩ := hz.get i n hn
    have hv' : vs[i]? = some v := by simpa using hv
    rw [e] at hv'
    exact ⟨t, (Option.some.inj hv').symm⟩
  · exact .inr ⟨_, hax, rfl, 0, rfl⟩
  · intro ys hys D h' tk' F' N' o1
    exact h D ys h' tk' F' N' o1 hys
  · intro n t I oI C' oC' D ys m₃ h' tk Q' E' hn hC' hx' F' N' hQ
    obtain ⟨h0, h64⟩ := hns n hn
    obtain ⟨b, rfl⟩ := Int.eq_ofNat_of_zero_le h0
    refine perm_elt (rows := rows) (b := b) (news := (I, oI) :: (C', oC') :: (D, LCg.lst ys) :: news) B F' X N' T hA hf hke ho hcd hroom hh ht h16 hkeep hnf hnt hkind hg (lookup_relabel_local hx) (kf C') (kt C') dx df dt (by omega) (List.mem_cons_of_mem _ List.mem_cons_self) hC' hx' fun t' h'' tk'' F'' N'' => ?_
    exact hQ t' h'' tk'' F'' N''

theorem news_turn {h : Heap} {q q1 q2 q3 : Addr × Obj} (N : News h₀ L h (q :: q1 :: q2 :: q3 :: news)) : News h₀ L h (q1 :: q2 :: q3 :: q :: news) := fun r hr => by
  refine N r ?_
  simp only [List.mem_cons] at hr ⊢
  rcases hr with h | h | h | h | h
  · exact .inr (.inl h)
  · exact .inr (.inr (.inl h))
  · exact .inr (.inr (.inr (.inl h)))
  · exact .inl h
  · exact .inr (.inr (.inr (.inr h)))

theorem places_stmt {f a r ra rb : Addr} {vs us : List Value} {rows : List (List Nat)} {Q : Flow → Shared → Prop} {doc pm cdv ct oc : Value} {an od : Option Addr} {osl : Array (Option Value)}
    (B : Below A₀ base outer h₀) (F : Fr h₀ L s.heap m) (X : K.In h₀) (N : News h₀ L s.heap news) (T : Top p loose mean mg mb h₀) (hA : A.frames = some (lawEnv L fa cd :: outer))
    (ho : K.lookup f = some ⟨oc, od, .func (permFn doc pm an cdv ct), osl⟩) (hcd : codeIn K cdv (Str.ofString "_permute") = true) (hroom : A.depth < recursionLimit) (hh : A.handled = none)
    (ht : tabOf K a = some rows) (h16 : ∀ r ∈ rows, r.length = 16) (hkeep : keepIn K (.ref f) = true)
    (hnf : nsIn K mainGlobals (Str.ofString "_permute") = some (some (.ref f))) (hnt : nsIn K mainGlobals (Str.ofString "PC1ROT") = some (some (.ref a)))
    (hrows : m (Str.ofString "rows") = some (.ref r)) (hr : (r, lst0 [.ref ra, .ref rb]) ∈ news) (hra : (ra, lst0 vs) ∈ news) (hrb : (rb, lst0 us) ∈ news) (za : IntsAre vs row0) (zb : IntsAre us row1)
    (h : ∀ D Da Db ps qs h' tk', Fr h₀ L h' (fun z => if z = Str.ofString "places" then some (.ref D) else m z) → News h₀ L h' ((D, LCg.lst [.ref Da, .ref Db]) :: (Db, LCg.lst qs) :: (Da, LCg.lst ps) :: news) →
      IntsAre ps (row0.map (place rows)) → IntsAre qs (row1.map (place rows)) → Q .next { s with heap := h', toks := tk' }) :
    wpAny (model prog w) A (exec (lawStmt 3) (lawEnv L fa cd)) Q E s := by
  refine LCg.Assign_ListComp_U (cl := []) F rfl (by with_unfolding_all rfl) (by rfl) (by decide) (by rfl) (by decide) (by rfl) (by rfl) (by rfl) ?_ (fun _ => rfl)
  refine nameX_L F hrows ?_ (by rfl) (by rfl)
  refine LCg.CompSrc.ledger (k := 0) (its := #[.ref ra, .ref rb]) hh F N hr (show 2 ≤ sizeLine by decide) fun g => ?_
  refine LCg.CompRest.succ (k := 1) fun v I oI C oC D m₂ h₁ tk₁ E' hv hC hx F₁ N₁ off ne => ?_
  obtain rfl : v = .ref ra := (Option.some.inj hv).symm
  have b0 : ∀ n ∈ row0, 0 ≤ n ∧ n ≤ 64 := by decide
  have b1 : ∀ n ∈ row1, 0 ≤ n ∧ n ≤ 64 := by decide
  refine perm_comp (news := (I, oI) :: (C, oC) :: (D, LCg.lst []) :: news) (rows := rows) (ns := row0) (vs := vs) B F₁ X N₁ T hA rfl rfl ho hcd hroom hh ht h16 hkeep hnf hnt rfl
    (by rfl) (by rfl) (by rfl) hC (List.mem_cons_of_mem _ List.mem_cons_self) hx (List.mem_cons_of_mem _ (List.mem_cons_of_mem _ (List.mem_cons_of_mem _ hra))) za b0 (by decide)
    (by rfl) (by decide) (by rfl) (by decide) (by rfl) (fun _ => by rfl) (fun _ => by rfl) (by rfl) (by rfl) (by rfl) fun Da ps h₂ tk₂ F₂ N₂ o₂ z₂ => ?_
  refine ⟨h₂, tk₂, (Da, LCg.lst ps) :: news, rfl, F₂, news_turn N₂, ⟨⟨Ne.symm o₂.1, Ne.symm o₂.2.1, Ne.symm o₂.2.2.1⟩, off⟩, .inr ⟨_, List.mem_cons_of_mem _ hr, rfl, 0, rfl⟩, ?_⟩
  refine LCg.CompRest.succ (k := 0) fun v I oI C oC D m₂ h₁ tk₁ E' hv hC hx F₁ N₁ off ne => ?_
  obtain rfl : v = .ref rb := (Option.some.inj hv).symm
  refine perm_comp (news := (I, oI) :: (C, oC) :: (D, LCg.lst [.ref Da]) :: (Da, LCg.lst ps) :: news) (rows := rows) (ns := row1) (vs := us) B F₁ X N₁ T hA rfl rfl ho hcd hroom hh ht h16 hkeep hnf hnt rfl
    (by rfl) (by rfl) (by rfl) hC (List.mem_cons_of_mem _ List.mem_cons_self) hx (List.mem_cons_of_mem _ (List.mem_cons_of_mem _ (List.mem_cons_of_mem _ (List.mem_cons_of_mem _ hrb)))) zb b1 (by decide)
    (by rfl) (by decide) (by rfl) (by decide) (by rfl) (fun _ => by rfl) (fun _ => by rfl) (by rfl) (by rfl) (by rfl) fun Db qs h₃ tk₃ F₃ N₃ o₃ z₃ => ?_
  refine ⟨h₃, tk₃, (Db, LCg.lst qs) :: (Da, LCg.lst ps) :: news, rfl, F₃, news_turn N₃, ⟨⟨Ne.symm o₃.1, Ne.symm o₃.2.1, Ne.symm o₃.2.2.1⟩, off⟩, .inr ⟨_, List.mem_cons_of_mem _ (List.mem_cons_of_mem _ hr), rfl, 0, rfl⟩, ?_⟩
  refine LCg.CompRest.zero ?_
  intro D' h' tk' F' N' o1'
  exact h D' Da Db ps qs h' tk' F' N' z₂ z₃
end
end Mine

namespace Mine
section
variable {prog : Program} {w : World} {A₀ A : Around} {E : Value → Shared → Prop} {s : Shared} {base h₀ : Heap} {outer : List Env} {L fa : Addr} {m : Str → Option Value} {env : Env} {news : List (Addr × Obj)} {K : Frag} {cd : Value}
  {p : Program} {loose : List Str} {mean : ExcName → Option Value} {mg mb : Str → Option Value}

def bits64 : List Int := (upto 64).map fun n => ((1 <<< n.toNat : Nat) : Int)

theorem single_stmt {c : Addr} {o : Obj} {v₀ : Option Value} {Q : Flow → Shared → Prop}
    (hh : A.handled = none) (F : Fr h₀ L s.heap m) (N : News h₀ L s.heap ((c, o) :: news)) (X : K.In h₀) (T : Top p loose mean mg mb h₀) (hr : nsIn K mainGlobals (Str.ofString "range") = some none)
    (hc : c = L + 1 + 1 + 1) (ho : o.data = .cell v₀) (hnc : ∀ q ∈ news, ∀ v, q.2.data ≠ .cell v)
    (h : ∀ D ys o' h' tk', Fr h₀ L h' m → News h₀ L h' ((c, o') :: (D, LCg.lst ys) :: news) → o'.data = .cell (some (.ref D)) → IntsAre ys bits64 → Q .next { s with heap := h', toks := tk' }) :
    wpAny (model prog w) A (exec (lawStmt 4) (lawEnv L fa cd)) Q E s := by
  refine wpAny_Assign_Name ?_
  refine LCg.ListComp_U (cl := []) F rfl (by decide) (by rfl) (by decide) (by rfl) ?_ (fun _ => rfl)
  refine Call_ (nameX_B F X (topRead_of T) hr boot_range (by decide) (Pv.callWith_type1 (args_cons (wpAny_Constant_int (args_nil (range1_rows F N fun h₁ tk t₁ u₁ v₁ R F₁ N₁ _ => ?_))))))
  refine LCg.CompSrc.range (n := 64) hh F₁ N₁ R (by decide) (by decide) (by decide) fun g => ?_
  refine rest_ints (f := fun n => ((1 <<< n.toNat : Nat) : Int)) (ns := upto 64) ?_ ?_ ?_ ?_ _ 0 [] (by decide) .nil
  · intro i v hv n hn
    obtain ⟨t, rfl⟩ := hv
    refine ⟨t, ?_⟩
    unfold upto at hn
    rw [List.getElem?_map] at hn
    have hi : i < 64 := by
      cases e : (List.range 64)[i]? with
      | none => rw [e] at hn; cases hn
      | some j => have q := (List.getElem?_eq_some_iff.mp e).1; rw [List.length_range] at q; exact q
    rw [List.getElem?_range hi] at hn
    cases hn
    simp
  · trivial
  · intro ys hys D h₂ tk₂ F₂ N₂ o1
    have N₃ := N₂
    have hcn : ∀ q ∈ (D, LCg.lst ys) :: news, q.1 ≠ c := fun q hq e => by
      have a1 := (N₃ (c, o) (List.mem_cons_of_mem _ List.mem_cons_self)).1
      rcases List.mem_cons.mp hq with rfl | hq
      · have a2 := (N₃ (D, LCg.lst ys) List.mem_cons_self).1
        have e' : D = c := e
        rw [e', a1] at a2
        have := congrArg Obj.data (Option.some.inj a2)
        rw [ho] at this; cases this
      · have a2 := (N₃ q (List.mem_cons_of_mem _ (List.mem_cons_of_mem _ hq))).1
        rw [e, a1] at a2
        exact hnc q hq v₀ ((congrArg Obj.data (Option.some.inj a2)).symm.trans ho)
    have hcm := N₃ (c, o) (List.mem_cons_of_mem _ List.mem_cons_self)
    refine wpAny_storeName_cell (c := c) (by rfl) (by rfl) (by rw [hc]; rfl) ⟨o, hcm.1, ho⟩ fun h₄ hv₄ hs₄ => ?_
    obtain ⟨o', ho', hd'⟩ := hv₄
    refine h D ys o' h₄ _ ⟨F₂.ns.sameBut hs₄ (Ne.symm hcm.2.1), fun b ob e => hs₄.extBut b ob (fun q => ?_) (F₂.keep b ob e), F₂.above⟩ (fun q hq => ?_) hd' hys
    · rw [q, hcm.2.2] at e; cases e
    · rcases List.mem_cons.mp hq with rfl | hq
      · exact ⟨ho', hcm.2⟩
      · have a : q ∈ (D, LCg.lst ys) :: (c, o) :: news := by
          rcases List.mem_cons.mp hq with rfl | hq
          · exact List.mem_cons_self
          · exact List.mem_cons_of_mem _ (List.mem_cons_of_mem _ hq)
        exact ⟨hs₄.extBut _ _ (hcn q hq) (N₃ q a).1, (N₃ q a).2⟩
  · intro n t I oI C oC D ys m₂ h' tk Q' E' hn hC hx F' N' hQ
    have hb : 0 ≤ n ∧ n < 64 := by
      obtain ⟨j, hj, rfl⟩ := List.mem_map.mp hn
      have := List.mem_range.mp hj
      omega
    obtain ⟨b, rfl⟩ := Int.eq_ofNat_of_zero_le hb.1
    refine wpAny_BinOp (wpAny_Constant_int (LCgL.ld_own N' (List.mem_cons_of_mem _ List.mem_cons_self) hC hx (lshift_int_small (by omega) (by omega) (by decide) ?_)))
    have e : (1 : Int) * (2 : Int) ^ ((b : Int)).toNat = ((1 <<< ((b : Int)).toNat : Nat) : Int) := by rw [Int.toNat_natCast, Nat.shiftLeft_eq, Int.natCast_mul, Int.natCast_pow]; rfl
    rw [e]
    exact hQ _ _ _ F' N'
end
end Mine

namespace Mine
section
variable {prog : Program} {w : World} {A₀ A : Around} {E : Value → Shared → Prop} {s : Shared} {base h₀ : Heap} {outer : List Env} {L fa : Addr} {m : Str → Option Value} {env : Env} {news : List (Addr × Obj)} {K : Frag} {cd : Value}
  {p : Program} {loose : List Str} {mean : ExcName → Option Value} {mg mb : Str → Option Value} {cn : Str} {cs : Scope} {ccd : Value} {cl : List (Str × Addr)} {a : Addr}

theorem news_list {h : Heap} {l : Addr} {vs : List Value} {n : Nat} (N : News h₀ L h news) (hm : (l, ({ cls := .type "list", data := .seq vs.toArray n } : Obj)) ∈ news) : h.IsList l vs.toArray := ⟨_, (N _ hm).1, rfl, _, rfl⟩

/-- an item of a list at a written place -/
theorem item_list {value slice : Expr} {l : Addr} {vs : List Value} {k : Int} {t : Tok} {x : Value} {Q : Value → Shared → Prop} (hl : s.heap.IsList l vs.toArray)
    (h0 : 0 ≤ k) (hfit : k < 2 ^ 63) (hx : vs[k.toNat]? = some x) (h : Q x s)
    (hs : subscripted slice false (.ref l) (.int k t) = operate [.ref l, .int k t] (getItem (.ref l) (.int k t)) := by with_unfolding_all rfl) :
    wpAny (model prog w) A (subscriptTail value slice (.ref l) (.int k t)) Q E s :=
  tail_any hl.typeIs slot_list_getitem.lookup (wpAny_getItem_list hl h0 hfit (by simpa using hx) h) hs

/-- x[0] + x[1], both lists -/
theorem two_lists {x : Str} {q0 q1 q2 q3 q4 q5 q6 : Pos} {k0 k1 : Nat} {D Da Db : Addr} {ps qs : List Value} {xs ys : List Int} {Q : Value → Shared → Prop}
    (F : Fr h₀ L s.heap m) (N : News h₀ L s.heap news) (hx : m x = some (.ref D)) (hD : (D, LCg.lst [.ref Da, .ref Db]) ∈ news) (ha : (Da, LCg.lst ps) ∈ news) (hb : (Db, LCg.lst qs) ∈ news)
    (zp : IntsAre ps xs) (zq : IntsAre qs ys) (hlen : xs.length + ys.length ≤ 1000)
    (hk : cs.kind = .function) (hl : (envX cn cs L a ccd cl).kindOf x = some .local) (hd : (x == ("__debug__" : Str)) = false)
    (h : ∀ l h' tk, Fr h₀ L h' m → News h₀ L h' ((l, lst0 (ps ++ qs)) :: news) → Q (.ref l) { s with heap := h', toks := tk }) :
    wpAny (model prog w) A (eval (.BinOp (.Subscript (.Name x q0) (.Constant (.int 0) k0 q1) q2) .Add (.Subscript (.Name x q3) (.Constant (.int 1) k1 q4) q5) q6) (envX cn cs L a ccd cl)) Q E s := by
  refine wpAny_BinOp (Subscript_ (nameX_L F hx (wpAny_Constant_int ?_) hk hl hd))
  refine item_list (news_list N hD) (by decide) (by decide) rfl ?_
  refine Subscript_ (nameX_L F hx (wpAny_Constant_int ?_) hk hl hd)
  refine item_list (news_list N hD) (by decide) (by decide) rfl ?_
  refine add_arrays F N (news_list N ha) (news_list N hb) (fun h₁ F₁ N₁ => ?_) ?_
  · exact h _ _ _ F₁ N₁
  · rw [List.size_toArray, List.size_toArray, zp.length, zq.length]
    exact Nat.le_trans hlen (by decide)

/-- a comprehension whose test holds of no item -/
theorem rest_none {ct elt : Expr} {x : Str} {scope : Scope} {cl : List (Str × Addr)} {S : List (Addr × Obj) → Prop} {P : Nat → Value → Prop} {Fin : List Value → List (Addr × Obj) → Prop} {ns : List Int}
    (hP : ∀ i v, P i v → ∀ n, ns[i]? = some n → ∃ t, v = .int n t) (hS : S news) (hFin : Fin [] news)
    (htest : ∀ n t I oI C oC D m₂ h tk (Q' : Bool → Shared → Prop) (E' : Value → Shared → Prop), n ∈ ns → LCg.NsObj oC m₂ → m₂ x = some (.int n t) → Fr h₀ L h m → News h₀ L h ((I, oI) :: (C, oC) :: (D, LCg.lst []) :: news) →
      (∀ tk', Q' false { s with heap := h, toks := tk' }) →
      wpAny (model prog w) A (PySem.isTrue ct (compEnvC scope cl C env) (eval ct (compEnvC scope cl C env))) Q' E' { s with heap := h, toks := tk }) :
    ∀ k i, i + k = ns.length → LCt.CompRestT prog w A h₀ L m env ct elt x scope cl s S P Fin k i [] news
  | 0, i, hik => LCt.CompRestT.zero hFin
  | k + 1, i, hik => by
    refine LCt.CompRestT.succ fun v I oI C oC D m₂ h tk E' hv hC hx F N off ne => ?_
    have hn : ns[i]? = some (ns[i]'(by omega)) := List.getElem?_eq_getElem (by omega)
    obtain ⟨t, rfl⟩ := hP i v hv _ hn
    refine htest _ t I oI C oC D m₂ h tk _ E' (List.mem_of_getElem? hn) hC hx F N fun tk' => ?_
    rw [if_neg Bool.false_ne_true]
    exact ⟨h, tk', news, rfl, F, N, off, hS, rest_none hP hS hFin htest k (i + 1) (by omega)⟩

theorem if1_stmt {D Da Db c S : Addr} {o : Obj} {ps qs ss : List Value} {xs ys : List Int} {Q : Flow → Shared → Prop}
    (hh : A.handled = none) (F : Fr h₀ L s.heap m) (N : News h₀ L s.heap news) (X : K.In h₀) (T : Top p loose mean mg mb h₀)
    (hlen : nsIn K mainGlobals (Str.ofString "len") = some none) (hset : nsIn K mainGlobals (Str.ofString "set") = some none)
    (hx : m (Str.ofString "places") = some (.ref D)) (hD : (D, LCg.lst [.ref Da, .ref Db]) ∈ news) (ha : (Da, LCg.lst ps) ∈ news) (hb : (Db, LCg.lst qs) ∈ news)
    (hc : c = L + 1 + 1 + 1) (hcm : (c, o) ∈ news) (ho : o.data = .cell (some (.ref S))) (hS : (S, LCg.lst ss) ∈ news) (zs : IntsAre ss bits64)
    (zp : IntsAre ps xs) (zq : IntsAre qs ys) (hxy : (xs ++ ys).length = 56) (h56 : (firstMet (fun i => (xs ++ ys).getD i 0) 56).length = 56) (hin : ∀ n ∈ xs ++ ys, bits64.any (· == n) = true)
    (h : ∀ h' tk, Fr h₀ L h' m → News h₀ L h' news → Q .next { s with heap := h', toks := tk }) :
    wpAny (model prog w) A (exec (lawStmt 5) (lawEnv L fa cd)) Q E s := by
  have hl2 : xs.length + ys.length ≤ 1000 := by rw [List.length_append] at hxy; omega
  have zpq := zp.append zq
  have hsz : (ps ++ qs).toArray.size = 56 := by rw [List.size_toArray, zpq.length, hxy]
  refine wpAny_If (isTrue_or ?_)
  refine wpAny_isTrue_Compare1 (Call_ (nameX_B F X (topRead_of T) hlen boot_len (by decide) (callWith_builtin1 (args_cons ?_))))
  refine Call_ (nameX_B F X (topRead_of T) hset Pv.boot_set (by decide) ?_)
  refine Pv.callWith_type1 (args_cons ?_)
  refine two_lists F N hx hD ha hb zp zq hl2 (by rfl) (by rfl) (by rfl) fun l h₁ tk₁ F₁ N₁ => ?_
  refine args_nil ?_
  refine call_set_list (ns := xs ++ ys) hh (news_list N₁ List.mem_cons_self) zpq (by rw [hsz]; decide) fun h₂ tk₂ hset₂ up₂ => ?_
  have U₂ : Up h₁ h₂ := fun b o e => up₂ b o (Heap.lt_size e) e
  have F₂ := F₁.keeps U₂
  have N₂ := N₁.grown U₂
  rw [hsz, h56] at hset₂
  refine args_nil ?_
  obtain ⟨oS, es, ep, tb, hoS, hex, hdS, _, _, _, hfS, hnS⟩ := hset₂
  refine call_len_set hoS hex hdS hfS (by rw [hnS]; decide) ?_
  refine wpAny_Constant_int (ne_int (wpAny_truthy_bool ?_))
  rw [hnS]
  rw [if_neg (by decide)]
  refine isTrue_or ?_
  show wpAny _ _ (PySem.isTrue (.ListComp _ _ _ _) _ _) _ _ _
  refine isTrue_plain ?_
  refine LCt.ListComp_T (cl := [(Str.ofString "single", L + 1 + 1 + 1)]) F₂ (by rfl) (by decide) (by rfl) (by decide) (by rfl) ?_ (fun _ => rfl)
  have N₂' : News h₀ L h₂ news := fun q hq => N₂ q (List.mem_cons_of_mem _ hq)
  refine two_lists F₂ N₂' hx hD ha hb zp zq hl2 (by rfl) (by rfl) (by rfl) fun l₃ h₃ tk₃ F₃ N₃ => ?_
  refine LCt.CompSrcT.ledger (k := 0) (its := (ps ++ qs).toArray) hh F₃ N₃ List.mem_cons_self (by rw [hsz]; decide) fun g => ?_
  rw [hsz]
  refine rest_none (ns := xs ++ ys) ?_ (.inr ⟨_, List.mem_cons_self, rfl, 0, rfl⟩) ?_ ?_ _ 0 (by rw [hxy])
  · intro i v hv n hn
    obtain ⟨t, e⟩ := zpq.get i n hn
    have hv' : (ps ++ qs)[i]? = some v := by rw [← List.getElem?_toArray]; exact hv
    rw [e] at hv'
    exact ⟨t, (Option.some.inj hv').symm⟩
  · intro D' h₄ tk₄ F₄ N₄ o1
    refine wpAny_truthy_list (items := #[]) ⟨_, (N₄ _ List.mem_cons_self).1, rfl, _, rfl⟩ (by decide) ?_
    show if false = true then _ else _
    rw [if_neg Bool.false_ne_true]
    refine isTrue_or_nil ?_
    show if false = true then _ else _
    rw [if_neg Bool.false_ne_true]
    refine wpAny_execs_nil ?_
    exact h h₄ _ F₄ fun q hq => N₄ q (List.mem_cons_of_mem _ (List.mem_cons_of_mem _ hq))
  · intro n t I oI C oC D' m₂ h₄ tk₄ Q' E' hn hC hx₄ F₄ N₄ hQ'
    have up : ∀ q ∈ news, q ∈ (I, oI) :: (C, oC) :: (D', LCg.lst []) :: (l₃, lst0 (ps ++ qs)) :: news := fun q hq => List.mem_cons_of_mem _ (List.mem_cons_of_mem _ (List.mem_cons_of_mem _ (List.mem_cons_of_mem _ hq)))
    refine wpAny_isTrue_Compare1 (LCgL.ld_own N₄ (List.mem_cons_of_mem _ List.mem_cons_self) hC hx₄ ?_)
    refine wpAny_Name (wpAny_loadName_cell (c := L + 1 + 1 + 1) (v := .ref S) (by rfl) (by rfl) (by rfl) ⟨o, hc ▸ (N₄ _ (up _ hcm)).1, ho⟩ ?_)
    refine notin_list_ints (news_list N₄ (up _ hS)) zs ?_
    rw [hin n hn]
    exact wpAny_truthy_bool (hQ' _)
end
end Mine

namespace Mine
section
variable {prog : Program} {w : World} {A₀ A : Around} {E : Value → Shared → Prop} {s : Shared} {base h₀ : Heap} {outer : List Env} {L fa : Addr} {m : Str → Option Value} {news : List (Addr × Obj)} {K : Frag} {cd : Value}
  {p : Program} {loose : List Str} {mean : ExcName → Option Value} {mg mb : Str → Option Value}

/-- what an expression hands on: this number, in a heap that bears the frame and the ledger -/
def Gives (prog : Program) (w : World) (A : Around) (h₀ : Heap) (L : Addr) (m : Str → Option Value) (news : List (Addr × Obj)) (env : Env) (e : Expr) (c : Int) : Prop :=
  ∀ (s : Shared) (Q' E' : Value → Shared → Prop), Fr h₀ L s.heap m → News h₀ L s.heap news → (∀ t h tk, Fr h₀ L h m → News h₀ L h news → Q' (.int c t) { s with heap := h, toks := tk }) → wpAny (model prog w) A (eval e env) Q' E' s

theorem gives_perm {nf nt : Str} {q0 q1 q5 : Pos} {e1 : Expr} {c : Nat} {f a : Addr} {rows : List (List Nat)} {doc pm cdv ct oc : Value} {an od : Option Addr} {osl : Array (Option Value)}
    (B : Below A₀ base outer h₀) (X : K.In h₀) (T : Top p loose mean mg mb h₀) (hA : A.frames = some (lawEnv L fa cd :: outer))
    (ho : K.lookup f = some ⟨oc, od, .func (permFn doc pm an cdv ct), osl⟩) (hcd : codeIn K cdv (Str.ofString "_permute") = true) (hroom : A.depth < recursionLimit) (hh : A.handled = none)
    (ht : tabOf K a = some rows) (h16 : ∀ r ∈ rows, r.length = 16) (hkeep : keepIn K (.ref f) = true)
    (hnf : nsIn K mainGlobals nf = some (some (.ref f))) (hnt : nsIn K mainGlobals nt = some (some (.ref a)))
    (kf : (lawEnv L fa cd).kindOf nf = some .globalImplicit) (kt : (lawEnv L fa cd).kindOf nt = some .globalImplicit) (df : (nf == ("__debug__" : Str)) = false) (dt : (nt == ("__debug__" : Str)) = false)
    (he : starEach (e1 :: [.Name nt q1]) (lawEnv L fa cd) = (false, eval e1 (lawEnv L fa cd)) :: starEach [.Name nt q1] (lawEnv L fa cd)) (hplain : (backTo q5 (starEach [Expr.Name nt q1] (lawEnv L fa cd))).any (·.1) = false)
    (g : Gives prog w A h₀ L m news (lawEnv L fa cd) e1 (c : Int)) :
    Gives prog w A h₀ L m news (lawEnv L fa cd) (.Call (.Name nf q0) [e1, .Name nt q1] [] q5) (perm rows c : Nat) := by
  intro s Q E F N hQ
  refine Call_ (nameX_K F X (topRead_of T) hnf ?_ (by rfl) kf df)
  refine callWith_K X hkeep (args_cons (g _ _ _ F N fun t₁ h₁ tk₁ F₁ N₁ => ?_) he) he hplain
  refine args_cons (nameX_K F₁ X (topRead_of T) hnt (args_nil ⟨X.keeps F₁.keep, ?_⟩) (by rfl) kt dt)
  exact perm_call B F₁ X N₁ T hA rfl rfl ho hcd hroom hh ht h16 fun t' h' tk' F' N' => hQ t' h' tk' F' N'

theorem gives_name {x : Str} {q : Pos} {v : Int} {t : Tok} (hx : m x = some (.int v t)) (k : (lawEnv L fa cd).kindOf x = some .local) (d : (x == ("__debug__" : Str)) = false) :
    Gives prog w A h₀ L m news (lawEnv L fa cd) (.Name x q) v := fun _ _ _ F N hQ => nameX_L F hx (hQ _ _ _ F N) (by rfl) k d

theorem if2_stmt {D Da Db : Addr} {ps qs : List Value} {xs ys : List Int} {Q : Flow → Shared → Prop} {f a : Addr} {rows : List (List Nat)} {doc pm cdv ct oc : Value} {an od : Option Addr} {osl : Array (Option Value)}
    (B : Below A₀ base outer h₀) (F : Fr h₀ L s.heap m) (X : K.In h₀) (N : News h₀ L s.heap news) (T : Top p loose mean mg mb h₀) (hA : A.frames = some (lawEnv L fa cd :: outer))
    (ho : K.lookup f = some ⟨oc, od, .func (permFn doc pm an cdv ct), osl⟩) (hcd : codeIn K cdv (Str.ofString "_permute") = true) (hroom : A.depth < recursionLimit) (hh : A.handled = none)
    (ht : tabOf K a = some rows) (h16 : ∀ r ∈ rows, r.length = 16) (hkeep : keepIn K (.ref f) = true)
    (hnf : nsIn K mainGlobals (Str.ofString "_permute") = some (some (.ref f))) (hnt : nsIn K mainGlobals (Str.ofString "PC1ROT") = some (some (.ref a)))
    (hsum : nsIn K mainGlobals (Str.ofString "sum") = some none)
    (hx : m (Str.ofString "places") = some (.ref D)) (hD : (D, LCg.lst [.ref Da, .ref Db]) ∈ news) (ha : (Da, LCg.lst ps) ∈ news) (hb : (Db, LCg.lst qs) ∈ news)
    (zp : IntsAre ps xs) (zq : IntsAre qs ys) (hxy : (xs ++ ys).length = 56) (hall : ((perm rows 18446744073709551615 : Nat) : Int) = (xs ++ ys).sum)
    (h : ∀ h' tk, Fr h₀ L h' m → News h₀ L h' news → Q .next { s with heap := h', toks := tk }) :
    wpAny (model prog w) A (exec (lawStmt 6) (lawEnv L fa cd)) Q E s := by
  have hl2 : xs.length + ys.length ≤ 1000 := by rw [List.length_append] at hxy; omega
  have zpq := zp.append zq
  refine wpAny_If (wpAny_isTrue_Compare1 ?_)
  refine gives_perm (c := 18446744073709551615) B X T hA ho hcd hroom hh ht h16 hkeep hnf hnt (by rfl) (by rfl) (by rfl) (by rfl) rfl rfl ?_ s _ _ F N fun t₁ h₁ tk₁ F₁ N₁ => ?_
  · intro s' Q' E' F' N' hQ'
    refine wpAny_BinOp (wpAny_BinOp (wpAny_Constant_int (wpAny_Constant_int (pow_int_small (by decide) (by decide) (by decide) (wpAny_Constant_int (sub_int ?_))))))
    exact hQ' _ _ _ F' N'
  · refine Call_ (nameX_B F₁ X (topRead_of T) hsum boot_sum (by decide) (callWith_builtin1 (args_cons ?_)))
    refine two_lists F₁ N₁ hx hD ha hb zp zq hl2 (by rfl) (by rfl) (by rfl) fun l h₂ tk₂ F₂ N₂ => ?_
    refine args_nil (sumK hh F₂ N₂ (news_list N₂ List.mem_cons_self) zpq fun h₃ tk₃ t₃ F₃ N₃ => ?_)
    refine ne_int (wpAny_truthy_bool ?_)
    rw [hall]
    rw [if_neg (by simp)]
    exact wpAny_execs_nil (h _ _ F₃ fun q hq => N₃ q (List.mem_cons_of_mem _ hq))

theorem state_stmt {v : Int} {t : Tok} {Q : Flow → Shared → Prop} (F : Fr h₀ L s.heap m) (N : News h₀ L s.heap news) (hx : m (Str.ofString "key") = some (.int v t))
    (h : ∀ h' tk, Fr h₀ L h' (fun y => if y = Str.ofString "state" then some (.int v t) else m y) → News h₀ L h' news → Q .next { s with heap := h', toks := tk }) :
    wpAny (model prog w) A (exec (lawStmt 7) (lawEnv L fa cd)) Q E s := by
  refine wpAny_Assign_Name (nameX_L F hx ?_ (by rfl) (by rfl))
  exact storeX_L F N (fun h₁ F₁ N₁ => h h₁ _ F₁ N₁) (by rfl) (by rfl)
end
end Mine

namespace Mine
section
variable {prog : Program} {w : World} {A₀ A : Around} {E : Value → Shared → Prop} {s : Shared} {base h₀ : Heap} {outer : List Env} {L fa : Addr} {m : Str → Option Value} {news : List (Addr × Obj)} {K : Frag} {cd : Value}
  {p : Program} {loose : List Str} {mean : ExcName → Option Value} {mg mb : Str → Option Value}

def dueTurn (key t : Nat) (rowN fN : List Nat) (d b : Nat) : Nat := if key.testBit (rowN.getD b 0) then d ||| fN.getD ((b + 28 - t) % 28) 0 else d
def zints (ns : List Nat) : List Int := ns.map fun (n : Nat) => (n : Int)
theorem zints_getD {vs : List Value} {ns : List Nat} (z : IntsAre vs (zints ns)) {i : Nat} (hi : i < ns.length) : ∃ t, vs[i]? = some (.int ((ns.getD i 0 : Nat) : Int) t) := by
  refine z.get i _ ?_
  unfold zints
  rw [List.getElem?_map, List.getElem?_eq_getElem hi, List.getD_eq_getElem?_getD, List.getElem?_eq_getElem hi]
  rfl
theorem zints_length (ns : List Nat) : (zints ns).length = ns.length := List.length_map ..

def loopStmt : Stmt := lawStmt 8
/-- the body of the loop over the pairs, and of the one over the places -/
def pairBody : List Stmt := forBodyOf (((forBodyOf loopStmt)[2]?).getD (.Pass ⟨0, 0, 0, 0⟩))
def bitBody : List Stmt := forBodyOf ((pairBody[0]?).getD (.Pass ⟨0, 0, 0, 0⟩))

theorem testBit_iff (key r : Nat) : (((((key >>> r) &&& 1 : Nat) : Int)) == 1) = key.testBit r := by
  have h : key.testBit r = ((key >>> r) &&& 1 != 0) := by rw [Nat.testBit, Nat.and_comm]
  rw [h]
  have h2 : (key >>> r) &&& 1 = (key >>> r) % 2 := Nat.and_one_is_mod _
  rw [h2]
  rcases Nat.mod_two_eq_zero_or_one (key >>> r) with e | e <;> rw [e] <;> rfl

theorem bit_turn {key d b i t : Nat} {tk td tb ti : Tok} {ar af aT : Addr} {rv fv tv : List Value} {rowN fN turnsN : List Nat} {Q : Flow → Shared → Prop}
    (F : Fr h₀ L s.heap m) (N : News h₀ L s.heap news) (X : K.In h₀) (T : Top p loose mean mg mb h₀)
    (hkey : m (Str.ofString "key") = some (.int (key : Int) tk)) (hrow : m (Str.ofString "row") = some (.ref ar)) (hfound : m (Str.ofString "found") = some (.ref af)) (hdue : m (Str.ofString "due") = some (.int (d : Int) td))
    (hbit : m (Str.ofString "bit") = some (.int (b : Int) tb)) (hk : m (Str.ofString "k") = some (.int (i : Int) ti))
    (har : (ar, lst0 rv) ∈ news) (haf : (af, LCg.lst fv) ∈ news) (zr : IntsAre rv (zints rowN)) (zf : IntsAre fv (zints fN)) (hr28 : rowN.length = 28) (hf28 : fN.length = 28)
    (hnt : nsIn K mainGlobals (Str.ofString "_law_turns") = some (some (.ref aT))) (hT : tupOf K aT = some tv) (hTn : natsOf tv = some turnsN) (hi : turnsN[i]? = some t) (ht : t ≤ 27) (hi16 : i < 16) (hb : b < 28)
    (h : ∀ h' tk', Fr h₀ L h' m → News h₀ L h' news → ¬ key.testBit (rowN.getD b 0) = true → Q .next { s with heap := h', toks := tk' })
    (h2 : ∀ h' tk' t', Fr h₀ L h' (fun y => if y = Str.ofString "due" then some (.int ((d ||| fN.getD ((b + 28 - t) % 28) 0 : Nat) : Int) t') else m y) → News h₀ L h' news → key.testBit (rowN.getD b 0) = true → Q .next { s with heap := h', toks := tk' }) :
    wpAny (model prog w) A (execs bitBody (lawEnv L fa cd)) Q E s := by
  refine wpAny_execs_cons (wpAny_If (wpAny_isTrue_Compare1 ?_))
  refine wpAny_BinOp (wpAny_BinOp (nameX_L F hkey ?_ (by rfl) (by rfl)))
  refine Subscript_ (nameX_L F hrow (nameX_L F hbit ?_ (by rfl) (by rfl)) (by rfl) (by rfl))
  obtain ⟨t1, e1⟩ := zints_getD zr (i := b) (by omega)
  refine item_list (news_list N har) (by omega) (by omega) (by rw [Int.toNat_natCast]; exact e1) ?_
  refine rshift_int (by omega) ?_
  rw [Int.toNat_natCast, fdiv_pow_nat]
  refine wpAny_Constant_int (and_int ?_)
  rw [show Builtin.bitAnd ((key >>> rowN.getD b 0 : Nat) : Int) 1 = (((key >>> rowN.getD b 0) &&& 1 : Nat) : Int) from bitAnd_nat _ 1]
  refine wpAny_Constant_int (eq_int (wpAny_truthy_bool ?_))
  rw [testBit_iff]
  cases hbt : key.testBit (rowN.getD b 0) with
  | false =>
    rw [if_neg Bool.false_ne_true]
    refine wpAny_execs_nil ?_
    dsimp only
    exact wpAny_execs_nil (h _ _ F N (by rw [hbt]; exact Bool.false_ne_true))
  | true =>
    rw [if_pos rfl]
    refine wpAny_execs_cons (wpAny_Assign_Name (wpAny_BinOp (nameX_L F hdue ?_ (by rfl) (by rfl))))
    refine Subscript_ (nameX_L F hfound ?_ (by rfl) (by rfl))
    refine wpAny_BinOp (wpAny_BinOp (nameX_L F hbit (Subscript_ (nameX_K F X (topRead_of T) hnt (nameX_L F hk ?_ (by rfl) (by rfl)))) (by rfl) (by rfl)))
    obtain ⟨t2, e2⟩ := (natsOf_get hTn).2 i t hi
    have hlt : i < tv.length := (List.getElem?_eq_some_iff.mp e2).1
    refine item_tupleT ((tupOf_at X hT).keeps F.keep) (by omega) (by omega) (seqIndex_of (by omega) (by omega)) (by rw [Int.toNat_natCast]; exact e2) ?_
    refine sub_int (wpAny_Constant_int (mod_int' (by decide) ?_))
    have em : ((b : Int) - (t : Int)).fmod 28 = (((b + 28 - t) % 28 : Nat) : Int) := by
      rw [Int.fmod_eq_emod_of_nonneg _ (by decide)]
      omega
    rw [em]
    obtain ⟨t3, e3⟩ := zints_getD zf (i := (b + 28 - t) % 28) (by rw [hf28]; exact Nat.mod_lt _ (by decide))
    refine item_list (news_list N haf) (by omega) (by omega) (by rw [Int.toNat_natCast]; exact e3) ?_
    refine or_int ?_
    rw [bitOr_nat]
    refine storeX_L F N (fun h₁ F₁ N₁ => ?_) (by rfl) (by rfl)
    refine wpAny_execs_nil ?_
    exact wpAny_execs_nil (h2 _ _ _ F₁ N₁ hbt)
end
end Mine

namespace Mine
section
variable {prog : Program} {w : World} {A₀ A : Around} {E : Value → Shared → Prop} {s : Shared} {base h₀ : Heap} {outer : List Env} {L fa : Addr} {m : Str → Option Value} {news : List (Addr × Obj)} {K : Frag} {cd : Value}
  {p : Program} {loose : List Str} {mean : ExcName → Option Value} {mg mb : Str → Option Value}

def dueRow (key t : Nat) (rowN fN : List Nat) (d : Nat) : Nat := (List.range 28).foldl (dueTurn key t rowN fN) d

theorem foldl_rangeKs {σ : Type} (g : σ → Nat → σ) (n : Nat) (c : σ) : (rangeKs 0 n).foldl (fun c k => g c k.toNat) c = (List.range n).foldl g c := by
  unfold rangeKs
  rw [List.foldl_map]
  congr 1
  funext c i
  simp

theorem bit_loop {key d i t : Nat} {tk td ti : Tok} {ar af aT : Addr} {rv fv tv : List Value} {rowN fN turnsN : List Nat} {Q : Flow → Shared → Prop} (hE : PassesOwn (model prog w) A (lawEnv L fa cd) E)
    (hh : A.handled = none) (F : Fr h₀ L s.heap m) (N : News h₀ L s.heap news) (X : K.In h₀) (T : Top p loose mean mg mb h₀) (hrange : nsIn K mainGlobals (Str.ofString "range") = some none)
    (hkey : m (Str.ofString "key") = some (.int (key : Int) tk)) (hrow : m (Str.ofString "row") = some (.ref ar)) (hfound : m (Str.ofString "found") = some (.ref af)) (hdue : m (Str.ofString "due") = some (.int (d : Int) td))
    (hk : m (Str.ofString "k") = some (.int (i : Int) ti))
    (har : (ar, lst0 rv) ∈ news) (haf : (af, LCg.lst fv) ∈ news) (zr : IntsAre rv (zints rowN)) (zf : IntsAre fv (zints fN)) (hr28 : rowN.length = 28) (hf28 : fN.length = 28)
    (hnt : nsIn K mainGlobals (Str.ofString "_law_turns") = some (some (.ref aT))) (hT : tupOf K aT = some tv) (hTn : natsOf tv = some turnsN) (hi : turnsN[i]? = some t) (ht : t ≤ 27) (hi16 : i < 16)
    (h : ∀ h' tk' m' t', Fr h₀ L h' m' → News h₀ L h' news → (∀ z, z ≠ Str.ofString "bit" → z ≠ Str.ofString "due" → m' z = m z) → m' (Str.ofString "due") = some (.int (dueRow key t rowN fN d : Int) t') → Q .next { s with heap := h', toks := tk' }) :
    wpAny (model prog w) A (execs pairBody (lawEnv L fa cd)) Q E s := by
  refine wpAny_execs_cons (For_invV h₀ (by rfl) (by rfl) (Call_ (nameX_B F X (topRead_of T) hrange boot_range (by decide) (Pv.callWith_type1 (args_cons (wpAny_Constant_int (args_nil (range1_rows F N fun h₁ tk₁ t₁ u₁ v₁ R₁ F₁ N₁ _ => ?_))))))) (fun _ => rfl) hE)
  refine iter_rangeS (n := 28) (news := news) (m₀ := m) (fun (d' : Nat) m' nx => nx = news ∧ (∀ z, z ≠ Str.ofString "bit" → z ≠ Str.ofString "due" → m' z = m z) ∧ ∃ t', m' (Str.ofString "due") = some (.int (d' : Int) t')) (fun d' k => dueTurn key t rowN fN d' k.toNat) d
    hh R₁ (by decide) (by decide) F₁ N₁ ⟨rfl, fun _ _ _ => rfl, td, hdue⟩ ?_ ?_
  · rintro k tb d' m₁ nx h₂ tk₂ own hk' hoff ⟨rfl, hsame, ⟨td', hd'⟩⟩ F₂ N₂
    obtain ⟨k0, k28⟩ := mem_rangeKs hk'
    obtain ⟨b, rfl⟩ := Int.eq_ofNat_of_zero_le k0
    have hb : b < 28 := by omega
    have get : ∀ {z : Str} {r : Option Value}, m z = r → (z == Str.ofString "bit") = false → (z == Str.ofString "due") = false → (fun y => if y = Str.ofString "bit" then some (Value.int (b : Int) tb) else m₁ y) z = r := fun {z r} e h1 h2 =>
      (if_neg (by simpa using h1)).trans ((hsame z (by simpa using h1) (by simpa using h2)).trans e)
    have out : ∀ {m' : Str → Option Value} {d'' : Nat} {t' : Tok}, (∀ z, z ≠ Str.ofString "bit" → z ≠ Str.ofString "due" → m' z = m z) → m' (Str.ofString "due") = some (.int (d'' : Int) t') → d'' = dueTurn key t rowN fN d' b →
        ∀ h' tk', Fr h₀ L h' m' → News h₀ L h' (nx ++ own) → InvPostN h₀ (lawEnv L fa cd).locals (fun m' nx_1 => nx_1 = nx ∧ (∀ z, z ≠ Str.ofString "bit" → z ≠ Str.ofString "due" → m' z = m z) ∧ ∃ t', m' (Str.ofString "due") = some (.int ((dueTurn key t rowN fN d' ((b : Nat) : Int).toNat : Nat) : Int) t')) own (nx.map (·.1))
          { s with heap := h₂, toks := tk₂ } (fun f s' => match f with | .next => wpAny (model prog w) A (execs [] (lawEnv L fa cd)) Q E s' | f => Q f s') .next { s with heap := h', toks := tk' } := by
      rintro m' d'' t' e1 e2 rfl h' tk' F' N'
      exact ⟨h', tk', m', nx ++ own, nx, rfl, F', N', fun q hq => List.mem_append_left _ hq, fun q hq => List.mem_append_right _ hq, rfl, rfl, e1, t', e2⟩
    have dueB : (Str.ofString "due" == Str.ofString "bit") = false := by decide +kernel
    have hd2 : (fun y => if y = Str.ofString "bit" then some (Value.int (b : Int) tb) else m₁ y) (Str.ofString "due") = some (.int (d' : Int) td') := up_ne hd' dueB
    have sm : ∀ z, z ≠ Str.ofString "bit" → z ≠ Str.ofString "due" → (fun y => if y = Str.ofString "bit" then some (Value.int (b : Int) tb) else m₁ y) z = m z := fun z h1 h2 => (if_neg h1).trans (hsame z h1 h2)
    refine bit_turn (rv := rv) (fv := fv) (tv := tv) F₂ N₂ X T (get hkey (by decide +kernel) (by decide +kernel)) (get hrow (by decide +kernel) (by decide +kernel)) (get hfound (by decide +kernel) (by decide +kernel)) hd2 (if_pos rfl) (get hk (by decide +kernel) (by decide +kernel))
      (List.mem_append_left _ har) (List.mem_append_left _ haf) zr zf hr28 hf28 hnt hT hTn hi ht hi16 hb ?_ ?_
    · intro h' tk' F' N' hbt
      exact out sm hd2 (if_neg hbt).symm h' tk' F' N'
    · intro h' tk' t' F' N' hbt
      exact out (fun z h1 h2 => (if_neg h2).trans (sm z h1 h2)) (if_pos rfl) (if_pos hbt).symm h' tk' F' N'
  · rintro m₁ nx h₂ tk₂ ⟨rfl, hsame, ⟨td', hd'⟩⟩ F₂ N₂
    dsimp only
    rw [foldl_rangeKs (dueTurn key t rowN fN)] at hd'
    exact wpAny_execs_nil (h _ _ m₁ td' F₂ N₂ hsame hd')
end
end Mine

namespace Mine
section
variable {prog : Program} {w : World} {A₀ A : Around} {E : Value → Shared → Prop} {s : Shared} {base h₀ : Heap} {outer : List Env} {L fa : Addr} {m : Str → Option Value} {news : List (Addr × Obj)} {K : Frag} {cd : Value}
  {p : Program} {loose : List Str} {mean : ExcName → Option Value} {mg mb : Str → Option Value}

/-- all names but those that the pairs' loop stores -/
def Other (z : Str) : Prop := z ≠ Str.ofString "row" ∧ z ≠ Str.ofString "found" ∧ z ≠ Str.ofString "bit" ∧ z ≠ Str.ofString "due"

theorem pair_turn {q0 q1 q2 : Pos} {kt : Nat} {Tp : Addr} {key d i t : Nat} {tk td ti : Tok} {ar af aT : Addr} {rv fv tv : List Value} {rowN fN turnsN : List Nat} {Q : Flow → Shared → Prop} (hE : PassesOwn (model prog w) A (lawEnv L fa cd) E)
    (hh : A.handled = none) (F : Fr h₀ L s.heap m) (N : News h₀ L s.heap news) (X : K.In h₀) (T : Top p loose mean mg mb h₀) (hrange : nsIn K mainGlobals (Str.ofString "range") = some none) (htup : IsTup s.heap Tp #[.ref ar, .ref af])
    (hkey : m (Str.ofString "key") = some (.int (key : Int) tk)) (hdue : m (Str.ofString "due") = some (.int (d : Int) td)) (hk : m (Str.ofString "k") = some (.int (i : Int) ti))
    (har : (ar, lst0 rv) ∈ news) (haf : (af, LCg.lst fv) ∈ news) (zr : IntsAre rv (zints rowN)) (zf : IntsAre fv (zints fN)) (hr28 : rowN.length = 28) (hf28 : fN.length = 28)
    (hnt : nsIn K mainGlobals (Str.ofString "_law_turns") = some (some (.ref aT))) (hT : tupOf K aT = some tv) (hTn : natsOf tv = some turnsN) (hi : turnsN[i]? = some t) (ht : t ≤ 27) (hi16 : i < 16)
    (h : ∀ h' tk' m' t', Fr h₀ L h' m' → News h₀ L h' news → (∀ z, Other z → m' z = m z) → m' (Str.ofString "due") = some (.int (dueRow key t rowN fN d : Int) t') → Q .next { s with heap := h', toks := tk' }) :
    wpAny (model prog w) A (assign (.Tuple [.Name (Str.ofString "row") q0, .Name (Str.ofString "found") q1] kt q2) (lawEnv L fa cd) (.ref Tp)) (fun _ s₂ => wpAny (model prog w) A (execs pairBody (lawEnv L fa cd)) Q E s₂) E s := by
  refine wpAny_assign_Tuple hh htup (by rfl) (by rfl) fun h₁ ext => ?_
  have U₁ : Up s.heap h₁ := fun b o e => ext b o (Nat.ne_of_lt (Heap.lt_size e)) e
  have F₁ := F.keeps U₁
  have N₁ := N.grown U₁
  refine assignInOrder_cons (wpAny_assign_Name (storeX_L F₁ N₁ (fun h₂ F₂ N₂ => ?_) (by rfl) (by rfl)))
  refine assignInOrder_cons (wpAny_assign_Name (storeX_L F₂ N₂ (fun h₃ F₃ N₃ => ?_) (by rfl) (by rfl)))
  refine assignInOrder_nil ?_
  have e0 : (fun y => if y = Str.ofString "found" then some (.ref af) else (fun y => if y = Str.ofString "row" then some (Value.ref ar) else m y) y) (Str.ofString "found") = some (Value.ref af) := if_pos rfl
  have e1 : (fun y => if y = Str.ofString "found" then some (.ref af) else (fun y => if y = Str.ofString "row" then some (Value.ref ar) else m y) y) (Str.ofString "row") = some (Value.ref ar) :=
    (if_neg (by decide +kernel)).trans (if_pos rfl)
  have e2 : ∀ z, z ≠ Str.ofString "found" → z ≠ Str.ofString "row" → (fun y => if y = Str.ofString "found" then some (.ref af) else (fun y => if y = Str.ofString "row" then some (Value.ref ar) else m y) y) z = m z := fun z h1 h2 => (if_neg h1).trans (if_neg h2)
  refine bit_loop (rv := rv) (fv := fv) (tv := tv) hE hh F₃ N₃ X T hrange ((e2 _ (by decide +kernel) (by decide +kernel)).trans hkey) e1 e0 ((e2 _ (by decide +kernel) (by decide +kernel)).trans hdue) ((e2 _ (by decide +kernel) (by decide +kernel)).trans hk)
    har haf zr zf hr28 hf28 hnt hT hTn hi ht hi16 fun h' tk' m' t' F' N' hs hd => ?_
  exact h h' tk' m' t' F' N' (fun z hz => (hs z hz.2.2.1 hz.2.2.2).trans (e2 z hz.2.1 hz.1)) hd

def zipStmt : Stmt := ((forBodyOf loopStmt)[2]?).getD (.Pass ⟨0, 0, 0, 0⟩)

theorem zip_loop {key d i t : Nat} {tk td ti : Tok} {r ra rb D Da Db aT : Addr} {vs us ps qs tv : List Value} {r0 r1 f0 f1 turnsN : List Nat} {Q : Flow → Shared → Prop} (hE : PassesOwn (model prog w) A (lawEnv L fa cd) E)
    (hh : A.handled = none) (F : Fr h₀ L s.heap m) (N : News h₀ L s.heap news) (X : K.In h₀) (T : Top p loose mean mg mb h₀) (hrange : nsIn K mainGlobals (Str.ofString "range") = some none) (hzip : nsIn K mainGlobals (Str.ofString "zip") = some none)
    (hkey : m (Str.ofString "key") = some (.int (key : Int) tk)) (hdue : m (Str.ofString "due") = some (.int (d : Int) td)) (hk : m (Str.ofString "k") = some (.int (i : Int) ti)) (hrows : m (Str.ofString "rows") = some (.ref r)) (hpl : m (Str.ofString "places") = some (.ref D))
    (hr : (r, lst0 [.ref ra, .ref rb]) ∈ news) (hra : (ra, lst0 vs) ∈ news) (hrb : (rb, lst0 us) ∈ news) (hD : (D, LCg.lst [.ref Da, .ref Db]) ∈ news) (hDa : (Da, LCg.lst ps) ∈ news) (hDb : (Db, LCg.lst qs) ∈ news)
    (z0 : IntsAre vs (zints r0)) (z1 : IntsAre us (zints r1)) (y0 : IntsAre ps (zints f0)) (y1 : IntsAre qs (zints f1)) (l0 : r0.length = 28) (l1 : r1.length = 28) (k0 : f0.length = 28) (k1 : f1.length = 28)
    (hnt : nsIn K mainGlobals (Str.ofString "_law_turns") = some (some (.ref aT))) (hT : tupOf K aT = some tv) (hTn : natsOf tv = some turnsN) (hi : turnsN[i]? = some t) (ht : t ≤ 27) (hi16 : i < 16)
    (h : ∀ h' tk' m' t', Fr h₀ L h' m' → News h₀ L h' news → (∀ z, Other z → m' z = m z) → m' (Str.ofString "due") = some (.int (dueRow key t r1 f1 (dueRow key t r0 f0 d) : Int) t') → Q .next { s with heap := h', toks := tk' }) :
    wpAny (model prog w) A (exec zipStmt (lawEnv L fa cd)) Q E s := by
  refine For_turns (m := m) (h₀ := h₀) F (Call_ (nameX_B F X (topRead_of T) hzip boot_zip (by decide) (Pv.callWith_type1 (args_cons (nameX_L F hrows (args_cons (nameX_L F hpl (args_nil ?_) (by rfl) (by rfl))) (by rfl) (by rfl)))))) (fun _ => rfl) hE
  refine ktu_zip (xs := [.ref ra, .ref rb]) (ys := [.ref Da, .ref Db]) hh F N hr rfl rfl hD rfl rfl fun I hI => ?_
  have off : ∀ {o1 o2 o3 o4 o5 : Obj}, ∀ q ∈ news, ∀ q' ∈ [(I + 4, o1), (I + 2, o2), (I + 3, o3), (I, o4), (I + 1, o5)], q.1 ≠ q'.1 := by
    intro o1 o2 o3 o4 o5 q hq q' hq'
    have := hI q hq
    simp only [List.mem_cons, List.not_mem_nil, or_false] at hq'
    rcases hq' with rfl | rfl | rfl | rfl | rfl
    · exact Nat.ne_of_lt (Nat.lt_of_lt_of_le this (Nat.le_add_right _ _))
    · exact Nat.ne_of_lt (Nat.lt_of_lt_of_le this (Nat.le_add_right _ _))
    · exact Nat.ne_of_lt (Nat.lt_of_lt_of_le this (Nat.le_add_right _ _))
    · exact Nat.ne_of_lt this
    · exact Nat.ne_of_lt (Nat.lt_of_lt_of_le this (Nat.le_add_right _ _))
  have keep : SubL [(r, lst0 [.ref ra, .ref rb]), (D, LCg.lst [.ref Da, .ref Db])] news := ⟨hr, hD, trivial⟩
  refine ItemsRest.pair fun Tp tt h₁ tk₁ hTp F₁ => ?_
  refine AllObj.cons fun o1 _ => AllObj.cons fun o2 _ => AllObj.cons fun o3 _ => AllObj.cons fun o4 _ => AllObj.cons fun o5 _ => AllObj.nil fun N₁ => ?_
  refine pair_turn (rv := vs) (fv := ps) (tv := tv) hE hh F₁ N₁ X T hrange hTp hkey hdue hk (List.mem_append_right _ hra) (List.mem_append_right _ hDa) z0 y0 l0 k0 hnt hT hTn hi ht hi16 fun h₂ tk₂ m₂ t₂ F₂ N₂ s₂ d₂ => ?_
  refine ⟨h₂, tk₂, m₂, news, rfl, F₂, N₂, off, keep, ?_⟩
  have o_key : Other (Str.ofString "key") := by unfold Other; decide +kernel
  have o_k : Other (Str.ofString "k") := by unfold Other; decide +kernel
  refine ItemsRest.pair fun Tp tt h₃ tk₃ hTp F₃ => ?_
  refine AllObj.cons fun o1 _ => AllObj.cons fun o2 _ => AllObj.cons fun o3 _ => AllObj.cons fun o4 _ => AllObj.cons fun o5 _ => AllObj.nil fun N₃ => ?_
  refine pair_turn (rv := us) (fv := qs) (tv := tv) hE hh F₃ N₃ X T hrange hTp ((s₂ _ o_key).trans hkey) d₂ ((s₂ _ o_k).trans hk) (List.mem_append_right _ hrb) (List.mem_append_right _ hDb) z1 y1 l1 k1 hnt hT hTn hi ht hi16 fun h₄ tk₄ m₄ t₄ F₄ N₄ s₄ d₄ => ?_
  refine ⟨h₄, tk₄, m₄, news, rfl, F₄, N₄, off, keep, ?_⟩
  refine ItemsRest.zero fun h₅ tk₅ F₅ N₅ => ?_
  exact h h₅ tk₅ m₄ t₄ F₅ N₅ (fun z hz => (s₄ z hz).trans (s₂ z hz)) d₄
end
end Mine

namespace Mine
section
variable {prog : Program} {w : World} {A₀ A : Around} {E : Value → Shared → Prop} {s : Shared} {base h₀ : Heap} {outer : List Env} {L fa : Addr} {m : Str → Option Value} {news : List (Addr × Obj)} {K : Frag} {cd : Value}
  {p : Program} {loose : List Str} {mean : ExcName → Option Value} {mg mb : Str → Option Value}

theorem gives_perm2 {nf : Str} {q0 q5 : Pos} {e1 e2 : Expr} {c : Nat} {f a : Addr} {rows : List (List Nat)} {doc pm cdv ct oc : Value} {an od : Option Addr} {osl : Array (Option Value)}
    (B : Below A₀ base outer h₀) (X : K.In h₀) (T : Top p loose mean mg mb h₀) (hA : A.frames = some (lawEnv L fa cd :: outer))
    (ho : K.lookup f = some ⟨oc, od, .func (permFn doc pm an cdv ct), osl⟩) (hcd : codeIn K cdv (Str.ofString "_permute") = true) (hroom : A.depth < recursionLimit) (hh : A.handled = none)
    (ht : tabOf K a = some rows) (h16 : ∀ r ∈ rows, r.length = 16) (hkeep : keepIn K (.ref f) = true)
    (hnf : nsIn K mainGlobals nf = some (some (.ref f)))
    (kf : (lawEnv L fa cd).kindOf nf = some .globalImplicit) (df : (nf == ("__debug__" : Str)) = false)
    (he : starEach (e1 :: [e2]) (lawEnv L fa cd) = (false, eval e1 (lawEnv L fa cd)) :: starEach [e2] (lawEnv L fa cd)) (hplain : (backTo q5 (starEach [e2] (lawEnv L fa cd))).any (·.1) = false)
    (he2 : starEach (e2 :: []) (lawEnv L fa cd) = (false, eval e2 (lawEnv L fa cd)) :: starEach [] (lawEnv L fa cd))
    (g : Gives prog w A h₀ L m news (lawEnv L fa cd) e1 (c : Int))
    (g2 : ∀ (s : Shared) (Q' E' : Value → Shared → Prop), Fr h₀ L s.heap m → News h₀ L s.heap news → (∀ tk, Q' (.ref a) { s with toks := tk }) → wpAny (model prog w) A (eval e2 (lawEnv L fa cd)) Q' E' s) :
    Gives prog w A h₀ L m news (lawEnv L fa cd) (.Call (.Name nf q0) [e1, e2] [] q5) (perm rows c : Nat) := by
  intro s Q E F N hQ
  refine Call_ (nameX_K F X (topRead_of T) hnf ?_ (by rfl) kf df)
  refine callWith_K X hkeep (args_cons (g _ _ _ F N fun t₁ h₁ tk₁ F₁ N₁ => ?_) he) he hplain
  refine args_cons (g2 _ _ _ F₁ N₁ fun tk₂ => args_nil ⟨X.keeps F₁.keep, ?_⟩) he2
  exact perm_call B F₁ X N₁ T hA rfl rfl ho hcd hroom hh ht h16 fun t' h' tk' F' N' => hQ t' h' tk' F' N'

/-- all names but those that the rounds store -/
def Other2 (z : Str) : Prop := Other z ∧ z ≠ Str.ofString "state"

theorem round_turn {key i t st : Nat} {tk ti ts : Tok} {f a ax pb r ra rb D Da Db aT : Addr} {vs us ps qs tv pv pw : List Value} {rows : List (List Nat)} {r0 r1 f0 f1 turnsN : List Nat} {Q : Flow → Shared → Prop} {doc pm cdv ct oc : Value} {an od : Option Addr} {osl : Array (Option Value)}
    (hE : PassesOwn (model prog w) A (lawEnv L fa cd) E)
    (B : Below A₀ base outer h₀) (F : Fr h₀ L s.heap m) (X : K.In h₀) (N : News h₀ L s.heap news) (T : Top p loose mean mg mb h₀) (hA : A.frames = some (lawEnv L fa cd :: outer))
    (ho : K.lookup f = some ⟨oc, od, .func (permFn doc pm an cdv ct), osl⟩) (hcd : codeIn K cdv (Str.ofString "_permute") = true) (hroom : A.depth < recursionLimit) (hh : A.handled = none)
    (htab : tabOf K a = some rows) (h16 : ∀ r ∈ rows, r.length = 16) (hkeep : keepIn K (.ref f) = true)
    (hnf : nsIn K mainGlobals (Str.ofString "_permute") = some (some (.ref f))) (hnx : nsIn K mainGlobals (Str.ofString "PCXROT") = some (some (.ref ax)))
    (hpv : tupOf K ax = some pv) (hpb : pv[i / 2]? = some (.ref pb)) (hpw : tupOf K pb = some pw) (hpa : pw[i % 2]? = some (.ref a))
    (hrange : nsIn K mainGlobals (Str.ofString "range") = some none) (hzip : nsIn K mainGlobals (Str.ofString "zip") = some none)
    (hkey : m (Str.ofString "key") = some (.int (key : Int) tk)) (hst : m (Str.ofString "state") = some (.int (st : Int) ts)) (hk : m (Str.ofString "k") = some (.int (i : Int) ti)) (hrows : m (Str.ofString "rows") = some (.ref r)) (hpl : m (Str.ofString "places") = some (.ref D))
    (hr : (r, lst0 [.ref ra, .ref rb]) ∈ news) (hra : (ra, lst0 vs) ∈ news) (hrb : (rb, lst0 us) ∈ news) (hD : (D, LCg.lst [.ref Da, .ref Db]) ∈ news) (hDa : (Da, LCg.lst ps) ∈ news) (hDb : (Db, LCg.lst qs) ∈ news)
    (z0 : IntsAre vs (zints r0)) (z1 : IntsAre us (zints r1)) (y0 : IntsAre ps (zints f0)) (y1 : IntsAre qs (zints f1)) (l0 : r0.length = 28) (l1 : r1.length = 28) (k0 : f0.length = 28) (k1 : f1.length = 28)
    (hnt : nsIn K mainGlobals (Str.ofString "_law_turns") = some (some (.ref aT))) (hT : tupOf K aT = some tv) (hTn : natsOf tv = some turnsN) (hi : turnsN[i]? = some t) (ht : t ≤ 27) (hi16 : i < 16)
    (heq : perm rows st = dueRow key t r1 f1 (dueRow key t r0 f0 0))
    (h : ∀ h' tk' m' t', Fr h₀ L h' m' → News h₀ L h' news → (∀ z, Other2 z → m' z = m z) → m' (Str.ofString "state") = some (.int (perm rows st : Int) t') → Q .next { s with heap := h', toks := tk' }) :
    wpAny (model prog w) A (execs (forBodyOf loopStmt) (lawEnv L fa cd)) Q E s := by
  refine wpAny_execs_cons (wpAny_Assign_Name ?_)
  refine gives_perm2 B X T hA ho hcd hroom hh htab h16 hkeep hnf (by rfl) (by rfl) rfl rfl rfl (gives_name hst (by rfl) (by rfl)) ?_ _ _ _ F N fun t₁ h₁ tk₁ F₁ N₁ => ?_
  · intro s' Q' E' F' N' hQ'
    refine Subscript_ (Subscript_ (nameX_K F' X (topRead_of T) hnx (wpAny_BinOp (nameX_L F' hk (wpAny_Constant_int (floordiv_int (by decide) ?_)) (by rfl) (by rfl)))))
    have e1 : ((i : Int)).fdiv 2 = ((i / 2 : Nat) : Int) := by rw [Int.fdiv_eq_ediv_of_nonneg _ (by decide)]; rfl
    rw [e1]
    have b1 : i / 2 < pv.length := (List.getElem?_eq_some_iff.mp hpb).1
    refine item_tupleT ((tupOf_at X hpv).keeps F'.keep) (by omega) (by omega) (seqIndex_of (by omega) (by omega)) (by rw [Int.toNat_natCast]; exact hpb) ?_
    refine wpAny_BinOp (nameX_L F' hk (wpAny_Constant_int (mod_int' (by decide) ?_)) (by rfl) (by rfl))
    have e2 : ((i : Int)).fmod 2 = ((i % 2 : Nat) : Int) := by rw [Int.fmod_eq_emod_of_nonneg _ (by decide)]; rfl
    rw [e2]
    have b2 : i % 2 < pw.length := (List.getElem?_eq_some_iff.mp hpa).1
    refine item_tupleT ((tupOf_at X hpw).keeps F'.keep) (by omega) (by omega) (seqIndex_of (by omega) (by omega)) (by rw [Int.toNat_natCast]; exact hpa) ?_
    exact hQ' _
  · refine storeX_L F₁ N₁ (fun h₂ F₂ N₂ => ?_) (by rfl) (by rfl)
    dsimp only
    refine wpAny_execs_cons (wpAny_Assign_Name (wpAny_Constant_int (storeX_L F₂ N₂ (fun h₃ F₃ N₃ => ?_) (by rfl) (by rfl))))
    dsimp only
    refine wpAny_execs_cons ?_
    have q0 : ∀ (v x : Value), (fun y => if y = Str.ofString "due" then some v else (fun y => if y = Str.ofString "state" then some x else m y) y) (Str.ofString "due") = some v := fun _ _ => if_pos rfl
    have q1 : ∀ (v x : Value), (fun y => if y = Str.ofString "due" then some v else (fun y => if y = Str.ofString "state" then some x else m y) y) (Str.ofString "state") = some x := fun v x => (if_neg (by decide +kernel)).trans (if_pos rfl)
    have q2 : ∀ (v x : Value) z, z ≠ Str.ofString "due" → z ≠ Str.ofString "state" → (fun y => if y = Str.ofString "due" then some v else (fun y => if y = Str.ofString "state" then some x else m y) y) z = m z := fun v x z h1 h2 => (if_neg h1).trans (if_neg h2)
    refine zip_loop (d := 0) (vs := vs) (us := us) (ps := ps) (qs := qs) (tv := tv) hE hh F₃ N₃ X T hrange hzip ((q2 _ _ _ (by decide +kernel) (by decide +kernel)).trans hkey) (q0 _ _) ((q2 _ _ _ (by decide +kernel) (by decide +kernel)).trans hk)
      ((q2 _ _ _ (by decide +kernel) (by decide +kernel)).trans hrows) ((q2 _ _ _ (by decide +kernel) (by decide +kernel)).trans hpl) hr hra hrb hD hDa hDb z0 z1 y0 y1 l0 l1 k0 k1 hnt hT hTn hi ht hi16 fun h₄ tk₄ m₄ t₄ F₄ N₄ s₄ d₄ => ?_
    dsimp only
    have o_st : Other (Str.ofString "state") := by unfold Other; decide +kernel
    have st₄ := (s₄ _ o_st).trans (q1 _ _)
    refine wpAny_execs_cons (wpAny_If (wpAny_isTrue_Compare1 (nameX_L F₄ st₄ (nameX_L F₄ d₄ (ne_int (wpAny_truthy_bool ?_)) (by rfl) (by rfl)) (by rfl) (by rfl))))
    rw [heq]
    rw [if_neg (by simp)]
    refine wpAny_execs_nil ?_
    dsimp only
    refine wpAny_execs_nil ?_
    exact h _ _ m₄ _ F₄ N₄ (fun z hz => (s₄ z hz.1).trans (q2 _ _ z hz.1.2.2.2 hz.2)) st₄
end
end Mine

namespace Mine
section
variable {prog : Program} {w : World} {A₀ A : Around} {E : Value → Shared → Prop} {s : Shared} {base h₀ : Heap} {outer : List Env} {L fa : Addr} {m : Str → Option Value} {news : List (Addr × Obj)} {K : Frag} {cd : Value}
  {p : Program} {loose : List Str} {mean : ExcName → Option Value} {mg mb : Str → Option Value}

theorem iter_rangeI {env : Env} {x : Str} {body : List Stmt} {Q : Flow → Shared → Prop} {r : Addr} {n : Nat} {t₀ u₀ v₀ : Tok} {m₀ : Str → Option Value} (J : Nat → (Str → Option Value) → List (Addr × Obj) → Prop)
    (hh : A.handled = none) (hr : IsRange s.heap r 0 n 1 t₀ u₀ v₀) (hsmall : Builtin.Range.small 0 n 1 = true) (hn : Builtin.Range.rangeSize 0 n 1 = (n : Int)) (F : Fr h₀ env.locals s.heap m₀) (N : News h₀ env.locals s.heap news) (hJ : J 0 m₀ news)
    (turn : ∀ i t m₁ nx h tk own, i < n → OwnOff own (news.map (·.1)) → J i m₁ nx → Fr h₀ env.locals h (fun y => if y = x then some (.int (i : Nat) t) else m₁ y) → News h₀ env.locals h (nx ++ own) →
      wpAny (model prog w) A (execs body env) (InvPostN h₀ env.locals (J (i + 1)) own (news.map (·.1)) { s with heap := h, toks := tk } Q) E { s with heap := h, toks := tk })
    (done : ∀ m₁ nx h tk, J n m₁ nx → Fr h₀ env.locals h m₁ → News h₀ env.locals h nx → Q .next { s with heap := h, toks := tk }) :
    wpAny (model prog w) A (pyIter (.ref r)) (fun it s₂ => LoopAtV prog w A h₀ env x body Q E it s₂) E s := by
  refine wpAny_pyIter_range hr hsmall ?_
  have W : Walks prog w A s.heap.objs.size [s.heap.objs.size] [s.heap.objs.size] n (fun i v => i < n ∧ ∃ t, v = .int (0 + i * 1) t)
      (fun i h => IsRangeIter h s.heap.objs.size (0 + (i : Nat) * 1) ((n : Int) - (i : Nat)) 1) := (Walks.range hh _ 0 1 n).bound
  refine loop_invN J W ?_ ?_ ?_ ?_ (by show IsRangeIter _ _ _ _ _; rw [hn]; simpa using Heap.get?_push_size _ rfl) (F.push _) (fun p hp => ⟨Heap.get?_push_of_some _ (N p hp).1, (N p hp).2⟩) hJ ?_ done
  · intro hm
    exact absurd F.ns.lt ((List.mem_singleton.mp hm) ▸ Nat.lt_irrefl _)
  · intro b hb
    rw [List.mem_singleton.mp hb]
    exact next_is_new F
  · intro p hp hI
    exact absurd (Heap.lt_size (N p hp).1) ((List.mem_singleton.mp hI) ▸ Nat.lt_irrefl _)
  · intro p hp hI
    exact absurd (Heap.lt_size (N p hp).1) ((List.mem_singleton.mp hI) ▸ Nat.lt_irrefl _)
  · rintro i v m₁ nx h tk own hin ⟨_, t, rfl⟩ _ hoff hJ' F' N'
    have e : (0 + (i : Int) * 1) = (i : Int) := by omega
    rw [e] at F'
    exact turn i t m₁ nx h tk own hin hoff hJ' F' N'

/-- the state behind i rounds -/
def stN (tabs : Nat → List (List Nat)) (key : Nat) : Nat → Nat
  | 0 => key
  | i + 1 => perm (tabs i) (stN tabs key i)

def Other3 (z : Str) : Prop := Other2 z ∧ z ≠ Str.ofString "k"

theorem main_loop {key : Nat} {tk ts : Tok} {f ax r ra rb D Da Db aT : Addr} {vs us ps qs tv pv : List Value} {tabs : Nat → List (List Nat)} {turns : Nat → Nat} {r0 r1 f0 f1 turnsN : List Nat} {Q : Flow → Shared → Prop} {doc pm cdv ct oc : Value} {an od : Option Addr} {osl : Array (Option Value)}
    (hE : PassesOwn (model prog w) A (lawEnv L fa cd) E)
    (B : Below A₀ base outer h₀) (F : Fr h₀ L s.heap m) (X : K.In h₀) (N : News h₀ L s.heap news) (T : Top p loose mean mg mb h₀) (hA : A.frames = some (lawEnv L fa cd :: outer))
    (ho : K.lookup f = some ⟨oc, od, .func (permFn doc pm an cdv ct), osl⟩) (hcd : codeIn K cdv (Str.ofString "_permute") = true) (hroom : A.depth < recursionLimit) (hh : A.handled = none)
    (hkeep : keepIn K (.ref f) = true)
    (hnf : nsIn K mainGlobals (Str.ofString "_permute") = some (some (.ref f))) (hnx : nsIn K mainGlobals (Str.ofString "PCXROT") = some (some (.ref ax)))
    (hpv : tupOf K ax = some pv)
    (hpx : ∀ i, i < 16 → ∃ pb pw a, pv[i / 2]? = some (.ref pb) ∧ tupOf K pb = some pw ∧ pw[i % 2]? = some (.ref a) ∧ tabOf K a = some (tabs i) ∧ ∀ r ∈ tabs i, r.length = 16)
    (hrange : nsIn K mainGlobals (Str.ofString "range") = some none) (hzip : nsIn K mainGlobals (Str.ofString "zip") = some none)
    (hkey : m (Str.ofString "key") = some (.int (key : Int) tk)) (hst : m (Str.ofString "state") = some (.int (key : Int) ts)) (hrows : m (Str.ofString "rows") = some (.ref r)) (hpl : m (Str.ofString "places") = some (.ref D))
    (hr : (r, lst0 [.ref ra, .ref rb]) ∈ news) (hra : (ra, lst0 vs) ∈ news) (hrb : (rb, lst0 us) ∈ news) (hD : (D, LCg.lst [.ref Da, .ref Db]) ∈ news) (hDa : (Da, LCg.lst ps) ∈ news) (hDb : (Db, LCg.lst qs) ∈ news)
    (z0 : IntsAre vs (zints r0)) (z1 : IntsAre us (zints r1)) (y0 : IntsAre ps (zints f0)) (y1 : IntsAre qs (zints f1)) (l0 : r0.length = 28) (l1 : r1.length = 28) (k0 : f0.length = 28) (k1 : f1.length = 28)
    (hnt : nsIn K mainGlobals (Str.ofString "_law_turns") = some (some (.ref aT))) (hT : tupOf K aT = some tv) (hTn : natsOf tv = some turnsN) (hi : ∀ i, i < 16 → turnsN[i]? = some (turns i) ∧ turns i ≤ 27)
    (heq : ∀ i, i < 16 → perm (tabs i) (stN tabs key i) = dueRow key (turns i) r1 f1 (dueRow key (turns i) r0 f0 0))
    (h : ∀ h' tk' m' t', Fr h₀ L h' m' → News h₀ L h' news → (∀ z, Other3 z → m' z = m z) → m' (Str.ofString "state") = some (.int (stN tabs key 16 : Int) t') → Q .next { s with heap := h', toks := tk' }) :
    wpAny (model prog w) A (exec loopStmt (lawEnv L fa cd)) Q E s := by
  refine For_invV h₀ (by rfl) (by rfl) (Call_ (nameX_B F X (topRead_of T) hrange boot_range (by decide) (Pv.callWith_type1 (args_cons (wpAny_Constant_int (args_nil (range1_rows F N fun h₁ tk₁ t₁ u₁ v₁ R₁ F₁ N₁ _ => ?_))))))) (fun _ => rfl) hE
  refine iter_rangeI (n := 16) (news := news) (m₀ := m) (fun i m' nx => nx = news ∧ (∀ z, Other3 z → m' z = m z) ∧ ∃ t', m' (Str.ofString "state") = some (.int (stN tabs key i : Int) t')) hh R₁ (by decide) (by decide) F₁ N₁ ⟨rfl, fun _ _ => rfl, ts, hst⟩ ?_ ?_
  · rintro i ti m₁ nx h₂ tk₂ own hi16 hoff ⟨rfl, hsame, ⟨ts', hs'⟩⟩ F₂ N₂
    obtain ⟨pb, pw, a, e1, e2, e3, e4, e5⟩ := hpx i hi16
    have get : ∀ {z : Str} {r : Option Value}, m z = r → Other3 z → (fun y => if y = Str.ofString "k" then some (Value.int (i : Int) ti) else m₁ y) z = r := fun {z r} e hz => (if_neg hz.2).trans ((hsame z hz).trans e)
    have o1 : Other3 (Str.ofString "key") := by unfold Other3 Other2 Other; decide +kernel
    have o2 : Other3 (Str.ofString "rows") := by unfold Other3 Other2 Other; decide +kernel
    have o3 : Other3 (Str.ofString "places") := by unfold Other3 Other2 Other; decide +kernel
    have sk : (Str.ofString "state" == Str.ofString "k") = false := by decide +kernel
    refine round_turn (vs := vs) (us := us) (ps := ps) (qs := qs) (tv := tv) hE B F₂ X N₂ T hA ho hcd hroom hh e4 e5 hkeep hnf hnx hpv e1 e2 e3 hrange hzip (get hkey o1) (up_ne hs' sk) (if_pos rfl) (get hrows o2) (get hpl o3)
      (List.mem_append_left _ hr) (List.mem_append_left _ hra) (List.mem_append_left _ hrb) (List.mem_append_left _ hD) (List.mem_append_left _ hDa) (List.mem_append_left _ hDb) z0 z1 y0 y1 l0 l1 k0 k1 hnt hT hTn (hi i hi16).1 (hi i hi16).2 hi16 (heq i hi16) fun h₃ tk₃ m₃ t₃ F₃ N₃ s₃ st₃ => ?_
    exact ⟨h₃, tk₃, m₃, nx ++ own, nx, rfl, F₃, N₃, fun q hq => List.mem_append_left _ hq, fun q hq => List.mem_append_right _ hq, rfl, rfl, fun z hz => (s₃ z hz.1).trans ((if_neg hz.2).trans (hsame z hz)), t₃, st₃⟩
  · rintro m₁ nx h₂ tk₂ ⟨rfl, hsame, ⟨ts', hs'⟩⟩ F₂ N₂
    exact h _ _ m₁ ts' F₂ N₂ hsame hs'
end
end Mine

namespace Mine
section
variable {prog : Program} {w : World} {A₀ A : Around} {E : Value → Shared → Prop} {s : Shared} {base h₀ : Heap} {outer : List Env} {L fa : Addr} {m : Str → Option Value} {news : List (Addr × Obj)} {K : Frag} {cd : Value}
  {p : Program} {loose : List Str} {mean : ExcName → Option Value} {mg mb : Str → Option Value}

theorem begun_stmt {key : Nat} {tk : Tok} {f a : Addr} {rows : List (List Nat)} {Q : Flow → Shared → Prop} {doc pm cdv ct oc : Value} {an od : Option Addr} {osl : Array (Option Value)}
    (B : Below A₀ base outer h₀) (F : Fr h₀ L s.heap m) (X : K.In h₀) (N : News h₀ L s.heap news) (T : Top p loose mean mg mb h₀) (hA : A.frames = some (lawEnv L fa cd :: outer))
    (ho : K.lookup f = some ⟨oc, od, .func (permFn doc pm an cdv ct), osl⟩) (hcd : codeIn K cdv (Str.ofString "_permute") = true) (hroom : A.depth < recursionLimit) (hh : A.handled = none)
    (ht : tabOf K a = some rows) (h16 : ∀ r ∈ rows, r.length = 16) (hkeep : keepIn K (.ref f) = true)
    (hnf : nsIn K mainGlobals (Str.ofString "_permute") = some (some (.ref f))) (hnt : nsIn K mainGlobals (Str.ofString "PC1ROT") = some (some (.ref a)))
    (hkey : m (Str.ofString "key") = some (.int (key : Int) tk))
    (h : ∀ h' tk' t', Fr h₀ L h' (fun y => if y = Str.ofString "begun" then some (.int ((perm rows key : Nat) : Int) t') else m y) → News h₀ L h' news → Q .next { s with heap := h', toks := tk' }) :
    wpAny (model prog w) A (exec (lawStmt 9) (lawEnv L fa cd)) Q E s := by
  refine wpAny_Assign_Name ?_
  refine gives_perm B X T hA ho hcd hroom hh ht h16 hkeep hnf hnt (by rfl) (by rfl) (by rfl) (by rfl) rfl rfl (gives_name hkey (by rfl) (by rfl)) _ _ _ F N fun t₁ h₁ tk₁ F₁ N₁ => ?_
  exact storeX_L F₁ N₁ (fun h₂ F₂ N₂ => h _ _ _ F₂ N₂) (by rfl) (by rfl)

theorem ret_stmt {st bg : Nat} {ts tb : Tok} {f aA aB : Addr} {rowsA rowsB : List (List Nat)} {Q : Flow → Shared → Prop} {doc pm cdv ct oc : Value} {an od : Option Addr} {osl : Array (Option Value)}
    (B : Below A₀ base outer h₀) (F : Fr h₀ L s.heap m) (X : K.In h₀) (N : News h₀ L s.heap news) (T : Top p loose mean mg mb h₀) (hA : A.frames = some (lawEnv L fa cd :: outer))
    (ho : K.lookup f = some ⟨oc, od, .func (permFn doc pm an cdv ct), osl⟩) (hcd : codeIn K cdv (Str.ofString "_permute") = true) (hroom : A.depth < recursionLimit) (hh : A.handled = none)
    (htA : tabOf K aA = some rowsA) (hA16 : ∀ r ∈ rowsA, r.length = 16) (htB : tabOf K aB = some rowsB) (hB16 : ∀ r ∈ rowsB, r.length = 16) (hkeep : keepIn K (.ref f) = true)
    (hnf : nsIn K mainGlobals (Str.ofString "_permute") = some (some (.ref f))) (hnA : nsIn K mainGlobals (Str.ofString "PC2ROTA") = some (some (.ref aA))) (hnB : nsIn K mainGlobals (Str.ofString "PC2ROTB") = some (some (.ref aB)))
    (hst : m (Str.ofString "state") = some (.int (st : Int) ts)) (hbg : m (Str.ofString "begun") = some (.int (bg : Int) tb))
    (e1 : perm rowsA st = bg) (e2 : perm rowsB bg = perm rowsA (perm rowsA bg))
    (h : ∀ h' tk', Fr h₀ L h' m → News h₀ L h' news → Q (.ret (.bool true)) { s with heap := h', toks := tk' }) :
    wpAny (model prog w) A (exec (lawStmt 10) (lawEnv L fa cd)) Q E s := by
  refine wpAny_Return_some (wpAny_And2 (wpAny_Compare1 ?_))
  refine gives_perm B X T hA ho hcd hroom hh htA hA16 hkeep hnf hnA (by rfl) (by rfl) (by rfl) (by rfl) rfl rfl (gives_name hst (by rfl) (by rfl)) _ _ _ F N fun t₁ h₁ tk₁ F₁ N₁ => ?_
  refine nameX_L F₁ hbg (eq_int (wpAny_truthy_bool ?_)) (by rfl) (by rfl)
  rw [if_pos (by rw [e1]; simp)]
  refine wpAny_Compare1 ?_
  refine gives_perm B X T hA ho hcd hroom hh htB hB16 hkeep hnf hnB (by rfl) (by rfl) (by rfl) (by rfl) rfl rfl (gives_name hbg (by rfl) (by rfl)) _ _ _ F₁ N₁ fun t₂ h₂ tk₂ F₂ N₂ => ?_
  refine gives_perm B X T hA ho hcd hroom hh htA hA16 hkeep hnf hnA (by rfl) (by rfl) (by rfl) (by rfl) rfl rfl
    (gives_perm B X T hA ho hcd hroom hh htA hA16 hkeep hnf hnA (by rfl) (by rfl) (by rfl) (by rfl) rfl rfl (gives_name hbg (by rfl) (by rfl))) _ _ _ F₂ N₂ fun t₃ h₃ tk₃ F₃ N₃ => ?_
  refine eq_int ?_
  rw [e2]
  have e : ((perm rowsA (perm rowsA bg) : Nat) : Int) == ((perm rowsA (perm rowsA bg) : Nat) : Int) := by simp
  rw [e]
  exact h _ _ F₃ N₃
end
end Mine

namespace Mine

/-! the plain law: tables that are linear over the bits -/

def rowLin (r : List Nat) : Bool := r.length == 16 && r.getD 0 1 == 0 && (List.range 16).all fun a => (List.range 16).all fun b => r.getD (a ||| b) 0 == r.getD a 0 ||| r.getD b 0
theorem rowLin_or {r : List Nat} (h : rowLin r = true) {a b : Nat} (ha : a < 16) (hb : b < 16) : r.getD (a ||| b) 0 = r.getD a 0 ||| r.getD b 0 := by
  unfold rowLin at h
  simp only [Bool.and_eq_true, List.all_eq_true, beq_iff_eq, List.mem_range] at h
  exact h.2 a ha b hb
theorem rowLin_zero {r : List Nat} (h : rowLin r = true) : r.getD 0 0 = 0 := by
  unfold rowLin at h
  simp only [Bool.and_eq_true, beq_iff_eq] at h
  have h1 := h.1.1
  have h2 := h.1.2
  cases r with
  | nil => simp at h1
  | cons x l => simpa using h2
theorem rowLin_length {r : List Nat} (h : rowLin r = true) : r.length = 16 := by
  unfold rowLin at h
  simp only [Bool.and_eq_true, beq_iff_eq] at h
  exact h.1.1

theorem or_mod16 (x y : Nat) : (x ||| y) % 16 = x % 16 ||| y % 16 := Nat.or_mod_two_pow (n := 4)
theorem fold_or : ∀ (rows : List (List Nat)), rows.all rowLin = true → ∀ x y ox oy, (rows.foldl pstep (x ||| y, ox ||| oy)).2 = (rows.foldl pstep (x, ox)).2 ||| (rows.foldl pstep (y, oy)).2
  | [], _, _, _, _, _ => rfl
  | r :: rest, h, x, y, ox, oy => by
    rw [List.all_cons, Bool.and_eq_true] at h
    have e : pstep (x ||| y, ox ||| oy) r = ((pstep (x, ox) r).1 ||| (pstep (y, oy) r).1, (pstep (x, ox) r).2 ||| (pstep (y, oy) r).2) := by
      unfold pstep
      simp only
      rw [or_mod16, rowLin_or h.1 (Nat.mod_lt _ (by decide)) (Nat.mod_lt _ (by decide)), Nat.shiftRight_or_distrib]
      congr 1
      ac_rfl
    rw [List.foldl_cons, List.foldl_cons, List.foldl_cons, e, fold_or rest h.2]
theorem fold_zero : ∀ (rows : List (List Nat)), rows.all rowLin = true → rows.foldl pstep (0, 0) = (0, 0)
  | [], _ => rfl
  | r :: rest, h => by
    rw [List.all_cons, Bool.and_eq_true] at h
    have e : pstep (0, 0) r = (0, 0) := by
      have h0 : r.getD (0 % 16) 0 = 0 := rowLin_zero h.1
      unfold pstep
      simp only
      rw [h0]
      rfl
    rw [List.foldl_cons, e, fold_zero rest h.2]
theorem perm_or {rows : List (List Nat)} (h : rows.all rowLin = true) (x y : Nat) : perm rows (x ||| y) = perm rows x ||| perm rows y := by
  unfold perm
  have := fold_or rows h x y 0 0
  rwa [Nat.or_zero] at this
theorem perm_zero {rows : List (List Nat)} (h : rows.all rowLin = true) : perm rows 0 = 0 := by
  unfold perm
  rw [fold_zero rows h]

/-- the places of a word whose bit of the key is set, laid one over the other -/
def orL (key : Nat) : List (Nat × Nat) → Nat
  | [] => 0
  | p :: r => (if key.testBit p.1 then p.2 else 0) ||| orL key r
theorem orL_map {key : Nat} {f : Nat → Nat} (h0 : f 0 = 0) (hor : ∀ x y, f (x ||| y) = f x ||| f y) : ∀ l : List (Nat × Nat), f (orL key l) = orL key (l.map fun p => (p.1, f p.2))
  | [] => h0
  | p :: r => by
    rw [orL, hor, orL_map h0 hor r, List.map_cons, orL]
    congr 1
    split
    · rfl
    · exact h0
theorem orL_append (key : Nat) : ∀ l l' : List (Nat × Nat), orL key (l ++ l') = orL key l ||| orL key l'
  | [], l' => by rw [List.nil_append, orL, Nat.zero_or]
  | p :: r, l' => by rw [List.cons_append, orL, orL_append key r l', orL, Nat.or_assoc]
theorem orL_perm (key : Nat) {l l' : List (Nat × Nat)} (h : l.Perm l') : orL key l = orL key l' := by
  induction h with
  | nil => rfl
  | cons p _ ih => rw [orL, orL, ih]
  | swap p q l => rw [orL, orL, orL, orL, ← Nat.or_assoc, ← Nat.or_assoc, Nat.or_comm (if key.testBit q.1 = true then q.2 else 0)]
  | trans _ _ ih1 ih2 => exact ih1.trans ih2
theorem orL_filter (key : Nat) : ∀ l : List (Nat × Nat), orL key (l.filter fun p => p.2 != 0) = orL key l
  | [] => rfl
  | p :: r => by
    have ih := orL_filter key r
    rw [List.filter_cons]
    by_cases hp : p.2 = 0
    · have e : (p.2 != 0) = false := by simp [hp]
      rw [e, orL, hp]
      simp [ih]
    · have e : (p.2 != 0) = true := by simp [hp]
      rw [e]
      simp only [if_true]
      rw [orL, orL, ih]
theorem orL_testBit (key j : Nat) : ∀ l : List (Nat × Nat), (orL key l).testBit j = l.any fun p => key.testBit p.1 && p.2.testBit j
  | [] => by simp [orL]
  | p :: r => by
    rw [orL, Nat.testBit_or, orL_testBit key j r, List.any_cons]
    congr 1
    cases key.testBit p.1 <;> simp
theorem orL_bits {key : Nat} (hk : key < 2 ^ 64) : orL key ((List.range 64).map fun b => (b, 1 <<< b)) = key := by
  refine Nat.eq_of_testBit_eq fun j => ?_
  rw [orL_testBit, List.any_map]
  by_cases hj : j < 64
  · cases hb : key.testBit j with
    | true =>
      refine List.any_eq_true.mpr ⟨j, List.mem_range.mpr hj, ?_⟩
      simp [hb, Nat.one_shiftLeft]
    | false =>
      refine List.any_eq_false.mpr fun b hb' => ?_
      simp only [Function.comp, Bool.and_eq_true, Nat.one_shiftLeft, Nat.testBit_two_pow, decide_eq_true_eq]
      rintro ⟨h1, h2⟩
      rw [h2, hb] at h1
      cases h1
  · have h1 : key.testBit j = false := Nat.testBit_lt_two_pow (Nat.lt_of_lt_of_le hk (Nat.pow_le_pow_right (by decide) (by omega)))
    rw [h1]
    refine List.any_eq_false.mpr fun b hb' => ?_
    have := List.mem_range.mp hb'
    simp only [Function.comp, Bool.and_eq_true, Nat.one_shiftLeft, Nat.testBit_two_pow, decide_eq_true_eq]
    rintro ⟨h1, h2⟩
    omega
end Mine

namespace Mine

/-! the tables, read off the text -/
def valueOf (x : Str) : List Stmt → Option Expr
  | [] => none
  | .Assign [.Name y _] e _ :: r => if y == x then some e else valueOf x r
  | _ :: r => valueOf x r
def natsE : List Expr → List Nat
  | .Constant (.int (.ofNat n)) _ _ :: r => n :: natsE r
  | _ => []
def rowsE : List Expr → List (List Nat)
  | .Tuple es _ _ :: r => natsE es :: rowsE r
  | _ => []
def namesE : List Expr → List Str
  | .Name x _ :: r => x :: namesE r
  | _ => []
def pairsE : List Expr → List (List Str)
  | .Tuple es _ _ :: r => namesE es :: pairsE r
  | _ => []
def eltsE : Option Expr → List Expr
  | some (.Tuple es _ _) => es
  | _ => []
def tabNamed (x : Str) : List (List Nat) := rowsE (eltsE (valueOf x top))
def PC1 : List (List Nat) := tabNamed (Str.ofString "PC1ROT")
def PCA : List (List Nat) := tabNamed (Str.ofString "PC2ROTA")
def PCB : List (List Nat) := tabNamed (Str.ofString "PC2ROTB")
def PCX : List (List Str) := pairsE (eltsE (valueOf (Str.ofString "PCXROT") top))
def turnsN : List Nat := natsE (eltsE (valueOf (Str.ofString "_law_turns") top))

/-- the place that a table gives each of the 64 bits: 0 for none, k + 1 for place k -/
def c1 : List Nat := [0, 14, 6, 11, 62, 35, 48, 52, 0, 7, 30, 22, 50, 60, 57, 63, 0, 19, 42, 3, 47, 58, 56, 40, 0, 29, 13, 31, 37, 44, 61, 51, 0, 8, 20, 24, 28, 38, 45, 46, 0, 23, 27, 12, 16, 55, 39, 64, 0, 15, 4, 5, 34, 49, 59, 54, 0, 41, 33, 21, 32, 43, 53, 36]
def cA : List Nat := [0, 0, 22, 27, 12, 41, 14, 29, 0, 0, 33, 24, 42, 32, 23, 28, 0, 0, 7, 13, 5, 11, 8, 31, 0, 0, 20, 21, 19, 6, 3, 34, 4, 16, 53, 54, 47, 44, 45, 63, 15, 30, 49, 58, 61, 51, 50, 36, 55, 62, 40, 37, 59, 64, 38, 57, 48, 60, 39, 35, 56, 43, 52, 46]
def cB : List Nat := [0, 0, 11, 20, 24, 15, 32, 19, 0, 0, 4, 31, 30, 34, 8, 21, 0, 0, 14, 42, 12, 33, 29, 3, 0, 0, 13, 5, 7, 41, 22, 16, 27, 28, 59, 64, 50, 58, 61, 52, 23, 6, 55, 60, 56, 40, 62, 54, 38, 43, 63, 47, 39, 46, 44, 48, 36, 35, 45, 53, 57, 49, 37, 51]
def bitv : Nat → Nat
  | 0 => 0
  | k + 1 => 1 <<< k
def colOk (T : List (List Nat)) (c : List Nat) : Bool := (List.range 64).all fun k => perm T (1 <<< k) == bitv (c.getD k 0) && Nat.ble (c.getD k 0) 64
def stepI (c : List Nat) : Nat → Nat
  | 0 => 0
  | k + 1 => c.getD k 0

theorem lin1 : PC1.all rowLin = true := by decide +kernel
theorem linA : PCA.all rowLin = true := by decide +kernel
theorem linB : PCB.all rowLin = true := by decide +kernel
theorem col1 : colOk PC1 c1 = true := by decide +kernel
theorem colA : colOk PCA cA = true := by decide +kernel
theorem colB : colOk PCB cB = true := by decide +kernel
end Mine

namespace Mine

theorem colOk_at {T : List (List Nat)} {c : List Nat} (h : colOk T c = true) {k : Nat} (hk : k < 64) : perm T (1 <<< k) = bitv (c.getD k 0) ∧ c.getD k 0 ≤ 64 := by
  unfold colOk at h
  have := List.all_eq_true.mp h k (List.mem_range.mpr hk)
  rw [Bool.and_eq_true, beq_iff_eq] at this
  exact ⟨this.1, Nat.le_of_ble_eq_true this.2⟩
theorem perm_bitv {T : List (List Nat)} {c : List Nat} (hl : T.all rowLin = true) (h : colOk T c = true) {x : Nat} (hx : x ≤ 64) : perm T (bitv x) = bitv (stepI c x) ∧ stepI c x ≤ 64 := by
  cases x with
  | zero => exact ⟨perm_zero hl, Nat.zero_le _⟩
  | succ k => exact colOk_at h (by omega)

/-- which table a round takes -/
def kinds : List Nat := [0, 1, 2, 2, 2, 2, 2, 2, 1, 2, 2, 2, 2, 2, 2, 1]
def tabOfKind : Nat → List (List Nat)
  | 0 => PC1
  | 1 => PCA
  | _ => PCB
def colOfKind : Nat → List Nat
  | 0 => c1
  | 1 => cA
  | _ => cB
def tabs (i : Nat) : List (List Nat) := tabOfKind (kinds.getD i 0)
def cols (i : Nat) : List Nat := colOfKind (kinds.getD i 0)
theorem kind_lin : ∀ k, (tabOfKind k).all rowLin = true
  | 0 => lin1
  | 1 => linA
  | _ + 2 => linB
theorem kind_col : ∀ k, colOk (tabOfKind k) (colOfKind k) = true
  | 0 => col1
  | 1 => colA
  | _ + 2 => colB
theorem kind_16 (k : Nat) : ∀ r ∈ tabOfKind k, r.length = 16 := fun r hr => rowLin_length (List.all_eq_true.mp (kind_lin k) r hr)

def idx : Nat → Nat → Nat
  | 0, b => b + 1
  | i + 1, b => stepI (cols i) (idx i b)
theorem stN_bit {b : Nat} (hb : b < 64) : ∀ i, stN tabs (1 <<< b) i = bitv (idx i b) ∧ idx i b ≤ 64
  | 0 => ⟨rfl, hb⟩
  | i + 1 => by
    obtain ⟨e, l⟩ := stN_bit hb i
    have := perm_bitv (kind_lin (kinds.getD i 0)) (kind_col (kinds.getD i 0)) l
    refine ⟨?_, this.2⟩
    show perm (tabs i) (stN tabs (1 <<< b) i) = _
    rw [e]
    exact this.1
theorem stN_orL (key : Nat) (l : List (Nat × Nat)) : ∀ i, stN tabs (orL key l) i = orL key (l.map fun p => (p.1, stN tabs p.2 i))
  | 0 => by
    have e : (fun p : Nat × Nat => (p.1, stN tabs p.2 0)) = id := rfl
    rw [e, List.map_id]
    rfl
  | i + 1 => by
    show perm (tabs i) (stN tabs (orL key l) i) = _
    rw [stN_orL key l i, orL_map (f := perm (tabs i)) (perm_zero (kind_lin (kinds.getD i 0))) (perm_or (kind_lin (kinds.getD i 0))), List.map_map]
    rfl
/-- the bits and their places behind i rounds -/
def LI (i : Nat) : List (Nat × Nat) := (List.range 64).map fun b => (b, idx i b)
def toV (p : Nat × Nat) : Nat × Nat := (p.1, bitv p.2)
theorem stN_key {key : Nat} (hk : key < 2 ^ 64) (i : Nat) : stN tabs key i = orL key ((LI i).map toV) := by
  have h := stN_orL key ((List.range 64).map fun b => (b, 1 <<< b)) i
  rw [orL_bits hk] at h
  rw [h]
  unfold LI
  rw [List.map_map, List.map_map]
  refine congrArg (orL key) (List.map_congr_left fun b hb => ?_)
  show (b, stN tabs (1 <<< b) i) = (b, bitv (idx i b))
  rw [(stN_bit (List.mem_range.mp hb) i).1]

/-- the due rows, as such words -/
def dueL (t : Nat) (rowN fN : List Nat) : List (Nat × Nat) := (List.range 28).map fun j => (rowN.getD j 0, fN.getD ((j + 28 - t) % 28) 0)
theorem dueFold (key t : Nat) (rowN fN : List Nat) : ∀ (js : List Nat) (d : Nat), js.foldl (dueTurn key t rowN fN) d = d ||| orL key (js.map fun j => (rowN.getD j 0, fN.getD ((j + 28 - t) % 28) 0))
  | [], d => by rw [List.foldl_nil, List.map_nil, orL, Nat.or_zero]
  | j :: r, d => by
    rw [List.foldl_cons, dueFold key t rowN fN r, List.map_cons, orL, ← Nat.or_assoc]
    congr 1
    unfold dueTurn
    split
    · rfl
    · exact (Nat.or_zero d).symm
theorem dueRow_eq (key t : Nat) (rowN fN : List Nat) (d : Nat) : dueRow key t rowN fN d = d ||| orL key (dueL t rowN fN) := dueFold key t rowN fN _ d

def r0N : List Nat := [7, 15, 23, 31, 39, 47, 55, 63, 6, 14, 22, 30, 38, 46, 54, 62, 5, 13, 21, 29, 37, 45, 53, 61, 4, 12, 20, 28]
def r1N : List Nat := [1, 9, 17, 25, 33, 41, 49, 57, 2, 10, 18, 26, 34, 42, 50, 58, 3, 11, 19, 27, 35, 43, 51, 59, 36, 44, 52, 60]
theorem row0_eq : row0 = zints r0N := by decide +kernel
theorem row1_eq : row1 = zints r1N := by decide +kernel
def x0N : List Nat := r0N.map fun n => c1.getD n 0
def x1N : List Nat := r1N.map fun n => c1.getD n 0
def f0N : List Nat := x0N.map bitv
def f1N : List Nat := x1N.map bitv
theorem places_eq {ns xs : List Nat} (h : ∀ n ∈ ns, n < 64) (hx : xs = ns.map fun n => c1.getD n 0) : (zints ns).map (place PC1) = zints (xs.map bitv) := by
  subst hx
  unfold zints
  rw [List.map_map, List.map_map, List.map_map]
  refine List.map_congr_left fun n hn => ?_
  show ((perm PC1 (1 <<< ((n : Nat) : Int).toNat) : Nat) : Int) = ((bitv (c1.getD n 0) : Nat) : Int)
  rw [Int.toNat_natCast, (colOk_at col1 (h n hn)).1]
theorem places0 : row0.map (place PC1) = zints f0N := by
  rw [row0_eq]
  exact places_eq (by decide) rfl
theorem places1 : row1.map (place PC1) = zints f1N := by
  rw [row1_eq]
  exact places_eq (by decide) rfl

def turns (i : Nat) : Nat := turnsN.getD i 0
/-- a row, t places on in its ring -/
def rotL (t : Nat) (xs : List Nat) : List Nat := (List.range 28).map fun j => xs.getD ((j + 28 - t) % 28) 0
def restN : List Nat := [0, 8, 16, 24, 32, 40, 48, 56]
theorem bits_perm : (List.range 64).Perm (r0N ++ r1N ++ restN) := List.isPerm_iff.mp (by decide +kernel)
theorem ring_first : r0N.map (idx 1) = rotL (turns 0) x0N ∧ r1N.map (idx 1) = rotL (turns 0) x1N := by decide +kernel
theorem ring_step : ∀ i, i < 15 → (rotL (turns i) x0N).map (stepI (cols (i + 1))) = rotL (turns (i + 1)) x0N ∧ (rotL (turns i) x1N).map (stepI (cols (i + 1))) = rotL (turns (i + 1)) x1N := by decide +kernel
theorem rings : ∀ i, i < 16 → r0N.map (idx (i + 1)) = rotL (turns i) x0N ∧ r1N.map (idx (i + 1)) = rotL (turns i) x1N
  | 0, _ => ring_first
  | i + 1, h => by
    obtain ⟨a, b⟩ := rings i (by omega)
    obtain ⟨c, d⟩ := ring_step i (by omega)
    rw [← a, List.map_map] at c
    rw [← b, List.map_map] at d
    exact ⟨c, d⟩
theorem rest_first : ∀ b ∈ restN, idx 1 b = 0 := by decide +kernel
theorem rest_zero {b : Nat} (hb : b ∈ restN) : ∀ i, idx (i + 1) b = 0
  | 0 => rest_first b hb
  | i + 1 => by
    show stepI (cols (i + 1)) (idx (i + 1) b) = 0
    rw [rest_zero hb i]
    rfl
theorem orL_nothing (key : Nat) : ∀ l : List (Nat × Nat), (∀ p ∈ l, p.2 = 0) → orL key l = 0
  | [], _ => rfl
  | p :: r, h => by
    rw [orL, h p List.mem_cons_self, orL_nothing key r fun q hq => h q (List.mem_cons_of_mem _ hq)]
    simp

theorem getD_bitv (xs : List Nat) (i : Nat) : (xs.map bitv).getD i 0 = bitv (xs.getD i 0) := by
  rw [List.getD_eq_getElem?_getD, List.getD_eq_getElem?_getD, List.getElem?_map]
  cases xs[i]? <;> rfl
theorem turns_at {i : Nat} (h : i < 16) : turnsN[i]? = some (turns i) ∧ turns i ≤ 27 := by
  have all : ∀ i, i < 16 → turnsN[i]? = some (turns i) ∧ turns i ≤ 27 := by decide +kernel
  exact all i h

/-- a row of bits and what its ring bears there -/
theorem row_words {i t : Nat} {rN xN : List Nat} (hl : rN.length = 28) (h : rN.map (idx (i + 1)) = rotL t xN) : (rN.map fun b => (b, bitv (idx (i + 1) b))) = dueL t rN (xN.map bitv) := by
  refine List.ext_getElem? fun j => ?_
  unfold dueL
  rw [List.getElem?_map, List.getElem?_map]
  by_cases hj : j < 28
  · rw [List.getElem?_range hj, List.getElem?_eq_getElem (by omega)]
    have e1 : (rN.map (idx (i + 1)))[j]? = some (idx (i + 1) rN[j]) := by rw [List.getElem?_map, List.getElem?_eq_getElem (by omega)]; rfl
    have e2 : (rotL t xN)[j]? = some (xN.getD ((j + 28 - t) % 28) 0) := by unfold rotL; rw [List.getElem?_map, List.getElem?_range hj]; rfl
    rw [h, e2] at e1
    show some (rN[j], bitv (idx (i + 1) rN[j])) = some (rN.getD j 0, (xN.map bitv).getD ((j + 28 - t) % 28) 0)
    have e3 : rN.getD j 0 = rN[j] := by rw [List.getD_eq_getElem?_getD, List.getElem?_eq_getElem (by omega)]; rfl
    rw [← Option.some.inj e1, getD_bitv, e3]
  · rw [List.getElem?_eq_none (by omega), List.getElem?_eq_none (by rw [List.length_range]; omega)]
    rfl
/-- a round's word is the due one -/
theorem round_eq {key : Nat} (hk : key < 2 ^ 64) {i : Nat} (hi : i < 16) : perm (tabs i) (stN tabs key i) = dueRow key (turns i) r1N f1N (dueRow key (turns i) r0N f0N 0) := by
  show stN tabs key (i + 1) = _
  obtain ⟨a, b⟩ := rings i hi
  rw [stN_key hk (i + 1), dueRow_eq, dueRow_eq, Nat.zero_or, ← orL_append]
  unfold LI
  rw [List.map_map, orL_perm key (bits_perm.map _), List.map_append, List.map_append, orL_append]
  rw [orL_nothing key (restN.map _) (fun q hq => by
    obtain ⟨b, hb, rfl⟩ := List.mem_map.mp hq
    show bitv (idx (i + 1) b) = 0
    rw [rest_zero hb i]
    rfl), Nat.or_zero]
  exact congrArg (orL key) (congr (congrArg HAppend.hAppend (row_words rfl a)) (row_words rfl b))

theorem homeA : ((List.range 64).all fun b => stepI cA (idx 16 b) == c1.getD b 0) = true := by decide +kernel
theorem homeB : ((List.range 64).all fun b => stepI cB (c1.getD b 0) == stepI cA (stepI cA (c1.getD b 0))) = true := by decide +kernel
theorem perm1_key {key : Nat} (hk : key < 2 ^ 64) : perm PC1 key = orL key (((List.range 64).map fun b => (b, c1.getD b 0)).map toV) := by
  have h := orL_map (key := key) (f := perm PC1) (perm_zero lin1) (perm_or lin1) ((List.range 64).map fun b => (b, 1 <<< b))
  rw [orL_bits hk] at h
  rw [h, List.map_map, List.map_map]
  refine congrArg (orL key) (List.map_congr_left fun b hb => ?_)
  show (b, perm PC1 (1 <<< b)) = (b, bitv (c1.getD b 0))
  rw [(colOk_at col1 (List.mem_range.mp hb)).1]
/-- one step more brings the key home -/
theorem home_eq {key : Nat} (hk : key < 2 ^ 64) : perm PCA (stN tabs key 16) = perm PC1 key := by
  rw [stN_key hk, orL_map (f := perm PCA) (perm_zero linA) (perm_or linA), perm1_key hk]
  unfold LI
  rw [List.map_map, List.map_map, List.map_map]
  refine congrArg (orL key) (List.map_congr_left fun b hb => ?_)
  have hb' := List.mem_range.mp hb
  show (b, perm PCA (bitv (idx 16 b))) = (b, bitv (c1.getD b 0))
  rw [(perm_bitv linA colA (stN_bit hb' 16).2).1]
  have := List.all_eq_true.mp homeA b hb
  rw [beq_iff_eq] at this
  rw [this]
/-- the table of two steps is that of one, twice -/
theorem twice_eq {key : Nat} (hk : key < 2 ^ 64) : perm PCB (perm PC1 key) = perm PCA (perm PCA (perm PC1 key)) := by
  rw [perm1_key hk, orL_map (f := perm PCB) (perm_zero linB) (perm_or linB), orL_map (f := perm PCA) (perm_zero linA) (perm_or linA), orL_map (f := perm PCA) (perm_zero linA) (perm_or linA)]
  rw [List.map_map, List.map_map, List.map_map, List.map_map, List.map_map]
  refine congrArg (orL key) (List.map_congr_left fun b hb => ?_)
  have hb' := List.mem_range.mp hb
  show (b, perm PCB (bitv (c1.getD b 0))) = (b, perm PCA (perm PCA (bitv (c1.getD b 0))))
  have q := colOk_at col1 hb'
  have a1 := perm_bitv linA colA q.2
  rw [(perm_bitv linB colB q.2).1, a1.1, (perm_bitv linA colA a1.2).1]
  have := List.all_eq_true.mp homeB b hb
  rw [beq_iff_eq] at this
  rw [this]

theorem l0 : r0N.length = 28 := rfl
theorem l1 : r1N.length = 28 := rfl
theorem k0 : f0N.length = 28 := rfl
theorem k1 : f1N.length = 28 := rfl
theorem len56 : (zints f0N ++ zints f1N).length = 56 := rfl
theorem met56 : (firstMet (fun i => (zints f0N ++ zints f1N).getD i 0) 56).length = 56 := by decide +kernel
theorem single_all : ∀ n ∈ zints f0N ++ zints f1N, bits64.any (· == n) = true := by decide +kernel
theorem ones_sum : ((perm PC1 18446744073709551615 : Nat) : Int) = (zints f0N ++ zints f1N).sum := by decide +kernel
end Mine

namespace Mine
section
variable {prog : Program} {w : World} {A₀ A : Around} {E : Value → Shared → Prop} {s : Shared} {base h₀ : Heap} {outer : List Env} {L fa : Addr} {m : Str → Option Value} {news : List (Addr × Obj)} {K : Frag} {cd : Value}
  {p : Program} {loose : List Str} {mean : ExcName → Option Value} {mg mb : Str → Option Value}

set_option maxHeartbeats 8000000 in
theorem rest_law {v : Int} {tk : Tok} {c : Addr} {o : Obj} {v₀ : Option Value} {f a1 aA aB ax aT : Addr} {pv tv : List Value} {Q : Flow → Shared → Prop} {doc pm cdv ct oc : Value} {an od : Option Addr} {osl : Array (Option Value)}
    (hE : PassesOwn (model prog w) A (lawEnv L fa cd) E)
    (B : Below A₀ base outer h₀) (F : Fr h₀ L s.heap m) (X : K.In h₀) (N : News h₀ L s.heap news) (T : Top p loose mean mg mb h₀) (hA : A.frames = some (lawEnv L fa cd :: outer)) (hroom : A.depth < recursionLimit) (hh : A.handled = none)
    (hc : c = L + 1 + 1 + 1) (hcm : (c, o) ∈ news) (hco : o.data = .cell v₀)
    (hkey : m (Str.ofString "key") = some (.int v tk)) (hv0 : 0 ≤ v) (hv1 : v < 2 ^ 64)
    (hnf : nsIn K mainGlobals (Str.ofString "_permute") = some (some (.ref f))) (ho : K.lookup f = some ⟨oc, od, .func (permFn doc pm an cdv ct), osl⟩) (hcd : codeIn K cdv (Str.ofString "_permute") = true) (hkeep : keepIn K (.ref f) = true)
    (hn1 : nsIn K mainGlobals (Str.ofString "PC1ROT") = some (some (.ref a1))) (ht1 : tabOf K a1 = some PC1)
    (hnA : nsIn K mainGlobals (Str.ofString "PC2ROTA") = some (some (.ref aA))) (htA : tabOf K aA = some PCA)
    (hnB : nsIn K mainGlobals (Str.ofString "PC2ROTB") = some (some (.ref aB))) (htB : tabOf K aB = some PCB)
    (hnx : nsIn K mainGlobals (Str.ofString "PCXROT") = some (some (.ref ax))) (hpv : tupOf K ax = some pv)
    (hpx : ∀ i, i < 16 → ∃ pb pw a, pv[i / 2]? = some (.ref pb) ∧ tupOf K pb = some pw ∧ pw[i % 2]? = some (.ref a) ∧ tabOf K a = some (tabs i))
    (hnT : nsIn K mainGlobals (Str.ofString "_law_turns") = some (some (.ref aT))) (hT : tupOf K aT = some tv) (hTn : natsOf tv = some turnsN)
    (hrange : nsIn K mainGlobals (Str.ofString "range") = some none) (hsum : nsIn K mainGlobals (Str.ofString "sum") = some none) (hlen : nsIn K mainGlobals (Str.ofString "len") = some none)
    (hset : nsIn K mainGlobals (Str.ofString "set") = some none) (hzip : nsIn K mainGlobals (Str.ofString "zip") = some none)
    (h : ∀ h' tk' m', Fr h₀ L h' m' → News h₀ L h' [] → Q (.ret (.bool true)) { s with heap := h', toks := tk' }) :
    wpAny (model prog w) A (execs (lawDef.2.1.drop 2) (lawEnv L fa cd)) Q E s := by
  obtain ⟨key, rfl⟩ := Int.eq_ofNat_of_zero_le hv0
  have hk : key < 2 ^ 64 := by omega
  have s16 : ∀ r ∈ PC1, r.length = 16 := kind_16 0
  have sA16 : ∀ r ∈ PCA, r.length = 16 := kind_16 1
  have sB16 : ∀ r ∈ PCB, r.length = 16 := kind_16 2
  -- rows
  refine wpAny_execs_cons (rows_stmt hh F N X T hrange fun r ra rb vs us h₁ tk₁ F₁ N₁ z0 z1 => ?_)
  dsimp only
  -- places
  refine wpAny_execs_cons (places_stmt (vs := vs) (us := us) B F₁ X N₁ T hA ho hcd hroom hh ht1 s16 hkeep hnf hn1 up_same List.mem_cons_self (List.mem_cons_of_mem _ (List.mem_cons_of_mem _ List.mem_cons_self)) (List.mem_cons_of_mem _ List.mem_cons_self) z0 z1
    fun D Da Db ps qs h₂ tk₂ F₂ N₂ y0 y1 => ?_)
  dsimp only
  rw [places0] at y0
  rw [places1] at y1
  rw [row0_eq] at z0
  rw [row1_eq] at z1
  have key₂ : (fun z => if z = Str.ofString "places" then some (Value.ref D) else (fun y => if y = Str.ofString "rows" then some (Value.ref r) else m y) z) (Str.ofString "key") = some (.int (key : Int) tk) :=
    (if_neg (by decide +kernel)).trans ((if_neg (by decide +kernel)).trans hkey)
  have rows₂ : (fun z => if z = Str.ofString "places" then some (Value.ref D) else (fun y => if y = Str.ofString "rows" then some (Value.ref r) else m y) z) (Str.ofString "rows") = some (.ref r) :=
    (if_neg (by decide +kernel)).trans (if_pos rfl)
  have pl₂ : (fun z => if z = Str.ofString "places" then some (Value.ref D) else (fun y => if y = Str.ofString "rows" then some (Value.ref r) else m y) z) (Str.ofString "places") = some (.ref D) := if_pos rfl
  generalize (fun z => if z = Str.ofString "places" then some (Value.ref D) else (fun y => if y = Str.ofString "rows" then some (Value.ref r) else m y) z) = m₂ at F₂ key₂ rows₂ pl₂
  -- single
  have Nk : News h₀ L h₂ ((c, o) :: [(D, LCg.lst [.ref Da, .ref Db]), (Db, LCg.lst qs), (Da, LCg.lst ps), (r, lst0 [.ref ra, .ref rb]), (rb, lst0 us), (ra, lst0 vs)]) := fun q hq => N₂ q (by
    simp only [List.mem_cons, List.not_mem_nil, or_false] at hq ⊢
    rcases hq with rfl | rfl | rfl | rfl | rfl | rfl | rfl <;> simp [hcm])
  refine wpAny_execs_cons (single_stmt hh F₂ Nk X T hrange hc hco (fun q hq v => by
    simp only [List.mem_cons, List.not_mem_nil, or_false] at hq
    rcases hq with rfl | rfl | rfl | rfl | rfl | rfl <;> exact fun e => by cases e) fun S ss o' h₃ tk₃ F₃ N₃ hS zs => ?_)
  dsimp only
  have m1 : ∀ {q : Addr × Obj}, q ∈ [(D, LCg.lst [.ref Da, .ref Db]), (Db, LCg.lst qs), (Da, LCg.lst ps), (r, lst0 [.ref ra, .ref rb]), (rb, lst0 us), (ra, lst0 vs)] → q ∈ (c, o') :: (S, LCg.lst ss) :: [(D, LCg.lst [.ref Da, .ref Db]), (Db, LCg.lst qs), (Da, LCg.lst ps), (r, lst0 [.ref ra, .ref rb]), (rb, lst0 us), (ra, lst0 vs)] :=
    fun hq => List.mem_cons_of_mem _ (List.mem_cons_of_mem _ hq)
  have iD : (D, LCg.lst [.ref Da, .ref Db]) ∈ [(D, LCg.lst [.ref Da, .ref Db]), (Db, LCg.lst qs), (Da, LCg.lst ps), (r, lst0 [.ref ra, .ref rb]), (rb, lst0 us), (ra, lst0 vs)] := by simp
  have iDb : (Db, LCg.lst qs) ∈ [(D, LCg.lst [.ref Da, .ref Db]), (Db, LCg.lst qs), (Da, LCg.lst ps), (r, lst0 [.ref ra, .ref rb]), (rb, lst0 us), (ra, lst0 vs)] := by simp
  have iDa : (Da, LCg.lst ps) ∈ [(D, LCg.lst [.ref Da, .ref Db]), (Db, LCg.lst qs), (Da, LCg.lst ps), (r, lst0 [.ref ra, .ref rb]), (rb, lst0 us), (ra, lst0 vs)] := by simp
  have ir : (r, lst0 [.ref ra, .ref rb]) ∈ [(D, LCg.lst [.ref Da, .ref Db]), (Db, LCg.lst qs), (Da, LCg.lst ps), (r, lst0 [.ref ra, .ref rb]), (rb, lst0 us), (ra, lst0 vs)] := by simp
  have irb : (rb, lst0 us) ∈ [(D, LCg.lst [.ref Da, .ref Db]), (Db, LCg.lst qs), (Da, LCg.lst ps), (r, lst0 [.ref ra, .ref rb]), (rb, lst0 us), (ra, lst0 vs)] := by simp
  have ira : (ra, lst0 vs) ∈ [(D, LCg.lst [.ref Da, .ref Db]), (Db, LCg.lst qs), (Da, LCg.lst ps), (r, lst0 [.ref ra, .ref rb]), (rb, lst0 us), (ra, lst0 vs)] := by simp
  generalize [(D, LCg.lst [.ref Da, .ref Db]), (Db, LCg.lst qs), (Da, LCg.lst ps), (r, lst0 [.ref ra, .ref rb]), (rb, lst0 us), (ra, lst0 vs)] = kept at N₃ m1 iD iDb iDa ir irb ira
  -- the two looks
  refine wpAny_execs_cons (if1_stmt hh F₃ N₃ X T hlen hset pl₂ (m1 iD) (m1 iDa) (m1 iDb) hc List.mem_cons_self hS (List.mem_cons_of_mem _ List.mem_cons_self) zs y0 y1 len56 met56 single_all fun h₄ tk₄ F₄ N₄ => ?_)
  dsimp only
  refine wpAny_execs_cons (if2_stmt B F₄ X N₄ T hA ho hcd hroom hh ht1 s16 hkeep hnf hn1 hsum pl₂ (m1 iD) (m1 iDa) (m1 iDb) y0 y1 len56 ones_sum fun h₅ tk₅ F₅ N₅ => ?_)
  dsimp only
  -- the rounds
  refine wpAny_execs_cons (state_stmt F₅ N₅ key₂ fun h₆ tk₆ F₆ N₆ => ?_)
  dsimp only
  have key₆ := up_ne (x := Str.ofString "state") (v := .int (key : Int) tk) key₂ (by decide +kernel)
  have rows₆ := up_ne (x := Str.ofString "state") (v := .int (key : Int) tk) rows₂ (by decide +kernel)
  have pl₆ := up_ne (x := Str.ofString "state") (v := .int (key : Int) tk) pl₂ (by decide +kernel)
  refine wpAny_execs_cons (main_loop (vs := vs) (us := us) (ps := ps) (qs := qs) (tv := tv) (tabs := tabs) (turns := turns) hE B F₆ X N₆ T hA ho hcd hroom hh hkeep hnf hnx hpv
    (fun i hi => by obtain ⟨pb, pw, a, e1, e2, e3, e4⟩ := hpx i hi; exact ⟨pb, pw, a, e1, e2, e3, e4, kind_16 _⟩) hrange hzip key₆ up_same rows₆ pl₆ (m1 ir) (m1 ira) (m1 irb) (m1 iD) (m1 iDa) (m1 iDb) z0 z1 y0 y1 l0 l1 k0 k1
    hnT hT hTn (fun i hi => turns_at hi) (fun i hi => round_eq hk hi) fun h₇ tk₇ m₇ t₇ F₇ N₇ s₇ st₇ => ?_)
  dsimp only
  have o_key : Other3 (Str.ofString "key") := by unfold Other3 Other2 Other; decide +kernel
  have key₇ := (s₇ _ o_key).trans key₆
  refine wpAny_execs_cons (begun_stmt B F₇ X N₇ T hA ho hcd hroom hh ht1 s16 hkeep hnf hn1 key₇ fun h₈ tk₈ t₈ F₈ N₈ => ?_)
  dsimp only
  have st₈ := up_ne (x := Str.ofString "begun") (v := .int ((perm PC1 key : Nat) : Int) t₈) st₇ (by decide +kernel)
  refine wpAny_execs_cons (ret_stmt B F₈ X N₈ T hA ho hcd hroom hh htA sA16 htB sB16 hkeep hnf hnA hnB st₈ up_same (home_eq hk) (twice_eq hk) fun h₉ tk₉ F₉ N₉ => ?_)
  dsimp only
  exact h h₉ tk₉ _ F₉ News.nil
end
end Mine

namespace Mine
theorem key_lo (g : Int → Int) : 0 ≤ (((rangeKs 0 (8 - 0 : Int).toNat).map fun k' => if 0 ≤ (g k').fmod 256 ∧ (g k').fmod 256 < 256 then (g k').fmod 256 * 2 ^ (8 * k').toNat else k').sum) ∧
    (((rangeKs 0 (8 - 0 : Int).toNat).map fun k' => if 0 ≤ (g k').fmod 256 ∧ (g k').fmod 256 < 256 then (g k').fmod 256 * 2 ^ (8 * k').toNat else k').sum) < 2 ^ 64 := by
  have hb : ∀ k, 0 ≤ (g k).fmod 256 ∧ (g k).fmod 256 < 256 := fun k => by
    rw [Int.fmod_eq_emod_of_nonneg _ (by decide)]
    omega
  have e : rangeKs 0 (8 - 0 : Int).toNat = [0, 1, 2, 3, 4, 5, 6, 7] := by decide
  rw [e]
  simp only [List.map_cons, List.map_nil, List.sum_cons, List.sum_nil, if_pos (hb _)]
  have h0 := hb 0
  have h1 := hb 1
  have h2 := hb 2
  have h3 := hb 3
  have h4 := hb 4
  have h5 := hb 5
  have h6 := hb 6
  have h7 := hb 7
  generalize (g 0).fmod 256 = x0 at *
  generalize (g 1).fmod 256 = x1 at *
  generalize (g 2).fmod 256 = x2 at *
  generalize (g 3).fmod 256 = x3 at *
  generalize (g 4).fmod 256 = x4 at *
  generalize (g 5).fmod 256 = x5 at *
  generalize (g 6).fmod 256 = x6 at *
  generalize (g 7).fmod 256 = x7 at *
  have p0 : ((2 : Int) ^ (8 * (0 : Int)).toNat) = 1 := by decide
  have p1 : ((2 : Int) ^ (8 * (1 : Int)).toNat) = 256 := by decide
  have p2 : ((2 : Int) ^ (8 * (2 : Int)).toNat) = 65536 := by decide
  have p3 : ((2 : Int) ^ (8 * (3 : Int)).toNat) = 16777216 := by decide
  have p4 : ((2 : Int) ^ (8 * (4 : Int)).toNat) = 4294967296 := by decide
  have p5 : ((2 : Int) ^ (8 * (5 : Int)).toNat) = 1099511627776 := by decide
  have p6 : ((2 : Int) ^ (8 * (6 : Int)).toNat) = 281474976710656 := by decide
  have p7 : ((2 : Int) ^ (8 * (7 : Int)).toNat) = 72057594037927936 := by decide
  rw [p0, p1, p2, p3, p4, p5, p6, p7]
  omega
end Mine

theorem Mine.all16 {P : Nat → Prop} (h0 : P 0) (h1 : P 1) (h2 : P 2) (h3 : P 3) (h4 : P 4) (h5 : P 5) (h6 : P 6) (h7 : P 7) (h8 : P 8) (h9 : P 9) (h10 : P 10) (h11 : P 11) (h12 : P 12) (h13 : P 13) (h14 : P 14) (h15 : P 15) : ∀ i, i < 16 → P i := fun i hi => by
  rcases (by omega : i = 0 ∨ i = 1 ∨ i = 2 ∨ i = 3 ∨ i = 4 ∨ i = 5 ∨ i = 6 ∨ i = 7 ∨ i = 8 ∨ i = 9 ∨ i = 10 ∨ i = 11 ∨ i = 12 ∨ i = 13 ∨ i = 14 ∨ i = 15) with rfl | rfl | rfl | rfl | rfl | rfl | rfl | rfl | rfl | rfl | rfl | rfl | rfl | rfl | rfl | rfl <;> assumption

local macro_rules | `(tactic| walk_at "execs cons") => `(tactic| (k_here; (with_reducible show wpAny _ _ (execs (Stmt.Assign [Expr.Name (Str.ofString "rows") _] _ _ :: _) _) _ _ _); k_dflt (refine' Mine.rest_law ?hE ?hB ?hF ?hX ?hN ?hT ?hA ?hroom ?hh ?hc ?hcm ?hco ?hkey ?hv0 ?hv1 ?hnf ?ho ?hcd ?hkeep ?hn1 ?ht1 ?hnA ?htA ?hnB ?htB ?hnx ?hpv ?hpx ?hnT ?htT ?hTn ?hrange ?hsum ?hlen ?hset ?hzip ?hq; (case hE => passes_own); (case hA => exact rfl); (case hB => k_asm); (case hF => k_asm); (case hX => k_asm); (case hN => k_asm); (case hT => k_asm); (case hroom => k_room); (case hh => exact rfl); (case hc => exact rfl); (case hcm => k_mem); (case hco => assumption); (case hkey => exact if_pos rfl); (case hv0 => exact (Mine.key_lo _).1); (case hv1 => exact (Mine.key_lo _).2); (case hnf => k_is); (case ho => k_is); (case hcd => k_is); (case hkeep => k_is); (case hn1 => k_is); (case hnA => k_is); (case hnB => k_is); (case hnx => k_is); (case hnT => k_is); (case hrange => k_is); (case hsum => k_is); (case hlen => k_is); (case hset => k_is); (case hzip => k_is); (case ht1 => kernel_rfl); (case htA => kernel_rfl); (case htB => kernel_rfl); (case hpv => exact rfl); (case htT => exact rfl); (case hTn => kernel_rfl); (case hpx => (refine Mine.all16 ?_ ?_ ?_ ?_ ?_ ?_ ?_ ?_ ?_ ?_ ?_ ?_ ?_ ?_ ?_ ?_ <;> exact ⟨_, _, _, rfl, rfl, rfl, by kernel_rfl⟩)); walk_say "REST LAW IS MET"); intro h' tk' m' F' N'; (try dsimp only)))
set_option maxRecDepth 100000 in
set_option maxHeartbeats 8000000 in
theorem PySem.Challenge.cw_at5023_01_holds : PySem.Challenge.rw_at5023_01.Holds := by
  open_k
