import PyProof.Rows.All
import Wide.All
import OpenK.AllK
import Wide.FinOn
import PySem.Challenge.RW_mr0205_01
open PySem PySem.W PyProof.Rows PySem.Calls
set_option Elab.async false
set_option maxRecDepth 100000
set_option maxHeartbeats 8000000
namespace Mine
open_top hd for PySem.Challenge.rw_mr0205_01
theorem off : True := by
  w_top off
  trivial
/-- everything of h off the addresses ex stands in h' -/
def Keep (h h' : Heap) (ex : List Addr) : Prop := ∀ b o, b ∉ ex → h.get? b = some o → h'.get? b = some o
theorem Keep.refl {h : Heap} {ex : List Addr} : Keep h h ex := fun _ _ _ e => e
theorem Keep.trans {h h' h'' : Heap} {ex : List Addr} (a : Keep h h' ex) (b : Keep h' h'' ex) : Keep h h'' ex := fun x o n e => b x o n (a x o n e)

/-- an entry of a ledger that the call made, or one of those it was handed -/
def New (h : Heap) (ex : List Addr) (led : List (Addr × Obj)) : Prop := ∀ p ∈ led, p.1 ∈ ex ∨ h.get? p.1 = none

theorem new_of {h g h' : Heap} {L : Addr} {ex : List Addr} {led : List (Addr × Obj)} (hG : Keep h g ex) (N : News g L h' led) : New h ex led := fun p hp => by
  by_cases hx : p.1 ∈ ex
  · exact .inl hx
  · refine .inr ?_
    cases q : h.get? p.1 with
    | none => rfl
    | some o => have := hG _ _ hx q; rw [(N p hp).2.2] at this; cases this

section
variable {prog : Program} {w : World} {A A₀ : Around} {s : Shared} {K : Frag} {L : Addr} {h₀ base : Heap} {m mg mb : Str → Option Value} {tabs : List (Addr × Obj)} {p : Program} {loose : List Str} {mean : ExcName → Option Value}
  {env : Env} {outer : List Env} {R : Result → Shared → Prop} {name qual : Str} {params : Arguments} {body : List Stmt} {scope : Scope} {cl : List (Str × Addr)} {dV kV doc pm cdv ct : Value} {an : Option Addr} {fo : Obj} {f : Addr} {args : Args} {binds : List (Str × Value)}

theorem keep_hide (h : Heap) (ex : List Addr) : Keep h (hideAll h ex) ex := fun _ _ n e => hideAll_get ex e n

/-- a call of a def without cells: what it is not handed is kept -/
theorem enterP (B : Below A₀ base outer h₀) (F : Fr h₀ L s.heap m) (X₀ : K.In h₀) (N : News h₀ L s.heap tabs) (T : Top p loose mean mg mb h₀) (hA : A.frames = some (env :: outer)) (hf : env.frame = some L) (hke : env.scope.kind = .function)
    (ho : s.heap.get? f = some fo) (hd : fo.data = .func (fnX name qual params body scope cl dV kV doc pm an cdv ct)) (hcd : s.heap.CodeRec cdv qual) (hroom : A.depth < recursionLimit)
    (hbind : BindsTo s (fnX name qual params body scope cl dV kV doc pm an cdv ct) args binds) (hloc : ∀ y ∈ binds, scope.names.lookup y.1 = some .local)
    (h : ∀ g L' h₁, Keep s.heap g (tabs.map (·.1)) → h₀.StaysIn g → Fr h₀ L g m → Fr g L' h₁ (fun y => binds.reverse.lookup y) → News g L' h₁ tabs → Below A base (env :: outer) g → K.In g → Top p loose mean mg mb g → (∀ q ∈ tabs, q.1 < L') →
      wpAny (model prog w) (A.deeper (envX qual scope L' f cdv cl)) (execs body (envX qual scope L' f cdv cl))
        (fun fl s' => LeaveK h₀ L m g R (match fl with | .ret v => v | _ => .none) s')
        (fun e s' => wpAny (model prog w) (A.deeper (envX qual scope L' f cdv cl)) (leaving (envX qual scope L' f cdv cl) e) (fun _ s'' => R (.error e) s'') (fun e' s'' => R (.error e') s'') s')
        { s with heap := h₁, toks := s.toks + binds.length })
    (hco : scope.isCoroutine = false) (hgen : scope.isGenerator = false) (hk : scope.kind = .function)
    (hcell : ∀ x ∈ scope.names, x.2 ≠ .cell) : codeAny (model prog w) A (.call (.ref f) args) R s := by
  obtain ⟨FG, BG, st, lv⟩ := groundX (R := R) B F N hA hf hke
  have lim := T.nolimit.keeps F.keep
  refine codeAny_call_def (fd := fnX name qual params body scope cl dV kV doc pm an cdv ct) (body := body) (binds := binds) hroom ho hd lim hcd rfl hbind hcell hloc ?_ hco hgen hk
  intro h₁ hns hk₁
  have F₁ : Fr (hideAll s.heap (tabs.map (·.1))) s.heap.objs.size h₁ (fun y => binds.reverse.lookup y) := ⟨hns, fun b o e => hk₁ b o (of_hideAll _ e), Nat.le_of_eq (hideAll_size _ _)⟩
  have lt : ∀ q ∈ tabs, q.1 < s.heap.objs.size := fun q hq => Heap.lt_size (N q hq).1
  have N₁ : News (hideAll s.heap (tabs.map (·.1))) s.heap.objs.size h₁ tabs := fun q hq => ⟨hk₁ _ _ (N q hq).1, Nat.ne_of_lt (lt q hq), hideAll_none _ (List.mem_map_of_mem hq)⟩
  exact wpAny_mono (h _ _ h₁ (keep_hide _ _) st FG F₁ N₁ BG (X₀.keeps st) (T.keeps st) lt) (fun _ s' hl => lv _ s' hl) fun _ _ y => y
/-- a call of a def with cells -/
theorem enterC (B : Below A₀ base outer h₀) (F : Fr h₀ L s.heap m) (X₀ : K.In h₀) (N : News h₀ L s.heap tabs) (T : Top p loose mean mg mb h₀) (hA : A.frames = some (env :: outer)) (hf : env.frame = some L) (hke : env.scope.kind = .function)
    (ho : s.heap.get? f = some fo) (hd : fo.data = .func (fnX name qual params body scope [] dV kV doc pm an cdv ct)) (hcd : s.heap.CodeRec cdv qual) (hroom : A.depth < recursionLimit)
    (hbind : BindsTo s (fnX name qual params body scope [] dV kV doc pm an cdv ct) args binds)
    (hkind : (binds.all fun y => scope.names.lookup y.1 == some .local || scope.names.lookup y.1 == some .cell) = true)
    (hnd : ((cellsFrom 0 scope.names []).map (·.1)).Nodup)
    (h : ∀ g L' h₁ tk cells, Keep s.heap g (tabs.map (·.1)) → h₀.StaysIn g → Fr h₀ L g m → Fr g L' h₁ (bindL (envOfC qual scope L' f cdv).kindOf binds fun _ => none) → News g L' h₁ (cells ++ tabs) →
      CellsAre (bindC (envOfC qual scope L' f cdv).kindOf binds fun _ => none) (cellsFrom (L' + 1) scope.names []) cells → Below A base (env :: outer) g → K.In g → Top p loose mean mg mb g → (∀ q ∈ tabs, q.1 < L') →
      wpAny (model prog w) (A.deeper (envOfC qual scope L' f cdv)) (execs body (envOfC qual scope L' f cdv))
        (fun fl s' => LeaveK h₀ L m g R (match fl with | .ret v => v | _ => .none) s')
        (fun e s' => wpAny (model prog w) (A.deeper (envOfC qual scope L' f cdv)) (leaving (envOfC qual scope L' f cdv) e) (fun _ s'' => R (.error e) s'') (fun e' s'' => R (.error e') s'') s')
        { s with heap := h₁, toks := tk })
    (hco : scope.isCoroutine = false) (hgen : scope.isGenerator = false) (hk : scope.kind = .function) : codeAny (model prog w) A (.call (.ref f) args) R s := by
  obtain ⟨FG, BG, st, lv⟩ := groundX (R := R) B F N hA hf hke
  have lim := T.nolimit.keeps F.keep
  have lt : ∀ q ∈ tabs, q.1 < s.heap.objs.size := fun q hq => Heap.lt_size (N q hq).1
  refine codeAny_call_function hroom ho hd hco hgen rfl hcd (hbind _ _ _ _ ?_)
  refine wpAny_newFunctionEnv_cells hk (kindsX hkind _) ?_
  rintro _ rfl s' x
  have kp := x.toInCall.keep
  have nd : ((cellsFrom (s.heap.objs.size + 1) scope.names []).map (·.1)).Nodup := by rw [← cellsFrom_names scope.names 0 (s.heap.objs.size + 1) [] [] rfl]; exact hnd
  obtain ⟨h₁, tk, rfl, _⟩ := x.done
  refine ⟨lim.keeps kp, codeAny_func ?_⟩
  obtain ⟨cells, NC, Y⟩ := Cl.news (h₀ := s.heap) (Nat.le_refl _) (fun n c hm => ⟨x.cell n c (lookup_of_mem_nodup nd hm), x.above n c hm⟩)
  have F₁ : Fr (hideAll s.heap (tabs.map (·.1))) s.heap.objs.size h₁ (bindL (envOfC qual scope s.heap.objs.size f cdv).kindOf binds fun _ => none) := ⟨x.toInCall.ns, fun b o e => kp b o (of_hideAll _ e), Nat.le_of_eq (hideAll_size _ _)⟩
  have N₁ : News (hideAll s.heap (tabs.map (·.1))) s.heap.objs.size h₁ (cells ++ tabs) := fun q hq => (List.mem_append.mp hq).elim
    (fun hq => ⟨(NC q hq).1, (NC q hq).2.1, by
      cases e : (hideAll s.heap (tabs.map (·.1))).get? q.1 with
      | none => rfl
      | some o => have := of_hideAll _ e; rw [(NC q hq).2.2] at this; cases this⟩)
    fun hq => ⟨kp _ _ (N q hq).1, Nat.ne_of_lt (lt q hq), hideAll_none _ (List.mem_map_of_mem hq)⟩
  exact wpAny_mono (h _ _ h₁ tk cells (keep_hide _ _) st FG F₁ N₁ Y BG (X₀.keeps st) (T.keeps st) lt) (fun _ s' hl => lv _ s' hl) fun _ _ y => y
end
/-- the ambient facts -/
structure Amb (w : World) (loose : List Str) (mean : ExcName → Option Value) (mg mb : Str → Option Value) (h₀ : Heap) : Prop where
  K : (hd.heap_39 w.params).In h₀
  T : Top topProg loose mean mg mb h₀
  c1 : CodeHd h₀ 41 37
  c2 : CodeHd h₀ 34 30
theorem Amb.keeps {w : World} {loose : List Str} {mean : ExcName → Option Value} {mg mb : Str → Option Value} {h₀ g : Heap} (X : Amb w loose mean mg mb h₀) (st : h₀.StaysIn g) : Amb w loose mean mg mb g :=
  ⟨X.K.keeps st, X.T.keeps st, X.c1.keeps st, X.c2.keeps st⟩

def Con (prog : Program) (w : World) (loose : List Str) (mean : ExcName → Option Value) (mg mb : Str → Option Value) (f : Addr) (vs : List Value) (sz : Nat) (TP : List (Addr × Obj) → Prop) (Out : List (Addr × Obj) → Value → Prop) : Prop :=
  ∀ (dp un : Nat) (gd : Option (List Code)) (cn : Str) (cs : Scope) (a : Addr) (ccd : Value) (cl : List (Str × Addr)) (outer : List Env) (A₀ : Around) (base h₀ : Heap) (L : Addr) (m : Str → Option Value) (tabs : List (Addr × Obj)) (s : Shared)
    (Q E : Value → Shared → Prop),
    Below A₀ base outer h₀ → Fr h₀ L s.heap m → Amb w loose mean mg mb h₀ → News h₀ L s.heap tabs → TP tabs → cs.kind = .function → dp + sz < recursionLimit → un + 8 * sz < cLine →
    (∀ r led h' tk', Fr h₀ L h' m → News h₀ L h' led → Keep s.heap h' (tabs.map (·.1)) → New s.heap (tabs.map (·.1)) led → Out led r → Q r { s with heap := h', toks := tk' }) →
    wpAny (model prog w) (ktrTop dp un gd cn cs L a ccd cl outer) (call (.ref f) vs) Q E s
theorem flat_rep {v : Value} : ∀ (k : Nat) (acc : Array Value), List.foldl (fun x1 x2 => x1 ++ x2) acc (List.replicate k #[v]) = acc ++ (List.replicate k v).toArray
  | 0, acc => by simp
  | k + 1, acc => by rw [List.replicate_succ, List.foldl_cons, flat_rep k, List.replicate_succ]; apply Array.toList_inj.mp; simp

/-- [v] * x -/
theorem mul_one {prog : Program} {w : World} {A : Around} {E : Value → Shared → Prop} {s : Shared} {h₀ : Heap} {L : Addr} {m : Str → Option Value} {news : List (Addr × Obj)} {l : Addr} {v : Value} {k : Nat} {x : Int} {u : Tok} {Q : Value → Shared → Prop}
    (F : Fr h₀ L s.heap m) (N : News h₀ L s.heap news) (hm : (l, listOf #[v] k) ∈ news) (hlo : 0 ≤ x) (hhi : x < 2 ^ 20)
    (h : ∀ D h', Fr h₀ L h' m → News h₀ L h' ((D, listOf (List.replicate x.toNat v).toArray 0) :: news) → (∀ q ∈ news, q.1 < D) → Q (.ref D) { s with heap := h' }) :
    wpAny (model prog w) A (binaryOp .Mult (.ref l) (.int x u)) Q E s := by
  refine mul_list F N (N _ hm).1 (by omega) (by omega) (by show 1 * x.toNat ≤ _; omega) fun h' F' N' => h _ h' F' ?_ fun q hq => Heap.lt_size (N q hq).1
  have e : List.foldl (fun x1 x2 => x1 ++ x2) #[] (List.replicate (if (#[v] : Array Value).isEmpty = true then 0 else x.toNat) #[v]) = (List.replicate x.toNat v).toArray := by
    rw [flat_rep]; simp
  rw [e] at N'
  exact N'
theorem ints_rep {t : Tok} : ∀ k : Nat, IntsAre (List.replicate k (.int 0 t)) (List.replicate k 0)
  | 0 => .nil
  | k + 1 => .cons 0 t (ints_rep k)
local macro_rules | `(tactic| k_room) => `(tactic| ((try simp only [depth_under_make, depth_under_kw, depth_in1, depth_deeper, depth_caller]); (try dsimp only [ktrTop]); (simp only [recursionLimit] at *); omega))
-- the walk stops at a call of a def and at a loop
local macro_rules | `(tactic| k_steps) => `(tactic| repeat' ((fail_if_success (with_reducible show wpAny _ _ (PySem.call (Value.ref _) _) _ _ _)); (fail_if_success (with_reducible show wpAny _ _ (PySem.exec (Stmt.For _ _ _ _ _) _) _ _ _)); (fail_if_success (with_reducible show wpAny _ _ (PySem.pyIter _) _ _ _)); first | (k_unfold; (try dsimp only)) | (k_end; kc_close) | walk1 | (dsimp only; walk1) | (leave1; walk_say "STEP leave1"; (try dsimp only)) | fail "no step"))
-- a def without cells is entered
local macro_rules | `(tactic| ktr_enter) => `(tactic| (refine' enterP (cl := []) ?k1 ?k2 ?k3 ?k4 ?k5 ?kA ?kF ?kK ?k6 ?kd ?k7 ?k8 ?k9 ?kB ?_ ?c2 ?c3 ?c4 ?c5; (case kA => exact rfl); (case kF => exact rfl); (case kK => assumption); (case k1 => k_asm); (case k2 => k_asm); (case k3 => k_asm); (case k4 => k_asm); (case k5 => k_asm); (case k6 => exact (Frag.In.keeps (by k_asm) (Fr.keep (by k_asm))) _ _ (by k_is)); (case kd => exact rfl); (case k7 => exact codeRec_of (Frag.In.keeps (by k_asm) (Fr.keep (by k_asm))) (by k_is)); (case k8 => k_room); (case k9 => first | exact BindsTo.of_eq rfl | exact binds_K (by k_in) rfl (by k_is) rfl rfl rfl); (case c5 => decide); (case kB => exact locs rfl); (case c2 => exact rfl); (case c3 => exact rfl); (case c4 => exact rfl); k_whole))
-- a def with cells is entered
local macro_rules | `(tactic| kc_enter) => `(tactic| (refine' enterC ?k1 ?k2 ?k3 ?k4 ?k5 ?kA ?kF ?kK ?k6 ?kd ?k7 ?k8 ?k9 ?kB ?kD ?_ ?c2 ?c3 ?c4; (case kA => exact rfl); (case kF => exact rfl); (case kK => assumption); (case k1 => k_asm); (case k2 => k_asm); (case k3 => k_asm); (case k4 => k_asm); (case k5 => k_asm); (case k6 => exact (Frag.In.keeps (by k_asm) (Fr.keep (by k_asm))) _ _ (by k_is)); (case kd => exact rfl); (case k7 => exact codeRec_of (Frag.In.keeps (by k_asm) (Fr.keep (by k_asm))) (by k_is)); (case k8 => k_room); (case k9 => first | exact BindsTo.of_eq rfl | exact binds_K (by k_in) rfl (by k_is) rfl rfl rfl); (case kB => exact rfl); (case kD => decide +kernel); (case c2 => exact rfl); (case c3 => exact rfl); (case c4 => exact rfl); k_whole))
section
theorem c_div2n1n {prog : Program} {w : World} {loose : List Str} {mean : ExcName → Option Value} {mg mb : Str → Option Value} (a b n : Int) (t1 t2 t3 : Tok) (h0 : 0 ≤ a) (h1 : a < 2 ^ 40) (hb : 0 < b) (hb2 : b < 1000) (hn : 0 ≤ n) :
    Con prog w loose mean mg mb 21 [.int a t1, .int b t2, .int n t3] 1 (· = []) (fun led r => ∃ t n' t1 t2, r = .ref t ∧ led = [(t, { cls := .type "tuple", data := .seq #[.int (a.fdiv b) t1, .int (a.fmod b) t2] n' })]) := by
  intro dp un gd cn cs fa ccd cl outer A₀ base h₀ L m tabs s Q E B F X N TP hk hdp hun hret
  subst TP
  have XK := X.K
  have XT := X.T
  have hbits : Builtin.Int.intBits a ≤ 40 := intBits_le_iff.mpr (by omega)
  refine wpAny_call ?_
  k_dflt ktr_enter
  intro g' L' h' hG st FG' F' N' B' X' T' l1
  (with_reducible show wpAny _ _ _ _ _ _)
  (try k_fold)
  k_steps
  refine hret _ _ _ _ (by assumption) (by assumption) (fun b o hb e => Fr.keep (h₀ := g') (by assumption) b o (hG b o hb e)) (new_of hG (by assumption)) ?_
  exact ⟨_, _, _, _, rfl, rfl⟩
end
/- the nested defs, read off the program -/
def nth : List Stmt → Nat → Stmt
  | a :: _, 0 => a
  | _ :: r, n + 1 => nth r n
  | [], _ => .Pass ⟨0, 0, 0, 0⟩
def dBody : Stmt → List Stmt
  | .FunctionDef _ _ b _ _ _ _ _ _ _ => b
  | _ => []
def dArgs : Stmt → Arguments
  | .FunctionDef _ a _ _ _ _ _ _ _ _ => a
  | _ => ⟨[], [], none, [], [], none, []⟩
def dScope : Stmt → Scope
  | .FunctionDef _ _ _ _ _ _ s _ _ _ => s
  | _ => { kind := .function, names := [], isGenerator := false, isCoroutine := false }
def inner1 : Stmt := nth (dBody (nth PySem.Challenge.pw_mr0205_01.main.body 4)) 1
def inner2 : Stmt := nth (dBody (nth PySem.Challenge.pw_mr0205_01.main.body 5)) 0

/-- a function object of a nested def -/
def Clo (h : Heap) (f : Addr) (qual : Str) (d : Stmt) (cl : List (Str × Addr)) : Prop :=
  ∃ doc pm c ctv, h.get? f = some (fnMade (Str.ofString "inner") qual (dArgs d) (dBody d) (dScope d) cl doc pm c ctv) ∧ h.CodeRec (.ref c) qual
theorem Clo.keeps {h h' : Heap} {f : Addr} {q : Str} {d : Stmt} {cl : List (Str × Addr)} (x : Clo h f q d cl) (k : ∀ b o, h.get? b = some o → h'.get? b = some o) : Clo h' f q d cl := by
  obtain ⟨doc, pm, c, ctv, e, c', oc, vs, t, e1, e2, r⟩ := x
  exact ⟨doc, pm, c, ctv, k _ _ e, c', oc, vs, t, e1, k _ _ e2, r⟩
theorem Clo.fn {h : Heap} {f : Addr} {q : Str} {d : Stmt} {cl : List (Str × Addr)} (x : Clo h f q d cl) : FnAt f h := by
  obtain ⟨doc, pm, c, ctv, e, _⟩ := x
  exact ⟨_, _, _, _, e⟩

theorem nameX_G {M : Model} {A : Around} {E : Value → Shared → Prop} {s : Shared} {g : Heap} {L a c : Addr} {m : Str → Option Value} {cn : Str} {cs : Scope} {ccd : Value} {cl : List (Str × Addr)} {x : Str} {pos : Pos} {v : Value} {Q : Value → Shared → Prop}
    (F : Fr g L s.heap m) (hc : cl.lookup x = some c) (hv : g.IsCell c (some v)) (h : Q v s)
    (hk : cs.kind = .function := by rfl) (hx : (envX cn cs L a ccd cl).kindOf x = some .free := by rfl) (hb : (x == ("__debug__" : Str)) = false := by decide) (hn : (x == ("__classdict__" : Str)) = false := by decide) :
    wpAny M A (eval (.Name x pos) (envX cn cs L a ccd cl)) Q E s := wpAny_Name (wpAny_loadName_free hk hx hc (hv.keeps F.keep) h hn) hb

/-- the number that digits make, the least first -/
def val (n : Nat) : List Int → Int
  | [] => 0
  | d :: r => d + 2 ^ n * val n r
theorem val_append (n : Nat) : ∀ a b : List Int, val n (a ++ b) = val n a + 2 ^ (n * a.length) * val n b
  | [], b => by simp [val]
  | d :: r, b => by
    simp only [List.cons_append, val, val_append n r b, List.length_cons, Nat.mul_add, Nat.mul_one, Int.pow_add, Int.mul_add]
    rw [Int.mul_comm (2 ^ (n * r.length)) (2 ^ n), Int.mul_assoc]
    omega
theorem val_zero (n : Nat) : ∀ k, val n (List.replicate k 0) = 0
  | 0 => rfl
  | k + 1 => by simp [List.replicate_succ, val, val_zero n k]

/-- a list with a piece laid in -/
def put (ds : List Int) (i : Nat) (xs : List Int) : List Int := ds.take i ++ xs ++ ds.drop (i + xs.length)
theorem put_length {ds xs : List Int} {i : Nat} (h : i + xs.length ≤ ds.length) : (put ds i xs).length = ds.length := by
  simp only [put, List.length_append, List.length_take, List.length_drop]; omega
theorem put_set {ds : List Int} {i : Nat} {x : Int} (h : i < ds.length) : ds.set i x = put ds i [x] := by
  unfold put
  rw [List.set_eq_take_append_cons_drop, if_pos h]
  simp
theorem put_put {ds xs ys : List Int} {i : Nat} (h : i + xs.length + ys.length ≤ ds.length) : put (put ds i xs) (i + xs.length) ys = put ds i (xs ++ ys) := by
  have l1 : (ds.take i).length = i := by rw [List.length_take]; omega
  have e1 : (put ds i xs).take (i + xs.length) = ds.take i ++ xs := by
    unfold put; rw [List.take_left' (by rw [List.length_append, l1])]
  have e2 : (put ds i xs).drop (i + xs.length + ys.length) = ds.drop (i + (xs ++ ys).length) := by
    unfold put
    have l2 : (ds.take i ++ xs).length = i + xs.length := by rw [List.length_append, l1]
    rw [List.drop_append, List.drop_eq_nil_of_le (by omega), l2, List.nil_append, List.drop_drop]
    congr 1
    rw [List.length_append]
    omega
  show (put ds i xs).take _ ++ ys ++ (put ds i xs).drop _ = _
  rw [e1, e2]
  simp [put]

theorem xor_cut0 : ∀ x : Fin 64, ∀ e : Fin 17, Builtin.bitXor ((x : Nat) : Int) (((x : Nat) : Int).fdiv (2 ^ (e : Nat)) * 2 ^ (e : Nat)) = ((x : Nat) : Int) % 2 ^ (e : Nat) := by decide +kernel
theorem xor_cut {x : Int} {e : Nat} (h0 : 0 ≤ x) (h1 : x < 64) (he : e < 17) : Builtin.bitXor x (x.fdiv (2 ^ e) * 2 ^ e) = x % 2 ^ e := by
  have := xor_cut0 ⟨x.toNat, by omega⟩ ⟨e, he⟩
  simp only [Int.toNat_of_nonneg h0] at this
  exact this
theorem two_pow_pos (e : Nat) : (0 : Int) < 2 ^ e := Int.pow_pos (by decide)
theorem shr_is (x : Int) (e : Nat) : x.fdiv (2 ^ e) = x / 2 ^ e := Int.fdiv_eq_ediv_of_nonneg x (Int.le_of_lt (two_pow_pos e))
theorem shr_bd {x : Int} {e : Nat} (h0 : 0 ≤ x) (h1 : x < 64) : 0 ≤ x / 2 ^ e ∧ x / 2 ^ e < 64 := by
  have p := two_pow_pos e
  refine ⟨Int.ediv_nonneg h0 (Int.le_of_lt p), ?_⟩
  have := Int.ediv_le_self (b := 2 ^ e) h0
  omega
theorem cut_bd {x : Int} {e : Nat} (h0 : 0 ≤ x) (h1 : x < 64) : 0 ≤ x % 2 ^ e ∧ x % 2 ^ e < 64 := by
  have p := two_pow_pos e
  have a := Int.emod_nonneg x (Int.ne_of_gt p)
  have b := shr_bd (e := e) h0 h1
  have c := Int.emod_add_mul_ediv x (2 ^ e)
  have d := Int.mul_nonneg (Int.le_of_lt p) b.1
  omega

theorem news_put {h₀ h h' : Heap} {L l : Addr} {o o' : Obj} {news news' : List (Addr × Obj)} (N : News h₀ L h news) (U : Upd l o o' news news') (K : Keep h h' [l]) (hl : h'.get? l = some o') : News h₀ L h' news' := by
  obtain ⟨pre, post, rfl, rfl, a, b⟩ := U.split
  intro p hp
  rcases List.mem_append.mp hp with q | q
  · have P := N p (List.mem_append_left _ q)
    exact ⟨K _ _ (by simpa using a p q) P.1, P.2⟩
  · rcases List.mem_cons.mp q with rfl | q
    · exact ⟨hl, (N (l, o) (List.mem_append_right _ (.head _))).2⟩
    · have P := N p (List.mem_append_right _ (.tail _ q))
      exact ⟨K _ _ (by simpa using b p q) P.1, P.2⟩

/-- a code table, before and after its def was made once -/
inductive Tb (P : Addr) (ln co : Nat) (q : Str) : List (Addr × Obj) → Prop
  | cold : Tb P ln co q [(P, tabObj #[])]
  | warm {c : Addr} {oc : Obj} {vs : Array Value} {t : Tok} : oc.data = .fields vs → vs[1]? = some (.str q t) → Tb P ln co q [(P, tabObj #[rawInt ln, rawInt co, .ref c]), (c, oc)]

theorem news_three {h₀ h : Heap} {L : Addr} {news : List (Addr × Obj)} {p q r : Addr × Obj} (N : News h₀ L h news) (hp : p ∈ news) (hq : q ∈ news) (hr : r ∈ news) : News h₀ L h [p, q, r] :=
  List.forall_mem_cons.mpr ⟨N _ hp, List.forall_mem_cons.mpr ⟨N _ hq, List.forall_mem_cons.mpr ⟨N _ hr, fun _ h => nomatch h⟩⟩⟩
theorem news_two {h₀ h : Heap} {L : Addr} {news : List (Addr × Obj)} {p q : Addr × Obj} (N : News h₀ L h news) (hp : p ∈ news) (hq : q ∈ news) : News h₀ L h [p, q] :=
  List.forall_mem_cons.mpr ⟨N _ hp, List.forall_mem_cons.mpr ⟨N _ hq, fun _ h => nomatch h⟩⟩
theorem news_one {h₀ h : Heap} {L : Addr} {news : List (Addr × Obj)} {p : Addr × Obj} (N : News h₀ L h news) (hp : p ∈ news) : News h₀ L h [p] :=
  List.forall_mem_cons.mpr ⟨N _ hp, fun _ h => nomatch h⟩
theorem put_all {ds xs : List Int} (h : xs.length = ds.length) : put ds 0 xs = xs := by
  unfold put; rw [List.take_zero, List.nil_append, List.drop_eq_nil_of_le (by omega), List.append_nil]
theorem flat_zero : ∀ k : Nat, (List.replicate k [(0 : Int)]).flatten = List.replicate k 0
  | 0 => rfl
  | k + 1 => by rw [List.replicate_succ, List.flatten_cons, flat_zero k]; rfl
theorem keep_end {h g h' : Heap} {L : Addr} {m : Str → Option Value} {ex : List Addr} (hG : Keep h g ex) (F : Fr g L h' m) : Keep h h' ex := fun b o hb e => F.keep b o (hG b o hb e)
theorem cell_of {h₀ h : Heap} {L c : Addr} {o : Obj} {v : Option Value} {news : List (Addr × Obj)} (N : News h₀ L h news) (hm : (c, o) ∈ news) (hd : o.data = .cell v) : h.IsCell c v := ⟨o, (N _ hm).1, hd⟩
section
local macro_rules | `(tactic| walk_at "eval Name") => `(tactic| (k_here; k_dflt (refine' nameX_G ?F ?c ?v ?_ ?a ?b; (case a => rfl); (case b => rfl); (case F => k_asm); (case c => rfl); (case v => assumption); k_whole)))
local macro_rules | `(tactic| walk_at "callWith ref") => `(tactic| (k_here; k_dflt (refine' callWith_F ?k1 ?_; (case k1 => exact Clo.fn (Clo.keeps (by assumption) (Fr.keep (by k_asm)))); k_whole)))
local macro_rules | `(tactic| walk_at "binaryOp LShift int int") => `(tactic| (refine lshift_int_small (by assumption) (by assumption) (by assumption) ?_))
local macro_rules | `(tactic| walk_at "binaryOp RShift int int") => `(tactic| (refine rshift_int (by assumption) ?_))
local macro_rules | `(tactic| walk_at "FnAt") => `(tactic| (k_dflt (exact Clo.fn (Clo.keeps (by assumption) (Fr.keep (by k_asm))))))
abbrev q1 : Str := Str.ofString "_int2digits" ++ Str.ofString ".<locals>." ++ Str.ofString "inner"
def CInner1 (prog : Program) (w : World) (loose : List Str) (mean : ExcName → Option Value) (mg mb : Str → Option Value) (n : Int) (k : Nat) : Prop :=
  ∀ (x lo hi : Int) (t1 t2 t3 tn : Tok) (f l cA cI cN : Addr) (vs : List Value) (ds : List Int) (kk : Nat)
    (dp un : Nat) (gd : Option (List Code)) (cn : Str) (cs : Scope) (a : Addr) (ccd : Value) (cl : List (Str × Addr)) (outer : List Env) (A₀ : Around) (base h₀ : Heap) (L : Addr) (m : Str → Option Value) (s : Shared)
    (Q E : Value → Shared → Prop),
    0 ≤ x → x < 64 → 0 ≤ lo → hi = lo + k → hi ≤ ds.length → ds.length ≤ 8 → IntsAre vs ds →
    Clo s.heap f q1 inner1 [(Str.ofString "n", cN), (Str.ofString "inner", cI), (Str.ofString "a_digits", cA)] → s.heap.IsCell cA (some (.ref l)) → s.heap.IsCell cI (some (.ref f)) → s.heap.IsCell cN (some (.int n tn)) →
    Below A₀ base outer h₀ → Fr h₀ L s.heap m → Amb w loose mean mg mb h₀ → News h₀ L s.heap [(l, listOf vs.toArray kk)] → cs.kind = .function → dp + k + 1 < recursionLimit → un + 8 * (k + 1) < cLine →
    (∀ seg vs' h' tk', seg.length = k → val n.toNat seg = x → (∀ d ∈ seg, 0 ≤ d ∧ d < 64) → IntsAre vs' (put ds lo.toNat seg) → Fr h₀ L h' m → News h₀ L h' [(l, listOf vs'.toArray kk)] → Keep s.heap h' [l] → Q .none { s with heap := h', toks := tk' }) →
    wpAny (model prog w) (ktrTop dp un gd cn cs L a ccd cl outer) (call (.ref f) [.int x t1, .int lo t2, .int hi t3]) Q E s
theorem c_inner1 {prog : Program} {w : World} {loose : List Str} {mean : ExcName → Option Value} {mg mb : Str → Option Value} (n : Int) (hn : 0 < n) (hn2 : n < 5) : ∀ k, 0 < k → CInner1 prog w loose mean mg mb n k := by
  intro k
  induction k using Nat.strongRecOn with
  | _ k IH =>
  intro hk0
  intro x lo hi t1 t2 t3 tn f l cA cI cN vs ds kk dp un gd cn cs fa ccd cl outer A₀ base h₀ L m s Q E hx0 hx1 hlo hhi hle hlen hI hC hcA hcI hcN B F X N hk hdp hun hret
  have XK := X.K
  have XT := X.T
  have hlist : s.heap.get? l = some (listOf vs.toArray kk) := (N _ (List.Mem.head _)).1
  have hC' := hC
  obtain ⟨doc, pm, c, ctv, ef, ec⟩ := hC'
  conv at ef in (dBody _) => whnf
  conv at ef in (dArgs _) => whnf
  conv at ef in (dScope _) => whnf
  have hfl : f ≠ l := fun e => by rw [e, hlist] at ef; cases congrArg Obj.data (Option.some.inj ef)
  have ne : ∀ {c : Addr} {v : Option Value}, s.heap.IsCell c v → c ≠ l := fun ⟨o, e1, e2⟩ q => by rw [q, hlist] at e1; cases e1; cases e2
  refine wpAny_call ?_
  k_dflt (refine' enterP ?k1 ?k2 ?k3 ?k4 ?k5 ?kA ?kF ?kK ?k6 ?kd ?k7 ?k8 ?k9 ?kB ?_ ?c2 ?c3 ?c4 ?c5; (case kA => exact rfl); (case kF => exact rfl); (case kK => assumption); (case k1 => k_asm); (case k2 => k_asm); (case k3 => k_asm); (case k4 => k_asm); (case k5 => k_asm); (case k6 => exact ef); (case kd => exact rfl); (case k7 => exact ec); (case k8 => k_room); (case k9 => exact BindsTo.of_eq rfl); (case c5 => decide); (case kB => exact locs rfl); (case c2 => exact rfl); (case c3 => exact rfl); (case c4 => exact rfl); k_whole)
  intro g' L' h' hG st FG' F' N' B' X' T' l1
  have hGl : ∀ b o, b ≠ l → s.heap.get? b = some o → g'.get? b = some o := fun b o hb e => hG b o (by simpa using hb) e
  have gC : Clo g' f q1 inner1 [(Str.ofString "n", cN), (Str.ofString "inner", cI), (Str.ofString "a_digits", cA)] := by
    obtain ⟨c₂, oc, vs₂, t₂, e1, e2, r⟩ := ec
    exact ⟨doc, pm, c, ctv, hGl _ _ hfl ef, c₂, oc, vs₂, t₂, e1, hGl _ _ (fun q => by rw [q, hlist] at e2; cases e2; cases r.1) e2, r⟩
  have up : ∀ {c : Addr} {v : Option Value}, s.heap.IsCell c v → g'.IsCell c v := fun x => let ⟨o, e1, e2⟩ := x; ⟨o, hGl _ _ (ne x) e1, e2⟩
  have gA := up hcA
  have gI := up hcI
  have gN := up hcN
  have gX := X.keeps st
  have hlv := hI.length
  clear hC hcA hcI hcN ef ec
  have hmd : (lo + hi).fdiv (2 ^ Int.toNat 1) = lo + ((k / 2 : Nat) : Int) := by
    rw [shr_is]; show (lo + hi) / 2 = _; omega
  have hsh : ((lo + hi).fdiv (2 ^ Int.toNat 1) - lo) * n = ((k / 2 * n.toNat : Nat) : Int) := by
    rw [hmd]; push_cast; rw [Int.toNat_of_nonneg (by omega), Int.add_comm, Int.add_sub_cancel]
  have hshN : k / 2 * n.toNat < 17 := by
    have a : k / 2 ≤ 4 := by omega
    have b : n.toNat ≤ 4 := by omega
    have := Nat.mul_le_mul a b
    omega
  have hsh0 : 0 ≤ ((lo + hi).fdiv (2 ^ Int.toNat 1) - lo) * n := by rw [hsh]; omega
  have hsh1 : ((lo + hi).fdiv (2 ^ Int.toNat 1) - lo) * n ≤ 1000000 := by rw [hsh]; omega
  have hshT : (((lo + hi).fdiv (2 ^ Int.toNat 1) - lo) * n).toNat = k / 2 * n.toNat := by rw [hsh]; omega
  have hU := shr_bd (e := k / 2 * n.toNat) hx0 hx1
  have hW := cut_bd (e := k / 2 * n.toNat) hx0 hx1
  have hUU : (x.fdiv (2 ^ (((lo + hi).fdiv (2 ^ Int.toNat 1) - lo) * n).toNat)).natAbs < 2 ^ 64 := by rw [hshT, shr_is]; omega
  (with_reducible show wpAny _ _ _ _ _ _)
  (try k_fold)
  k_steps
  · refine hret [x] _ _ _ ?_ ?_ ?_ ?_ (by assumption) (by assumption) (fun b o hb e => Fr.keep (h₀ := g') (by assumption) b o (hG b o hb e))
    · show 1 = k; omega
    · simp [val]
    · intro d hd; rw [List.mem_singleton.mp hd]; omega
    · rw [← put_set (by omega)]; assumption
  · rw [hshT, hmd, xor_cut hx0 hx1 hshN]
    have k1 : 0 < k / 2 := by omega
    have IH1 := IH (k / 2) (by omega) k1
    unfold CInner1 at IH1
    rename Fr g' _ _ _ => F9
    rename News g' _ _ _ => N9
    refine IH1 _ _ _ _ _ _ tn f l cA cI cN vs ds kk _ _ _ _ _ _ _ _ _ _ _ _ _ _ _ _ _ hW.1 hW.2 hlo rfl (by omega) hlen hI (gC.keeps F9.keep) (gA.keeps F9.keep) (gI.keeps F9.keep) (gN.keeps F9.keep) B' F9 gX N9 rfl ?_ ?_ ?_
    · show dp + 1 + k / 2 + 1 < recursionLimit; omega
    · show un + 3 + 8 * (k / 2 + 1) < cLine; omega
    · intro seg1 vs1 h1 tk1 hl1 hv1 hd1 hI1 F1 N1 hK1
      k_steps
      rw [hshT, hmd, shr_is]
      have k2 : 0 < k - k / 2 := by omega
      have IH2 := IH (k - k / 2) (by omega) k2
      unfold CInner1 at IH2
      have hpl : (put ds lo.toNat seg1).length = ds.length := put_length (by omega)
      refine IH2 _ _ _ _ _ _ tn f l cA cI cN vs1 (put ds lo.toNat seg1) kk _ _ _ _ _ _ _ _ _ _ _ _ _ _ _ _ _ hU.1 hU.2 (by omega) (by omega) (by omega) (by omega) hI1 (gC.keeps F1.keep) (gA.keeps F1.keep) (gI.keeps F1.keep) (gN.keeps F1.keep) B' F1 gX N1 rfl ?_ ?_ ?_
      · show dp + 1 + (k - k / 2) + 1 < recursionLimit; omega
      · show un + 3 + 8 * (k - k / 2 + 1) < cLine; omega
      · intro seg2 vs2 h2 tk2 hl2 hv2 hd2 hI2 F2 N2 hK2
        k_steps
        refine hret (seg1 ++ seg2) _ _ _ ?_ ?_ ?_ ?_ (by assumption) (by assumption) (fun b o hb e => Fr.keep F2 b o (hG b o hb e))
        · rw [List.length_append]; omega
        · rw [val_append, hv1, hv2, hl1, Nat.mul_comm]; exact Int.emod_add_mul_ediv _ _
        · intro d hd; exact (List.mem_append.mp hd).elim (hd1 d) (hd2 d)
        · have e : (lo + ((k / 2 : Nat) : Int)).toNat = lo.toNat + seg1.length := by omega
          rw [e, put_put (by omega)] at hI2
          exact hI2
end
section
theorem digits_bd {a n : Int} (h0 : 0 ≤ a) (h1 : a < 64) (hn : 0 < n) : 0 ≤ ((Builtin.Int.intBits a : Int) + n - 1).fdiv n ∧ ((Builtin.Int.intBits a : Int) + n - 1).fdiv n ≤ 6 ∧ (a ≠ 0 → 0 < ((Builtin.Int.intBits a : Int) + n - 1).fdiv n) := by
  have hb : Builtin.Int.intBits a ≤ 6 := intBits_le_iff.mpr (by omega)
  rw [Int.fdiv_eq_ediv_of_nonneg _ (by omega)]
  refine ⟨Int.ediv_nonneg (by omega) (by omega), ?_, ?_⟩
  · refine Int.le_of_lt_add_one ((Int.ediv_lt_iff_lt_mul hn).mpr ?_)
    have : (6 + 1) * n = 6 * n + n := by rw [Int.add_mul, Int.one_mul]
    omega
  · intro ha
    have h1 : 0 < Builtin.Int.intBits a := by
      cases e : Builtin.Int.intBits a with
      | zero => have := intBits_le_iff (m := 0) (x := a) |>.mp (by omega); omega
      | succ k => omega
    exact Int.lt_of_lt_of_le Int.zero_lt_one (Int.le_ediv_of_mul_le hn (by omega))
/-- what _int2digits gives -/
def O35 (a n : Int) (led : List (Addr × Obj)) (r : Value) : Prop :=
  ∃ l k vs ds c oc ws t, r = .ref l ∧ led = [(l, listOf vs.toArray k), (30, tabObj #[rawInt (32 : Nat), rawInt (4 : Nat), .ref c]), (c, oc)] ∧ IntsAre vs ds ∧ val n.toNat ds = a ∧ (∀ d ∈ ds, 0 ≤ d ∧ d < 64) ∧ ds.length ≤ 6 ∧ oc.data = .fields ws ∧ ws[1]? = some (.str q1 t)
theorem c_i2d {prog : Program} {w : World} {loose : List Str} {mean : ExcName → Option Value} {mg mb : Str → Option Value} (a n : Int) (t1 t2 : Tok) (h0 : 0 ≤ a) (h1 : a < 64) (hn : 0 < n) (hn2 : n < 5) :
    Con prog w loose mean mg mb 35 [.int a t1, .int n t2] 10 (Tb 30 32 4 q1) (O35 a n) := by
  intro dp un gd cn cs fa ccd cl outer A₀ base h₀ L m tabs s Q E B F X N TP hk hdp hun hret
  have XK := X.K
  have XT := X.T
  have hbits : Builtin.Int.intBits a ≤ 6 := intBits_le_iff.mpr (by omega)
  have hDD := digits_bd h0 h1 hn
  cases TP
  all_goals (
    refine wpAny_call ?_
    k_dflt kc_enter
    intro g' L' h' tk' cells' hG st FG' F' N' Y' B' X' T' l1
    have C1' := X.c1.keeps st
    have C2' := X.c2.keeps st
    k_lt l1
    k_cells Y'
    simp only [List.cons_append, List.nil_append] at N'
    (with_reducible show wpAny _ _ _ _ _ _)
    (try k_fold)
    k_steps
    · rename Fr g' _ _ _ => F9
      rename News g' _ _ _ => N9
      rename IntsAre _ _ => I9
      have hf := (N9 _ (List.Mem.head _)).1
      rename List.length _ = _ => e9
      have hI := c_inner1 (prog := prog) (w := w) (loose := loose) (mean := mean) (mg := mg) (mb := mb) n hn hn2
      unfold CInner1 at hI
      refine hI _ ?_ _ _ _ _ _ _ t2 _ _ (L' + 1 + 1) (L' + 1 + 1 + 1) (L' + 1) _ _ _ _ _ _ _ _ _ _ _ _ _ _ _ _ _ _ _ _ h0 h1 (Int.le_refl 0) (Int.zero_add _).symm ?_ ?_ I9 ⟨_, _, _, _, hf, ?_⟩ ?_ ?_ ?_ B' F9 ⟨X', T', C1', C2'⟩ (news_one N9 (by k_mem)) rfl ?_ ?_ ?_
      · rw [flat_zero, List.length_replicate] at e9; have := hDD.2.2 (by assumption); omega
      · rw [e9]; exact Int.le_refl _
      · rw [flat_zero, List.length_replicate]; omega
      · exact codeRec_news N9 (by k_mem) (by assumption) (by assumption)
      · exact cell_of N9 (by k_mem) (by assumption)
      · exact cell_of N9 (by k_mem) (by assumption)
      · exact cell_of N9 (by k_mem) (by assumption)
      · rw [flat_zero, List.length_replicate] at e9; show dp + 1 + _ + 1 < recursionLimit; omega
      · rw [flat_zero, List.length_replicate] at e9; show un + 3 + 8 * (_ + 1) < cLine; omega
      · intro seg vs1 h1 tk1 hl hv hd hI1 F1 N1 hK1
        have N10 := news_put N9 (by k_upd) hK1 (N1 _ (List.Mem.head _)).1
        have hsl : seg.length ≤ 6 := by rw [flat_zero, List.length_replicate] at e9; omega
        rw [show Int.toNat 0 = 0 from rfl, put_all (by omega)] at hI1
        clear I9 N9 F9 N1 hI hf
        k_steps
        rename Fr h₀ _ _ _ => F9
        rename News h₀ _ _ _ => N9
        refine hret _ _ _ _ F9 (news_three N9 (by k_mem) (by k_mem) (by k_mem)) (keep_end hG F1) (new_of hG (news_three N10 (by k_mem) (by k_mem) (by k_mem))) ⟨_, _, vs1, seg, _, _, _, _, rfl, rfl, hI1, hv, hd, hsl, by assumption, by assumption⟩
    · rename Fr h₀ _ _ _ => F9
      rename News h₀ _ _ _ => N9
      rename Fr g' _ _ _ => F8
      rename News g' _ _ _ => N8
      rename IntsAre _ _ => I9
      rw [flat_zero] at I9
      refine hret _ _ _ _ F9 (news_three N9 (by k_mem) (by k_mem) (by k_mem)) (keep_end hG F8) (new_of hG (news_three N8 (by k_mem) (by k_mem) (by k_mem))) ⟨_, _, _, _, _, _, _, _, rfl, rfl, I9, ?_, ?_, ?_, by assumption, by assumption⟩
      · rw [val_zero]; symm; assumption
      · intro d hd; rw [List.eq_of_mem_replicate hd]; decide
      · rw [List.length_replicate]; omega)
end
section
local macro_rules | `(tactic| walk_at "eval Name") => `(tactic| (k_here; k_dflt (refine' nameX_G ?F ?c ?v ?_ ?a ?b; (case a => rfl); (case b => rfl); (case F => k_asm); (case c => rfl); (case v => assumption); k_whole)))
local macro_rules | `(tactic| walk_at "callWith ref") => `(tactic| (k_here; k_dflt (refine' callWith_F ?k1 ?_; (case k1 => exact Clo.fn (Clo.keeps (by assumption) (Fr.keep (by k_asm)))); k_whole)))
local macro_rules | `(tactic| walk_at "binaryOp LShift int int") => `(tactic| (refine lshift_int_small (by assumption) (by assumption) (by assumption) ?_))
local macro_rules | `(tactic| walk_at "binaryOp RShift int int") => `(tactic| (refine rshift_int (by assumption) ?_))
local macro_rules | `(tactic| walk_at "FnAt") => `(tactic| (k_dflt (exact Clo.fn (Clo.keeps (by assumption) (Fr.keep (by k_asm))))))
theorem item_G {prog : Program} {w : World} {A : Around} {E : Value → Shared → Prop} {s : Shared} {g : Heap} {L l : Addr} {m : Str → Option Value} {value slice : PySem.Expr} {vs : List Value} {ns : List Int} {k : Int} {u : Tok} {Q : Value → Shared → Prop}
    (F : Fr g L s.heap m) (hl : g.IsList l vs.toArray) (hi : IntsAre vs ns) (h0 : 0 ≤ k) (h1 : k < ns.length) (hfit : k < 2 ^ 63) (h : ∀ t, Q (.int (ns.getD k.toNat 0) t) s)
    (hs : subscripted slice false (.ref l) (.int k u) = operate [.ref l, .int k u] (getItem (.ref l) (.int k u)) := by with_unfolding_all rfl) :
    wpAny (model prog w) A (subscriptTail value slice (.ref l) (.int k u)) Q E s := item_anyK (hl.at fun o e => F.keep l o e) hi h0 h1 hfit h hs
local macro_rules | `(tactic| walk_at "subscriptTail") => `(tactic| (k_here; (with_reducible show wpAny _ _ (subscriptTail _ _ (Value.ref _) (Value.int _ _)) _ _ _); k_dflt (refine' item_G ?k1 ?k2 ?k3 ?k4 ?k5 ?k6 ?_ ?k7; (case k1 => k_asm); (case k2 => assumption); (case k3 => assumption); (case k4 => omega); (case k5 => omega); (case k6 => omega); (case k7 => with_unfolding_all rfl); k_whole); intro _))
abbrev q2 : Str := Str.ofString "_digits2int" ++ Str.ofString ".<locals>." ++ Str.ofString "inner"
def CInner2 (prog : Program) (w : World) (loose : List Str) (mean : ExcName → Option Value) (mg mb : Str → Option Value) (n : Int) (k : Nat) : Prop :=
  ∀ (lo hi : Int) (t2 t3 tn : Tok) (f l cA cI cN : Addr) (vs : List Value) (ds : List Int)
    (dp un : Nat) (gd : Option (List Code)) (cn : Str) (cs : Scope) (a : Addr) (ccd : Value) (cl : List (Str × Addr)) (outer : List Env) (A₀ : Around) (base h₀ : Heap) (L : Addr) (m : Str → Option Value) (s : Shared)
    (Q E : Value → Shared → Prop),
    0 ≤ lo → hi = lo + k → hi ≤ ds.length → ds.length ≤ 8 → (∀ i j, (val n.toNat ((ds.drop i).take j)).natAbs < 2 ^ 64) → IntsAre vs ds → s.heap.IsList l vs.toArray →
    Clo s.heap f q2 inner2 [(Str.ofString "n", cN), (Str.ofString "inner", cI), (Str.ofString "digits", cA)] → s.heap.IsCell cA (some (.ref l)) → s.heap.IsCell cI (some (.ref f)) → s.heap.IsCell cN (some (.int n tn)) →
    Below A₀ base outer h₀ → Fr h₀ L s.heap m → Amb w loose mean mg mb h₀ → cs.kind = .function → dp + k + 1 < recursionLimit → un + 8 * (k + 1) < cLine →
    (∀ t h' tk', Fr h₀ L h' m → Keep s.heap h' [] → Q (.int (val n.toNat ((ds.drop lo.toNat).take k)) t) { s with heap := h', toks := tk' }) →
    wpAny (model prog w) (ktrTop dp un gd cn cs L a ccd cl outer) (call (.ref f) [.int lo t2, .int hi t3]) Q E s
theorem c_inner2 {prog : Program} {w : World} {loose : List Str} {mean : ExcName → Option Value} {mg mb : Str → Option Value} (n : Int) (hn : 0 < n) (hn2 : n < 5) : ∀ k, 0 < k → CInner2 prog w loose mean mg mb n k := by
  intro k
  induction k using Nat.strongRecOn with
  | _ k IH =>
  intro hk0
  intro lo hi t2 t3 tn f l cA cI cN vs ds dp un gd cn cs fa ccd cl outer A₀ base h₀ L m s Q E hlo hhi hle hlen hbd hI hL hC hcA hcI hcN B F X hk hdp hun hret
  have XK := X.K
  have XT := X.T
  have N : News h₀ L s.heap [] := News.nil
  have hC' := hC
  obtain ⟨doc, pm, c, ctv, ef, ec⟩ := hC'
  conv at ef in (dBody _) => whnf
  conv at ef in (dArgs _) => whnf
  conv at ef in (dScope _) => whnf
  refine wpAny_call ?_
  k_dflt (refine' enterP ?k1 ?k2 ?k3 ?k4 ?k5 ?kA ?kF ?kK ?k6 ?kd ?k7 ?k8 ?k9 ?kB ?_ ?c2 ?c3 ?c4 ?c5; (case kA => exact rfl); (case kF => exact rfl); (case kK => assumption); (case k1 => k_asm); (case k2 => k_asm); (case k3 => k_asm); (case k4 => k_asm); (case k5 => k_asm); (case k6 => exact ef); (case kd => exact rfl); (case k7 => exact ec); (case k8 => k_room); (case k9 => exact BindsTo.of_eq rfl); (case c5 => decide); (case kB => exact locs rfl); (case c2 => exact rfl); (case c3 => exact rfl); (case c4 => exact rfl); k_whole)
  intro g' L' h' hG st FG' F' N' B' X' T' l1
  have hGl : ∀ b o, s.heap.get? b = some o → g'.get? b = some o := fun b o e => hG b o (List.not_mem_nil) e
  have gC := hC.keeps hGl
  have gA := hcA.keeps hGl
  have gI := hcI.keeps hGl
  have gN := hcN.keeps hGl
  have gL := hL.at fun o e => hGl l o e
  have gX := X.keeps st
  have hlv := hI.length
  clear hC hcA hcI hcN ef ec hL
  have hmd : (lo + hi).fdiv (2 ^ Int.toNat 1) = lo + ((k / 2 : Nat) : Int) := by
    rw [shr_is]; show (lo + hi) / 2 = _; omega
  have hsh : ((lo + hi).fdiv (2 ^ Int.toNat 1) - lo) * n = ((k / 2 * n.toNat : Nat) : Int) := by
    rw [hmd]; push_cast; rw [Int.toNat_of_nonneg (by omega), Int.add_comm, Int.add_sub_cancel]
  have hshN : k / 2 * n.toNat < 17 := by
    have a : k / 2 ≤ 4 := by omega
    have b : n.toNat ≤ 4 := by omega
    have := Nat.mul_le_mul a b
    omega
  have hsh0 : 0 ≤ ((lo + hi).fdiv (2 ^ Int.toNat 1) - lo) * n := by rw [hsh]; omega
  have hsh1 : ((lo + hi).fdiv (2 ^ Int.toNat 1) - lo) * n ≤ 1000000 := by rw [hsh]; omega
  have hshT : (((lo + hi).fdiv (2 ^ Int.toNat 1) - lo) * n).toNat = k / 2 * n.toNat := by rw [hsh]; omega
  (with_reducible show wpAny _ _ _ _ _ _)
  (try k_fold)
  k_steps
  · rename Fr h₀ _ _ _ => F9
    have e : (ds.drop lo.toNat).take k = [ds.getD lo.toNat 0] := by
      have hk1 : k = 1 := by omega
      have hl : lo.toNat < ds.length := by omega
      rw [hk1, List.getD_eq_getElem?_getD, List.getElem?_eq_getElem hl, List.drop_eq_getElem_cons hl]
      rfl
    simp only [e, val, Int.mul_zero, Int.add_zero] at hret
    exact hret _ _ _ F9 (keep_end hG F')
  · rename Fr g' _ _ _ => F9
    rw [hmd]
    have k2 : 0 < k - k / 2 := by omega
    have IH2 := IH (k - k / 2) (by omega) k2
    unfold CInner2 at IH2
    refine IH2 _ _ _ _ tn f l cA cI cN vs ds _ _ _ _ _ _ _ _ _ _ _ _ _ _ _ _ _ (by omega) (by omega) hle hlen hbd hI (gL.at fun o e => F9.keep l o e) (gC.keeps F9.keep) (gA.keeps F9.keep) (gI.keeps F9.keep) (gN.keeps F9.keep) B' F9 gX rfl ?_ ?_ ?_
    · show dp + 1 + (k - k / 2) + 1 < recursionLimit; omega
    · show un + 3 + 8 * (k - k / 2 + 1) < cLine; omega
    · intro t1 h1 tk1 F1 hK1
      have N1 : News g' L' h1 [] := News.nil
      have hb1 := hbd (lo + ((k / 2 : Nat) : Int)).toNat (k - k / 2)
      k_steps
      rw [hmd]
      have k1 : 0 < k / 2 := by omega
      have IH1 := IH (k / 2) (by omega) k1
      unfold CInner2 at IH1
      refine IH1 _ _ _ _ tn f l cA cI cN vs ds _ _ _ _ _ _ _ _ _ _ _ _ _ _ _ _ _ hlo rfl (by omega) hlen hbd hI (gL.at fun o e => F1.keep l o e) (gC.keeps F1.keep) (gA.keeps F1.keep) (gI.keeps F1.keep) (gN.keeps F1.keep) B' F1 gX rfl ?_ ?_ ?_
      · show dp + 1 + (k / 2) + 1 < recursionLimit; omega
      · show un + 3 + 8 * (k / 2 + 1) < cLine; omega
      · intro t4 h4 tk4 F4 hK4
        have N4 : News g' L' h4 [] := News.nil
        k_steps
        rename Fr h₀ _ _ _ => F9
        have e : val n.toNat ((ds.drop lo.toNat).take k) = val n.toNat ((ds.drop (lo + ((k / 2 : Nat) : Int)).toNat).take (k - k / 2)) * 2 ^ ((lo + ((k / 2 : Nat) : Int) - lo) * n).toNat + val n.toNat ((ds.drop lo.toNat).take (k / 2)) := by
          have hshT2 : ((lo + ((k / 2 : Nat) : Int) - lo) * n).toNat = k / 2 * n.toNat := by rw [← hmd]; exact hshT
          have e1 : k = k / 2 + (k - k / 2) := by omega
          have e2 : (lo + ((k / 2 : Nat) : Int)).toNat = lo.toNat + k / 2 := by omega
          have e3 : ((ds.drop lo.toNat).take (k / 2)).length = k / 2 := by rw [List.length_take, List.length_drop]; omega
          conv => lhs; rw [e1]
          rw [List.take_add, val_append, e3, List.drop_drop, e2, hshT2, Nat.mul_comm n.toNat, Int.mul_comm, Int.add_comm]
        simp only [e] at hret
        exact hret _ _ _ F9 (keep_end hG F4)
end
section
/-- what _digits2int gives -/
def O42 (x : Int) (led : List (Addr × Obj)) (r : Value) : Prop :=
  ∃ t0 c oc ws t, r = .int x t0 ∧ led = [(37, tabObj #[rawInt (47 : Nat), rawInt (4 : Nat), .ref c]), (c, oc)] ∧ oc.data = .fields ws ∧ ws[1]? = some (.str q2 t)
theorem c_d2i {prog : Program} {w : World} {loose : List Str} {mean : ExcName → Option Value} {mg mb : Str → Option Value} (l : Addr) (vs : List Value) (ds : List Int) (kk : Nat) (n : Int) (t2 : Tok) (hI : IntsAre vs ds) (hn : 0 < n) (hn2 : n < 5) (hlen : ds.length ≤ 8) (hbd : ∀ i j, (val n.toNat ((ds.drop i).take j)).natAbs < 2 ^ 64) :
    Con prog w loose mean mg mb 42 [.ref l, .int n t2] 10 (fun x => ∃ y, x = (l, listOf vs.toArray kk) :: y ∧ Tb 37 47 4 q2 y) (O42 (val n.toNat ds)) := by
  intro dp un gd cn cs fa ccd cl outer A₀ base h₀ L m tabs s Q E B F X N TP hk hdp hun hret
  have XK := X.K
  have XT := X.T
  obtain ⟨y, rfl, TP⟩ := TP
  have hl37 : @Ne Nat l 37 := fun e => by
    have a := (N _ (List.Mem.head _)).1
    cases TP with
    | cold =>
      have b := (N _ (List.Mem.tail _ (List.Mem.head _))).1
      dsimp only at a b; rw [e, b] at a; cases congrArg Obj.data (Option.some.inj a)
    | warm h1 h2 =>
      have b := (N _ (List.Mem.tail _ (List.Mem.head _))).1
      dsimp only at a b; rw [e, b] at a; cases congrArg Obj.data (Option.some.inj a)
  cases TP
  all_goals (
    refine wpAny_call ?_
    k_dflt kc_enter
    intro g' L' h' tk' cells' hG st FG' F' N' Y' B' X' T' l1
    have C1' := X.c1.keeps st
    have C2' := X.c2.keeps st
    k_lt l1
    k_cells Y'
    simp only [List.cons_append, List.nil_append] at N'
    (with_reducible show wpAny _ _ _ _ _ _)
    (try k_fold)
    k_steps
    · rename Fr g' _ _ _ => F9
      rename News g' _ _ _ => N9
      have hf := (N9 _ (List.Mem.head _)).1
      have hi2 := c_inner2 (prog := prog) (w := w) (loose := loose) (mean := mean) (mg := mg) (mb := mb) n hn hn2
      unfold CInner2 at hi2
      refine hi2 _ ?_ _ _ _ _ t2 _ l (L' + 1) (L' + 1 + 1 + 1) (L' + 1 + 1) vs ds _ _ _ _ _ _ _ _ _ _ _ _ _ _ _ _ _ (Int.le_refl 0) (Int.zero_add _).symm (Int.le_refl _) hlen hbd hI (News.isList N9 (by k_mem)) ⟨_, _, _, _, hf, ?_⟩ ?_ ?_ ?_ B' F9 ⟨X', T', C1', C2'⟩ rfl ?_ ?_ ?_
      · assumption
      · exact codeRec_news N9 (by k_mem) (by assumption) (by assumption)
      · exact cell_of N9 (by k_mem) (by assumption)
      · exact cell_of N9 (by k_mem) (by assumption)
      · exact cell_of N9 (by k_mem) (by assumption)
      · show dp + 1 + ds.length + 1 < recursionLimit; omega
      · show un + 3 + 8 * (ds.length + 1) < cLine; omega
      · intro t1 h1 tk1 F1 hK1
        have N10 : News g' L' h1 _ := fun p hp => ⟨hK1 _ _ List.not_mem_nil (N9 p hp).1, (N9 p hp).2⟩
        clear N9 F9 hf hi2
        k_steps
        rename Fr h₀ _ _ _ => F9
        rename News h₀ _ _ _ => N9
        rw [show Int.toNat 0 = 0 from rfl, List.drop_zero, List.take_length]
        refine hret _ _ _ _ F9 (news_two N9 (by k_mem) (by k_mem)) (keep_end hG F1) (new_of hG (news_two N10 (by k_mem) (by k_mem))) ⟨_, _, _, _, _, rfl, rfl, by assumption, by assumption⟩
    · rename Fr h₀ _ _ _ => F9
      rename News h₀ _ _ _ => N9
      rename Fr g' _ _ _ => F8
      rename News g' _ _ _ => N8
      have e : val n.toNat ds = 0 := by rw [List.eq_nil_of_length_eq_zero (l := ds) (by omega)]; rfl
      rw [e] at hret
      refine hret _ _ _ _ F9 (news_two N9 (by k_mem) (by k_mem)) (keep_end hG F8) (new_of hG (news_two N8 (by k_mem) (by k_mem))) ⟨_, _, _, _, _, rfl, rfl, by assumption, by assumption⟩)
end
theorem Fr_re {h₀ h : Heap} {L : Addr} {m m' : Str → Option Value} (F : Fr h₀ L h m) (e : ∀ z, m z = m' z) : Fr h₀ L h m' := (funext e : m = m') ▸ F

section
variable {prog : Program} {w : World} {loose : List Str} {mean : ExcName → Option Value} {mg mb : Str → Option Value} {f : Addr} {vs : List Value} {sz : Nat} {TP : List (Addr × Obj) → Prop} {Out : List (Addr × Obj) → Value → Prop}
  {dp un : Nat} {gd : Option (List Code)} {cn : Str} {cs : Scope} {a : Addr} {ccd : Value} {cl : List (Str × Addr)} {outer : List Env} {A₀ : Around} {base h₀ : Heap} {L : Addr} {m : Str → Option Value} {s : Shared} {Q E : Value → Shared → Prop}

/-- a contract used where the ledger bears more than it is handed -/
theorem Con.use {news mine tabs : List (Addr × Obj)} (C : Con prog w loose mean mg mb f vs sz TP Out) (B : Below A₀ base outer h₀) (F : Fr h₀ L s.heap m) (X : Amb w loose mean mg mb h₀) (N : News h₀ L s.heap news)
    (ht : ∀ p ∈ tabs, p ∈ news) (hT : TP tabs) (hm : ∀ p ∈ mine, p ∈ news) (ap : ∀ p ∈ mine, ∀ q ∈ tabs, p.1 ≠ q.1) (hk : cs.kind = .function) (hd : dp + sz < recursionLimit) (hu : un + 8 * sz < cLine)
    (k : ∀ r led h' tk', Fr h₀ L h' m → News h₀ L h' (led ++ mine) → (∀ p ∈ mine, ∀ q ∈ led, p.1 ≠ q.1) → New s.heap (tabs.map (·.1)) led → Out led r → Q r { s with heap := h', toks := tk' }) :
    wpAny (model prog w) (ktrTop dp un gd cn cs L a ccd cl outer) (call (.ref f) vs) Q E s := by
  refine C _ _ _ _ _ _ _ _ _ _ _ _ _ _ tabs _ _ _ B F X (fun p hp => N p (ht p hp)) hT hk hd hu fun r led h' tk' F' N' K' W O => ?_
  have off : ∀ p ∈ mine, p.1 ∉ tabs.map (·.1) := fun p hp hq => by
    obtain ⟨q, hq, e⟩ := List.mem_map.mp hq
    exact ap p hp q hq e.symm
  refine k r led h' tk' F' (fun p hp => ?_) (fun p hp q hq e => ?_) W O
  · rcases List.mem_append.mp hp with hp | hp
    · exact N' p hp
    · have P := N p (hm p hp)
      exact ⟨K' _ _ (off p hp) P.1, P.2⟩
  · rcases W q hq with x | x
    · exact off p hp (e ▸ x)
    · have P := (N p (hm p hp)).1
      rw [e, x] at P
      cases P
end

/-- entries of one ledger: unlike objects lie apart -/
theorem ne_of_obj {h₀ h : Heap} {L : Addr} {news : List (Addr × Obj)} {p q : Addr × Obj} (N : News h₀ L h news) (hp : p ∈ news) (hq : q ∈ news) (h : p.2 ≠ q.2) : p.1 ≠ q.1 := fun e => by
  have a := (N p hp).1
  rw [e, (N q hq).1] at a
  exact h (Option.some.inj a).symm

/-- all entries are tables or codes -/
theorem Tb.fields {P : Addr} {ln co : Nat} {q : Str} {t : List (Addr × Obj)} (T : Tb P ln co q t) : ∀ p ∈ t, ∃ ws, p.2.data = .fields ws := by
  cases T with
  | cold => intro p hp; rw [List.mem_singleton.mp hp]; exact ⟨_, rfl⟩
  | warm h _ =>
    intro p hp
    rcases List.mem_cons.mp hp with rfl | hp
    · exact ⟨_, rfl⟩
    · rw [List.mem_singleton.mp hp]; exact ⟨_, h⟩
/-- one table's entries and another's lie apart -/
theorem Tb.apart {P P' : Addr} {ln co ln' co' : Nat} {q q' : Str} {t t' : List (Addr × Obj)} {h₀ h : Heap} {L : Addr} {news : List (Addr × Obj)} (N : News h₀ L h news) (T : Tb P ln co q t) (T' : Tb P' ln' co' q' t')
    (h1 : ∀ p ∈ t, p ∈ news) (h2 : ∀ p ∈ t', p ∈ news) (hP : P ≠ P') (hq : q ≠ q') : ∀ x ∈ t, ∀ y ∈ t', x.1 ≠ y.1 := by
  intro x hx y hy e
  have eo : x.2 = y.2 := by
    have a := (N x (h1 x hx)).1
    rw [e, (N y (h2 y hy)).1] at a
    exact (Option.some.inj a).symm
  have g : ∀ {P : Addr} {ln co : Nat} {q : Str} {t : List (Addr × Obj)}, Tb P ln co q t → ∀ x ∈ t, (x.1 = P ∧ ∀ ws, x.2.data = .fields ws → ∀ q t, ws[1]? ≠ some (.str q t)) ∨ ∃ ws t, x.2.data = .fields ws ∧ ws[1]? = some (.str q t) := by
    intro P ln co q t T x hx
    cases T with
    | cold => rw [List.mem_singleton.mp hx]; exact .inl ⟨rfl, fun ws e q t => by cases e; simp⟩
    | warm h h' =>
      rcases List.mem_cons.mp hx with rfl | hx
      · exact .inl ⟨rfl, fun ws e q t => by cases e; simp [rawInt]⟩
      · rw [List.mem_singleton.mp hx]; exact .inr ⟨_, _, h, h'⟩
  rcases g T x hx with ⟨a, b⟩ | ⟨ws, t1, a, b⟩ <;> rcases g T' y hy with ⟨a', b'⟩ | ⟨ws', t1', a', b'⟩
  · exact hP (a.symm.trans (e.trans a'))
  · exact b ws' (eo ▸ a') _ _ b'
  · exact b' ws (eo ▸ a) _ _ b
  · rw [eo, a'] at a
    cases a
    rw [b'] at b
    cases b
    exact hq rfl

theorem news_swap {h₀ h : Heap} {L : Addr} {a b : List (Addr × Obj)} (N : News h₀ L h (a ++ b)) : News h₀ L h (b ++ a) := fun p hp => N p (List.mem_append.mpr ((List.mem_append.mp hp).symm))
theorem news_sub {h₀ h : Heap} {L : Addr} {a b : List (Addr × Obj)} (N : News h₀ L h a) (hs : ∀ p ∈ b, p ∈ a) : News h₀ L h b := fun p hp => N p (hs p hp)
theorem all_ne_of_lt {d : Addr} {l : List (Addr × Obj)} (h : AllLt d l) : ∀ p ∈ l, p.1 ≠ d := fun p hp => Nat.ne_of_lt (ktn_ltOf h p hp)

section
variable {prog : Program} {w : World} {A : Around} {h₀ : Heap} {env : Env} {x : Str} {body : List Stmt} {Q : Flow → Shared → Prop} {E : Value → Shared → Prop} {s₂ : Shared}
  {I : Addr} {fp wr : List Addr} {n : Nat} {P : Nat → Value → Prop} {St : Nat → Heap → Prop}

/-- how a turn ends -/
def TurnEnd {σ : Type} (h₀ : Heap) (L : Addr) (wr : List Addr) (own : List (Addr × Obj)) (up : σ → Str → Option Value) (Ld : σ → List (Addr × Obj)) (Ok : σ → Prop) (s₂ : Shared) (f : Flow) (s₃ : Shared) : Prop :=
  f = .next ∧ ∃ h' tk st, s₃ = { s₂ with heap := h', toks := tk } ∧ Ok st ∧ (∀ p ∈ Ld st, p.1 ∉ wr) ∧ Fr h₀ L h' (up st) ∧ News h₀ L h' (Ld st ++ own)

/-- a loop by a state of one's own -/
theorem loop_gen {σ : Type} (W : Walks prog w A I fp wr n P St) (hLf : env.locals ∉ fp) (hwr : ∀ b ∈ wr, h₀.get? b = none) (hst : St 0 s₂.heap)
    (up : σ → Str → Option Value) (Ld : σ → List (Addr × Obj)) (Ok : Nat → σ → Prop) (st₀ : σ) (F : Fr h₀ env.locals s₂.heap (up st₀)) (N : News h₀ env.locals s₂.heap (Ld st₀)) (hok : Ok 0 st₀) (hnw : ∀ p ∈ Ld st₀, p.1 ∉ wr)
    (turn : ∀ i v st h tk own, i < n → P i v → Ok i st → (∀ p ∈ Ld st, p.1 ∉ wr) → (∀ p ∈ own, p.1 ∈ fp) → (∀ b ∈ fp, h₀.get? b = none → ∀ o, h.get? b = some o → (b, o) ∈ own) → St (i + 1) h → Fr h₀ env.locals h (fun y => if y = x then some v else up st y) → News h₀ env.locals h (Ld st ++ own) →
      wpAny (model prog w) A (execs body env) (TurnEnd h₀ env.locals wr own up Ld (Ok (i + 1)) s₂) E { s₂ with heap := h, toks := tk })
    (done : ∀ st h tk, Ok n st → Fr h₀ env.locals h (up st) → News h₀ env.locals h (Ld st) → Q .next { s₂ with heap := h, toks := tk }) :
    LoopAtV prog w A h₀ env x body Q E (.ref I) s₂ := by
  refine ⟨I, fp, wr, n, P, St, up st₀, Ld st₀, fun i m news => ∃ st, Ok i st ∧ m = up st ∧ news = Ld st, rfl, W, hLf, hwr, hnw, hst, F, N, ⟨st₀, hok, rfl, rfl⟩, ?_, ?_⟩
  · rintro i v _ _ s₁ own ⟨h, tk, rfl⟩ hi hP ⟨st, hok, rfl, rfl⟩ hoff hown _ hin hSt F₁ N₁
    refine wpAny_mono (turn i v st h tk own hi hP hok hoff hown hin hSt F₁ (news_swap N₁)) (fun f s₃ e => ?_) fun _ _ e => e
    obtain ⟨rfl, h', tk', st', rfl, ok', off', F', N'⟩ := e
    exact .next ⟨rfl, h', tk', up st', Ld st', rfl, F', news_swap N', off', st', ok', rfl, rfl⟩
  · rintro h' tk _ _ F' N' _ ⟨st, ok, rfl, rfl⟩
    exact done st h' tk ok F' N'
end

/- the plain law of the long division -/
theorem div_step {n : Nat} {b r d V R : Int} (h : R = V * b + r) : d + 2 ^ n * R = ((r * 2 ^ n + d) / b + 2 ^ n * V) * b + (r * 2 ^ n + d) % b := by
  have e := Int.emod_add_mul_ediv (r * 2 ^ n + d) b
  rw [h, Int.add_mul, Int.mul_comm ((r * 2 ^ n + d) / b) b, Int.mul_add, Int.mul_assoc, Int.mul_comm (2 ^ n) r]
  omega
theorem div_end {a b q r : Int} (h : a = q * b + r) (h0 : 0 ≤ r) (h1 : r < b) : q = a / b ∧ r = a % b := by
  have hb : 0 < b := by omega
  subst h
  constructor
  · rw [Int.add_comm, Int.add_mul_ediv_right _ _ (by omega), Int.ediv_eq_zero_of_lt h0 h1, Int.zero_add]
  · rw [Int.add_comm, Int.add_mul_emod_self_right, Int.emod_eq_of_lt h0 h1]
theorem drop_down {ds : List Int} {i : Nat} {d : Int} (h : ds[ds.length - 1 - i]? = some d) (hi : i < ds.length) : ds.drop (ds.length - (i + 1)) = d :: ds.drop (ds.length - i) := by
  have e : ds.length - (i + 1) < ds.length := by omega
  rw [List.drop_eq_getElem_cons e]
  have e2 : ds.length - (i + 1) + 1 = ds.length - i := by omega
  have e3 : ds.length - 1 - i = ds.length - (i + 1) := by omega
  rw [e3, List.getElem?_eq_getElem e] at h
  rw [Option.some.inj h, e2]
theorem val_bd {n : Nat} (hn : n ≤ 4) : ∀ {l : List Int}, (∀ d ∈ l, 0 ≤ d ∧ d < 1024) → l.length ≤ 8 → 0 ≤ val n l ∧ val n l < 1024 * 32 ^ l.length
  | [], _, _ => by simp [val]
  | d :: r, h, hl => by
    have hd := h d (.head _)
    have ih := val_bd hn (l := r) (fun x hx => h x (.tail _ hx)) (by simp at hl; omega)
    have p : (2 : Int) ^ n ≤ 16 := by
      have : (2 : Nat) ^ n ≤ 2 ^ 4 := Nat.pow_le_pow_right (by decide) hn
      exact_mod_cast this
    have p0 := two_pow_pos n
    have a := Int.mul_nonneg (Int.le_of_lt p0) ih.1
    have b : 2 ^ n * val n r ≤ 16 * val n r := Int.mul_le_mul_of_nonneg_right p ih.1
    simp only [val, List.length_cons, Int.pow_succ]
    have c : (0 : Int) < 32 ^ r.length := Int.pow_pos (by decide)
    omega

theorem ints_at : ∀ {vs : List Value} {ds : List Int}, IntsAre vs ds → ∀ {j : Nat} {v : Value}, vs[j]? = some v → ∃ d t, v = .int d t ∧ ds[j]? = some d
  | _, _, .cons n t _, 0, v, h => ⟨n, t, by simpa using h.symm, rfl⟩
  | _, _, .cons _ _ r, j + 1, v, h => by
    obtain ⟨d, t, e1, e2⟩ := ints_at r (j := j) (v := v) (by simpa using h)
    exact ⟨d, t, e1, by simpa using e2⟩
theorem ints_push {x : Int} {u : Tok} : ∀ {vs : List Value} {ds : List Int}, IntsAre vs ds → IntsAre (vs ++ [.int x u]) (ds ++ [x])
  | _, _, .nil => .cons x u .nil
  | _, _, .cons n t r => .cons n t (ints_push r)
theorem ints_rev : ∀ {vs : List Value} {ds : List Int}, IntsAre vs ds → IntsAre vs.reverse ds.reverse
  | _, _, .nil => .nil
  | _, _, .cons n t r => by rw [List.reverse_cons, List.reverse_cons]; exact ints_push (ints_rev r)
section
local macro_rules | `(tactic| walk_at "binaryOp LShift int int") => `(tactic| (refine lshift_int_small (by assumption) (by assumption) (by assumption) ?_))
local macro_rules | `(tactic| k_all) => `(tactic| (refine all_ne_of_lt ?_; first | assumption | exact (‹_ ∧ AllLt _ _›).2 | exact (‹_ ∧ _ ∧ AllLt _ _›).2.2 | exact (‹_ ∧ _ ∧ _ ∧ AllLt _ _›).2.2.2 | exact (‹_ ∧ _ ∧ _ ∧ _ ∧ AllLt _ _›).2.2.2.2))
local macro_rules | `(tactic| k_all) => `(tactic| (refine List.forall_mem_append.mpr ⟨?_, ?_⟩ <;> k_all))

structure DSt where
  r : Int
  tr : Tok
  qs : List Int
  vq : List Value
  kq : Nat
  u1 : Option Value
  u2 : Option Value
def upD (m₀ : Str → Option Value) (st : DSt) : Str → Option Value := fun z => if z = Str.ofString "r" then some (.int st.r st.tr) else if z = Str.ofString "a_digit" then st.u1 else if z = Str.ofString "q_digit" then st.u2 else m₀ z
theorem upD_start (m₀ : Str → Option Value) {t : Tok} {kq : Nat} (h : m₀ (Str.ofString "r") = some (.int 0 t)) : ∀ z, m₀ z = upD m₀ ⟨0, t, [], [], kq, m₀ (Str.ofString "a_digit"), m₀ (Str.ofString "q_digit")⟩ z := by
  intro z
  unfold upD
  by_cases h1 : z = Str.ofString "r"
  · rw [if_pos h1, h1]; exact h
  · rw [if_neg h1]
    by_cases h2 : z = Str.ofString "a_digit"
    · rw [if_pos h2, h2]
    · rw [if_neg h2]
      by_cases h3 : z = Str.ofString "q_digit"
      · rw [if_pos h3, h3]
      · rw [if_neg h3]
theorem upD_turn (m₀ : Str → Option Value) (st : DSt) {r : Int} {tr : Tok} {u1 u2 : Option Value} {qs : List Int} {vq : List Value} {kq : Nat} :
    ∀ z, (if z = Str.ofString "r" then some (.int r tr) else if z = Str.ofString "q_digit" then u2 else if z = Str.ofString "a_digit" then u1 else upD m₀ st z) = upD m₀ ⟨r, tr, qs, vq, kq, u1, u2⟩ z := by
  intro z
  unfold upD
  by_cases h1 : z = Str.ofString "r"
  · rw [if_pos h1, if_pos h1]
  · rw [if_neg h1, if_neg h1, if_neg h1]
    by_cases h2 : z = Str.ofString "q_digit"
    · have h3 : z ≠ Str.ofString "a_digit" := by rw [h2]; decide
      rw [if_pos h2, if_neg h3, if_pos h2]
    · rw [if_neg h2]
      by_cases h3 : z = Str.ofString "a_digit"
      · rw [if_pos h3, if_pos h3]
      · rw [if_neg h3, if_neg h3, if_neg h2, if_neg h3, if_neg h2]
def OkD (n : Nat) (b : Int) (ds : List Int) (i : Nat) (st : DSt) : Prop :=
  i ≤ ds.length ∧ IntsAre st.vq st.qs ∧ st.qs.length = i ∧ (∀ q ∈ st.qs, 0 ≤ q ∧ q < 1024) ∧ 0 ≤ st.r ∧ st.r < b ∧ val n (ds.drop (ds.length - i)) = val n st.qs.reverse * b + st.r

def TT (x : List (Addr × Obj)) : Prop := ∃ t1 t2, x = t1 ++ t2 ∧ Tb 37 47 4 q2 t1 ∧ Tb 30 32 4 q1 t2
/-- what _divmod_pos and int_divmod give -/
def O49 (q r : Int) (led : List (Addr × Obj)) (v : Value) : Prop :=
  ∃ t n tq tr x, v = .ref t ∧ led = (t, { cls := .type "tuple", data := .seq #[.int q tq, .int r tr] n }) :: x ∧ TT x
theorem c_divmod_pos {prog : Program} {w : World} {loose : List Str} {mean : ExcName → Option Value} {mg mb : Str → Option Value} (a b : Int) (t1 t2 : Tok) (h0 : 0 ≤ a) (h1 : a < 64) (hb0 : 0 < b) (hb1 : b < 16) :
    Con prog w loose mean mg mb 49 [.int a t1, .int b t2] 12 TT (O49 (a / b) (a % b)) := by
  intro dp un gd cn cs fa ccd cl outer A₀ base h₀ L m tabs s Q E B F X N TP hk hdp hun hret
  have XK := X.K
  have XT := X.T
  obtain ⟨T1, T2, rfl, hT1, hT2⟩ := TP
  have hnb : Builtin.Int.intBits b ≤ 4 := intBits_le_iff.mpr (by omega)
  have hnb0 : 0 < Builtin.Int.intBits b := by
    cases e : Builtin.Int.intBits b with
    | zero => have := intBits_le_iff (m := 0) (x := b) |>.mp (by omega); omega
    | succ k => omega
  have hN0 : 0 ≤ ((Builtin.Int.intBits b : Nat) : Int) := by omega
  have hN1 : ((Builtin.Int.intBits b : Nat) : Int) ≤ 1000000 := by omega
  refine wpAny_call ?_
  k_dflt ktr_enter
  intro g' L' h' hG st FG' F' N' B' X' T' l1
  have gX := X.keeps st
  (with_reducible show wpAny _ _ _ _ _ _)
  (try k_fold)
  k_steps
  rename Fr g' _ _ _ => F9
  rename News g' _ _ _ => N9
  refine Con.use (c_i2d a _ t1 _ h0 h1 (by omega) (by omega)) (mine := T1) (tabs := T2) B' F9 gX N9 (fun p hp => List.mem_append_right _ hp) hT2 (fun p hp => List.mem_append_left _ hp) (Tb.apart N9 hT1 hT2 (fun p hp => List.mem_append_left _ hp) (fun p hp => List.mem_append_right _ hp) (by decide) (by decide +kernel)) rfl ?_ ?_ ?_
  · show dp + 1 + 10 < recursionLimit; omega
  · show un + 3 + 8 * 10 < cLine; omega
  intro r led h2 tk2 F2 N2 ap2 new2 hO
  obtain ⟨l, k, vs, ds, c, oc, ws, t, rfl, rfl, hI, hv, hd, hlen, ho1, ho2⟩ := hO
  simp only [List.cons_append, List.nil_append] at N2
  clear N9 F9
  k_steps
  rename Fr g' _ _ _ => F9
  rename News g' _ _ _ => N9
  refine For_invVF F9 rfl rfl ?_
  k_steps
  rename_i lq _ lt1 _ D _ F8 N8 lt2
  have hDL := (N8 _ (List.Mem.head _)).2
  have hlL := (N8 _ (List.Mem.tail _ (List.Mem.tail _ (List.Mem.head _)))).2.1
  have hlv := hI.length
  have hDl : l ≠ D := Nat.ne_of_lt lt2.2.1
  have hqD : lq ≠ D := Nat.ne_of_lt lt2.1
  have hql : l ≠ lq := Nat.ne_of_lt lt1.1
  refine wpAny_pyIter_revIter (l := l) (i := (vs.length : Int) - 1) ⟨_, (N8 _ (List.Mem.head _)).1, rfl, rfl⟩ ?_
  refine loop_gen (Walks.listRev rfl D l hDl vs.toArray) ?_ ?_ ?_ (upD _) (fun st => (lq, listOf st.vq.toArray st.kq) :: (l, listOf vs.toArray k) :: (30, tabObj #[rawInt (32 : Nat), rawInt (4 : Nat), .ref c]) :: (c, oc) :: T1) (OkD (Builtin.Int.intBits b) b ds) _ (Fr_re F8 (upD_start (kq := 0) _ rfl)) (news_sub N8 fun p hp => List.mem_cons_of_mem _ hp) ?_ ?_ ?_ ?_
  · intro q
    rcases List.mem_cons.mp q with q | q
    · exact hDL.1 q.symm
    · exact hlL (List.mem_singleton.mp q).symm
  · intro x hx; rw [List.mem_singleton.mp hx]; exact hDL.2
  · refine ⟨Nat.zero_le _, ⟨_, (N8 _ (List.Mem.head _)).1, rfl, ?_⟩, News.isList N8 (by k_mem)⟩
    rw [List.size_toArray]; show _ = Data.fields #[.ref l, rawInt ((vs.length : Int) - 1 - 0)]; rw [Int.sub_zero]; rfl
  · refine ⟨Nat.zero_le _, .nil, rfl, (fun q hq => nomatch hq), Int.le_refl 0, hb0, ?_⟩
    rw [Nat.sub_zero, List.drop_length]; show (0 : Int) = 0 * b + 0; rw [Int.zero_mul]; rfl
  · intro p hp q
    rw [List.mem_singleton] at q
    rcases List.mem_cons.mp hp with rfl | hp
    · exact hqD q
    · have := ktn_ltOf (d := D) (l := (l, listOf vs.toArray k) :: (30, tabObj #[rawInt (32 : Nat), rawInt (4 : Nat), .ref c]) :: (c, oc) :: T1) lt2.2 p hp
      exact Nat.ne_of_lt this q
  · intro i v st h tk own hi hP hok hoff hown _ hSt F N
    obtain ⟨ok1, ok2, ok3, ok4, ok5, ok6, ok7⟩ := hok
    rw [List.size_toArray] at hi
    rw [List.getElem?_toArray, List.size_toArray] at hP
    obtain ⟨d, td, rfl, hdi⟩ := ints_at hI hP
    have hdd := hd d (List.mem_of_getElem? hdi)
    have hOff : OwnOff own [lq] := fun p hp b hb => by
      rw [List.mem_singleton.mp hb]
      rcases List.mem_cons.mp (hown p hp) with e | e
      · exact fun q => hqD (q.symm.trans e)
      · exact fun q => hql ((List.mem_singleton.mp e).symm.trans q)
    have hr64 : st.r.natAbs < 2 ^ 64 := by omega
    simp only [List.cons_append] at N
    clear F8 N8
    have hp16 : (2 : Int) ^ (((Builtin.Int.intBits b : Nat) : Int)).toNat ≤ 16 := by
      rw [Int.toNat_natCast]
      have : (2 : Nat) ^ Builtin.Int.intBits b ≤ 2 ^ 4 := Nat.pow_le_pow_right (by decide) hnb
      exact_mod_cast this
    have hp0 := two_pow_pos (((Builtin.Int.intBits b : Nat) : Int)).toNat
    have hx0 : 0 ≤ st.r * 2 ^ (((Builtin.Int.intBits b : Nat) : Int)).toNat := Int.mul_nonneg ok5 (Int.le_of_lt hp0)
    have hx1 : st.r * 2 ^ (((Builtin.Int.intBits b : Nat) : Int)).toNat ≤ st.r * 16 := Int.mul_le_mul_of_nonneg_left hp16 ok5
    k_steps
    rename Fr g' _ _ _ => F9
    rename News g' _ _ _ => N9
    refine Con.use (c_div2n1n _ b _ _ t2 _ (by omega) (by omega) hb0 (by omega) (by omega)) (mine := (lq, listOf st.vq.toArray st.kq) :: (l, listOf vs.toArray k) :: (30, tabObj #[rawInt (32 : Nat), rawInt (4 : Nat), .ref c]) :: (c, oc) :: (T1 ++ own)) (tabs := []) B' F9 gX N9 (fun p hp => nomatch hp) rfl (fun p hp => hp) (fun p hp q hq => nomatch hq) rfl ?_ ?_ ?_
    · show dp + 1 + 1 < recursionLimit; omega
    · show un + 3 + 8 * 1 < cLine; omega
    intro r led h3 tk3 F3 N3 ap3 new3 hO
    obtain ⟨tt, n', tq, tr, rfl, rfl⟩ := hO
    simp only [List.cons_append, List.nil_append] at N3
    clear N9 F9
    have htt : @Ne Nat tt lq := fun e => ap3 _ (List.Mem.head _) _ (List.Mem.head _) e.symm
    have hvq := ok2.length
    have hvs : st.vq.toArray.size ≤ sizeLine := by rw [List.size_toArray, sizeLine_eq]; omega
    k_steps
    rename Fr g' _ _ _ => F9
    rename News g' _ _ _ => N9
    simp only [List.push_toArray] at N9
    have ex : (((Builtin.Int.intBits b : Nat) : Int)).toNat = Builtin.Int.intBits b := Int.toNat_natCast _
    refine ⟨rfl, _, _, ⟨(st.r * 2 ^ (((Builtin.Int.intBits b : Nat) : Int)).toNat + d).fmod b, tr, st.qs ++ [(st.r * 2 ^ (((Builtin.Int.intBits b : Nat) : Int)).toNat + d).fdiv b], st.vq ++ [.int ((st.r * 2 ^ (((Builtin.Int.intBits b : Nat) : Int)).toNat + d).fdiv b) tq], st.kq + 1, some (.int d td), some (.int ((st.r * 2 ^ (((Builtin.Int.intBits b : Nat) : Int)).toNat + d).fdiv b) tq)⟩, rfl, ?_, ?_, Fr_re F9 ?_, news_sub N9 ?_⟩
    · have e1 : ∀ x : Int, x.fdiv b = x / b := fun x => Int.fdiv_eq_ediv_of_nonneg x (by omega)
      have e2 : ∀ x : Int, x.fmod b = x % b := fun x => Int.fmod_eq_emod_of_nonneg x (by omega)
      have q1 := Int.ediv_nonneg (a := st.r * 2 ^ (((Builtin.Int.intBits b : Nat) : Int)).toNat + d) (b := b) (by omega) (by omega)
      have q2 := Int.ediv_le_self (a := st.r * 2 ^ (((Builtin.Int.intBits b : Nat) : Int)).toNat + d) b (by omega)
      refine ⟨by omega, ints_push ok2, by simp [ok3], ?_, ?_, ?_, ?_⟩
      · intro q hq
        rcases List.mem_append.mp hq with hq | hq
        · exact ok4 q hq
        · rw [List.mem_singleton.mp hq, e1]; omega
      · show 0 ≤ Int.fmod _ b; rw [e2]; exact Int.emod_nonneg _ (by omega)
      · show Int.fmod _ b < b; rw [e2]; exact Int.emod_lt_of_pos _ hb0
      · show _ = val _ (st.qs ++ [_]).reverse * b + Int.fmod _ b
        rw [drop_down (by rw [← hlv]; exact hdi) (by omega), List.reverse_append, List.reverse_singleton, List.singleton_append, val, val, e1, e2, ex]
        exact div_step ok7
    · intro p hp
      rcases List.mem_cons.mp hp with rfl | hp
      · exact fun q => hoff (lq, listOf st.vq.toArray st.kq) (List.Mem.head _) q
      · exact hoff _ (List.Mem.tail _ hp)
    · exact upD_turn _ st
    · intro p hp
      exact List.mem_cons_of_mem _ hp
  · intro st h tk hok F N
    obtain ⟨ok1, ok2, ok3, ok4, ok5, ok6, ok7⟩ := hok
    rw [List.size_toArray, hlv, Nat.sub_self, List.drop_zero] at ok7
    rw [List.size_toArray, hlv] at ok3
    rw [Int.toNat_natCast] at hv
    rw [hv] at ok7
    obtain ⟨eq1, eq2⟩ := div_end ok7 ok5 ok6
    have hvq := ok2.length
    clear F8 N8
    k_steps
    refine kl_reverse (its := st.vq.toArray) (l := st.vq.reverse) F N (by simp) (by k_upd) (by rw [sizeLine_eq]; simp; omega) (fun h4 F4 N4 => ?_)
    clear F N
    k_steps
    rename Fr g' _ _ _ => F9
    rename News g' _ _ _ => N9
    have TC : Tb 30 32 4 q1 [(30, tabObj #[rawInt (32 : Nat), rawInt (4 : Nat), .ref c]), (c, oc)] := .warm ho1 ho2
    have qbd : ∀ q ∈ st.qs.reverse, 0 ≤ q ∧ q < 1024 := fun q hq => ok4 q (List.mem_reverse.mp hq)
    refine Con.use (c_d2i lq st.vq.reverse st.qs.reverse st.kq _ _ (ints_rev ok2) (by omega) (by omega) (by rw [List.length_reverse]; omega) ?_) (mine := [(30, tabObj #[rawInt (32 : Nat), rawInt (4 : Nat), .ref c]), (c, oc)]) (tabs := (lq, listOf st.vq.reverse.toArray st.kq) :: T1) B' F9 gX N9 ?_ ⟨_, rfl, hT1⟩ ?_ ?_ rfl ?_ ?_ ?_
    · intro i j
      have hl : ((st.qs.reverse.drop i).take j).length ≤ 6 := by rw [List.length_take, List.length_drop, List.length_reverse]; omega
      have hb := val_bd (n := Builtin.Int.intBits b) hnb (l := (st.qs.reverse.drop i).take j) (fun q hq => qbd q (List.mem_of_mem_drop (List.mem_of_mem_take hq))) (by omega)
      have hp : (32 : Int) ^ ((st.qs.reverse.drop i).take j).length ≤ 32 ^ 6 := by
        have : (32 : Nat) ^ ((st.qs.reverse.drop i).take j).length ≤ 32 ^ 6 := Nat.pow_le_pow_right (by decide) hl
        exact_mod_cast this
      rw [Int.toNat_natCast]
      omega
    · intro p hp
      rcases List.mem_cons.mp hp with rfl | hp
      · exact List.Mem.head _
      · exact List.Mem.tail _ (List.Mem.tail _ (List.Mem.tail _ (List.Mem.tail _ hp)))
    · intro p hp
      exact List.Mem.tail _ (List.Mem.tail _ (by
        rcases List.mem_cons.mp hp with rfl | hp
        · exact List.Mem.head _
        · rw [List.mem_singleton.mp hp]; exact List.Mem.tail _ (List.Mem.head _)))
    · have hin : ∀ p ∈ [(30, tabObj #[rawInt (32 : Nat), rawInt (4 : Nat), .ref c]), (c, oc)], p ∈ (lq, listOf st.vq.reverse.toArray st.kq) :: (l, listOf vs.toArray k) :: (30, tabObj #[rawInt (32 : Nat), rawInt (4 : Nat), .ref c]) :: (c, oc) :: T1 := by
        intro p hp
        rcases List.mem_cons.mp hp with rfl | hp
        · exact List.Mem.tail _ (List.Mem.tail _ (List.Mem.head _))
        · rw [List.mem_singleton.mp hp]; exact List.Mem.tail _ (List.Mem.tail _ (List.Mem.tail _ (List.Mem.head _)))
      intro p hp q hq
      rcases List.mem_cons.mp hq with rfl | hq
      · refine ne_of_obj N9 (hin p hp) (List.Mem.head _) fun e => ?_
        obtain ⟨ws', hw⟩ := Tb.fields TC p hp
        rw [e] at hw; cases hw
      · exact Tb.apart N9 TC hT1 hin (fun p hp => List.Mem.tail _ (List.Mem.tail _ (List.Mem.tail _ (List.Mem.tail _ hp)))) (by decide) (by decide +kernel) p hp q hq
    · show dp + 1 + 10 < recursionLimit; omega
    · show un + 3 + 8 * 10 < cLine; omega
    intro r led h5 tk5 F5 N5 ap5 new5 hO
    obtain ⟨tq, c1, oc1, ws1, t5, rfl, rfl, ho3, ho4⟩ := hO
    simp only [List.cons_append, List.nil_append] at N5
    clear N9 F9
    k_steps
    rename Fr h₀ _ _ _ => F9
    rename News h₀ _ _ _ => N9
    rename Fr g' _ _ _ => F8
    rename News g' _ _ _ => N8
    rw [Int.toNat_natCast, eq1, eq2] at N9 N8
    refine hret _ _ _ _ F9 N9 (keep_end hG F8) (new_of hG N8) ⟨_, _, _, _, _, rfl, rfl, _, _, rfl, .warm ho3 ho4, TC⟩
end
section
theorem not_is (x : Int) : Builtin.bitNot x = -x - 1 := rfl
theorem neg_div {a b : Int} (hb : 0 < b) : Builtin.bitNot (Builtin.bitNot a / b) = a / b ∧ b + Builtin.bitNot (Builtin.bitNot a % b) = a % b := by
  simp only [not_is]
  have h := Int.emod_add_mul_ediv (-a - 1) b
  have h0 := Int.emod_nonneg (-a - 1) (by omega : b ≠ 0)
  have h1 := Int.emod_lt_of_pos (-a - 1) hb
  have := div_end (a := a) (b := b) (q := -((-a - 1) / b) - 1) (r := b + (-((-a - 1) % b) - 1)) (by
    rw [Int.sub_mul, Int.neg_mul, Int.one_mul, Int.mul_comm]; omega) (by omega) (by omega)
  exact ⟨this.1, this.2⟩
theorem c_int_divmod0 {prog : Program} {w : World} {loose : List Str} {mean : ExcName → Option Value} {mg mb : Str → Option Value} (a b : Int) (t1 t2 : Tok) (h0 : 0 ≤ a) (h1 : a < 64) (hb0 : 0 < b) (hb1 : b < 16) :
    Con prog w loose mean mg mb 56 [.int a t1, .int b t2] 13 TT (O49 (a / b) (a % b)) := by
  intro dp un gd cn cs fa ccd cl outer A₀ base h₀ L m tabs s Q E B F X N TP hk hdp hun hret
  have XK := X.K
  have XT := X.T
  refine wpAny_call ?_
  k_dflt ktr_enter
  intro g' L' h' hG st FG' F' N' B' X' T' l1
  have gX := X.keeps st
  (with_reducible show wpAny _ _ _ _ _ _)
  (try k_fold)
  k_steps
  · exfalso; omega
  rename Fr g' _ _ _ => F9
  rename News g' _ _ _ => N9
  refine Con.use (c_divmod_pos a b t1 t2 h0 h1 hb0 hb1) (mine := []) (tabs := tabs) B' F9 gX N9 (fun p hp => hp) TP (fun p hp => nomatch hp) (fun p hp => nomatch hp) rfl ?_ ?_ ?_
  · show dp + 1 + 12 < recursionLimit; omega
  · show un + 3 + 8 * 12 < cLine; omega
  intro r led h5 tk5 F5 N5 ap5 new5 hO
  rw [List.append_nil] at N5
  clear N9 F9
  k_steps
  rename Fr h₀ _ _ _ => F9
  rename News h₀ _ _ _ => N9
  exact hret _ _ _ _ F9 N9 (keep_end hG F5) (new_of hG N5) hO
theorem c_int_divmod {prog : Program} {w : World} {loose : List Str} {mean : ExcName → Option Value} {mg mb : Str → Option Value} (a b : Int) (t1 t2 : Tok) (h0 : -64 < a) (h1 : a < 64) (hb0 : 0 < b) (hb1 : b < 16) :
    Con prog w loose mean mg mb 56 [.int a t1, .int b t2] 14 TT (O49 (a / b) (a % b)) := by
  by_cases ha : 0 ≤ a
  · intro dp un gd cn cs fa ccd cl outer A₀ base h₀ L m tabs s Q E B F X N TP hk hdp hun hret
    exact c_int_divmod0 a b t1 t2 ha h1 hb0 hb1 dp un gd cn cs fa ccd cl outer A₀ base h₀ L m tabs s Q E B F X N TP hk (by omega) (by omega) hret
  intro dp un gd cn cs fa ccd cl outer A₀ base h₀ L m tabs s Q E B F X N TP hk hdp hun hret
  have XK := X.K
  have XT := X.T
  refine wpAny_call ?_
  k_dflt ktr_enter
  intro g' L' h' hG st FG' F' N' B' X' T' l1
  have gX := X.keeps st
  (with_reducible show wpAny _ _ _ _ _ _)
  (try k_fold)
  k_steps
  · exfalso; omega
  rename Fr g' _ _ _ => F9
  rename News g' _ _ _ => N9
  refine Con.use (c_int_divmod0 _ b _ _ ?_ ?_ hb0 hb1) (mine := []) (tabs := tabs) B' F9 gX N9 (fun p hp => hp) TP (fun p hp => nomatch hp) (fun p hp => nomatch hp) rfl ?_ ?_ ?_
  · rw [not_is]; omega
  · rw [not_is]; omega
  · show dp + 1 + 13 < recursionLimit; omega
  · show un + 3 + 8 * 13 < cLine; omega
  intro r led h5 tk5 F5 N5 ap5 new5 hO
  rw [List.append_nil] at N5
  obtain ⟨t, n, tq, tr, x, rfl, rfl, hx⟩ := hO
  clear N9 F9
  k_steps
  rename Fr h₀ _ _ _ => F9
  rename News h₀ _ _ _ => N9
  rename Fr g' _ _ _ => F8
  rename News g' _ _ _ => N8
  rw [(neg_div hb0).1, (neg_div hb0).2] at N9 N8
  have sb : ∀ {p q : Addr × Obj} {x : List (Addr × Obj)}, ∀ z ∈ p :: x, z ∈ p :: q :: x := fun z hz => by
    rcases List.mem_cons.mp hz with rfl | hz
    · exact List.Mem.head _
    · exact List.Mem.tail _ (List.Mem.tail _ hz)
  exact hret _ _ _ _ F9 (news_sub N9 sb) (keep_end hG F8) (new_of hG (news_sub N8 sb)) ⟨_, _, _, _, _, rfl, rfl, hx⟩
end
/-- a contract that asks something of the heap besides -/
def ConH (prog : Program) (w : World) (loose : List Str) (mean : ExcName → Option Value) (mg mb : Str → Option Value) (f : Addr) (vs : List Value) (sz : Nat) (HP : Heap → Prop) (TP : List (Addr × Obj) → Prop) (Out : List (Addr × Obj) → Value → Prop) : Prop :=
  ∀ (dp un : Nat) (gd : Option (List Code)) (cn : Str) (cs : Scope) (a : Addr) (ccd : Value) (cl : List (Str × Addr)) (outer : List Env) (A₀ : Around) (base h₀ : Heap) (L : Addr) (m : Str → Option Value) (tabs : List (Addr × Obj)) (s : Shared)
    (Q E : Value → Shared → Prop),
    HP s.heap → Below A₀ base outer h₀ → Fr h₀ L s.heap m → Amb w loose mean mg mb h₀ → News h₀ L s.heap tabs → TP tabs → cs.kind = .function → dp + sz < recursionLimit → un + 8 * sz < cLine →
    (∀ r led h' tk', Fr h₀ L h' m → News h₀ L h' led → Keep s.heap h' (tabs.map (·.1)) → New s.heap (tabs.map (·.1)) led → Out led r → Q r { s with heap := h', toks := tk' }) →
    wpAny (model prog w) (ktrTop dp un gd cn cs L a ccd cl outer) (call (.ref f) vs) Q E s
section
variable {prog : Program} {w : World} {loose : List Str} {mean : ExcName → Option Value} {mg mb : Str → Option Value} {f : Addr} {vs : List Value} {sz : Nat} {HP : Heap → Prop} {TP : List (Addr × Obj) → Prop} {Out : List (Addr × Obj) → Value → Prop}
  {dp un : Nat} {gd : Option (List Code)} {cn : Str} {cs : Scope} {a : Addr} {ccd : Value} {cl : List (Str × Addr)} {outer : List Env} {A₀ : Around} {base h₀ : Heap} {L : Addr} {m : Str → Option Value} {s : Shared} {Q E : Value → Shared → Prop}
theorem ConH.use {news mine tabs : List (Addr × Obj)} (C : ConH prog w loose mean mg mb f vs sz HP TP Out) (H : HP s.heap) (B : Below A₀ base outer h₀) (F : Fr h₀ L s.heap m) (X : Amb w loose mean mg mb h₀) (N : News h₀ L s.heap news)
    (ht : ∀ p ∈ tabs, p ∈ news) (hT : TP tabs) (hm : ∀ p ∈ mine, p ∈ news) (ap : ∀ p ∈ mine, ∀ q ∈ tabs, p.1 ≠ q.1) (hk : cs.kind = .function) (hd : dp + sz < recursionLimit) (hu : un + 8 * sz < cLine)
    (k : ∀ r led h' tk', Fr h₀ L h' m → News h₀ L h' (led ++ mine) → (∀ p ∈ mine, ∀ q ∈ led, p.1 ≠ q.1) → Keep s.heap h' (tabs.map (·.1)) → New s.heap (tabs.map (·.1)) led → Out led r → Q r { s with heap := h', toks := tk' }) :
    wpAny (model prog w) (ktrTop dp un gd cn cs L a ccd cl outer) (call (.ref f) vs) Q E s := by
  refine C _ _ _ _ _ _ _ _ _ _ _ _ _ _ tabs _ _ _ H B F X (fun p hp => N p (ht p hp)) hT hk hd hu fun r led h' tk' F' N' K' W O => ?_
  have off : ∀ p ∈ mine, p.1 ∉ tabs.map (·.1) := fun p hp hq => by
    obtain ⟨q, hq, e⟩ := List.mem_map.mp hq
    exact ap p hp q hq e.symm
  refine k r led h' tk' F' (fun p hp => ?_) (fun p hp q hq e => ?_) K' W O
  · rcases List.mem_append.mp hp with hp | hp
    · exact N' p hp
    · have P := N p (hm p hp)
      exact ⟨K' _ _ (off p hp) P.1, P.2⟩
  · rcases W q hq with x | x
    · exact off p hp (e ▸ x)
    · have P := (N p (hm p hp)).1
      rw [e, x] at P
      cases P
end

/-- a tuple that stands in what is kept -/
def TupAt (h : Heap) (t : Addr) (vs : List Value) : Prop := ∃ n, h.get? t = some { cls := .type "tuple", data := .seq vs.toArray n }
theorem TupAt.keeps {h h' : Heap} {t : Addr} {vs : List Value} (x : TupAt h t vs) (k : ∀ b o, h.get? b = some o → h'.get? b = some o) : TupAt h' t vs := let ⟨n, e⟩ := x; ⟨n, k _ _ e⟩
theorem TupAt.isTup {h : Heap} {t : Addr} {vs : List Value} (x : TupAt h t vs) : IsTup h t vs.toArray := let ⟨n, e⟩ := x; ⟨_, e, rfl, n, rfl⟩
theorem tup_G {prog : Program} {w : World} {A : Around} {E : Value → Shared → Prop} {s : Shared} {g : Heap} {L t : Addr} {m : Str → Option Value} {value slice : PySem.Expr} {vs : List Value} {k : Int} {u : Tok} {j : Nat} {v : Value} {Q : Value → Shared → Prop}
    (F : Fr g L s.heap m) (hl : TupAt g t vs) (hlo : -(2 ^ 63) ≤ k) (hhi : k < 2 ^ 63) (hj : seqIndex? k vs.length = some j) (hx : vs[j]? = some v) (h : Q v s)
    (hs : subscripted slice false (.ref t) (.int k u) = operate [.ref t, .int k u] (getItem (.ref t) (.int k u)) := by with_unfolding_all rfl) :
    wpAny (model prog w) A (subscriptTail value slice (.ref t) (.int k u)) Q E s := item_tupleT (hl.keeps F.keep).isTup hlo hhi hj hx h hs

abbrev itObj (l : Addr) : Obj := { cls := .type "list_iterator", data := .fields #[.ref l, .int 0 0] }
/-- iter of a list -/
theorem iter_list {prog : Program} {w : World} {A : Around} {E : Value → Shared → Prop} {s : Shared} {h₀ : Heap} {L l : Addr} {m : Str → Option Value} {news : List (Addr × Obj)} {items : Array Value} {Q : Value → Shared → Prop}
    (F : Fr h₀ L s.heap m) (N : News h₀ L s.heap news) (hl : s.heap.IsList l items)
    (h : ∀ I h', Fr h₀ L h' m → News h₀ L h' ((I, itObj l) :: news) → (∀ p ∈ news, p.1 < I) → Q (.ref I) { s with heap := h' }) : wpAny (model prog w) A (call (.builtin "iter") [.ref l]) Q E s := by
  refine call_function_entry (by decide +kernel) (by decide +kernel) kdk_entry_iter (kdk_args_iter _) ?_
  unfold Builtin.«iter»
  refine wpAny_bind (m := someArgs "iter" 1 2 _) (wpAny_of_eq (a := [Value.ref l]) (by first | rfl | kernel_rfl!) ?_)
  show wpAny _ _ (pyIter (.ref l) >>= _) _ _ _
  refine wpAny_bind (wpAny_pyIter_list hl ?_)
  exact wpAny_pure ⟨_, rfl, h _ _ (F.push _) (News.push F N _ rfl) fun p hp => Heap.lt_size (N p hp).1⟩

/-- a list of the heap -/
def ListAt (h : Heap) (l : Addr) (vs : List Value) : Prop := ∃ n, h.get? l = some (listOf vs.toArray n)
theorem ListAt.keeps {h h' : Heap} {t : Addr} {vs : List Value} (x : ListAt h t vs) (k : ∀ b o, h.get? b = some o → h'.get? b = some o) : ListAt h' t vs := let ⟨n, e⟩ := x; ⟨n, k _ _ e⟩
theorem ListAt.isList {h : Heap} {t : Addr} {vs : List Value} (x : ListAt h t vs) : h.IsList t vs.toArray := let ⟨n, e⟩ := x; ⟨_, e, rfl, n, rfl⟩

/-- the pairs of a list of tuples -/
inductive Pairs (h : Heap) : List Value → List (Int × Int) → Prop
  | nil : Pairs h [] []
  | cons {t : Addr} {a b : Int} {ta tb : Tok} {vs : List Value} {ps : List (Int × Int)} : TupAt h t [.int a ta, .int b tb] → Pairs h vs ps → Pairs h (.ref t :: vs) ((a, b) :: ps)
theorem Pairs.keeps {h h' : Heap} (k : ∀ {t vs}, TupAt h t vs → TupAt h' t vs) : ∀ {vs : List Value} {ps : List (Int × Int)}, Pairs h vs ps → Pairs h' vs ps
  | _, _, .nil => .nil
  | _, _, .cons x r => .cons (k x) (r.keeps k)
theorem Pairs.at {h : Heap} : ∀ {vs : List Value} {ps : List (Int × Int)}, Pairs h vs ps → ∀ {i : Nat} {v : Value}, vs[i]? = some v → ∃ a b t ta tb, ps[i]? = some (a, b) ∧ v = .ref t ∧ TupAt h t [.int a ta, .int b tb]
  | _, _, .cons (t := t) (a := a) (b := b) x _, 0, v, e => ⟨a, b, t, _, _, rfl, by simpa using e.symm, x⟩
  | _, _, .cons _ r, i + 1, v, e => by
    obtain ⟨a, b, t, ta, tb, e1, e2, x⟩ := r.at (i := i) (v := v) (by simpa using e)
    exact ⟨a, b, t, ta, tb, by simpa using e1, e2, x⟩
theorem Pairs.length {h : Heap} : ∀ {vs : List Value} {ps : List (Int × Int)}, Pairs h vs ps → vs.length = ps.length
  | _, _, .nil => rfl
  | _, _, .cons _ r => by simp [r.length]

/-- the place of a child, counted back through the rounds -/
def backs (p : Int) : List (Int × Int) → Int
  | [] => p
  | (a, b) :: r => backs ((p + a + 1) % b) r
theorem backs_append : ∀ (x y : List (Int × Int)) (p : Int), backs p (x ++ y) = backs (backs p x) y
  | [], _, _ => rfl
  | (a, b) :: r, y, p => backs_append r y _
theorem backs_snoc {ps : List (Int × Int)} {i : Nat} {a b p : Int} (h : ps[i]? = some (a, b)) : backs p (ps.take (i + 1)) = (backs p (ps.take i) + a + 1) % b := by
  rw [List.take_add_one, h, Option.toList_some, backs_append]; rfl
section
local macro_rules | `(tactic| walk_at "subscriptTail") => `(tactic| (k_here; (with_reducible show wpAny _ _ (subscriptTail _ _ (Value.ref _) (Value.int _ _)) _ _ _); k_dflt (refine' tup_G ?k1 ?k2 ?k3 ?k4 ?k5 ?k6 ?_ ?k7; (case k1 => k_asm); (case k2 => assumption); (case k3 => decide); (case k4 => decide); (case k5 => rfl); (case k6 => rfl); (case k7 => with_unfolding_all rfl); k_whole)))
theorem TT.fields {x : List (Addr × Obj)} (h : TT x) : ∀ p ∈ x, ∃ ws, p.2.data = .fields ws := by
  obtain ⟨t1, t2, rfl, h1, h2⟩ := h
  exact fun p hp => (List.mem_append.mp hp).elim (h1.fields p) (h2.fields p)
/-- what is no table is kept -/
theorem keep_tup {h g : Heap} {h₀ : Heap} {L t : Addr} {vs : List Value} {tabs : List (Addr × Obj)} (x : TupAt h t vs) (N : News h₀ L h tabs) (T : TT tabs) (K : Keep h g (tabs.map (·.1))) : TupAt g t vs := by
  obtain ⟨n, e⟩ := x
  refine ⟨n, K _ _ (fun q => ?_) e⟩
  obtain ⟨p, hp, rfl⟩ := List.mem_map.mp q
  obtain ⟨ws, hw⟩ := T.fields p hp
  rw [(N p hp).1] at e
  rw [Option.some.inj e] at hw
  cases hw
theorem c_back {prog : Program} {w : World} {loose : List Str} {mean : ExcName → Option Value} {mg mb : Str → Option Value} (place step cnt : Int) (t1 ts tc : Tok) (tu : Addr) (h0 : -20 < place) (h1 : place < 20) (s0 : -20 < step) (s1 : step < 20) (hb0 : 0 < cnt) (hb1 : cnt < 16) :
    ConH prog w loose mean mg mb 72 [.int place t1, .ref tu] 15 (fun h => TupAt h tu [.int step ts, .int cnt tc]) TT (fun led r => TT led ∧ ∃ t, r = .int ((place + step + 1) % cnt) t) := by
  intro dp un gd cn cs fa ccd cl outer A₀ base h₀ L m tabs s Q E H B F X N TP hk hdp hun hret
  have XK := X.K
  have XT := X.T
  refine wpAny_call ?_
  k_dflt ktr_enter
  intro g' L' h' hG st FG' F' N' B' X' T' l1
  have gX := X.keeps st
  have gT := keep_tup H N TP hG
  (with_reducible show wpAny _ _ _ _ _ _)
  (try k_fold)
  k_steps
  rename Fr g' _ _ _ => F9
  rename News g' _ _ _ => N9
  refine Con.use (c_int_divmod _ _ _ _ ?_ ?_ hb0 hb1) (mine := []) (tabs := tabs) B' F9 gX N9 (fun p hp => hp) TP (fun p hp => nomatch hp) (fun p hp => nomatch hp) rfl ?_ ?_ ?_
  · omega
  · omega
  · show dp + 1 + 14 < recursionLimit; omega
  · show un + 3 + 8 * 14 < cLine; omega
  intro r led h5 tk5 F5 N5 ap5 new5 hO
  rw [List.append_nil] at N5
  obtain ⟨t, n, tq, tr, x, rfl, rfl, hx⟩ := hO
  clear N9 F9
  k_steps
  rename Fr h₀ _ _ _ => F9
  rename News h₀ _ _ _ => N9
  rename Fr g' _ _ _ => F8
  rename News g' _ _ _ => N8
  exact hret _ x _ _ F9 (news_sub N9 fun p hp => List.mem_cons_of_mem _ hp) (keep_end hG F8) (new_of hG (news_sub N8 fun p hp => List.mem_cons_of_mem _ hp)) ⟨hx, _, rfl⟩
end
section
theorem keep_seq {h g : Heap} {h₀ : Heap} {L l : Addr} {vs : List Value} {tabs : List (Addr × Obj)} (x : ListAt h l vs) (N : News h₀ L h tabs) (T : TT tabs) (K : Keep h g (tabs.map (·.1))) : ListAt g l vs := by
  obtain ⟨n, e⟩ := x
  refine ⟨n, K _ _ (fun q => ?_) e⟩
  obtain ⟨p, hp, rfl⟩ := List.mem_map.mp q
  obtain ⟨ws, hw⟩ := T.fields p hp
  rw [(N p hp).1] at e
  rw [Option.some.inj e] at hw
  cases hw
structure RSt where
  p : Int
  tp : Tok
  tabs : List (Addr × Obj)
  u : Option Value
def upR (m₀ : Str → Option Value) (st : RSt) : Str → Option Value := fun z => if z = Str.ofString "value" then some (.int st.p st.tp) else if z = Str.ofString "element" then st.u else m₀ z
theorem upR_start (m₀ : Str → Option Value) {p : Int} {t : Tok} {tabs : List (Addr × Obj)} (h : m₀ (Str.ofString "value") = some (.int p t)) : ∀ z, m₀ z = upR m₀ ⟨p, t, tabs, m₀ (Str.ofString "element")⟩ z := by
  intro z
  unfold upR
  by_cases h1 : z = Str.ofString "value"
  · rw [if_pos h1, h1]; exact h
  · rw [if_neg h1]
    by_cases h2 : z = Str.ofString "element"
    · rw [if_pos h2, h2]
    · rw [if_neg h2]
theorem upR_turn (m₀ : Str → Option Value) (st : RSt) {p : Int} {t : Tok} {tabs : List (Addr × Obj)} {u : Option Value} :
    ∀ z, (if z = Str.ofString "value" then some (.int p t) else if z = Str.ofString "element" then u else upR m₀ st z) = upR m₀ ⟨p, t, tabs, u⟩ z := by
  intro z
  unfold upR
  by_cases h1 : z = Str.ofString "value"
  · rw [if_pos h1, if_pos h1]
  · rw [if_neg h1, if_neg h1, if_neg h1]
    by_cases h2 : z = Str.ofString "element"
    · rw [if_pos h2, if_pos h2]
    · rw [if_neg h2, if_neg h2, if_neg h2]
theorem c_reduce {prog : Program} {w : World} {loose : List Str} {mean : ExcName → Option Value} {mg mb : Str → Option Value} (l : Addr) (vs : List Value) (ps : List (Int × Int)) (t1 : Tok) (hp : ∀ p ∈ ps, -20 < p.1 ∧ p.1 < 20 ∧ 0 < p.2 ∧ p.2 < 16) :
    ConH prog w loose mean mg mb 65 [.ref 72, .ref l, .int (-1) t1] 17 (fun h => ListAt h l vs ∧ Pairs h vs ps) TT (fun led r => TT led ∧ ∃ t, r = .int (backs (-1) ps) t) := by
  intro dp un gd cn cs fa ccd cl outer A₀ base h₀ L m tabs s Q E H B F X N TP hk hdp hun hret
  have XK := X.K
  have XT := X.T
  refine wpAny_call ?_
  k_dflt ktr_enter
  intro g' L' h' hG st FG' F' N' B' X' T' l1
  have gX := X.keeps st
  (with_reducible show wpAny _ _ _ _ _ _)
  (try k_fold)
  have gL := keep_seq H.1 N TP hG
  have gP : Pairs g' vs ps := H.2.keeps fun x => keep_tup x N TP hG
  k_steps
  rename Fr g' _ _ _ => F9
  rename News g' _ _ _ => N9
  refine iter_list F9 N9 (gL.keeps F9.keep).isList fun I h2 F2 N2 ltI => ?_
  clear F9 N9
  k_steps
  refine wpAny_is_other (by rfl) (by intro x; cases x) ?_
  k_steps
  rename Fr g' _ _ _ => F9
  refine For_invVF F9 rfl rfl ?_
  k_steps
  rename Fr g' _ _ _ => F8
  rename News g' _ _ _ => N8
  have hIo := N8 _ (List.Mem.head _)
  have hlen := gP.length
  obtain ⟨kl, gl⟩ := id gL
  have hlI : l ≠ I := fun e => by rw [e, hIo.2.2] at gl; cases gl
  have hlL : l ≠ L' := fun e => by
    have := Heap.lt_size gl
    exact absurd (Nat.lt_of_lt_of_le this F8.above) (by rw [e]; exact Nat.lt_irrefl _)
  have hl2 : (I : Addr) ≠ L' := hIo.2.1
  refine wpAny_pyIter_listiter (l := l) (i := 0) ⟨_, hIo.1, rfl, rfl⟩ ?_
  refine loop_gen (Walks.list rfl I l hlI vs.toArray) ?_ ?_ ?_ (upR _) (fun st => st.tabs) (fun i st => TT st.tabs ∧ st.p = backs (-1) (ps.take i) ∧ -1 ≤ st.p ∧ st.p < 16) _ (Fr_re F8 (upR_start (tabs := tabs) _ rfl)) (news_sub N8 fun p hp => List.mem_cons_of_mem _ hp) ?_ ?_ ?_ ?_
  · intro q
    rcases List.mem_cons.mp q with q | q
    · exact hl2 q.symm
    · exact hlL (List.mem_singleton.mp q).symm
  · intro x hx; rw [List.mem_singleton.mp hx]; exact hIo.2.2
  · exact ⟨⟨_, hIo.1, rfl, rfl⟩, (gL.keeps F8.keep).isList⟩
  · exact ⟨TP, rfl, Int.le_refl _, (by show (-1 : Int) < 16; decide)⟩
  · intro p hp q; exact Nat.ne_of_lt (ltI p hp) (List.mem_singleton.mp q)
  · intro i v st h tk own hi hP hok hoff hown _ hSt F N
    obtain ⟨ok1, ok2, ok3, ok4⟩ := hok
    rw [List.size_toArray] at hi
    rw [List.getElem?_toArray] at hP
    obtain ⟨a, b, t, ta, tb, hpi, rfl, hTu⟩ := gP.at hP
    obtain ⟨p0, p1, p2, p3⟩ := hp _ (List.mem_of_getElem? hpi)
    clear F8 N8 hIo
    k_steps
    rename Fr g' _ _ _ => F9
    rename News g' _ _ _ => N9
    refine ConH.use (c_back st.p a b st.tp ta tb t (by omega) (by omega) p0 p1 p2 p3) (mine := own) (tabs := st.tabs) (hTu.keeps F9.keep) B' F9 gX N9 (fun p hp => List.mem_append_left _ hp) ok1 (fun p hp => List.mem_append_right _ hp) ?_ rfl ?_ ?_ ?_
    · intro p hp q hq e
      have h1 := hown p hp
      rcases List.mem_cons.mp h1 with h1 | h1
      · exact hoff q hq (by rw [← e, h1]; exact List.mem_singleton.mpr rfl)
      · have h2 := (N9 p (List.mem_append_right _ hp)).2.2
        rw [List.mem_singleton.mp h1, gl] at h2
        cases h2
    · show dp + 1 + 15 < recursionLimit; omega
    · show un + 3 + 8 * 15 < cLine; omega
    intro r led h3 tk3 F3 N3 ap3 K3 new3 hO
    obtain ⟨hT3, t3, rfl⟩ := hO
    have offI : ∀ p ∈ led, p.1 ∉ [I] := fun p hp q => by
      rcases new3 p hp with x | x
      · obtain ⟨q2, hq2, e⟩ := List.mem_map.mp x
        exact hoff q2 hq2 (by rw [e]; exact q)
      · obtain ⟨o, ho, _⟩ := hSt.1
        rw [List.mem_singleton.mp q] at x
        rw [x] at ho
        cases ho
    clear N9 F9
    k_steps
    rename Fr g' _ _ _ => F9
    rename News g' _ _ _ => N9
    refine ⟨rfl, _, _, ⟨_, _, led, _⟩, rfl, ⟨hT3, ?_, ?_, ?_⟩, offI, Fr_re F9 (upR_turn _ st), N9⟩
    · show _ = _; rw [backs_snoc hpi, ← ok2]
    · have := Int.emod_nonneg (st.p + a + 1) (by omega : b ≠ 0); exact Int.le_trans (by decide) this
    · have := Int.emod_lt_of_pos (st.p + a + 1) p2; exact Int.lt_trans this p3
  · intro st h tk hok F N
    obtain ⟨ok1, ok2, ok3, ok4⟩ := hok
    rw [List.size_toArray, hlen, List.take_length] at ok2
    clear F8 N8 hIo
    k_steps
    rename Fr h₀ _ _ _ => F9
    rename News h₀ _ _ _ => N9
    rename Fr g' _ _ _ => F8
    rename News g' _ _ _ => N8
    exact hret _ _ _ _ F9 N9 (keep_end hG F8) (new_of hG N8) ⟨ok1, _, by rw [ok2]⟩
end
section
variable {prog : Program} {w : World} {A : Around} {E : Value → Shared → Prop} {s : Shared} {env : Env} {h₀ : Heap} {x : Str} {body : List Stmt} {Q : Flow → Shared → Prop}
/-- a loop over range(b) -/
theorem range_gen {σ : Type} {r : Addr} {b₀ : Int} {t₀ u₀ v₀ : Tok} {n : Nat} (hh : A.handled = none) (hr : IsRange s.heap r 0 b₀ 1 t₀ u₀ v₀) (hb : -1000 < b₀) (hb' : b₀ < 1000) (hn : n = b₀.toNat)
    (up : σ → Str → Option Value) (Ld : σ → List (Addr × Obj)) (Ok : Nat → σ → Prop) (st₀ : σ) (F : Fr h₀ env.locals s.heap (up st₀)) (N : News h₀ env.locals s.heap (Ld st₀)) (hok : Ok 0 st₀)
    (turn : ∀ I i t st h tk own, i < n → Ok i st → (∀ p ∈ Ld st, p.1 ≠ I) → (∀ p ∈ own, p.1 = I) → (∃ o, (I, o) ∈ own) → Fr h₀ env.locals h (fun y => if y = x then some (.int i t) else up st y) → News h₀ env.locals h (Ld st ++ own) →
      wpAny (model prog w) A (execs body env) (TurnEnd h₀ env.locals [I] own up Ld (Ok (i + 1)) s) E { s with heap := h, toks := tk })
    (done : ∀ st h tk, Ok n st → Fr h₀ env.locals h (up st) → News h₀ env.locals h (Ld st) → Q .next { s with heap := h, toks := tk }) :
    wpAny (model prog w) A (pyIter (.ref r)) (fun it s₂ => LoopAtV prog w A h₀ env x body Q E it s₂) E s := by
  have hsz : Builtin.Range.rangeSize 0 b₀ 1 = (n : Int) := by rw [rangeSize_one, hn]; split <;> omega
  refine wpAny_pyIter_range hr (small_one (by decide) (by decide) (by omega) (by omega)) ?_
  have lt : ∀ p ∈ Ld st₀, p.1 < s.heap.objs.size := fun p hp => Heap.lt_size (N p hp).1
  refine loop_gen (Walks.range hh s.heap.objs.size 0 1 n) ?_ ?_ ?_ up Ld Ok st₀ (F.push _) (fun p hp => ⟨Heap.get?_push_of_some _ (N p hp).1, (N p hp).2⟩) hok ?_ ?_ done
  · intro q; exact Nat.ne_of_lt F.ns.lt (List.mem_singleton.mp q)
  · intro c hc; rw [List.mem_singleton.mp hc]; exact next_is_new F
  · show IsRangeIter _ _ _ _ _
    rw [hsz]
    simpa using Heap.get?_push_size _ rfl
  · intro p hp q; exact Nat.ne_of_lt (lt p hp) (List.mem_singleton.mp q)
  · rintro i v st h tk own hi ⟨t, rfl⟩ hok hoff hown hin hSt F' N'
    have e : (0 : Int) + (i : Int) * 1 = (i : Int) := by omega
    rw [e] at F'
    exact turn s.heap.objs.size i t st h tk own hi hok (fun p hp q => hoff p hp (List.mem_singleton.mpr q)) (fun p hp => List.mem_singleton.mp (hown p hp)) ⟨_, hin _ (List.Mem.head _) (next_is_new F) _ hSt⟩ F' N'
end
/-- len of a list that stands in what is kept -/
theorem len_G {prog : Program} {w : World} {A : Around} {E : Value → Shared → Prop} {s : Shared} {g : Heap} {L l : Addr} {m : Str → Option Value} {vs : List Value} {n : Nat} {Q : Value → Shared → Prop} (F : Fr g L s.heap m) (hl : ListAt g l vs) (hn : vs.length = n) (hfit : n < 1000)
    (h : Q (.int n (s.toks + 1)) { s with toks := s.toks + 1 + 1 }) : wpAny (model prog w) A (call (.builtin "len") [.ref l]) Q E s :=
  call_len_list (hl.keeps F.keep).isList (by rw [List.size_toArray]; omega) (by rw [List.size_toArray, hn]; exact h)

abbrev tup (vs : List Value) (n : Nat) : Obj := { cls := .type "tuple", data := .seq vs.toArray n }
/-- the pairs of a list of tuples, by the ledger -/
inductive PairsL (objs : List (Addr × Obj)) : List Value → List (Int × Int) → Prop
  | nil : PairsL objs [] []
  | cons {t : Addr} {a b : Int} {ta tb : Tok} {n : Nat} {vs : List Value} {ps : List (Int × Int)} : (t, tup [.int a ta, .int b tb] n) ∈ objs → PairsL objs vs ps → PairsL objs (.ref t :: vs) ((a, b) :: ps)
theorem PairsL.mono {objs objs' : List (Addr × Obj)} (k : ∀ p ∈ objs, p ∈ objs') : ∀ {vs : List Value} {ps : List (Int × Int)}, PairsL objs vs ps → PairsL objs' vs ps
  | _, _, .nil => .nil
  | _, _, .cons x r => .cons (k _ x) (r.mono k)
theorem PairsL.pairs {objs : List (Addr × Obj)} {h₀ h : Heap} {L : Addr} (N : News h₀ L h objs) : ∀ {vs : List Value} {ps : List (Int × Int)}, PairsL objs vs ps → Pairs h vs ps
  | _, _, .nil => .nil
  | _, _, .cons x r => .cons ⟨_, (N _ x).1⟩ (r.pairs N)
theorem PairsL.length {objs : List (Addr × Obj)} : ∀ {vs : List Value} {ps : List (Int × Int)}, PairsL objs vs ps → vs.length = ps.length
  | _, _, .nil => rfl
  | _, _, .cons _ r => by simp [r.length]
/-- the rounds' list, by the ledger -/
inductive Rounds (objs : List (Addr × Obj)) : List Value → List ((Int × Int) × Int) → Prop
  | nil : Rounds objs [] []
  | cons {t d : Addr} {q m c : Int} {tq tm tc : Tok} {n n' : Nat} {vs : List Value} {rs : List ((Int × Int) × Int)} : (t, tup [.ref d, .int c tc] n) ∈ objs → (d, tup [.int q tq, .int m tm] n') ∈ objs → Rounds objs vs rs → Rounds objs (.ref t :: vs) (((q, m), c) :: rs)
theorem Rounds.mono {objs objs' : List (Addr × Obj)} (k : ∀ p ∈ objs, p ∈ objs') : ∀ {vs : List Value} {ps : List ((Int × Int) × Int)}, Rounds objs vs ps → Rounds objs' vs ps
  | _, _, .nil => .nil
  | _, _, .cons x y r => .cons (k _ x) (k _ y) (r.mono k)
theorem Rounds.push {objs : List (Addr × Obj)} {t d : Addr} {q m c : Int} {tq tm tc : Tok} {n n' : Nat} (h1 : (t, tup [.ref d, .int c tc] n) ∈ objs) (h2 : (d, tup [.int q tq, .int m tm] n') ∈ objs) :
    ∀ {vs : List Value} {rs : List ((Int × Int) × Int)}, Rounds objs vs rs → Rounds objs (vs ++ [.ref t]) (rs ++ [((q, m), c)])
  | _, _, .nil => .cons h1 h2 .nil
  | _, _, .cons x y r => .cons x y (r.push h1 h2)
theorem Rounds.length {objs : List (Addr × Obj)} : ∀ {vs : List Value} {ps : List ((Int × Int) × Int)}, Rounds objs vs ps → vs.length = ps.length
  | _, _, .nil => rfl
  | _, _, .cons _ _ r => by simp [r.length]

def pastOf (ns : List Int) : Nat → List (Int × Int)
  | 0 => []
  | i + 1 => (ns.getD i 0, (ns.length : Int) - i) :: pastOf ns i
def resOf (ns : List Int) : Nat → List ((Int × Int) × Int)
  | 0 => []
  | i + 1 => resOf ns i ++ [((ns.getD i 0 / ((ns.length : Int) - i), ns.getD i 0 % ((ns.length : Int) - i)), backs (-1) (pastOf ns (i + 1)))]
theorem resOf_length (ns : List Int) : ∀ i, (resOf ns i).length = i
  | 0 => rfl
  | i + 1 => by simp [resOf, resOf_length ns i]
theorem pastOf_length (ns : List Int) : ∀ i, (pastOf ns i).length = i
  | 0 => rfl
  | i + 1 => by simp [pastOf, pastOf_length ns i]
theorem pastOf_bd {ns : List Int} (h : ∀ x ∈ ns, -20 < x ∧ x < 20) (hl : ns.length < 16) : ∀ {i}, i ≤ ns.length → ∀ p ∈ pastOf ns i, -20 < p.1 ∧ p.1 < 20 ∧ 0 < p.2 ∧ p.2 < 16
  | 0, _, _, hp => nomatch hp
  | i + 1, hi, p, hp => by
    rcases List.mem_cons.mp hp with rfl | hp
    · have e : ns.getD i 0 = ns[i] := by rw [List.getD_eq_getElem?_getD, List.getElem?_eq_getElem (by omega)]; rfl
      have := h _ (List.getElem_mem (l := ns) (n := i) (by omega))
      refine ⟨?_, ?_, ?_, ?_⟩ <;> dsimp only <;> (try rw [e]) <;> omega
    · exact pastOf_bd h hl (Nat.le_of_succ_le hi) p hp

/-- list + list -/
theorem cat_K {prog : Program} {w : World} {A : Around} {E : Value → Shared → Prop} {s : Shared} {h₀ : Heap} {L : Addr} {m : Str → Option Value} {news : List (Addr × Obj)} {l b : Addr} {vs ws : List Value} {Q : Value → Shared → Prop} (F : Fr h₀ L s.heap m) (N : News h₀ L s.heap news) (hl : s.heap.IsList l vs.toArray) (hb : s.heap.IsList b ws.toArray)
    (hsz : vs.length + ws.length ≤ sizeLine) (h : ∀ D h', Fr h₀ L h' m → News h₀ L h' ((D, listOf (vs ++ ws).toArray 0) :: news) → (∀ q ∈ news, q.1 < D) → Q (.ref D) { s with heap := h' }) :
    wpAny (model prog w) A (binaryOp .Add (.ref l) (.ref b)) Q E s :=
  add_lists F N hl hb (fun h' F' N' => h _ h' F' N' fun q hq => Heap.lt_size (N q hq).1) hsz
/-- sequences and tables lie apart -/
theorem ap_seq {h₀ h : Heap} {L : Addr} {news : List (Addr × Obj)} {p q : Addr × Obj} (N : News h₀ L h news) (hp : p ∈ news) (hq : q ∈ news) (h1 : ∃ its n, p.2.data = .seq its n) (h2 : ∃ ws, q.2.data = .fields ws) : p.1 ≠ q.1 :=
  ne_of_obj N hp hq fun e => by
    obtain ⟨its, n, a⟩ := h1
    obtain ⟨ws, b⟩ := h2
    rw [e, b] at a
    cases a
section
local macro_rules | `(tactic| walk_at "call builtin:len") => `(tactic| (k_here; (with_reducible show wpAny _ _ (call (Value.builtin "len") [Value.ref _]) _ _ _); k_dflt (refine' len_G ?k1 ?k2 ?k3 ?k4 ?_; (case k1 => k_asm); (case k2 => assumption); (case k3 => assumption); (case k4 => omega); k_whole)))
theorem item_L {prog : Program} {w : World} {A : Around} {E : Value → Shared → Prop} {s : Shared} {g : Heap} {L l : Addr} {m : Str → Option Value} {value slice : PySem.Expr} {vs : List Value} {ns : List Int} {k : Int} {u : Tok} {Q : Value → Shared → Prop}
    (F : Fr g L s.heap m) (hl : ListAt g l vs) (hi : IntsAre vs ns) (h0 : 0 ≤ k) (h1 : k < ns.length) (hfit : k < 2 ^ 63) (h : ∀ t, Q (.int (ns.getD k.toNat 0) t) s)
    (hs : subscripted slice false (.ref l) (.int k u) = operate [.ref l, .int k u] (getItem (.ref l) (.int k u)) := by with_unfolding_all rfl) :
    wpAny (model prog w) A (subscriptTail value slice (.ref l) (.int k u)) Q E s := item_anyK (hl.keeps F.keep).isList hi h0 h1 hfit h hs
local macro_rules | `(tactic| walk_at "subscriptTail") => `(tactic| (k_here; (with_reducible show wpAny _ _ (subscriptTail _ _ (Value.ref _) (Value.int _ _)) _ _ _); k_dflt (refine' item_L ?k1 ?k2 ?k3 ?k4 ?k5 ?k6 ?_ ?k7; (case k1 => k_asm); (case k2 => assumption); (case k3 => assumption); (case k4 => omega); (case k5 => omega); (case k6 => omega); (case k7 => with_unfolding_all rfl); k_whole); intro _))

theorem sub_any {prog : Program} {w : World} {A : Around} {E : Value → Shared → Prop} {s : Shared} {a b : Int} {t u : Tok} {Q : Value → Shared → Prop} (h : ∀ t, Q (.int (a - b) t) { s with toks := s.toks + 1 }) : wpAny (model prog w) A (binaryOp .Sub (.int a t) (.int b u)) Q E s := sub_int (h _)
local macro_rules | `(tactic| walk_at "binaryOp Sub int int") => `(tactic| (refine sub_any ?_; intro _))
local macro_rules | `(tactic| k_all) => `(tactic| assumption)
structure KSt where
  lp : Addr
  vp : List Value
  rs : List Value
  kr : Nat
  objs : List (Addr × Obj)
  tabs : List (Addr × Obj)
  u1 : Option Value
  u2 : Option Value
def upK (m₀ : Str → Option Value) (st : KSt) : Str → Option Value := fun z => if z = Str.ofString "past" then some (.ref st.lp) else if z = Str.ofString "k" then st.u1 else if z = Str.ofString "turn" then st.u2 else m₀ z
theorem upK_start (m₀ : Str → Option Value) {lp : Addr} {vp rs : List Value} {kr : Nat} {objs tabs : List (Addr × Obj)} (h : m₀ (Str.ofString "past") = some (.ref lp)) : ∀ z, m₀ z = upK m₀ ⟨lp, vp, rs, kr, objs, tabs, m₀ (Str.ofString "k"), m₀ (Str.ofString "turn")⟩ z := by
  intro z
  unfold upK
  by_cases h1 : z = Str.ofString "past"
  · rw [if_pos h1, h1]; exact h
  · rw [if_neg h1]
    by_cases h2 : z = Str.ofString "k"
    · rw [if_pos h2, h2]
    · rw [if_neg h2]
      by_cases h3 : z = Str.ofString "turn"
      · rw [if_pos h3, h3]
      · rw [if_neg h3]
theorem upK_turn (m₀ : Str → Option Value) (st : KSt) {lp : Addr} {vp rs : List Value} {kr : Nat} {objs tabs : List (Addr × Obj)} {u1 u2 : Option Value} :
    ∀ z, (if z = Str.ofString "past" then some (.ref lp) else if z = Str.ofString "turn" then u2 else if z = Str.ofString "k" then u1 else upK m₀ st z) = upK m₀ ⟨lp, vp, rs, kr, objs, tabs, u1, u2⟩ z := by
  intro z
  unfold upK
  by_cases h1 : z = Str.ofString "past"
  · rw [if_pos h1, if_pos h1]
  · rw [if_neg h1, if_neg h1, if_neg h1]
    by_cases h2 : z = Str.ofString "turn"
    · have h3 : z ≠ Str.ofString "k" := by rw [h2]; decide
      rw [if_pos h2, if_neg h3, if_pos h2]
    · rw [if_neg h2]
      by_cases h3 : z = Str.ofString "k"
      · rw [if_pos h3, if_pos h3]
      · rw [if_neg h3, if_neg h3, if_neg h2, if_neg h3, if_neg h2]
def OkK (ns : List Int) (lr : Addr) (i : Nat) (st : KSt) : Prop :=
  TT st.tabs ∧ (st.lp, listOf st.vp.toArray 0) ∈ st.objs ∧ PairsL st.objs st.vp (pastOf ns i) ∧ Rounds st.objs st.rs (resOf ns i) ∧ (∀ p ∈ st.objs ++ st.tabs, p.1 ≠ lr) ∧ (∀ p ∈ st.objs, ∃ its n, p.2.data = .seq its n)
/-- what _law_reckoned and _law_walked give -/
def O86 (res : List ((Int × Int) × Int)) (led : List (Addr × Obj)) (v : Value) : Prop :=
  ∃ l vs k objs x, v = .ref l ∧ led = (l, listOf vs.toArray k) :: (objs ++ x) ∧ Rounds objs vs res ∧ TT x
theorem c_reckoned {prog : Program} {w : World} {loose : List Str} {mean : ExcName → Option Value} {mg mb : Str → Option Value} (l : Addr) (vs : List Value) (ns : List Int) (hI : IntsAre vs ns) (hb : ∀ x ∈ ns, -20 < x ∧ x < 20) (hl : ns.length < 16) :
    ConH prog w loose mean mg mb 86 [.ref l] 20 (fun h => ListAt h l vs) TT (O86 (resOf ns ns.length)) := by
  intro dp un gd cn cs fa ccd cl outer A₀ base h₀ L m tabs s Q E H B F X N TP hk hdp hun hret
  have XK := X.K
  have XT := X.T
  refine wpAny_call ?_
  k_dflt ktr_enter
  intro g' L' h' hG st FG' F' N' B' X' T' l1
  have gX := X.keeps st
  have gL := keep_seq H N TP hG
  have hlv := hI.length
  (with_reducible show wpAny _ _ _ _ _ _)
  (try k_fold)
  k_steps
  rename Fr g' _ _ _ => F9
  refine For_invVF F9 rfl rfl ?_
  k_steps
  rename_i lr _ ltr _ _ lp _ ltp _ F7 N7 hp7 _ _ _ _ hR F8 N8 hK8
  refine range_gen (n := ns.length) rfl hR (by omega) (by omega) (by omega) (upK _) (fun st => (lr, listOf st.rs.toArray st.kr) :: (st.objs ++ st.tabs)) (OkK ns lr) _ (Fr_re F8 (upK_start (vp := []) (rs := []) (kr := 0) (objs := [(lp, listOf #[] 0)]) (tabs := tabs) _ rfl)) (news_sub N8 ?_) ?_ ?_ ?_
  · intro p hp
    rcases List.mem_cons.mp hp with rfl | hp
    · exact List.Mem.tail _ (List.Mem.head _)
    · rcases List.mem_cons.mp hp with rfl | hp
      · exact List.Mem.head _
      · exact List.Mem.tail _ (List.Mem.tail _ hp)
  · refine ⟨TP, List.Mem.head _, .nil, .nil, ?_, ?_⟩
    · intro p hp
      rcases List.mem_cons.mp hp with rfl | hp
      · exact Nat.ne_of_gt ltp.1
      · exact Nat.ne_of_lt (ltr p hp)
    · intro p hp; rw [List.mem_singleton.mp hp]; exact ⟨_, _, rfl⟩
  · intro I i ti st h tk own hi hok hoff hown hSt F N
    obtain ⟨ok1, ok2, ok3, ok4, ok5, ok6⟩ := hok
    clear F7 N7 F8 N8 hK8 hR
    simp only [List.cons_append] at N
    replace F : Fr g' L' h _ := F
    replace N : News g' L' h _ := N
    k_steps
    rename_i ts tc D _ ltD _ l1' _ F9 N9 lt1'
    have hvp : st.vp.length = i := by rw [ok3.length, pastOf_length]
    refine cat_K (vs := [.ref D]) (ws := st.vp) F9 N9 (News.isList N9 (List.Mem.head _)) (News.isList N9 (List.Mem.tail _ (List.Mem.tail _ (List.Mem.tail _ (List.mem_append_left _ (List.mem_append_left _ ok2)))))) (by rw [sizeLine_eq, List.length_singleton]; omega) fun lp2 h2 F2 N2 lt2 => ?_
    clear F9 N9
    simp only [List.singleton_append] at N2
    k_steps
    rename Fr g' _ _ _ => F9
    rename News g' _ _ _ => N9
    have hgi : ns.getD i 0 = ns[i] := by rw [List.getD_eq_getElem?_getD, List.getElem?_eq_getElem hi]; rfl
    have hbi := hb _ (List.getElem_mem (l := ns) (n := i) hi)
    rw [← hgi] at hbi
    obtain ⟨oI, hoI⟩ := hSt
    replace N9 : News g' L' _ ((lp2, listOf (.ref D :: st.vp).toArray 0) :: (l1', listOf #[.ref D] 0) :: (D, tup [.int (ns.getD i 0) ts, .int ((ns.length : Int) - i) tc] 0) :: (lr, listOf st.rs.toArray st.kr) :: (st.objs ++ st.tabs ++ own)) := N9
    obtain ⟨R, hR⟩ : ∃ R, R = (lp2, listOf (.ref D :: st.vp).toArray 0) :: (l1', listOf #[.ref D] 0) :: (D, tup [.int (ns.getD i 0) ts, .int ((ns.length : Int) - i) tc] 0) :: (lr, listOf st.rs.toArray st.kr) :: (st.objs ++ own) := ⟨_, rfl⟩
    have hRlp : (lp2, listOf (.ref D :: st.vp).toArray 0) ∈ R := by rw [hR]; exact List.Mem.head _
    have hRl1 : (l1', listOf #[.ref D] 0) ∈ R := by rw [hR]; exact List.Mem.tail _ (List.Mem.head _)
    have hRD : (D, tup [.int (ns.getD i 0) ts, .int ((ns.length : Int) - i) tc] 0) ∈ R := by rw [hR]; exact List.Mem.tail _ (List.Mem.tail _ (List.Mem.head _))
    have hRlr : (lr, listOf st.rs.toArray st.kr) ∈ R := by rw [hR]; exact List.Mem.tail _ (List.Mem.tail _ (List.Mem.tail _ (List.Mem.head _)))
    have hRo : ∀ p ∈ st.objs, p ∈ R := fun p hp => by rw [hR]; exact List.Mem.tail _ (List.Mem.tail _ (List.Mem.tail _ (List.Mem.tail _ (List.mem_append_left _ hp))))
    have hRw : ∀ p ∈ own, p ∈ R := fun p hp => by rw [hR]; exact List.Mem.tail _ (List.Mem.tail _ (List.Mem.tail _ (List.Mem.tail _ (List.mem_append_right _ hp))))
    have hRc : ∀ p ∈ R, (∃ its n, p.2.data = .seq its n) ∨ p ∈ own := fun p hp => by
      rw [hR] at hp
      rcases List.mem_cons.mp hp with rfl | hp
      · exact .inl ⟨_, _, rfl⟩
      rcases List.mem_cons.mp hp with rfl | hp
      · exact .inl ⟨_, _, rfl⟩
      rcases List.mem_cons.mp hp with rfl | hp
      · exact .inl ⟨_, _, rfl⟩
      rcases List.mem_cons.mp hp with rfl | hp
      · exact .inl ⟨_, _, rfl⟩
      rcases List.mem_append.mp hp with hp | hp
      · exact .inl (ok6 p hp)
      · exact .inr hp
    have hRN : ∀ p ∈ R ++ st.tabs, p ∈ (lp2, listOf (.ref D :: st.vp).toArray 0) :: (l1', listOf #[.ref D] 0) :: (D, tup [.int (ns.getD i 0) ts, .int ((ns.length : Int) - i) tc] 0) :: (lr, listOf st.rs.toArray st.kr) :: (st.objs ++ st.tabs ++ own) := fun p hp => by
      simp only [hR, List.mem_append, List.mem_cons] at hp ⊢
      rcases hp with (h | h | h | h | h | h) | h <;> simp [h]
    have N10 := news_sub N9 hRN
    have lrR : ∀ p ∈ R, p.1 = lr → p.2 = listOf st.rs.toArray st.kr := fun p hp e => by
      have a := (N10 p (List.mem_append_left _ hp)).1
      rw [e, (N10 _ (List.mem_append_left _ hRlr)).1] at a
      exact (Option.some.inj a).symm
    refine Con.use (c_int_divmod (ns.getD i 0) ((ns.length : Int) - i) ts _ (by omega) (by omega) (by omega) (by omega))
      (mine := R) (tabs := st.tabs) B' F9 gX N10
      (fun p hp => List.mem_append_right _ hp) ok1 (fun p hp => List.mem_append_left _ hp) ?_ rfl ?_ ?_ ?_
    · intro p hp q hq
      rcases hRc p hp with h1 | h1
      · exact ap_seq N10 (List.mem_append_left _ hp) (List.mem_append_right _ hq) h1 (ok1.fields q hq)
      · rw [hown p h1]; exact (hoff q (List.Mem.tail _ (List.mem_append_right _ hq))).symm
    · show dp + 1 + 14 < recursionLimit; omega
    · show un + 3 + 8 * 14 < cLine; omega
    intro r led h3 tk3 F3 N3 ap3 new3 hO
    obtain ⟨d, n3, tq3, tr3, x1, rfl, rfl, hx1⟩ := hO
    clear N9 F9 N10
    simp only [List.cons_append] at N3
    k_steps
    rename Fr g' _ _ _ => F9
    rename News g' _ _ _ => N9
    have hdR : ∀ p ∈ R, p.1 ≠ d := fun p hp => ap3 p hp _ (List.Mem.head _)
    refine ConH.use (c_reduce lp2 (.ref D :: st.vp) (pastOf ns (i + 1)) _ (pastOf_bd hb hl hi)) (mine := (d, tup [.int (ns.getD i 0 / ((ns.length : Int) - i)) tq3, .int (ns.getD i 0 % ((ns.length : Int) - i)) tr3] n3) :: R) (tabs := x1) ⟨⟨_, (N9 _ (List.Mem.tail _ (List.mem_append_right _ hRlp))).1⟩, ?_⟩ B' F9 gX N9 ?_ hx1 ?_ ?_ rfl ?_ ?_ ?_
    · exact PairsL.pairs (news_sub N9 fun p hp => List.Mem.tail _ (List.mem_append_right _ hp)) (PairsL.cons hRD (ok3.mono hRo))
    · intro p hp; exact List.Mem.tail _ (List.mem_append_left _ hp)
    · intro p hp
      rcases List.mem_cons.mp hp with rfl | hp
      · exact List.Mem.head _
      · exact List.Mem.tail _ (List.mem_append_right _ hp)
    · intro p hp q hq
      rcases List.mem_cons.mp hp with rfl | hp
      · exact ap_seq N9 (List.Mem.head _) (List.Mem.tail _ (List.mem_append_left _ hq)) ⟨_, _, rfl⟩ (hx1.fields q hq)
      · exact ap3 p hp q (List.Mem.tail _ hq)
    · show dp + 1 + 17 < recursionLimit; omega
    · show un + 3 + 8 * 17 < cLine; omega
    intro r x2 h4 tk4 F4 N4 ap4 K4 new4 hO
    obtain ⟨hx2, t4, rfl⟩ := hO
    have hne : ∀ p ∈ ((d, tup [.int (ns.getD i 0 / ((ns.length : Int) - i)) tq3, .int (ns.getD i 0 % ((ns.length : Int) - i)) tr3] n3) :: (x2 ++ (lp2, listOf (.ref D :: st.vp).toArray 0) :: (l1', listOf #[.ref D] 0) :: (D, tup [.int (ns.getD i 0) ts, .int ((ns.length : Int) - i) tc] 0) :: (st.objs ++ own))), p.1 ≠ lr := by
      intro p hp
      rcases List.mem_cons.mp hp with rfl | hp
      · exact (hdR _ hRlr).symm
      rcases List.mem_append.mp hp with hp | hp
      · exact (ap4 _ (List.Mem.tail _ hRlr) p hp).symm
      rcases List.mem_cons.mp hp with rfl | hp
      · exact Nat.ne_of_gt (lt2 _ (List.Mem.tail _ (List.Mem.tail _ (List.Mem.head _))))
      rcases List.mem_cons.mp hp with rfl | hp
      · exact Nat.ne_of_gt lt1'.2.1
      rcases List.mem_cons.mp hp with rfl | hp
      · exact Nat.ne_of_gt ltD.1
      rcases List.mem_append.mp hp with hp | hp
      · exact ok5 p (List.mem_append_left _ hp)
      · rw [hown p hp]; exact (hoff _ (List.Mem.head _)).symm
    have N5 : News g' L' h4 ((lr, listOf st.rs.toArray st.kr) :: ((d, tup [.int (ns.getD i 0 / ((ns.length : Int) - i)) tq3, .int (ns.getD i 0 % ((ns.length : Int) - i)) tr3] n3) :: (x2 ++ (lp2, listOf (.ref D :: st.vp).toArray 0) :: (l1', listOf #[.ref D] 0) :: (D, tup [.int (ns.getD i 0) ts, .int ((ns.length : Int) - i) tc] 0) :: (st.objs ++ own)))) := by
      refine news_sub N4 fun p hp => ?_
      simp only [hR, List.mem_append, List.mem_cons] at hp ⊢
      rcases hp with h | h | h | h | h | h | h | h <;> simp [h]
    have hrl : st.rs.toArray.size ≤ sizeLine := by rw [List.size_toArray, sizeLine_eq, ok4.length, resOf_length]; omega
    clear N9 F9 N4
    k_steps
    rename_i t2 _ ltt _ F9 N9
    simp only [List.push_toArray] at N9
    have hlt2 : t2 ≠ lr := Nat.ne_of_gt ltt.1
    refine ⟨rfl, _, _, ⟨lp2, .ref D :: st.vp, st.rs ++ [.ref t2], st.kr + 1, (t2, tup [.ref d, .int (backs (-1) (pastOf ns (i + 1))) t4] 0) :: (d, tup [.int (ns.getD i 0 / ((ns.length : Int) - i)) tq3, .int (ns.getD i 0 % ((ns.length : Int) - i)) tr3] n3) :: (lp2, listOf (.ref D :: st.vp).toArray 0) :: (l1', listOf #[.ref D] 0) :: (D, tup [.int (ns.getD i 0) ts, .int ((ns.length : Int) - i) tc] 0) :: st.objs, x2, _, _⟩, rfl, ⟨hx2, ?_, ?_, ?_, ?_, ?_⟩, ?_, Fr_re F9 (upK_turn _ st), news_sub N9 ?_⟩
    · exact List.Mem.tail _ (List.Mem.tail _ (List.Mem.head _))
    · exact PairsL.cons (List.Mem.tail _ (List.Mem.tail _ (List.Mem.tail _ (List.Mem.tail _ (List.Mem.head _))))) (ok3.mono fun p hp => List.Mem.tail _ (List.Mem.tail _ (List.Mem.tail _ (List.Mem.tail _ (List.Mem.tail _ hp)))))
    · exact Rounds.push (List.Mem.head _) (List.Mem.tail _ (List.Mem.head _)) (ok4.mono fun p hp => List.Mem.tail _ (List.Mem.tail _ (List.Mem.tail _ (List.Mem.tail _ (List.Mem.tail _ hp)))))
    · intro p hp
      rcases List.mem_append.mp hp with hp | hp
      · rcases List.mem_cons.mp hp with rfl | hp
        · exact hlt2
        · refine hne p ?_
          simp only [List.mem_append, List.mem_cons] at hp ⊢
          rcases hp with h | h | h | h | h <;> simp [h]
      · exact hne p (List.Mem.tail _ (List.mem_append_left _ hp))
    · intro p hp
      rcases List.mem_cons.mp hp with rfl | hp
      · exact ⟨_, _, rfl⟩
      rcases List.mem_cons.mp hp with rfl | hp
      · exact ⟨_, _, rfl⟩
      rcases List.mem_cons.mp hp with rfl | hp
      · exact ⟨_, _, rfl⟩
      rcases List.mem_cons.mp hp with rfl | hp
      · exact ⟨_, _, rfl⟩
      rcases List.mem_cons.mp hp with rfl | hp
      · exact ⟨_, _, rfl⟩
      exact ok6 p hp
    · intro p hp q
      have q := List.mem_singleton.mp q
      rcases List.mem_cons.mp hp with rfl | hp
      · exact hoff _ (List.Mem.head _) q
      rcases List.mem_append.mp hp with hp | hp
      · rcases List.mem_cons.mp hp with rfl | hp
        · exact Nat.ne_of_gt (ktn_ltOf ltt.2.2 (I, oI) (List.mem_append_right _ (List.Mem.tail _ (List.Mem.tail _ (List.Mem.tail _ (List.mem_append_right _ hoI)))))) q
        rcases List.mem_cons.mp hp with rfl | hp
        · exact hdR _ (hRw _ hoI) q.symm
        rcases List.mem_cons.mp hp with rfl | hp
        · exact Nat.ne_of_gt (lt2 (I, oI) (List.Mem.tail _ (List.Mem.tail _ (List.Mem.tail _ (List.mem_append_right _ hoI))))) q
        rcases List.mem_cons.mp hp with rfl | hp
        · exact Nat.ne_of_gt (ktn_ltOf lt1'.2.2 (I, oI) (List.mem_append_right _ hoI)) q
        rcases List.mem_cons.mp hp with rfl | hp
        · exact Nat.ne_of_gt (ktn_ltOf ltD.2 (I, oI) (List.mem_append_right _ hoI)) q
        exact hoff p (List.Mem.tail _ (List.mem_append_left _ hp)) q
      · exact ap4 _ (List.Mem.tail _ (hRw _ hoI)) p hp q.symm
    · intro p hp
      simp only [List.mem_append, List.mem_cons] at hp ⊢
      rcases hp with (h | ((h | h | h | h | h | h) | h)) | h <;> simp [h]
  · intro st h tk hok F N
    obtain ⟨ok1, ok2, ok3, ok4, ok5, ok6⟩ := hok
    clear F7 N7 F8 N8 hK8 hR
    replace F : Fr g' L' h _ := F
    replace N : News g' L' h _ := N
    k_steps
    rename Fr h₀ _ _ _ => F9
    rename News h₀ _ _ _ => N9
    rename Fr g' _ _ _ => F8
    rename News g' _ _ _ => N8
    exact hret _ _ _ _ F9 N9 (keep_end hG F8) (new_of hG N8) ⟨lr, st.rs, st.kr, st.objs, st.tabs, rfl, rfl, ok4, ok1⟩
end
section
variable {prog : Program} {w : World} {A : Around} {E : Value → Shared → Prop} {s : Shared} {env : Env} {h₀ : Heap} {x : Str} {body : List Stmt} {Q : Flow → Shared → Prop}
/-- a loop over a list that stands in what is kept -/
theorem list_gen {σ : Type} {l : Addr} {vs : List Value} (hh : A.handled = none) (hl : ListAt h₀ l vs)
    (up : σ → Str → Option Value) (Ld : σ → List (Addr × Obj)) (Ok : Nat → σ → Prop) (st₀ : σ) (F : Fr h₀ env.locals s.heap (up st₀)) (N : News h₀ env.locals s.heap (Ld st₀)) (hok : Ok 0 st₀)
    (turn : ∀ I i v st h tk own, i < vs.length → vs[i]? = some v → Ok i st → (∀ p ∈ Ld st, p.1 ≠ I) → (∀ p ∈ own, p.1 = I) → (∃ o, (I, o) ∈ own) → Fr h₀ env.locals h (fun y => if y = x then some v else up st y) → News h₀ env.locals h (Ld st ++ own) →
      wpAny (model prog w) A (execs body env) (TurnEnd h₀ env.locals [I] own up Ld (Ok (i + 1)) s) E { s with heap := h, toks := tk })
    (done : ∀ st h tk, Ok vs.length st → Fr h₀ env.locals h (up st) → News h₀ env.locals h (Ld st) → Q .next { s with heap := h, toks := tk }) :
    wpAny (model prog w) A (pyIter (.ref l)) (fun it s₂ => LoopAtV prog w A h₀ env x body Q E it s₂) E s := by
  obtain ⟨kl, gl⟩ := id hl
  have hls := (hl.keeps F.keep).isList
  have hll : l < env.locals := Nat.lt_of_lt_of_le (Heap.lt_size gl) F.above
  have hlI : l ≠ s.heap.objs.size := Nat.ne_of_lt (Nat.lt_trans hll F.ns.lt)
  have lt : ∀ p ∈ Ld st₀, p.1 < s.heap.objs.size := fun p hp => Heap.lt_size (N p hp).1
  refine wpAny_pyIter_list hls ?_
  have W := Walks.list (prog := prog) (w := w) hh s.heap.objs.size l hlI vs.toArray
  rw [List.size_toArray] at W
  refine loop_gen W ?_ ?_ ?_ up Ld Ok st₀ (F.push _) (fun p hp => ⟨Heap.get?_push_of_some _ (N p hp).1, (N p hp).2⟩) hok ?_ ?_ done
  · intro q
    rcases List.mem_cons.mp q with q | q
    · exact Nat.ne_of_lt F.ns.lt q
    · exact Nat.ne_of_gt hll (List.mem_singleton.mp q)
  · intro c hc; rw [List.mem_singleton.mp hc]; exact next_is_new F
  · exact ⟨⟨_, Heap.get?_push_size _ rfl, rfl, rfl⟩, hls.at fun o e => Heap.get?_push_of_some _ e⟩
  · intro p hp q; exact Nat.ne_of_lt (lt p hp) (List.mem_singleton.mp q)
  · rintro i v st h tk own hi hP hok hoff hown hin hSt F' N'
    obtain ⟨o, ho, _⟩ := id hSt.1
    refine turn s.heap.objs.size i v st h tk own hi (by simpa using hP) hok (fun p hp q => hoff p hp (List.mem_singleton.mpr q)) (fun p hp => ?_) ⟨o, hin _ (List.Mem.head _) (next_is_new F) _ ho⟩ F' N'
    rcases List.mem_cons.mp (hown p hp) with e | e
    · exact e
    · have := (N' p (List.mem_append_right _ hp)).2.2
      rw [List.mem_singleton.mp e, gl] at this
      cases this
end

/- the ring -/
/-- the ring, counted from z on -/
def ringAt (r : List Int) (z : Int) : List Int := (List.range r.length).map fun (k : Nat) => r.getD ((z + k) % (r.length : Int)).toNat 0
theorem ringAt_length (r : List Int) (z : Int) : (ringAt r z).length = r.length := by simp [ringAt]
theorem ringAt_get {r : List Int} {z : Int} {k : Nat} (h : k < r.length) : (ringAt r z)[k]? = some (r.getD ((z + k) % (r.length : Int)).toNat 0) := by
  simp [ringAt, h]
theorem ringAt_zero {r : List Int} : ringAt r 0 = r := by
  apply List.ext_getElem?
  intro k
  by_cases h : k < r.length
  · rw [ringAt_get h, List.getElem?_eq_getElem h]
    have e : ((0 + (k : Int)) % (r.length : Int)).toNat = k := by rw [Int.zero_add, Int.emod_eq_of_lt (by omega) (by omega)]; omega
    rw [e, List.getD_eq_getElem?_getD, List.getElem?_eq_getElem h]
    rfl
  · rw [List.getElem?_eq_none (by rw [ringAt_length]; omega), List.getElem?_eq_none (by omega)]
theorem ring_fwd {r : List Int} {z : Int} (h : 0 < r.length) : (ringAt r z).drop 1 ++ (ringAt r z).take 1 = ringAt r (z + 1) := by
  apply List.ext_getElem?
  intro k
  have l1 : ((ringAt r z).drop 1).length = r.length - 1 := by rw [List.length_drop, ringAt_length]
  by_cases h1 : k < r.length - 1
  · rw [List.getElem?_append_left (by omega), List.getElem?_drop, ringAt_get (by omega), ringAt_get (by omega)]
    congr 4
    omega
  · rw [List.getElem?_append_right (by omega), l1, List.getElem?_take]
    by_cases h2 : k = r.length - 1
    · subst h2
      rw [if_pos (by omega), ringAt_get (by omega), ringAt_get (by omega)]
      congr 3
      have e : z + 1 + ((r.length - 1 : Nat) : Int) = z + ((r.length - 1 - (r.length - 1) : Nat) : Int) + (r.length : Int) := by omega
      rw [e, Int.add_emod_right]
    · rw [if_neg (by omega), List.getElem?_eq_none (by rw [ringAt_length]; omega)]
theorem ring_bwd {r : List Int} {z : Int} (h : 0 < r.length) : (ringAt r z).drop (r.length - 1) ++ (ringAt r z).take (r.length - 1) = ringAt r (z - 1) := by
  apply List.ext_getElem?
  intro k
  have l1 : ((ringAt r z).drop (r.length - 1)).length = 1 := by rw [List.length_drop, ringAt_length]; omega
  by_cases h1 : k < 1
  · have hk : k = 0 := by omega
    subst hk
    rw [List.getElem?_append_left (by omega), List.getElem?_drop, ringAt_get (by omega), ringAt_get (by omega)]
    congr 3
    have e : z + ((r.length - 1 + 0 : Nat) : Int) = z - 1 + ((0 : Nat) : Int) + (r.length : Int) := by omega
    rw [e, Int.add_emod_right]
  · rw [List.getElem?_append_right (by omega), l1, List.getElem?_take]
    by_cases h2 : k < r.length
    · rw [if_pos (by omega), ringAt_get (by omega), ringAt_get (by omega)]
      congr 4
      omega
    · rw [if_neg (by omega), List.getElem?_eq_none (by rw [ringAt_length]; omega)]
theorem getD_inj {r : List Int} (hn : r.Nodup) {i j : Nat} (hi : i < r.length) (hj : j < r.length) (e : r.getD i 0 = r.getD j 0) : i = j := by
  rw [List.getD_eq_getElem?_getD, List.getD_eq_getElem?_getD, List.getElem?_eq_getElem hi, List.getElem?_eq_getElem hj] at e
  have e' : r[i] = r[j] := e
  have P := List.pairwise_iff_getElem.mp hn
  rcases Nat.lt_trichotomy i j with q | q | q
  · exact absurd e' (P i j hi hj q)
  · exact q
  · exact absurd e'.symm (P j i hj hi q)
theorem ring_head {r : List Int} (h : 0 < r.length) (z : Int) : (ringAt r z).getD 0 0 = r.getD (z % (r.length : Int)).toNat 0 := by
  rw [List.getD_eq_getElem?_getD, ringAt_get h]
  simp
theorem ring_home {r : List Int} (hn : r.Nodup) (h : 0 < r.length) (z : Int) : (ringAt r z).getD 0 0 = r.getD 0 0 ↔ z % (r.length : Int) = 0 := by
  rw [ring_head h]
  have a := Int.emod_nonneg z (by omega : (r.length : Int) ≠ 0)
  have b := Int.emod_lt_of_pos z (by omega : (0 : Int) < (r.length : Int))
  constructor
  · intro e; have := getD_inj hn (by omega) h e; omega
  · intro e; rw [e]; rfl
theorem div_up {z n : Int} (h : 0 < n) : (z + 1) / n = z / n + (if (z + 1) % n = 0 then 1 else 0) := by
  have e1 := Int.emod_add_mul_ediv z n
  have a1 := Int.emod_nonneg z (by omega : n ≠ 0)
  have b1 := Int.emod_lt_of_pos z h
  by_cases c : (z + 1) % n = 0
  · rw [if_pos c]
    have e2 := Int.emod_add_mul_ediv (z + 1) n
    rw [c] at e2
    have : z % n = n - 1 := by
      have hz : z + 1 = n * ((z + 1) / n) := by omega
      have : z = (n - 1) + n * ((z + 1) / n - 1) := by rw [Int.mul_sub]; omega
      rw [this, Int.add_mul_emod_self_left, Int.emod_eq_of_lt (by omega) (by omega)]
    have hz : z + 1 = n * (z / n + 1) := by rw [Int.mul_add]; omega
    rw [hz, Int.mul_ediv_cancel_left _ (by omega)]
  · rw [if_neg c, Int.add_zero]
    have hlt : z % n + 1 < n := by
      by_cases q : z % n + 1 = n
      · exfalso; apply c
        have : z + 1 = n * (z / n + 1) := by rw [Int.mul_add]; omega
        rw [this, Int.mul_emod_right]
      · omega
    have hz : z + 1 = (z % n + 1) + n * (z / n) := by omega
    rw [hz, Int.add_mul_ediv_left _ _ (by omega), Int.ediv_eq_zero_of_lt (by omega) hlt, Int.zero_add]

theorem getD_mem {r : List Int} {i : Nat} (h : i < r.length) : r.getD i 0 ∈ r := by
  rw [List.getD_eq_getElem?_getD, List.getElem?_eq_getElem h]
  exact List.getElem_mem h
theorem idx_lt {n : Nat} (h : 0 < n) (z : Int) : (z % (n : Int)).toNat < n := by
  have a := Int.emod_nonneg z (by omega : (n : Int) ≠ 0)
  have b := Int.emod_lt_of_pos z (by omega : (0 : Int) < (n : Int))
  omega
theorem ringAt_mem {r : List Int} {z x : Int} (h : x ∈ ringAt r z) : x ∈ r := by
  unfold ringAt at h
  obtain ⟨k, hk, rfl⟩ := List.mem_map.mp h
  have := List.mem_range.mp hk
  exact getD_mem (idx_lt (by omega) _)
theorem ringAt_nodup {r : List Int} (hn : r.Nodup) (z : Int) : (ringAt r z).Nodup := by
  unfold ringAt
  refine List.pairwise_iff_getElem.mpr fun i j hi hj hij e => ?_
  simp only [List.length_map, List.length_range] at hi hj
  simp only [List.getElem_map, List.getElem_range] at e
  have h0 : 0 < r.length := by omega
  have e2 := getD_inj hn (idx_lt h0 _) (idx_lt h0 _) e
  have a1 := Int.emod_nonneg (z + i) (by omega : (r.length : Int) ≠ 0)
  have a2 := Int.emod_nonneg (z + j) (by omega : (r.length : Int) ≠ 0)
  have b1 := Int.emod_add_mul_ediv (z + i) (r.length : Int)
  have b2 := Int.emod_add_mul_ediv (z + j) (r.length : Int)
  have c : ((j : Int) - i) = (r.length : Int) * ((z + j) / (r.length : Int) - (z + i) / (r.length : Int)) := by
    rw [Int.mul_sub]; omega
  have d : ((j : Int) - i) % (r.length : Int) = 0 := by rw [c]; exact Int.mul_emod_right _ _
  rw [Int.emod_eq_of_lt (by omega) (by omega)] at d
  omega
theorem idx_of {r : List Int} (hn : r.Nodup) {p : Nat} (h : p < r.length) : r.idxOf (r.getD p 0) = p := by
  have hj : r.idxOf (r.getD p 0) < r.length := List.idxOf_lt_length_iff.mpr (getD_mem h)
  refine getD_inj hn hj h ?_
  have e := List.getElem_idxOf hj
  rw [List.getD_eq_getElem?_getD, List.getElem?_eq_getElem hj]
  exact e
theorem weight_small : ∀ {ns : List Int}, (∀ x ∈ ns, 0 ≤ x ∧ x < 64) → PyData.canLayAll0 (ns.map .int) = true ∧ PyData.depthAll (ns.map .int) = 0 ∧ PyData.weightAll (ns.map .int) ≤ 7 * ns.length
  | [], _ => by simp [PyData.canLayAll0, PyData.depthAll, PyData.weightAll]
  | x :: r, h => by
    have hx := h x (.head _)
    obtain ⟨a, b, c⟩ := weight_small (ns := r) fun y hy => h y (.tail _ hy)
    have hw : (if x == 0 then 0 else x.natAbs.log2 + 1) ≤ 6 := intBits_le_iff.mpr (by omega)
    refine ⟨by simp [PyData.canLayAll0, PyData.canLay0, a], by simp [PyData.depthAll, PyData.depth, b], ?_⟩
    simp only [List.map_cons, PyData.weightAll, PyData.weight, List.length_cons]
    omega
theorem lay_small {ns : List Int} (h : ∀ x ∈ ns, 0 ≤ x ∧ x < 64) (hl : ns.length < 1000) : PyData.layable0 (.list (ns.map .int)) = true := by
  obtain ⟨a, b, c⟩ := weight_small h
  have h2 : PyData.weightAll (ns.map .int) ≤ 2 ^ 20 := by omega
  simp only [PyData.layable0, PyData.canLay0, PyData.depth, PyData.weight, a, b, Bool.true_and, Bool.and_eq_true, decide_eq_true_eq]
  exact ⟨by decide, decide_eq_true h2⟩

def ringOf (ns : List Int) : Nat → List Int
  | 0 => rangeKs 0 ns.length
  | i + 1 => (ringAt (ringOf ns i) (ns.getD i 0)).drop 1
def walkOf (ns : List Int) : Nat → List ((Int × Int) × Int)
  | 0 => []
  | i + 1 => walkOf ns i ++ [((ns.getD i 0 / ((ringOf ns i).length : Int), ns.getD i 0 % ((ringOf ns i).length : Int)), (ringAt (ringOf ns i) (ns.getD i 0)).getD 0 0)]
theorem rangeKs_get {n k : Nat} (h : k < n) : (rangeKs 0 n)[k]? = some (k : Int) := by simp [rangeKs, h]
theorem ringOf_ok {ns : List Int} (hN : ns.length < 16) : ∀ {i}, i ≤ ns.length → (ringOf ns i).length = ns.length - i ∧ (ringOf ns i).Nodup ∧ ∀ x ∈ ringOf ns i, 0 ≤ x ∧ x < 64
  | 0, _ => by
    refine ⟨by simp [ringOf, rangeKs_length], ?_, ?_⟩
    · refine List.pairwise_iff_getElem.mpr fun i j hi hj hij e => ?_
      simp only [ringOf, rangeKs_length] at hi hj
      have e1 := rangeKs_get hi
      have e2 := rangeKs_get hj
      rw [List.getElem?_eq_getElem (by rw [rangeKs_length]; exact hi)] at e1
      rw [List.getElem?_eq_getElem (by rw [rangeKs_length]; exact hj)] at e2
      have := Option.some.inj e1
      have := Option.some.inj e2
      simp only [ringOf] at e
      omega
    · intro x hx
      have := mem_rangeKs hx
      omega
  | i + 1, h => by
    obtain ⟨a, b, c⟩ := ringOf_ok hN (i := i) (by omega)
    refine ⟨by rw [ringOf, List.length_drop, ringAt_length, a]; omega, (ringAt_nodup b _).sublist (List.drop_sublist _ _), fun x hx => ?_⟩
    exact c x (ringAt_mem (List.mem_of_mem_drop hx))
/-- the ring tells, child by child, what the counting back reckons -/
theorem ring_backs {ns : List Int} (hN : ns.length < 16) : ∀ {i}, i ≤ ns.length → ∀ {j : Nat}, j < ns.length - i → (ringOf ns i).getD j 0 = backs (j : Int) (pastOf ns i)
  | 0, _, j, hj => by
    rw [ringOf, List.getD_eq_getElem?_getD, rangeKs_get (by omega)]; rfl
  | i + 1, h, j, hj => by
    obtain ⟨a, b, c⟩ := ringOf_ok hN (i := i) (by omega)
    have hlen : ((ringOf ns i).length : Int) = (ns.length : Int) - i := by omega
    have e1 : (ringOf ns (i + 1)).getD j 0 = (ringOf ns i).getD ((ns.getD i 0 + ((1 + j : Nat) : Int)) % ((ringOf ns i).length : Int)).toNat 0 := by
      rw [ringOf, List.getD_eq_getElem?_getD, List.getElem?_drop, ringAt_get (by omega)]; rfl
    have e2 : backs (j : Int) (pastOf ns (i + 1)) = backs (((j : Int) + ns.getD i 0 + 1) % ((ns.length : Int) - i)) (pastOf ns i) := rfl
    have h1 := idx_lt (n := (ringOf ns i).length) (by omega) (ns.getD i 0 + ((1 + j : Nat) : Int))
    rw [e1, e2, ring_backs hN (i := i) (by omega) (by omega)]
    congr 1
    have a1 := Int.emod_nonneg (ns.getD i 0 + ((1 + j : Nat) : Int)) (by omega : ((ringOf ns i).length : Int) ≠ 0)
    rw [Int.toNat_of_nonneg a1, hlen]
    congr 1
    omega
theorem walk_is_res {ns : List Int} (hN : ns.length < 16) : ∀ {i}, i ≤ ns.length → walkOf ns i = resOf ns i
  | 0, _ => rfl
  | i + 1, h => by
    obtain ⟨a, b, c⟩ := ringOf_ok hN (i := i) (by omega)
    have hlen : ((ringOf ns i).length : Int) = (ns.length : Int) - i := by omega
    have h1 := idx_lt (n := (ringOf ns i).length) (by omega) (ns.getD i 0)
    have e1 : (ringAt (ringOf ns i) (ns.getD i 0)).getD 0 0 = backs (-1) (pastOf ns (i + 1)) := by
      rw [ring_head (by omega), ring_backs hN (i := i) (by omega) (by omega)]
      show _ = backs ((-1 + ns.getD i 0 + 1) % ((ns.length : Int) - i)) (pastOf ns i)
      have a1 := Int.emod_nonneg (ns.getD i 0) (by omega : ((ringOf ns i).length : Int) ≠ 0)
      rw [Int.toNat_of_nonneg a1, hlen]
      congr 2
      omega
    rw [walkOf, resOf, walk_is_res hN (by omega), e1, hlen]
section
local macro_rules | `(tactic| walk_at "call builtin:len") => `(tactic| (k_here; (with_reducible show wpAny _ _ (call (Value.builtin "len") [Value.ref _]) _ _ _); k_dflt (refine' len_G ?k1 ?k2 ?k3 ?k4 ?_; (case k1 => k_asm); (case k2 => assumption); (case k3 => assumption); (case k4 => omega); k_whole)))
local macro_rules | `(tactic| k_all) => `(tactic| assumption)
theorem ints_drop : ∀ {vs : List Value} {ns : List Int}, IntsAre vs ns → ∀ k, IntsAre (vs.drop k) (ns.drop k)
  | _, _, h, 0 => h
  | _, _, .nil, k + 1 => .nil
  | _, _, .cons _ _ r, k + 1 => ints_drop r k
structure QSt where
  la : Addr
  vr : List Value
  ka : Nat
  rs : List Value
  kr : Nat
  objs : List (Addr × Obj)
  uB : Option Value
  uL : Option Value
  uM : Option Value
  uS : Option Value
def upQ (m₀ : Str → Option Value) (st : QSt) : Str → Option Value := fun z =>
  if z = Str.ofString "ring" then some (.ref st.la) else if z = Str.ofString "before" then st.uB else if z = Str.ofString "laps" then st.uL else if z = Str.ofString "move" then st.uM else if z = Str.ofString "step" then st.uS else m₀ z
theorem upQ_start (m₀ : Str → Option Value) {la : Addr} {vr rs : List Value} {ka kr : Nat} {objs : List (Addr × Obj)} (h : m₀ (Str.ofString "ring") = some (.ref la)) :
    ∀ z, m₀ z = upQ m₀ ⟨la, vr, ka, rs, kr, objs, m₀ (Str.ofString "before"), m₀ (Str.ofString "laps"), m₀ (Str.ofString "move"), m₀ (Str.ofString "step")⟩ z := by
  intro z
  by_cases h1 : z = Str.ofString "ring"
  · subst h1; exact h
  by_cases h2 : z = Str.ofString "before"
  · subst h2; rfl
  by_cases h3 : z = Str.ofString "laps"
  · subst h3; rfl
  by_cases h4 : z = Str.ofString "move"
  · subst h4; rfl
  by_cases h5 : z = Str.ofString "step"
  · subst h5; rfl
  simp only [upQ, if_neg h1, if_neg h2, if_neg h3, if_neg h4, if_neg h5]
structure WSt where
  la : Addr
  vr : List Value
  ka : Nat
  laps : Int
  tl : Tok
  u : Option Value
def upW (m₀ : Str → Option Value) (st : WSt) : Str → Option Value := fun z =>
  if z = Str.ofString "ring" then some (.ref st.la) else if z = Str.ofString "laps" then some (.int st.laps st.tl) else if z = Str.ofString "move" then st.u else m₀ z
theorem upW_start (m₀ : Str → Option Value) {la : Addr} {vr : List Value} {ka : Nat} {n : Int} {tl : Tok} (h : m₀ (Str.ofString "ring") = some (.ref la)) (h' : m₀ (Str.ofString "laps") = some (.int n tl)) :
    ∀ z, m₀ z = upW m₀ ⟨la, vr, ka, n, tl, m₀ (Str.ofString "move")⟩ z := by
  intro z
  by_cases h1 : z = Str.ofString "ring"
  · subst h1; exact h
  by_cases h3 : z = Str.ofString "laps"
  · subst h3; exact h'
  by_cases h4 : z = Str.ofString "move"
  · subst h4; rfl
  simp only [upW, if_neg h1, if_neg h3, if_neg h4]
theorem upW_A (m₀ : Str → Option Value) (s1 : WSt) {la : Addr} {vr : List Value} {ka : Nat} {n : Int} {tl : Tok} {u : Option Value} :
    ∀ z, (if z = Str.ofString "laps" then some (.int n tl) else if z = Str.ofString "ring" then some (.ref la) else if z = Str.ofString "move" then u else upW m₀ s1 z) = upW m₀ ⟨la, vr, ka, n, tl, u⟩ z := by
  intro z
  by_cases h1 : z = Str.ofString "ring"
  · subst h1; rfl
  by_cases h3 : z = Str.ofString "laps"
  · subst h3; rfl
  by_cases h4 : z = Str.ofString "move"
  · subst h4; rfl
  simp only [upW, if_neg h1, if_neg h3, if_neg h4]
theorem upW_C (m₀ : Str → Option Value) (s1 : WSt) {la : Addr} {vr : List Value} {ka : Nat} {n : Int} {tl : Tok} {u : Option Value} :
    ∀ z, (if z = Str.ofString "ring" then some (.ref la) else if z = Str.ofString "laps" then some (.int n tl) else if z = Str.ofString "move" then u else upW m₀ s1 z) = upW m₀ ⟨la, vr, ka, n, tl, u⟩ z := by
  intro z
  by_cases h1 : z = Str.ofString "ring"
  · subst h1; rfl
  by_cases h3 : z = Str.ofString "laps"
  · subst h3; rfl
  by_cases h4 : z = Str.ofString "move"
  · subst h4; rfl
  simp only [upW, if_neg h1, if_neg h3, if_neg h4]
theorem upW_B (m₀ : Str → Option Value) (s1 : WSt) {la : Addr} {vr : List Value} {ka : Nat} {u : Option Value} :
    ∀ z, (if z = Str.ofString "ring" then some (.ref la) else if z = Str.ofString "move" then u else upW m₀ s1 z) = upW m₀ ⟨la, vr, ka, s1.laps, s1.tl, u⟩ z := by
  intro z
  by_cases h1 : z = Str.ofString "ring"
  · subst h1; rfl
  by_cases h3 : z = Str.ofString "laps"
  · subst h3; rfl
  by_cases h4 : z = Str.ofString "move"
  · subst h4; rfl
  simp only [upW, if_neg h1, if_neg h3, if_neg h4]
theorem upQ_turn (m₀ : Str → Option Value) (st : QSt) (s2 : WSt) {x uB uS : Option Value} {la : Addr} {vr rs : List Value} {ka kr : Nat} {objs : List (Addr × Obj)} :
    ∀ z, (if z = Str.ofString "ring" then some (.ref la) else upW (fun z => if z = Str.ofString "laps" then x else if z = Str.ofString "before" then uB else if z = Str.ofString "step" then uS else upQ m₀ st z) s2 z) = upQ m₀ ⟨la, vr, ka, rs, kr, objs, uB, some (.int s2.laps s2.tl), s2.u, uS⟩ z := by
  intro z
  by_cases h1 : z = Str.ofString "ring"
  · subst h1; rfl
  by_cases h2 : z = Str.ofString "before"
  · subst h2; rfl
  by_cases h3 : z = Str.ofString "laps"
  · subst h3; rfl
  by_cases h4 : z = Str.ofString "move"
  · subst h4; rfl
  by_cases h5 : z = Str.ofString "step"
  · subst h5; rfl
  simp only [upQ, upW, if_neg h1, if_neg h2, if_neg h3, if_neg h4, if_neg h5]
theorem index_any {prog : Program} {w : World} {A : Around} {E : Value → Shared → Prop} {s : Shared} {l : Addr} {vs : List Value} {ns : List Int} {k i : Int} {t : Tok} {Q : Value → Shared → Prop} (hl : s.heap.IsList l vs.toArray) (hi : IntsAre vs ns)
    (hlay : PyData.layable0 (.list (ns.map .int)) = true) (hk : k ∈ ns) (he : (ns.idxOf k : Int) = i) (h : ∀ u, Q (.int i u) { s with toks := s.toks + 1 }) :
    wpAny (model prog w) A (call (.builtin "list.index") [.ref l, .int k t]) Q E s := index_list_ints hl hi hlay hk (by rw [he]; exact h _)
def OkQ (ns : List Int) (lr : Addr) (i : Nat) (st : QSt) : Prop :=
  IntsAre st.vr (ringOf ns i) ∧ Rounds st.objs st.rs (walkOf ns i) ∧ ∀ p ∈ (st.la, listOf st.vr.toArray st.ka) :: st.objs, p.1 ≠ lr
def OkW (r : List Int) (lr : Addr) (j : Nat) (st : WSt) : Prop := IntsAre st.vr (ringAt r j) ∧ st.laps = (j : Int) / (r.length : Int) ∧ st.la ≠ lr
def OkV (r : List Int) (z : Int) (lr : Addr) (j : Nat) (st : WSt) : Prop := IntsAre st.vr (ringAt r (z - (j : Int))) ∧ st.laps = (z - (j : Int)) / (r.length : Int) ∧ st.la ≠ lr
theorem c_walked {prog : Program} {w : World} {loose : List Str} {mean : ExcName → Option Value} {mg mb : Str → Option Value} (l : Addr) (vs : List Value) (ns : List Int) (hI : IntsAre vs ns) (hb : ∀ x ∈ ns, -20 < x ∧ x < 20) (hl : ns.length < 16) :
    ConH prog w loose mean mg mb 79 [.ref l] 2 (fun h => ListAt h l vs) (· = []) (fun led v => ∃ lr rs k objs, v = .ref lr ∧ led = (lr, listOf rs.toArray k) :: objs ∧ Rounds objs rs (resOf ns ns.length)) := by
  intro dp un gd cn cs fa ccd cl outer A₀ base h₀ L m tabs s Q E H B F X N TP hk hdp hun hret
  subst TP
  have XK := X.K
  have XT := X.T
  refine wpAny_call ?_
  k_dflt ktr_enter
  intro g' L' h' hG st FG' F' N' B' X' T' l1
  have gX := X.keeps st
  have gL : ListAt g' l vs := H.keeps fun b o e => hG b o List.not_mem_nil e
  have hlv := hI.length
  (with_reducible show wpAny _ _ _ _ _ _)
  (try k_fold)
  k_steps
  rename Fr g' _ _ _ => F9
  refine For_invVF F9 rfl rfl ?_
  k_steps
  rename_i lring vr0 c0 _ _ hI0 _ _ lr _ ltr _ N8
  have hz : (((ns.length : Nat) : Int) - 0).toNat = ns.length := by omega
  rw [hz] at hI0
  refine list_gen rfl gL (upQ _) (fun st => (lr, listOf st.rs.toArray st.kr) :: (st.la, listOf st.vr.toArray st.ka) :: st.objs) (OkQ ns lr) _ (Fr_re F9 (upQ_start (vr := vr0) (ka := c0) (rs := []) (kr := 0) (objs := []) _ rfl)) N8 ⟨hI0, .nil, ?_⟩ ?_ ?_
  · intro p hp; rw [List.mem_singleton.mp hp]; exact Nat.ne_of_lt ltr
  · intro I i v st h tk own hi hv hok hoff hown hSt F N
    obtain ⟨step, tstep, rfl, hsi⟩ := ints_at hI hv
    obtain ⟨ok1, ok2, ok3⟩ := hok
    have hstep : ns.getD i 0 = step := by rw [List.getD_eq_getElem?_getD, hsi]; rfl
    have hbi := hb _ (List.mem_of_getElem? hsi)
    have hro := ringOf_ok (ns := ns) hl (i := i) (by omega)
    clear F9 N8
    simp only [List.cons_append] at N
    replace F : Fr g' L' h _ := F
    replace N : News g' L' h _ := N
    k_steps
    rename Fr g' _ _ _ => F9
    refine For_invVF F9 rfl rfl ?_
    k_steps
    rename IsRange _ _ _ _ _ _ _ _ => hR
    rename Fr g' _ _ _ => F8
    rename News g' _ _ _ => N8
    refine range_gen (n := step.toNat) rfl hR (by omega) (by omega) rfl (upW _) (fun s1 => (s1.la, listOf s1.vr.toArray s1.ka) :: (lr, listOf st.rs.toArray st.kr) :: (st.la, listOf st.vr.toArray st.ka) :: (st.objs ++ own)) (OkW (ringOf ns i) lr) _ (Fr_re F8 (upW_start (vr := st.vr) (ka := st.ka) _ rfl rfl)) (news_sub N8 ?_) ⟨?_, ?_, ok3 _ (List.Mem.head _)⟩ ?_ ?_
    · intro p hp
      rcases List.mem_cons.mp hp with rfl | hp
      · exact List.Mem.tail _ (List.Mem.head _)
      · exact hp
    · show IntsAre st.vr (ringAt (ringOf ns i) 0); rw [ringAt_zero]; exact ok1
    · show (0 : Int) = 0 / _; rw [Int.zero_ediv]
    · intro I2 j tj s1 h2 tk2 own2 hj hok2 hoff2 hown2 hSt2 F2 N2
      obtain ⟨w1, w2, w3'⟩ := hok2
      have hrl := ringAt_length (ringOf ns i) j
      clear F8 N8 hR
      simp only [List.cons_append] at N2
      replace F2 : Fr g' L' h2 _ := F2
      replace N2 : News g' L' h2 _ := N2
      obtain ⟨oI2, hoI2⟩ := hSt2
      have hr0 : 0 < (ringOf ns i).length := by omega
      have hcast : ((j + 1 : Nat) : Int) = (j : Int) + 1 := by omega
      have hdu := div_up (z := (j : Int)) (n := ((ringOf ns i).length : Int)) (by omega)
      k_steps
      · rename_i D3 w3 _ hI3 lt3 _ _ _ hq _ F9 N9
        rw [ring_fwd hr0] at hI3 hq
        have hq2 := (ring_home hro.2.1 hr0 _).mp hq
        refine ⟨rfl, _, _, ⟨D3, w3, 0, s1.laps + 1, _, _⟩, rfl, ⟨?_, ?_, Nat.ne_of_gt lt3.2.2.2.1⟩, ?_, Fr_re F9 (upW_A _ s1), news_sub N9 ?_⟩
        · rw [hcast]; exact hI3
        · show s1.laps + 1 = _; rw [hcast, hdu, if_pos hq2, w2]
        · intro p hp q
          have q := List.mem_singleton.mp q
          rcases List.mem_cons.mp hp with rfl | hp
          · exact Nat.ne_of_gt (ktn_ltOf lt3.2.2.2.2.2 (I2, oI2) (List.mem_append_right _ hoI2)) q
          · exact hoff2 p (List.Mem.tail _ hp) q
        · intro p hp
          simp only [List.mem_append, List.mem_cons] at hp ⊢
          rcases hp with (h | h | h | h | h) | h <;> simp [h]
      · rename_i D3 w3 _ hI3 lt3 _ F9 N9 _ _ hq
        rw [ring_fwd hr0] at hI3 hq
        have hq2 := fun e => hq ((ring_home hro.2.1 hr0 _).mpr e)
        refine ⟨rfl, _, _, ⟨D3, w3, 0, s1.laps, _, _⟩, rfl, ⟨?_, ?_, Nat.ne_of_gt lt3.2.2.2.1⟩, ?_, Fr_re F9 (upW_B _ s1), news_sub N9 ?_⟩
        · rw [hcast]; exact hI3
        · show s1.laps = _; rw [hcast, hdu, if_neg hq2, w2, Int.add_zero]
        · intro p hp q
          have q := List.mem_singleton.mp q
          rcases List.mem_cons.mp hp with rfl | hp
          · exact Nat.ne_of_gt (ktn_ltOf lt3.2.2.2.2.2 (I2, oI2) (List.mem_append_right _ hoI2)) q
          · exact hoff2 p (List.Mem.tail _ hp) q
        · intro p hp
          simp only [List.mem_append, List.mem_cons] at hp ⊢
          rcases hp with (h | h | h | h | h) | h <;> simp [h]
    · intro s1 h2 tk2 hok2 F2 N2
      obtain ⟨w1, w2, w3'⟩ := hok2
      clear F8 N8 hR
      replace F2 : Fr g' L' h2 _ := F2
      replace N2 : News g' L' h2 _ := N2
      k_steps
      rename Fr g' _ _ _ => F9
      refine For_invVF F9 rfl rfl ?_
      k_steps
      rename IsRange _ _ _ _ _ _ _ _ => hR
      rename Fr g' _ _ _ => F8
      rename News g' _ _ _ => N8
      refine range_gen (n := (-step).toNat) rfl hR (by omega) (by omega) rfl (upW _) (fun s1 => (s1.la, listOf s1.vr.toArray s1.ka) :: (lr, listOf st.rs.toArray st.kr) :: (st.la, listOf st.vr.toArray st.ka) :: (st.objs ++ own)) (OkV (ringOf ns i) (step.toNat : Int) lr) s1 F8 N8 ⟨?_, ?_, w3'⟩ ?_ ?_
      · show IntsAre _ (ringAt _ (_ - (0 : Int))); rw [Int.sub_zero]; exact w1
      · show _ = (_ - (0 : Int)) / _; rw [Int.sub_zero]; exact w2
      · clear F8 N8 hR
        intro I2 j tj s1 h2 tk2 own2 hj hok2 hoff2 hown2 hSt2 F2 N2
        obtain ⟨w1, w2, w3'⟩ := hok2
        have hrl := ringAt_length (ringOf ns i) (step.toNat - j)
        simp only [List.cons_append] at N2
        replace F2 : Fr g' L' h2 _ := F2
        replace N2 : News g' L' h2 _ := N2
        obtain ⟨oI2, hoI2⟩ := hSt2
        have hr0 : 0 < (ringOf ns i).length := by omega
        have hcast : (step.toNat : Int) - ((j + 1 : Nat) : Int) = (step.toNat : Int) - (j : Int) - 1 := by omega
        have hdu := div_up (z := (step.toNat : Int) - (j : Int) - 1) (n := ((ringOf ns i).length : Int)) (by omega)
        rw [Int.sub_add_cancel] at hdu
        k_steps
        · rename_i D3 w3 _ hI3 lt3 _ F9 N9
          rename List.getD _ _ _ = List.getD _ _ _ => hq
          rw [hrl, ring_bwd hr0] at hI3
          have hq2 := (ring_home hro.2.1 hr0 _).mp hq
          rw [if_pos hq2] at hdu
          refine ⟨rfl, _, _, ⟨D3, w3, 0, s1.laps - 1, _, _⟩, rfl, ⟨?_, ?_, Nat.ne_of_gt lt3.2.2.2.1⟩, ?_, Fr_re F9 (upW_C _ s1), news_sub N9 ?_⟩
          · rw [hcast]; exact hI3
          · show s1.laps - 1 = _; rw [hcast]; omega
          · intro p hp q
            have q := List.mem_singleton.mp q
            rcases List.mem_cons.mp hp with rfl | hp
            · exact Nat.ne_of_gt (ktn_ltOf lt3.2.2.2.2.2 (I2, oI2) (List.mem_append_right _ hoI2)) q
            · exact hoff2 p (List.Mem.tail _ hp) q
          · intro p hp
            simp only [List.mem_append, List.mem_cons] at hp ⊢
            rcases hp with (h | h | h | h | h) | h <;> simp [h]
        · rename_i D3 w3 _ hI3 lt3 _ F9 N9
          rename List.getD _ _ _ ≠ List.getD _ _ _ => hq
          rw [hrl, ring_bwd hr0] at hI3
          have hq2 := fun e => hq ((ring_home hro.2.1 hr0 _).mpr e)
          rw [if_neg hq2] at hdu
          refine ⟨rfl, _, _, ⟨D3, w3, 0, s1.laps, _, _⟩, rfl, ⟨?_, ?_, Nat.ne_of_gt lt3.2.2.2.1⟩, ?_, Fr_re F9 (upW_B _ s1), news_sub N9 ?_⟩
          · rw [hcast]; exact hI3
          · show s1.laps = _; rw [hcast]; omega
          · intro p hp q
            have q := List.mem_singleton.mp q
            rcases List.mem_cons.mp hp with rfl | hp
            · exact Nat.ne_of_gt (ktn_ltOf lt3.2.2.2.2.2 (I2, oI2) (List.mem_append_right _ hoI2)) q
            · exact hoff2 p (List.Mem.tail _ hp) q
          · intro p hp
            simp only [List.mem_append, List.mem_cons] at hp ⊢
            rcases hp with (h | h | h | h | h) | h <;> simp [h]
      · clear F8 N8 hR w1 w2 w3'
        intro s2 h3 tk3 hok3 F3 N3
        obtain ⟨w1, w2, w3'⟩ := hok3
        have hzz : (step.toNat : Int) - ((-step).toNat : Int) = step := by omega
        rw [hzz] at w1 w2
        have hrl := ringAt_length (ringOf ns i) step
        replace F3 : Fr g' L' h3 _ := F3
        replace N3 : News g' L' h3 _ := N3
        have hr0 : 0 < (ringOf ns i).length := by omega
        have hne : ∀ p ∈ (s2.la, listOf s2.vr.toArray s2.ka) :: (st.la, listOf st.vr.toArray st.ka) :: (st.objs ++ own), p.1 ≠ lr := by
          intro p hp
          rcases List.mem_cons.mp hp with rfl | hp
          · exact w3'
          rcases List.mem_cons.mp hp with rfl | hp
          · exact ok3 _ (List.Mem.head _)
          rcases List.mem_append.mp hp with hp | hp
          · exact ok3 _ (List.Mem.tail _ hp)
          · rw [hown p hp]; exact (hoff _ (List.Mem.head _)).symm
        have N4 : News g' L' h3 ((lr, listOf st.rs.toArray st.kr) :: (s2.la, listOf s2.vr.toArray s2.ka) :: (st.la, listOf st.vr.toArray st.ka) :: (st.objs ++ own)) := news_sub N3 fun p hp => by
          simp only [List.mem_append, List.mem_cons] at hp ⊢
          rcases hp with h | h | h | h | h <;> simp [h]
        clear N3
        have hrs := ok2.length
        have hrl2 : st.rs.toArray.size ≤ sizeLine := by
          rw [List.size_toArray, sizeLine_eq, hrs, walk_is_res hl (by omega), resOf_length]; omega
        k_steps
        have hin : (ringAt (ringOf ns i) step).getD (Int.toNat 0) 0 ∈ ringOf ns i := by
          show (ringAt (ringOf ns i) step).getD 0 0 ∈ _
          rw [ring_head hr0]; exact getD_mem (idx_lt hr0 _)
        have hidx : ((ringOf ns i).idxOf ((ringAt (ringOf ns i) step).getD (Int.toNat 0) 0) : Int) = step % ((ringOf ns i).length : Int) := by
          show ((ringOf ns i).idxOf ((ringAt (ringOf ns i) step).getD 0 0) : Int) = _
          rw [ring_head hr0, idx_of hro.2.1 (idx_lt hr0 _)]
          have := Int.emod_nonneg step (by omega : ((ringOf ns i).length : Int) ≠ 0)
          omega
        refine index_any (News.isList N4 (List.Mem.tail _ (List.Mem.tail _ (List.Mem.head _)))) ok1 (lay_small hro.2.2 (by omega)) hin hidx fun tix => ?_
        k_steps
        rename_i D1 _ ltd1 tc D2 _ ltd2 _ D3 w3 _ hI3 _ _ lt3 _ F9 N9
        simp only [List.push_toArray] at N9
        obtain ⟨oI, hoI⟩ := hSt
        refine ⟨rfl, _, _, ⟨D3, w3, 0, st.rs ++ [.ref D2], st.kr + 1, (D2, tup [.ref D1, .int ((ringAt (ringOf ns i) step).getD 0 0) tc] 0) :: (D1, tup [.int s2.laps s2.tl, .int (step % ((ringOf ns i).length : Int)) tix] 0) :: st.objs, _, _, _, _⟩, rfl, ⟨?_, ?_, ?_⟩, ?_, Fr_re F9 (upQ_turn _ st s2), news_sub N9 ?_⟩
        · show IntsAre w3 (ringOf ns (i + 1)); rw [ringOf, hstep]; exact hI3
        · show Rounds _ (st.rs ++ [.ref D2]) (walkOf ns (i + 1))
          rw [walkOf, hstep, ← w2]
          exact Rounds.push (List.Mem.head _) (List.Mem.tail _ (List.Mem.head _)) (ok2.mono fun p hp => List.Mem.tail _ (List.Mem.tail _ hp))
        · intro p hp
          rcases List.mem_cons.mp hp with rfl | hp
          · exact Nat.ne_of_gt lt3.2.2.1
          rcases List.mem_cons.mp hp with rfl | hp
          · exact Nat.ne_of_gt ltd2.2.1
          rcases List.mem_cons.mp hp with rfl | hp
          · exact Nat.ne_of_gt ltd1.1
          exact ok3 p (List.Mem.tail _ hp)
        · intro p hp q
          have q := List.mem_singleton.mp q
          rcases List.mem_cons.mp hp with rfl | hp
          · exact hoff _ (List.Mem.head _) q
          rcases List.mem_cons.mp hp with rfl | hp
          · exact Nat.ne_of_gt (ktn_ltOf lt3.2.2.2.2.2 (I, oI) (List.mem_append_right _ hoI)) q
          rcases List.mem_cons.mp hp with rfl | hp
          · exact Nat.ne_of_gt (ktn_ltOf ltd2.2.2.2.2 (I, oI) (List.mem_append_right _ hoI)) q
          rcases List.mem_cons.mp hp with rfl | hp
          · exact Nat.ne_of_gt (ktn_ltOf ltd1.2.2.2 (I, oI) (List.mem_append_right _ hoI)) q
          exact hoff p (List.Mem.tail _ (List.Mem.tail _ hp)) q
        · intro p hp
          simp only [List.mem_append, List.mem_cons] at hp ⊢
          rcases hp with (h | h | h | h | h) | h <;> simp [h]
  · intro st h tk hok F N
    obtain ⟨ok1, ok2, ok3⟩ := hok
    clear F9 N8
    replace F : Fr g' L' h _ := F
    replace N : News g' L' h _ := N
    rw [hlv, walk_is_res hl (Nat.le_refl _)] at ok2
    k_steps
    rename Fr h₀ _ _ _ => F9
    rename News h₀ _ _ _ => N9
    rename Fr g' _ _ _ => F8
    rename News g' _ _ _ => N8
    have sb : ∀ p ∈ (lr, listOf st.rs.toArray st.kr) :: st.objs, p ∈ (lr, listOf st.rs.toArray st.kr) :: (st.la, listOf st.vr.toArray st.ka) :: st.objs := fun p hp => by
      simp only [List.mem_cons] at hp ⊢
      rcases hp with h | h <;> simp [h]
    exact hret _ _ _ _ F9 (news_sub N9 sb) (keep_end hG F8) (new_of hG (news_sub N8 sb)) ⟨lr, st.rs, st.kr, st.objs, rfl, rfl, ok2⟩
end
def enc (p : (Int × Int) × Int) : PyData := .tuple [.tuple [.int p.1.1, .int p.1.2], .int p.2]
theorem rounds_read {objs : List (Addr × Obj)} {h₀ h : Heap} {L : Addr} (N : News h₀ L h objs) : ∀ {vs : List Value} {res : List ((Int × Int) × Int)}, Rounds objs vs res → ∃ as, ReadsAll h vs (res.map enc) as
  | _, _, .nil => ⟨_, .nil⟩
  | _, _, .cons x y r => by
    obtain ⟨as, ra⟩ := rounds_read N r
    refine ⟨_, ReadsAll.cons (reads_tuple_at (N _ x).1 rfl rfl (ReadsAll.cons (reads_tuple_at (N _ y).1 rfl rfl (ReadsAll.cons (Reads.int _ _) (ReadsAll.cons (Reads.int _ _) .nil))) (ReadsAll.cons (Reads.int _ _) .nil))) ra⟩
theorem enc_lay : ∀ res : List ((Int × Int) × Int), PyData.canLayAll0 (res.map enc) = true ∧ PyData.depthAll (res.map enc) ≤ 2
  | [] => by simp [PyData.canLayAll0, PyData.depthAll]
  | p :: r => by
    obtain ⟨a, b⟩ := enc_lay r
    refine ⟨by simp [PyData.canLayAll0, PyData.canLay0, enc, a], ?_⟩
    simp only [List.map_cons, PyData.depthAll, enc, PyData.depth]
    omega
theorem enc_shaped (res : List ((Int × Int) × Int)) : SeqAt.shaped (.list (res.map enc)) = true := by
  obtain ⟨a, b⟩ := enc_lay res
  have h2 : PyData.depthAll (res.map enc) + 1 ≤ 64 := by omega
  simp only [SeqAt.shaped, PyData.canLay0, a, PyData.depth, Bool.true_and]
  exact decide_eq_true h2
section
theorem tb_grown {P : Addr} {ln co : Nat} {q : Str} {t : List (Addr × Obj)} {h₀ h : Heap} {L : Addr} (T : Tb P ln co q t) (N : News h₀ L h t) : GrownAt P h := by
  cases T with
  | cold => exact ⟨_, (N _ (List.Mem.head _)).1⟩
  | warm => exact ⟨_, (N _ (List.Mem.head _)).1⟩
theorem tt_grown {x : List (Addr × Obj)} {h₀ h : Heap} {L : Addr} (T : TT x) (N : News h₀ L h x) : GrownAll [(41, 37), (34, 30)] h := by
  obtain ⟨t1, t2, rfl, h1, h2⟩ := T
  exact ⟨tb_grown h1 (news_sub N fun p hp => List.mem_append_left _ hp), tb_grown h2 (news_sub N fun p hp => List.mem_append_right _ hp), trivial⟩
theorem row_bd (w : List Int) : (∀ x ∈ (w.take 6).map (fun k : Int => k.fmod 31 - 15) ++ [7, -5, 0], -20 < x ∧ x < 20) ∧ ((w.take 6).map (fun k : Int => k.fmod 31 - 15) ++ [7, -5, 0]).length < 16 := by
  constructor
  · intro x hx
    rcases List.mem_append.mp hx with hx | hx
    · obtain ⟨k, _, rfl⟩ := List.mem_map.mp hx
      rw [Int.fmod_eq_emod_of_nonneg k (by decide)]
      have a := Int.emod_nonneg k (by decide : (31 : Int) ≠ 0)
      have b := Int.emod_lt_of_pos k (by decide : (0 : Int) < 31)
      omega
    · simp only [List.mem_cons, List.not_mem_nil, or_false] at hx
      rcases hx with rfl | rfl | rfl <;> decide
  · rw [List.length_append, List.length_map, List.length_take]
    show min 6 w.length + 3 < 16
    omega
theorem main : PySem.Challenge.rw_mr0205_01.Holds := hd (by
  k_go0
  (all_goals try k_fold)
  k_steps
  rename Fr _ _ _ _ => F9
  rename News _ _ _ _ => N9
  rename IntsAre _ _ => hI9
  rename Below _ _ _ _ => B9
  rename Top topProg _ _ _ _ _ => T9
  rename Frag.In _ _ => X9
  have rb := fun w => row_bd w
  refine ConH.use (c_reckoned _ _ _ hI9 (rb _).1 (rb _).2) (mine := [_]) (tabs := [(37, tabObj #[]), (30, tabObj #[])]) ⟨_, (N9 _ (List.Mem.head _)).1⟩ B9 F9 ⟨X9, T9, by assumption, by assumption⟩ N9 ?_ ⟨[_], [_], rfl, .cold, .cold⟩ (List.forall_mem_cons.mpr ⟨List.Mem.head _, fun _ h => nomatch h⟩) ?_ rfl ?_ ?_ ?_
  · exact List.forall_mem_cons.mpr ⟨by k_mem, List.forall_mem_cons.mpr ⟨by k_mem, fun _ h => nomatch h⟩⟩
  · intro p hp q hq
    rw [List.mem_singleton.mp hp]
    rcases List.mem_cons.mp hq with rfl | hq
    · exact ne_of_obj N9 (List.Mem.head _) (by k_mem) fun e => by cases congrArg Obj.data e
    · rw [List.mem_singleton.mp hq]
      exact ne_of_obj N9 (List.Mem.head _) (by k_mem) fun e => by cases congrArg Obj.data e
  · decide
  · decide
  intro r led h2 tk2 F2 N2 ap2 K2 new2 hO
  obtain ⟨lr, rs, kr, objs, x, rfl, rfl, hRo, hTx⟩ := hO
  clear N9 F9
  k_steps
  rename Fr _ _ _ _ => F9
  rename News _ _ _ _ => N9
  refine ConH.use (c_walked _ _ _ hI9 (rb _).1 (rb _).2) (mine := (lr, listOf rs.toArray kr) :: (objs ++ x)) (tabs := []) ⟨_, (N9 _ (List.mem_append_right _ (List.Mem.head _))).1⟩ B9 F9 ⟨X9, T9, by assumption, by assumption⟩ N9 (fun _ h => nomatch h) rfl (fun p hp => List.mem_append_left _ hp) (fun _ _ _ h => nomatch h) rfl ?_ ?_ ?_
  · decide
  · decide
  intro r led h3 tk3 F3 N3 ap3 K3 new3 hO
  obtain ⟨lr2, rs2, kr2, objs2, rfl, rfl, hRo2⟩ := hO
  clear N9 F9
  obtain ⟨as1, ra1⟩ := rounds_read (news_sub N3 fun p hp => List.mem_append_right _ (List.Mem.tail _ (List.mem_append_left _ hp))) hRo
  obtain ⟨as2, ra2⟩ := rounds_read (news_sub N3 fun p hp => List.mem_append_left _ (List.Mem.tail _ hp)) hRo2
  have hGA := tt_grown hTx (news_sub N3 fun p hp => List.mem_append_right _ (List.Mem.tail _ (List.mem_append_right _ hp)))
  refine eq_dataH (reads_list_at (N3 _ (List.mem_append_right _ (List.Mem.head _))).1 rfl rfl ra1) (reads_list_at (N3 _ (List.mem_append_left _ (List.Mem.head _))).1 rfl rfl ra2) (enc_shaped _) (enc_shaped _) (by ke_room) ?_
  rw [SeqAt.eqv_refl _ (SeqAt.canLay_of_shaped (enc_shaped _))]
  refine ⟨?_, hGA⟩
  k_steps)
end
end Mine
theorem PySem.Challenge.cw_mr0205_01_holds : PySem.Challenge.rw_mr0205_01.Holds :=
  Mine.main
