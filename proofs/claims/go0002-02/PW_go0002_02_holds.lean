import PyProof.Rows.All
import Wide.All
import OpenK.AllK
import Wide.FinOn
import PyProof.TupleKey
import KE.KSortTup
import PyProof.DictRoadsH
import KE.KDictSum
import PySem.Challenge.RW_go0002_02
open PySem PySem.W PySem.Spec PySem.Calls PyProof.Rows
set_option Elab.async false
-- part KH1
namespace Mine
set_option Elab.async false
set_option maxRecDepth 100000
set_option maxHeartbeats 8000000
open_top hd for PySem.Challenge.rw_go0002_02
end Mine
-- part KBase1
namespace Mine
set_option Elab.async false
set_option maxRecDepth 100000
set_option maxHeartbeats 8000000
theorem fill_now : (hd.heap_39, PySem.Challenge.rw_go0002_02) = (hd.heap_39, PySem.Challenge.rw_go0002_02) := by
  k_fill
  rfl
def Apart (as : List Addr) (news : List (Addr × Obj)) : Prop := ∀ b ∈ as, ∀ p ∈ news, p.1 ≠ b
def Tail (L : Addr) (news : List (Addr × Obj)) : Prop := ∀ p ∈ news, p.1 < L
theorem Tail.ne {e d : Addr} {news : List (Addr × Obj)} (h : Tail e news) (hle : @LE.le Nat _ e d) : ∀ p ∈ news, p.1 ≠ d := fun p hp e2 => by
  have h1 := h p hp
  rw [e2] at h1
  exact absurd (Nat.lt_of_lt_of_le h1 hle) (Nat.lt_irrefl _)
/-- what a call needs and gives -/
def Spec (w : World) (f : Addr) (vs : List Value) (dd uu : Nat) (pre : List (Addr × Obj)) (post : Value → List (Addr × Obj) → Prop) : Prop :=
  ∀ (prog p : Program) (loose : List Str) (mean : ExcName → Option Value) (mg mb : Str → Option Value) (dp un : Nat) (gd : Option (List Code)) (cn : Str) (cs : Scope) (a : Addr) (ccd : Value) (cl : List (Str × Addr)) (outer : List Env) (A₀ : Around) (base h₀ : Heap) (L : Addr) (m : Str → Option Value)
    (news : List (Addr × Obj)) (s : Shared) (Q E : Value → Shared → Prop),
    Below A₀ base outer h₀ → Fr h₀ L s.heap m → (hd.heap_39 w.params).In h₀ → News h₀ L s.heap (pre ++ news) → (pre.map (·.1)).Nodup → Apart (pre.map (·.1)) news → Top p loose mean mg mb h₀ → cs.kind = .function → dp + dd < recursionLimit → un + uu < cLine →
    (∀ r post' h' tk', Fr h₀ L h' m → News h₀ L h' (post' ++ news) → (post'.map (·.1)).Nodup → (∀ q ∈ post', q.1 ∈ pre.map (·.1) ∨ ∀ p ∈ news, p.1 < q.1) → post r post' → Q r { s with heap := h', toks := tk' }) →
    wpAny (model prog w) (ktrTop dp un gd cn cs L a ccd cl outer) (call (.ref f) vs) Q E s
/-- a goal set aside -/
def Hold (P : Prop) : Prop := P
theorem Hold.on {P : Prop} (h : Hold P) : P := h
theorem Hold.off {P : Prop} (h : P) : Hold P := h
inductive TabSt (P : Addr) (ln col : Int) (q : Str) : List (Addr × Obj) → Prop
  | cold : TabSt P ln col q [(P, tabObj #[])]
  | warm (c : Addr) (oc : Obj) (vs : Array Value) (t : Tok) : oc.data = .fields vs → vs[1]? = some (.str q t) → TabSt P ln col q [(P, tabObj #[rawInt ln, rawInt col, .ref c]), (c, oc)]
section
variable {prog : Program} {w : World} {A A₀ : Around} {s : Shared} {K : Frag} {L : Addr} {h₀ base : Heap} {m mg mb : Str → Option Value} {news : List (Addr × Obj)} {p : Program} {loose : List Str} {mean : ExcName → Option Value}
theorem code_defL {env : Env} {outer : List Env} {R : Result → Shared → Prop} {name qual : Str} {params : Arguments} {body : List Stmt} {scope : Scope} {dV kV doc pm cdv ct oc : Value} {an od : Option Addr} {osl : Array (Option Value)} {f : Addr} {args : Args} {binds : List (Str × Value)}
    (B : Below A₀ base outer h₀) (F : Fr h₀ L s.heap m) (X₀ : K.In h₀) (N : News h₀ L s.heap news) (T : Top p loose mean mg mb h₀) (hA : A.frames = some (env :: outer)) (hf : env.frame = some L) (hke : env.scope.kind = .function)
    (ho : K.lookup f = some ⟨oc, od, .func (fnOf name qual params body scope dV kV doc pm an cdv ct), osl⟩) (hcd : codeIn K cdv qual = true) (hroom : A.depth < recursionLimit)
    (hbind : BindsTo s (fnOf name qual params body scope dV kV doc pm an cdv ct) args binds) (hloc : ∀ y ∈ binds, scope.names.lookup y.1 = some .local)
    (h : ∀ g L' h₁, Fr h₀ L g m → Fr g L' h₁ (fun y => binds.reverse.lookup y) → News g L' h₁ news → Below A base (env :: outer) g → K.In g → Top p loose mean mg mb g → Tail L' news →
      wpAny (model prog w) (A.deeper (envOf qual scope L' f cdv)) (execs body (envOf qual scope L' f cdv))
        (fun fl s' => LeaveK h₀ L m g R (match fl with | .ret v => v | _ => .none) s')
        (fun e s' => wpAny (model prog w) (A.deeper (envOf qual scope L' f cdv)) (leaving (envOf qual scope L' f cdv) e) (fun _ s'' => R (.error e) s'') (fun e' s'' => R (.error e') s'') s')
        { s with heap := h₁, toks := s.toks + binds.length })
    (hco : scope.isCoroutine = false) (hgen : scope.isGenerator = false) (hk : scope.kind = .function)
    (hcell : ∀ x ∈ scope.names, x.2 ≠ .cell) : codeAny (model prog w) A (.call (.ref f) args) R s :=
  callX_plain (cl := []) B F N T.nolimit hA hf hke ((X₀.keeps F.keep) _ _ ho) rfl (codeRec_of (X₀.keeps F.keep) hcd) hroom hbind hloc (fun g L' h₁ FG F' N' B' st l => h g L' h₁ FG F' N' B' (X₀.keeps st) (T.keeps st) l) hcell hco hgen hk
theorem code_nestL {env : Env} {outer : List Env} {R : Result → Shared → Prop} {name qual : Str} {params : Arguments} {body : List Stmt} {scope : Scope} {cl : List (Str × Addr)} {doc pm ctv : Value} {c' : Addr} {f : Addr} {args : Args} {binds : List (Str × Value)}
    (B : Below A₀ base outer h₀) (F : Fr h₀ L s.heap m) (X₀ : K.In h₀) (N : News h₀ L s.heap news) (T : Top p loose mean mg mb h₀) (hA : A.frames = some (env :: outer)) (hf : env.frame = some L) (hke : env.scope.kind = .function)
    (ho : (f, fnMade name qual params body scope cl doc pm c' ctv) ∈ news) (hcd : s.heap.CodeRec (.ref c') qual) (hroom : A.depth < recursionLimit)
    (hbind : BindsTo s (fnX name qual params body scope cl .none .none doc pm none (.ref c') ctv) args binds) (hloc : ∀ y ∈ binds, scope.names.lookup y.1 = some .local)
    (h : ∀ g L' h₁, Fr h₀ L g m → Fr g L' h₁ (fun y => binds.reverse.lookup y) → News g L' h₁ news → Below A base (env :: outer) g → K.In g → Top p loose mean mg mb g → Tail L' news →
      wpAny (model prog w) (A.deeper (envX qual scope L' f (.ref c') cl)) (execs body (envX qual scope L' f (.ref c') cl))
        (fun fl s' => LeaveK h₀ L m g R (match fl with | .ret v => v | _ => .none) s')
        (fun e s' => wpAny (model prog w) (A.deeper (envX qual scope L' f (.ref c') cl)) (leaving (envX qual scope L' f (.ref c') cl) e) (fun _ s'' => R (.error e) s'') (fun e' s'' => R (.error e') s'') s')
        { s with heap := h₁, toks := s.toks + binds.length })
    (hco : scope.isCoroutine = false) (hgen : scope.isGenerator = false) (hk : scope.kind = .function)
    (hcell : ∀ x ∈ scope.names, x.2 ≠ .cell) : codeAny (model prog w) A (.call (.ref f) args) R s :=
  callX_plain (cl := cl) B F N T.nolimit hA hf hke (N _ ho).1 rfl hcd hroom hbind hloc (fun g L' h₁ FG F' N' B' st l => h g L' h₁ FG F' N' B' (X₀.keeps st) (T.keeps st) l) hcell hco hgen hk
theorem mul_one_K {prog : Program} {w : World} {A : Around} {E : Value → Shared → Prop} {s : Shared} {h₀ : Heap} {L : Addr} {m : Str → Option Value} {news : List (Addr × Obj)} {l : Addr} {v : Value} {k : Nat} {x : Int} {u : Tok} {Q : Value → Shared → Prop}
    (F : Fr h₀ L s.heap m) (N : News h₀ L s.heap news) (hm : (l, W.listOf #[v] k) ∈ news) (h0 : 0 ≤ x) (hhi : x ≤ 1000)
    (h : ∀ r h', Fr h₀ L h' m → News h₀ L h' ((r, W.listOf (List.replicate x.toNat v).toArray 0) :: news) → (∀ p ∈ news, p.1 < r) → Q (.ref r) { s with heap := h' }) :
    wpAny (model prog w) A (binaryOp .Mult (.ref l) (.int x u)) Q E s := by
  refine mul_list F N (N.get hm) (by omega) (by omega) (by simp; omega) ?_
  intro h4 F4 N4
  have eL : (List.foldl (fun x1 x2 => x1 ++ x2) (#[] : Array Value) (List.replicate (if (#[v] : Array Value).isEmpty = true then 0 else x.toNat) #[v])) = (List.replicate x.toNat v).toArray := by
    rw [listMul_foldl]
    simp
  rw [eL] at N4
  exact h _ _ F4 N4 fun p hp => Heap.lt_size (N p hp).1
end
end Mine
-- part KD1
namespace Mine
set_option maxRecDepth 100000
set_option maxHeartbeats 8000000
def nth : List Stmt → Nat → Stmt
  | [], _ => .Pass ⟨0, 0, 0, 0⟩
  | s :: _, 0 => s
  | _ :: r, n + 1 => nth r n
def bodyOf : Stmt → List Stmt
  | .FunctionDef _ _ b _ _ _ _ _ _ _ => b
  | _ => []
def argsOf : Stmt → Arguments
  | .FunctionDef _ a _ _ _ _ _ _ _ _ => a
  | _ => default
def scopeOf : Stmt → Scope
  | .FunctionDef _ _ _ _ _ _ s _ _ _ => s
  | _ => default
noncomputable def inBody : { b : List Stmt // b = bodyOf (nth (bodyOf (nth PySem.Challenge.pw_go0002_02.main.body 7)) 1) } := by
  refine ⟨?b, ?h⟩
  rotate_left
  (conv => rhs; whnf)
noncomputable def inArgs : { b : Arguments // b = argsOf (nth (bodyOf (nth PySem.Challenge.pw_go0002_02.main.body 7)) 1) } := by
  refine ⟨?b, ?h⟩
  rotate_left
  (conv => rhs; whnf)
noncomputable def inScope : { b : Scope // b = scopeOf (nth (bodyOf (nth PySem.Challenge.pw_go0002_02.main.body 7)) 1) } := by
  refine ⟨?b, ?h⟩
  rotate_left
  (conv => rhs; whnf)


noncomputable def jnBody : { b : List Stmt // b = bodyOf (nth (bodyOf (nth PySem.Challenge.pw_go0002_02.main.body 8)) 0) } := by
  refine ⟨?b, ?h⟩
  rotate_left
  (conv => rhs; whnf)
noncomputable def jnArgs : { b : Arguments // b = argsOf (nth (bodyOf (nth PySem.Challenge.pw_go0002_02.main.body 8)) 0) } := by
  refine ⟨?b, ?h⟩
  rotate_left
  (conv => rhs; whnf)
noncomputable def jnScope : { b : Scope // b = scopeOf (nth (bodyOf (nth PySem.Challenge.pw_go0002_02.main.body 8)) 0) } := by
  refine ⟨?b, ?h⟩
  rotate_left
  (conv => rhs; whnf)
end Mine
-- part LD
namespace Mine
set_option maxRecDepth 100000
set_option maxHeartbeats 8000000
noncomputable def st2 : { b : Stmt // b = nth (bodyOf (nth PySem.Challenge.pw_go0002_02.main.body 14)) 2 } := by
  refine ⟨?b, ?h⟩
  rotate_left
  (conv => rhs; whnf)
noncomputable def st3 : { b : Stmt // b = nth (bodyOf (nth PySem.Challenge.pw_go0002_02.main.body 14)) 3 } := by
  refine ⟨?b, ?h⟩
  rotate_left
  (conv => rhs; whnf)
noncomputable def st4 : { b : Stmt // b = nth (bodyOf (nth PySem.Challenge.pw_go0002_02.main.body 14)) 4 } := by
  refine ⟨?b, ?h⟩
  rotate_left
  (conv => rhs; whnf)
noncomputable def st5 : { b : Stmt // b = nth (bodyOf (nth PySem.Challenge.pw_go0002_02.main.body 14)) 5 } := by
  refine ⟨?b, ?h⟩
  rotate_left
  (conv => rhs; whnf)
noncomputable def st6 : { b : Stmt // b = nth (bodyOf (nth PySem.Challenge.pw_go0002_02.main.body 14)) 6 } := by
  refine ⟨?b, ?h⟩
  rotate_left
  (conv => rhs; whnf)
noncomputable def st7 : { b : Stmt // b = nth (bodyOf (nth PySem.Challenge.pw_go0002_02.main.body 14)) 7 } := by
  refine ⟨?b, ?h⟩
  rotate_left
  (conv => rhs; whnf)
noncomputable def st8 : { b : Stmt // b = nth (bodyOf (nth PySem.Challenge.pw_go0002_02.main.body 14)) 8 } := by
  refine ⟨?b, ?h⟩
  rotate_left
  (conv => rhs; whnf)
noncomputable def lawScope : { b : Scope // b = scopeOf (nth PySem.Challenge.pw_go0002_02.main.body 14) } := by
  refine ⟨?b, ?h⟩
  rotate_left
  (conv => rhs; whnf)
noncomputable abbrev lawEnv (L fa : Addr) (ccd : Value) : Env := envOfC (Str.ofString "law") lawScope.1 L fa ccd
noncomputable abbrev lawA (dp un : Nat) (gd : Option (List Code)) (L fa : Addr) (ccd : Value) (outer : List Env) : Around := ktrTop dp un gd (Str.ofString "law") lawScope.1 L fa ccd (cellsFrom (L + 1) lawScope.1.names []) outer
end Mine
-- part KM1
namespace Mine
theorem land_high (x S : Nat) : x &&& (x / 2 ^ S * 2 ^ S) = x / 2 ^ S * 2 ^ S := by
  rw [← Nat.shiftRight_eq_div_pow, ← Nat.shiftLeft_eq]
  apply Nat.eq_of_testBit_eq
  intro i
  rw [Nat.testBit_and, Nat.testBit_shiftLeft, Nat.testBit_shiftRight]
  by_cases h : S ≤ i
  · simp [h]
  · simp [h]
theorem xor_low (x : Int) (S : Nat) (hx : 0 ≤ x) : Builtin.bitXor x (x.fdiv (2 ^ ((S : Int)).toNat) * 2 ^ ((S : Int)).toNat) = x % 2 ^ S := by
  obtain ⟨n, rfl⟩ := Int.eq_ofNat_of_zero_le hx
  rw [Int.fdiv_eq_ediv_of_nonneg _ (by exact Int.le_of_lt (Int.pow_pos (by decide))), bitXor_and, Int.toNat_natCast]
  have e : ((n : Int) / 2 ^ S * 2 ^ S) = ((n / 2 ^ S * 2 ^ S : Nat) : Int) := by
    simp [Int.natCast_mul, Int.natCast_ediv, Int.natCast_pow]
  rw [e]
  have h2 : Builtin.bitAnd (n : Int) ((n / 2 ^ S * 2 ^ S : Nat) : Int) = ((n / 2 ^ S * 2 ^ S : Nat) : Int) := by
    unfold Builtin.bitAnd
    rw [decide_eq_true (show (0 : Int) ≤ (n : Int) by omega), decide_eq_true (show (0 : Int) ≤ ((n / 2 ^ S * 2 ^ S : Nat) : Int) by omega)]
    show (((n : Int).toNat &&& ((n / 2 ^ S * 2 ^ S : Nat) : Int).toNat : Nat) : Int) = _
    rw [Int.toNat_natCast, Int.toNat_natCast, land_high]
  rw [h2]
  have h3 : ((n : Int) % 2 ^ S) = ((n % 2 ^ S : Nat) : Int) := by simp [Int.natCast_emod, Int.natCast_pow]
  rw [h3]
  have h4 := Nat.div_add_mod n (2 ^ S)
  rw [Nat.mul_comm] at h4
  omega
theorem up_eq (x : Int) (S : Nat) : x.fdiv (2 ^ ((S : Int)).toNat) = x / 2 ^ S := by
  rw [Int.fdiv_eq_ediv_of_nonneg _ (by exact Int.le_of_lt (Int.pow_pos (by decide))), Int.toNat_natCast]
theorem Spec.use {w : World} {f : Addr} {vs : List Value} {dd uu : Nat} {pre : List (Addr × Obj)} {post : Value → List (Addr × Obj) → Prop} (S : Spec w f vs dd uu pre post)
    {prog p : Program} {loose : List Str} {mean : ExcName → Option Value} {mg mb : Str → Option Value} {dp un : Nat} {gd : Option (List Code)} {cn : Str} {cs : Scope} {a : Addr} {ccd : Value} {cl : List (Str × Addr)} {outer : List Env} {A₀ : Around} {base h₀ : Heap} {L : Addr} {m : Str → Option Value}
    {nl : List (Addr × Obj)} (news : List (Addr × Obj)) {s : Shared} {Q E : Value → Shared → Prop}
    (B : Below A₀ base outer h₀) (F : Fr h₀ L s.heap m) (X : (hd.heap_39 w.params).In h₀) (N : News h₀ L s.heap nl) (hs : ∀ q ∈ pre ++ news, q ∈ nl) (hn : (pre.map (·.1)).Nodup) (ha : Apart (pre.map (·.1)) news) (T : Top p loose mean mg mb h₀) (hk : cs.kind = .function) (hd1 : dp + dd < recursionLimit) (hu : un + uu < cLine)
    (ret : ∀ r post' h' tk', Fr h₀ L h' m → News h₀ L h' (post' ++ news) → (post'.map (·.1)).Nodup → (∀ q ∈ post', q.1 ∈ pre.map (·.1) ∨ ∀ p ∈ news, p.1 < q.1) → post r post' → Q r { s with heap := h', toks := tk' }) :
    wpAny (model prog w) (ktrTop dp un gd cn cs L a ccd cl outer) (call (.ref f) vs) Q E s :=
  S prog p loose mean mg mb dp un gd cn cs a ccd cl outer A₀ base h₀ L m news s Q E B F X (fun q hq => N q (hs q hq)) hn ha T hk hd1 hu ret
def digs (n : Nat) (k : Nat) (x : Int) : List Int := if _h : k ≤ 1 then [x] else digs n (k / 2) (x % 2 ^ (k / 2 * n)) ++ digs n (k - k / 2) (x / 2 ^ (k / 2 * n))
termination_by k
decreasing_by all_goals omega
theorem digs_len (n : Nat) : ∀ (k : Nat) (x : Int), 1 ≤ k → (digs n k x).length = k := by
  intro k
  induction k using Nat.strongRecOn with
  | ind k ih =>
    intro x h1
    unfold digs
    by_cases h : k ≤ 1
    · rw [dif_pos h]; simp; omega
    · rw [dif_neg h, List.length_append, ih _ (by omega) _ (by omega), ih _ (by omega) _ (by omega)]; omega
theorem splice {α : Type} (ns a b : List α) (lo j k : Nat) (ha : a.length = j) (hjk : j ≤ k) (hk : lo + k ≤ ns.length) :
    (ns.take lo ++ a ++ ns.drop (lo + j)).take (lo + j) ++ b ++ (ns.take lo ++ a ++ ns.drop (lo + j)).drop (lo + k) = ns.take lo ++ (a ++ b) ++ ns.drop (lo + k) := by
  have hl : (ns.take lo ++ a).length = lo + j := by rw [List.length_append, List.length_take, ha]; omega
  rw [List.take_left' hl, List.drop_append, hl, List.drop_of_length_le (by omega), List.nil_append, List.drop_drop]
  rw [show lo + j + (lo + k - (lo + j)) = lo + k by omega]
  simp [List.append_assoc]
theorem emod_le_self {x b : Int} (hx : 0 ≤ x) (hb : 0 < b) : x % b ≤ x := by
  have h1 := Int.mul_ediv_add_emod x b
  have h2 : 0 ≤ b * (x / b) := Int.mul_nonneg (Int.le_of_lt hb) (Int.ediv_nonneg hx (Int.le_of_lt hb))
  omega
theorem ints_set {vs : List Value} {ns : List Int} (h : IntsAre vs ns) (i : Nat) (hi : i < ns.length) (x : Int) (t : Tok) : IntsAre (vs.set i (.int x t)) (ns.take i ++ [x] ++ ns.drop (i + 1)) := by
  rw [List.set_eq_take_append_cons_drop, if_pos (by rw [h.length]; exact hi), List.append_assoc]
  exact IntsAre.append (h.take i) (.cons x t (h.drop (i + 1)))
theorem Apart.nil {news : List (Addr × Obj)} : Apart [] news := fun _ h => nomatch h
theorem Apart.cons {b : Addr} {as : List Addr} {news : List (Addr × Obj)} (h : ∀ p ∈ news, p.1 ≠ b) (t : Apart as news) : Apart (b :: as) news := fun c hc => by
  rcases List.mem_cons.mp hc with rfl | hc
  · exact h
  · exact t c hc
theorem nd_nil : ([] : List Addr).Nodup := .nil
theorem nd_cons {b : Addr} {as : List Addr} (h : ∀ c ∈ as, c ≠ b) (t : as.Nodup) : (b :: as).Nodup := List.nodup_cons.mpr ⟨fun hm => h b hm rfl, t⟩
theorem all_nil {P : Addr → Prop} : ∀ c ∈ ([] : List Addr), P c := fun _ h => nomatch h
theorem all_cons {P : Addr → Prop} {b : Addr} {as : List Addr} (h : P b) (t : ∀ c ∈ as, P c) : ∀ c ∈ b :: as, P c := fun c hc => by
  rcases List.mem_cons.mp hc with rfl | hc
  · exact h
  · exact t c hc
theorem sub_cons {q : Addr × Obj} {l nl : List (Addr × Obj)} (h : q ∈ nl) (t : ∀ p ∈ l, p ∈ nl) : ∀ p ∈ q :: l, p ∈ nl := List.forall_mem_cons.mpr ⟨h, t⟩
theorem sub_self {l : List (Addr × Obj)} : ∀ p ∈ l, p ∈ l := fun _ h => h
theorem sub_tail {q : Addr × Obj} {l nl : List (Addr × Obj)} (t : ∀ p ∈ l, p ∈ nl) : ∀ p ∈ l, p ∈ q :: nl := fun p hp => .tail _ (t p hp)
theorem sub_nil {nl : List (Addr × Obj)} : ∀ p ∈ ([] : List (Addr × Obj)), p ∈ nl := fun _ h => nomatch h
/-- where the ledger's new part lies -/
def Over (pre news post : List (Addr × Obj)) : Prop := ∀ q ∈ post, q.1 ∈ pre.map (·.1) ∨ ∀ p ∈ news, p.1 < q.1
theorem Over.nil {pre news : List (Addr × Obj)} : Over pre news [] := fun _ h => nomatch h
theorem Over.old {pre news post : List (Addr × Obj)} {b : Addr} {o : Obj} (h : b ∈ pre.map (·.1)) (t : Over pre news post) : Over pre news ((b, o) :: post) := fun q hq => by
  rcases List.mem_cons.mp hq with rfl | hq
  · exact .inl h
  · exact t q hq
theorem Over.new {pre news post : List (Addr × Obj)} {b : Addr} {o : Obj} (h : ∀ p ∈ news, p.1 < b) (t : Over pre news post) : Over pre news ((b, o) :: post) := fun q hq => by
  rcases List.mem_cons.mp hq with rfl | hq
  · exact .inr h
  · exact t q hq
theorem Tail.lt {e d : Addr} {news : List (Addr × Obj)} (h : Tail e news) (hle : @LE.le Nat _ e d) : ∀ p ∈ news, p.1 < d := fun p hp => Nat.lt_of_lt_of_le (h p hp) hle
theorem ltA {a b : Nat} (h : a < b) : @LT.lt Addr _ a b := h
def nd (x : Int) (n : Nat) : Nat := (Builtin.Int.intBits x + n - 1) / n
theorem nd_eq (x : Int) (n : Nat) (hn : 1 ≤ n) : ((Builtin.Int.intBits x : Int) + (n : Int) - 1).fdiv (n : Int) = (nd x n : Int) := by
  rw [Int.fdiv_eq_ediv_of_nonneg _ (by omega)]
  unfold nd
  rw [show (Builtin.Int.intBits x : Int) + (n : Int) - 1 = ((Builtin.Int.intBits x + n - 1 : Nat) : Int) by omega]
  exact (Int.natCast_ediv _ _).symm
theorem nd_zero (n : Nat) (hn : 1 ≤ n) : nd 0 n = 0 := by
  have : Builtin.Int.intBits 0 = 0 := by decide
  unfold nd
  rw [this]
  exact Nat.div_eq_of_lt (by omega)
theorem bits_pos {x : Int} (h : x ≠ 0) : 1 ≤ Builtin.Int.intBits x := by
  unfold Builtin.Int.intBits
  split
  · rename_i hx
    exact absurd (by simpa using hx) h
  · omega
theorem nd_pos {x : Int} {n : Nat} (h : x ≠ 0) (hn : 1 ≤ n) : 1 ≤ nd x n := by
  have := bits_pos h
  unfold nd
  exact (Nat.le_div_iff_mul_le (by omega)).mpr (by omega)
theorem nd_mul (x : Int) (n : Nat) (hx : Builtin.Int.intBits x ≤ 64) (hn : n ≤ 64) : nd x n * n ≤ 128 := by
  unfold nd
  exact Nat.le_trans (Nat.div_mul_le_self _ _) (by omega)
theorem nd_le (x : Int) (n : Nat) (hx : Builtin.Int.intBits x ≤ 64) (hn1 : 1 ≤ n) (hn : n ≤ 64) : nd x n ≤ 128 := by
  have := nd_mul x n hx hn
  have : nd x n ≤ nd x n * n := Nat.le_mul_of_pos_right _ (by omega)
  omega
theorem ints_rep (k : Nat) (x : Int) (t : Tok) : IntsAre (List.replicate k (.int x t)) (List.replicate k x) := by
  induction k with
  | zero => exact .nil
  | succ k ih => exact .cons x t ih
def undig (n : Nat) (ns : List Int) (k lo : Nat) : Int := if _h : k ≤ 1 then ns.getD lo 0 else undig n ns (k - k / 2) (lo + k / 2) * 2 ^ (k / 2 * n) + undig n ns (k / 2) lo
termination_by k
decreasing_by all_goals omega
theorem pow_split (n j k : Nat) (h : j ≤ k) : (2 : Int) ^ (k * n) = 2 ^ ((k - j) * n) * 2 ^ (j * n) := by
  rw [← Int.pow_add, ← Nat.add_mul, Nat.sub_add_cancel h]
theorem undig_bound (n : Nat) (ns : List Int) (hd : ∀ d ∈ ns, 0 ≤ d ∧ d < 2 ^ n) : ∀ (k lo : Nat), 1 ≤ k → 0 ≤ undig n ns k lo ∧ undig n ns k lo < 2 ^ (k * n) := by
  intro k
  induction k using Nat.strongRecOn with
  | ind k ih =>
    intro lo h1
    unfold undig
    by_cases h : k ≤ 1
    · rw [dif_pos h]
      have hk : k = 1 := by omega
      subst hk
      have hp : (0 : Int) < 2 ^ n := Int.pow_pos (by decide)
      rw [List.getD_eq_getElem?_getD, Nat.one_mul]
      cases hq : ns[lo]? with
      | none => exact ⟨Int.le_refl _, hp⟩
      | some d => exact hd d (List.mem_of_getElem? hq)
    · rw [dif_neg h]
      obtain ⟨a1, a2⟩ := ih (k - k / 2) (by omega) (lo + k / 2) (by omega)
      obtain ⟨b1, b2⟩ := ih (k / 2) (by omega) lo (by omega)
      rw [pow_split n (k / 2) k (by omega)]
      have hp : (0 : Int) < 2 ^ (k / 2 * n) := Int.pow_pos (by decide)
      generalize undig n ns (k - k / 2) (lo + k / 2) = A at *
      generalize undig n ns (k / 2) lo = B at *
      generalize (2 : Int) ^ (k / 2 * n) = P at *
      generalize (2 : Int) ^ ((k - k / 2) * n) = R at *
      have h3 : 0 ≤ A * P := Int.mul_nonneg a1 (Int.le_of_lt hp)
      have h4 : (A + 1) * P ≤ R * P := Int.mul_le_mul_of_nonneg_right (by omega) (Int.le_of_lt hp)
      rw [Int.add_mul, Int.one_mul] at h4
      exact ⟨by omega, by omega⟩
theorem two_pow_le {a b : Nat} (h : a ≤ b) : (2 : Int) ^ a ≤ 2 ^ b := by
  have h1 : (2 : Nat) ^ a ≤ 2 ^ b := Nat.pow_le_pow_right (by decide) h
  have h2 := Int.ofNat_le.mpr h1
  rw [Int.natCast_pow, Int.natCast_pow] at h2
  exact h2
theorem bits_le_of {x : Int} {m : Nat} (h0 : 0 ≤ x) (h : x < 2 ^ m) : Builtin.Int.intBits x ≤ m := by
  unfold Builtin.Int.intBits
  split
  · exact Nat.zero_le _
  · rename_i hx
    have hx' : x ≠ 0 := by simpa using hx
    have : x.natAbs < 2 ^ m := by
      have e : ((x.natAbs : Nat) : Int) = x := Int.natAbs_of_nonneg h0
      have h2 : ((x.natAbs : Nat) : Int) < ((2 ^ m : Nat) : Int) := by
        rw [e, Int.natCast_pow]; exact h
      exact Int.ofNat_lt.mp h2
    have := (Nat.log2_lt (by omega)).mpr this
    omega
abbrev tup2 (x y : Int) (t1 t2 : Tok) : Obj := { cls := .type "tuple", data := .seq #[.int x t1, .int y t2] }
theorem divmod_K {prog : Program} {w : World} {A : Around} {E : Value → Shared → Prop} {s : Shared} {a b : Int} {t u : Tok} {Q : Value → Shared → Prop} {h₀ : Heap} {L : Addr} {m : Str → Option Value} {news : List (Addr × Obj)} (F : Fr h₀ L s.heap m) (N : News h₀ L s.heap news) (hb : 0 < b) (hb2 : b < 1073741824)
    (h : ∀ r t1 t2 h' tk, Fr h₀ L h' m → News h₀ L h' ((r, tup2 (a / b) (a % b) t1 t2) :: news) → (∀ p ∈ news, p.1 < r) → Q (.ref r) { s with toks := tk, heap := h' }) :
    wpAny (model prog w) A (call (.builtin "divmod") [.int a t, .int b u]) Q E s := by
  refine divmod_N F N (by omega) (fun h' F' N' => ?_) (Or.inl (PyProof.noPylong_small (by omega)))
  rw [Int.fdiv_eq_ediv_of_nonneg _ (by omega), Int.fmod_eq_emod_of_nonneg _ (by omega)] at N'
  exact h _ _ _ _ _ F' N' fun p hp => Heap.lt_size (N p hp).1
end Mine
-- part KM2
namespace Mine
def lev (B : Int) : List Int → Int
  | [] => 0
  | d :: r => d + B * lev B r
theorem lev_append (B : Int) : ∀ a b : List Int, lev B (a ++ b) = lev B a + B ^ a.length * lev B b
  | [], b => by simp [lev]
  | d :: r, b => by
    have ih := lev_append B r b
    show d + B * lev B (r ++ b) = d + B * lev B r + B ^ (r.length + 1) * lev B b
    rw [ih, Int.mul_add, Int.pow_succ, Int.mul_comm (B ^ r.length) B, Int.mul_assoc, Int.add_assoc]
theorem digs_val (n : Nat) : ∀ (k : Nat) (x : Int), 1 ≤ k → lev (2 ^ n) (digs n k x) = x := by
  intro k
  induction k using Nat.strongRecOn with
  | ind k ih =>
    intro x h1
    unfold digs
    by_cases h : k ≤ 1
    · rw [dif_pos h]; simp [lev]
    · rw [dif_neg h, lev_append, ih _ (by omega) _ (by omega), ih _ (by omega) _ (by omega), digs_len _ _ _ (by omega), ← Int.pow_mul, Nat.mul_comm n]
      have := Int.mul_ediv_add_emod x (2 ^ (k / 2 * n))
      omega
theorem digs_bound (n : Nat) : ∀ (k : Nat) (x : Int), 1 ≤ k → 0 ≤ x → x < 2 ^ (k * n) → ∀ d ∈ digs n k x, 0 ≤ d ∧ d < 2 ^ n := by
  intro k
  induction k using Nat.strongRecOn with
  | ind k ih =>
    intro x h1 h0 hx d hd
    unfold digs at hd
    by_cases h : k ≤ 1
    · rw [dif_pos h] at hd
      have hk : k = 1 := by omega
      subst hk
      rw [Nat.one_mul] at hx
      rw [List.mem_singleton.mp hd]
      exact ⟨h0, hx⟩
    · rw [dif_neg h] at hd
      have hp : (0 : Int) < 2 ^ (k / 2 * n) := Int.pow_pos (by decide)
      rcases List.mem_append.mp hd with hd | hd
      · exact ih _ (by omega) _ (by omega) (Int.emod_nonneg _ (by omega)) (Int.emod_lt_of_pos _ hp) d hd
      · refine ih _ (by omega) _ (by omega) (Int.ediv_nonneg h0 (by omega)) ?_ d hd
        rw [pow_split n (k / 2) k (by omega)] at hx
        exact Int.ediv_lt_of_lt_mul hp hx
theorem lev_split (B : Int) (l : List Int) (j : Nat) (h : j ≤ l.length) : lev B l = lev B (l.take j) + B ^ j * lev B (l.drop j) := by
  conv => lhs; rw [← List.take_append_drop j l]
  rw [lev_append, List.length_take, Nat.min_eq_left h]
theorem undig_val (n : Nat) (ns : List Int) : ∀ (k lo : Nat), 1 ≤ k → lo + k ≤ ns.length → undig n ns k lo = lev (2 ^ n) ((ns.drop lo).take k) := by
  intro k
  induction k using Nat.strongRecOn with
  | ind k ih =>
    intro lo h1 hl
    unfold undig
    by_cases h : k ≤ 1
    · rw [dif_pos h]
      have hk : k = 1 := by omega
      subst hk
      rw [List.getD_eq_getElem?_getD, List.getElem?_eq_getElem (by omega), List.drop_eq_getElem_cons (by omega), List.take_succ_cons, List.take_zero]
      show ns[lo] = ns[lo] + 2 ^ n * 0
      omega
    · rw [dif_neg h, ih _ (by omega) _ (by omega) (by omega), ih _ (by omega) _ (by omega) (by omega)]
      rw [lev_split (2 ^ n) ((ns.drop lo).take k) (k / 2) (by rw [List.length_take, List.length_drop]; omega)]
      rw [List.take_take, Nat.min_eq_left (by omega), List.drop_take, List.drop_drop, ← Int.pow_mul, Nat.mul_comm n, Int.mul_comm, Int.add_comm]
theorem undig_all (n : Nat) (ns : List Int) (h : ns ≠ []) : undig n ns ns.length 0 = lev (2 ^ n) ns := by
  rw [undig_val n ns ns.length 0 (by have := List.length_pos_iff.mpr h; omega) (by omega)]
  simp
theorem snocInd {α : Type} {P : List α → Prop} (h0 : P []) (hs : ∀ l d, P l → P (l ++ [d])) : ∀ l, P l := by
  have : ∀ l : List α, P l.reverse := by
    intro l
    induction l with
    | nil => exact h0
    | cons d r ih => rw [List.reverse_cons]; exact hs _ _ ih
  intro l
  rw [← List.reverse_reverse l]
  exact this _
def bev (B : Int) (l : List Int) : Int := l.foldl (fun a d => a * B + d) 0
theorem bev_snoc (B : Int) (l : List Int) (d : Int) : bev B (l ++ [d]) = bev B l * B + d := by simp [bev]
theorem bev_rev (B : Int) : ∀ l : List Int, bev B l.reverse = lev B l
  | [] => rfl
  | d :: r => by
    rw [List.reverse_cons, bev_snoc, bev_rev B r]
    show _ = d + B * lev B r
    rw [Int.mul_comm, Int.add_comm]
/-- long division: the rest and the quotient's digits, the first first -/
def ld (y B : Int) (ds : List Int) : Int × List Int := ds.foldl (fun p d => ((p.1 * B + d) % y, p.2 ++ [(p.1 * B + d) / y])) (0, [])
theorem ld_snoc (y B : Int) (ds : List Int) (d : Int) : ld y B (ds ++ [d]) = (((ld y B ds).1 * B + d) % y, (ld y B ds).2 ++ [((ld y B ds).1 * B + d) / y]) := by simp [ld]
theorem ld_len (y B : Int) (ds : List Int) : (ld y B ds).2.length = ds.length := by
  refine snocInd (P := fun ds => (ld y B ds).2.length = ds.length) rfl (fun l d ih => ?_) ds
  rw [ld_snoc]
  simp [ih]
theorem ld_ok (y B : Int) (hy : 0 < y) (hB : 0 < B) : ∀ ds : List Int, (∀ d ∈ ds, 0 ≤ d ∧ d < B) → 0 ≤ (ld y B ds).1 ∧ (ld y B ds).1 < y ∧ (∀ q ∈ (ld y B ds).2, 0 ≤ q ∧ q < B) ∧ bev B ds = bev B (ld y B ds).2 * y + (ld y B ds).1 := by
  refine snocInd (fun _ => ⟨Int.le_refl _, hy, (fun _ h => nomatch h), by simp [ld, bev]⟩) (fun l d ih h => ?_)
  · skip
    obtain ⟨a1, a2, a3, a4⟩ := ih fun x hx => h x (List.mem_append_left _ hx)
    obtain ⟨d1, d2⟩ := h d (by simp)
    rw [ld_snoc]
    generalize (ld y B l).1 = r at *
    have h0 : 0 ≤ r * B := Int.mul_nonneg a1 (Int.le_of_lt hB)
    have hlt : r * B + d < B * y := by
      have : (r + 1) * B ≤ y * B := Int.mul_le_mul_of_nonneg_right (by omega) (Int.le_of_lt hB)
      rw [Int.add_mul, Int.one_mul, Int.mul_comm y B] at this
      omega
    refine ⟨Int.emod_nonneg _ (by omega), Int.emod_lt_of_pos _ hy, ?_, ?_⟩
    · intro q hq
      rcases List.mem_append.mp hq with hq | hq
      · exact a3 q hq
      · rw [List.mem_singleton.mp hq]
        exact ⟨Int.ediv_nonneg (by omega) (Int.le_of_lt hy), Int.ediv_lt_of_lt_mul hy hlt⟩
    · rw [bev_snoc, bev_snoc, a4]
      have := Int.mul_ediv_add_emod (r * B + d) y
      rw [Int.add_mul, Int.add_mul, Int.mul_assoc, Int.mul_assoc, Int.mul_comm y B, Int.mul_comm ((r * B + d) / y) y]
      omega
theorem ld_div (y B x : Int) (hy : 0 < y) (hB : 0 < B) (ds : List Int) (hd : ∀ d ∈ ds, 0 ≤ d ∧ d < B) (hx : bev B ds = x) : bev B (ld y B ds).2 = x / y ∧ (ld y B ds).1 = x % y := by
  obtain ⟨a1, a2, _, a4⟩ := ld_ok y B hy hB ds hd
  rw [hx] at a4
  have h1 := (Int.ediv_emod_unique hy).mpr ⟨show (ld y B ds).1 + y * bev B (ld y B ds).2 = x by rw [a4, Int.mul_comm, Int.add_comm], a1, a2⟩
  exact ⟨h1.1.symm, h1.2.symm⟩
theorem nd_up {x : Int} {n : Nat} (hn : 1 ≤ n) : Builtin.Int.intBits x ≤ nd x n * n := by
  unfold nd
  generalize Builtin.Int.intBits x = b
  have h1 := Nat.div_add_mod (b + n - 1) n
  have h2 := Nat.mod_lt (b + n - 1) (show n > 0 by omega)
  rw [Nat.mul_comm] at h1
  omega
theorem lt_bits {x : Int} (h0 : 0 ≤ x) : x < 2 ^ Builtin.Int.intBits x := by
  unfold Builtin.Int.intBits
  split
  · rename_i h
    have : x = 0 := by simpa using h
    rw [this]; decide
  · have h1 : x.natAbs < 2 ^ (x.natAbs.log2 + 1) := Nat.lt_log2_self
    have e : ((x.natAbs : Nat) : Int) = x := Int.natAbs_of_nonneg h0
    have h2 := Int.ofNat_lt.mpr h1
    rw [e, Int.natCast_pow] at h2
    exact h2
theorem mul_bound {r y B d : Int} (h0 : 0 ≤ r) (h1 : r < y) (h2 : y < 1073741824) (h3 : 0 ≤ d) (h4 : d < B) (h5 : B ≤ 1073741824) : 0 ≤ r * B + d ∧ r * B + d < 2 ^ 64 := by
  have a1 : 0 ≤ r * B := Int.mul_nonneg h0 (by omega)
  have a2 : r * B ≤ r * 1073741824 := Int.mul_le_mul_of_nonneg_left h5 h0
  omega
theorem allLt_tail {d : Addr} {l : List (Addr × Obj)} (h : AllLt d l) : Tail d l := ktn_ltOf h
theorem canon3 (m : Str → Option Value) (a b c : Str) (va : Value) (ha : m a = some va) : m = fun z => if z = a then some va else if z = b then m b else if z = c then m c else m z := by
  funext z
  by_cases h1 : z = a
  · rw [if_pos h1, h1, ha]
  · rw [if_neg h1]
    by_cases h2 : z = b
    · rw [if_pos h2, h2]
    · rw [if_neg h2]
      by_cases h3 : z = c
      · rw [if_pos h3, h3]
      · rw [if_neg h3]
theorem recan3 (m : Str → Option Value) (a b c : Str) (v1 v2 v3 w1 w2 w3 : Option Value) : (fun z => if z = a then v1 else if z = b then v2 else if z = c then v3 else if z = a then w1 else if z = b then w2 else if z = c then w3 else m z) = fun z => if z = a then v1 else if z = b then v2 else if z = c then v3 else m z := by
  funext z
  by_cases h1 : z = a
  · simp [h1]
  · by_cases h2 : z = b
    · simp [h2]
    · by_cases h3 : z = c
      · simp [h3]
      · simp [h1, h2, h3]
theorem take_snoc {α : Type} {l : List α} {i : Nat} {d : α} (h : l[i]? = some d) : l.take (i + 1) = l.take i ++ [d] := by
  rw [List.take_add_one, h]; rfl
theorem newTuple_K {M : Model} {A : Around} {E : Value → Shared → Prop} {s : Shared} {L : Addr} {h₀ : Heap} {m : Str → Option Value} {news : List (Addr × Obj)} {vs : List Value} {Q : Value → Shared → Prop} (F : Fr h₀ L s.heap m) (N : News h₀ L s.heap news) (hsz : vs.length ≤ sizeLine)
    (h : ∀ r h', Fr h₀ L h' m → News h₀ L h' ((r, { cls := .type "tuple", data := .seq vs.toArray }) :: news) → (∀ p ∈ news, p.1 < r) → Q (.ref r) { s with heap := h' }) :
    wpAny M A (newTuple vs) Q E s := newTuple_N F N (fun h' F' N' => h _ h' F' N' fun p hp => Heap.lt_size (N p hp).1) hsz
theorem nd_mul2 (x : Int) (n m : Nat) (hx : Builtin.Int.intBits x ≤ m) : nd x n * n ≤ m + n - 1 := by
  unfold nd
  exact Nat.le_trans (Nat.div_mul_le_self _ _) (by omega)
theorem name_map {P : Prop} {h₀ h : Heap} {L : Addr} {m : Str → Option Value} (F : Fr h₀ L h m) (k : ∀ m₀, m₀ = m → Fr h₀ L h m₀ → P) : P := k m rfl F
end Mine
-- part KL1
namespace Mine
section
variable {prog : Program} {w : World} {A : Around} {E : Value → Shared → Prop} {s : Shared} {env : Env} {h₀ : Heap} {x : Str} {body : List Stmt} {Q : Flow → Shared → Prop}
abbrev InvTy := Nat → (Str → Option Value) → List (Addr × Obj) → Prop
theorem unr_mono {L I : Addr} {it : Obj} {s₁ : Shared} {P R : (Str → Option Value) → List (Addr × Obj) → Prop} (h : ∀ m n, P m n → R m n) {f : Flow} {s₂ : Shared} (u : UnrPost h₀ L s₁ I it P Q f s₂) : UnrPost h₀ L s₁ I it R Q f s₂ := by
  cases f with
  | ret v => exact u
  | brk => exact u
  | next => obtain ⟨h', tk, m', n', e, F, N, o, p⟩ := u; exact ⟨h', tk, m', n', e, F, N, o, h _ _ p⟩
  | cont => obtain ⟨h', tk, m', n', e, F, N, o, p⟩ := u; exact ⟨h', tk, m', n', e, F, N, o, h _ _ p⟩
/-- what a turn of a loop must show -/
def Turn (prog : Program) (w : World) (A : Around) (E : Value → Shared → Prop) (h₀ : Heap) (env : Env) (x : Str) (body : List Stmt) (Q : Flow → Shared → Prop) (s : Shared) (I : Addr) (it : Obj) (v : Value) (Inv : InvTy) (i : Nat) : Prop :=
  ∀ m nl h tk, Inv i m nl → Fr h₀ env.locals h (fun y => if y = x then some v else m y) → News h₀ env.locals h ((I, it) :: nl) →
    wpAny (model prog w) A (execs body env) (UnrPost h₀ env.locals { s with heap := h, toks := tk } I it (Inv (i + 1)) Q) E { s with heap := h, toks := tk }
def Done (h₀ : Heap) (env : Env) (Q : Flow → Shared → Prop) (s : Shared) (Inv : InvTy) (n : Nat) : Prop :=
  ∀ m nl h tk, Inv n m nl → Fr h₀ env.locals h m → News h₀ env.locals h nl → Q .next { s with heap := h, toks := tk }
theorem drop_cons {α : Type} {l r : List α} {v : α} {i : Nat} (e : l.drop i = v :: r) : l[i]? = some v ∧ l.drop (i + 1) = r := by
  constructor
  · have := congrArg (fun z => z[0]?) e
    simpa [List.getElem?_drop] using this
  · have := congrArg List.tail e
    simpa [List.tail_drop] using this
theorem list_rest {I : Addr} {lp : Addr × Obj} {vs : List Value} (Inv : InvTy) (hlp : ∀ i m nl, Inv i m nl → lp ∈ nl)
    (turn : ∀ i v (it : Obj), it.cls = .type "list_iterator" → vs[i]? = some v → Turn prog w A E h₀ env x body Q s I it v Inv i) (done : Done h₀ env Q s Inv vs.length) :
    ∀ (r : List Value) (i : Nat) (m : Str → Option Value) (nl : List (Addr × Obj)), vs.drop i = r → i ≤ vs.length → Inv i m nl → ListRest prog w A E h₀ env x body Q s I lp r m nl
  | [], i, m, nl, e, hi, h => by
    have : i = vs.length := by
      have := congrArg List.length e
      simp at this
      omega
    subst this
    exact .zero fun h' tk F N => done m nl h' tk h F N
  | v :: r, i, m, nl, e, hi, h => by
    obtain ⟨e1, e2⟩ := drop_cons e
    have hlt : i < vs.length := by
      rcases Nat.lt_or_ge i vs.length with q | q
      · exact q
      · rw [List.getElem?_eq_none q] at e1; cases e1
    exact .succ fun it h' tk hc F N => wpAny_mono (turn i v it hc e1 m nl h' tk h F N) (fun f s₂ u => unr_mono (fun m' n' p => ⟨hlp _ _ _ p, list_rest Inv hlp turn done r (i + 1) m' n' e2 hlt p⟩) u) fun _ _ q => q
theorem list_inv {ax : Addr} {lo : Obj} {vs : List Value} {n : Nat} {m₀ : Str → Option Value} {news : List (Addr × Obj)}
    (hh : A.handled = none) (F : Fr h₀ env.locals s.heap m₀) (N : News h₀ env.locals s.heap news) (hm : (ax, lo) ∈ news) (hc : lo.cls = .type "list") (hd : lo.data = .seq vs.toArray n)
    (Inv : Addr → InvTy) (h0 : ∀ I : Addr, (∀ p ∈ news, p.1 < I) → Inv I 0 m₀ news) (hlp : ∀ I i m nl, Inv I i m nl → (ax, lo) ∈ nl)
    (turn : ∀ I i v (it : Obj), it.cls = .type "list_iterator" → vs[i]? = some v → Turn prog w A E h₀ env x body Q s I it v (Inv I) i) (done : ∀ I, Done h₀ env Q s (Inv I) vs.length) :
    wpAny (model prog w) A (pyIter (.ref ax)) (fun it s₂ => LoopAtV prog w A h₀ env x body Q E it s₂) E s :=
  iter_listUnr hh F N hm hc hd fun I hI => list_rest (Inv I) (hlp I) (turn I) (done I) vs 0 m₀ news rfl (Nat.zero_le _) (h0 I hI)
theorem rev_rest {I : Addr} {lp : Addr × Obj} {vs : List Value} (Inv : InvTy) (hlp : ∀ i m nl, Inv i m nl → lp ∈ nl)
    (turn : ∀ i v (it : Obj), it.cls = .type "list_reverseiterator" → vs[i]? = some v → Turn prog w A E h₀ env x body Q s I it v Inv i) (done : Done h₀ env Q s Inv vs.length) :
    ∀ (r : List Value) (i : Nat) (m : Str → Option Value) (nl : List (Addr × Obj)), vs.drop i = r → i ≤ vs.length → Inv i m nl → RevRest prog w A E h₀ env x body Q s I lp r m nl
  | [], i, m, nl, e, hi, h => by
    have : i = vs.length := by
      have := congrArg List.length e
      simp at this
      omega
    subst this
    exact .zero fun h' tk F N => done m nl h' tk h F N
  | v :: r, i, m, nl, e, hi, h => by
    obtain ⟨e1, e2⟩ := drop_cons e
    have hlt : i < vs.length := by
      rcases Nat.lt_or_ge i vs.length with q | q
      · exact q
      · rw [List.getElem?_eq_none q] at e1; cases e1
    exact .succ fun it h' tk hc F N => wpAny_mono (turn i v it hc e1 m nl h' tk h F N) (fun f s₂ u => unr_mono (fun m' n' p => ⟨hlp _ _ _ p, rev_rest Inv hlp turn done r (i + 1) m' n' e2 hlt p⟩) u) fun _ _ q => q
theorem offI_of {I : Addr} {it : Obj} : ∀ {l : List (Addr × Obj)}, (∀ p ∈ l, p.1 ≠ I) → OffI I it l
  | [], _ => trivial
  | p :: _, h => ⟨.inl (h p (.head _)), offI_of fun q hq => h q (.tail _ hq)⟩
theorem rev_inv {ax I : Addr} {lo : Obj} {vs : List Value} {n : Nat} {m₀ : Str → Option Value} {news : List (Addr × Obj)}
    (hh : A.handled = none) (F : Fr h₀ env.locals s.heap m₀) (N : News h₀ env.locals s.heap ((I, revObj ax ((vs.length : Int) - 1)) :: news)) (hof : ∀ p ∈ news, p.1 ≠ I) (hm : (ax, lo) ∈ news) (hc : lo.cls = .type "list") (hd : lo.data = .seq vs.toArray n)
    (Inv : InvTy) (h0 : Inv 0 m₀ news) (hlp : ∀ i m nl, Inv i m nl → (ax, lo) ∈ nl)
    (turn : ∀ i v (it : Obj), it.cls = .type "list_reverseiterator" → vs.reverse[i]? = some v → Turn prog w A E h₀ env x body Q s I it v Inv i) (done : Done h₀ env Q s Inv vs.reverse.length) :
    wpAny (model prog w) A (pyIter (.ref I)) (fun it s₂ => LoopAtV prog w A h₀ env x body Q E it s₂) E s :=
  iter_revUnr hh F N (offI_of hof) hm hc hd (rev_rest Inv hlp turn done vs.reverse 0 m₀ news rfl (Nat.zero_le _) h0)
theorem range_rest {I : Addr} {a : Int} {n : Nat} (Inv : InvTy)
    (turn : ∀ i t, i < n → Turn prog w A E h₀ env x body Q s I (itR (a + ((i + 1 : Nat) : Int)) ((n : Int) - ((i + 1 : Nat) : Int))) (.int (a + (i : Int)) t) Inv i) (done : Done h₀ env Q s Inv n) :
    ∀ (k i : Nat) (m : Str → Option Value) (nl : List (Addr × Obj)), i + k = n → Inv i m nl → RangeRest prog w A E h₀ env x body Q s I a n k i m nl
  | 0, i, m, nl, e, h => by
    have : i = n := by omega
    subst this
    exact .zero fun h' tk F N => done m nl h' tk h F N
  | k + 1, i, m, nl, e, h => .succ fun t h' tk F N => wpAny_mono (turn i t (by omega) m nl h' tk h F N) (fun f s₂ u => unr_mono (fun m' n' p => range_rest Inv turn done k (i + 1) m' n' (by omega) p) u) fun _ _ q => q
theorem range_inv {r : Addr} {a₀ b₀ : Int} {t₀ u₀ v₀ : Tok} {n : Nat} {m₀ : Str → Option Value} {news : List (Addr × Obj)}
    (hh : A.handled = none) (hr : IsRange s.heap r a₀ b₀ 1 t₀ u₀ v₀) (hsmall : Builtin.Range.small a₀ b₀ 1 = true) (hn : Builtin.Range.rangeSize a₀ b₀ 1 = (n : Int)) (F : Fr h₀ env.locals s.heap m₀) (N : News h₀ env.locals s.heap news)
    (Inv : Addr → InvTy) (h0 : ∀ I : Addr, (∀ p ∈ news, p.1 < I) → Inv I 0 m₀ news)
    (turn : ∀ I i t, i < n → Turn prog w A E h₀ env x body Q s I (itR (a₀ + ((i + 1 : Nat) : Int)) ((n : Int) - ((i + 1 : Nat) : Int))) (.int (a₀ + (i : Int)) t) (Inv I) i) (done : ∀ I, Done h₀ env Q s (Inv I) n) :
    wpAny (model prog w) A (pyIter (.ref r)) (fun it s₂ => LoopAtV prog w A h₀ env x body Q E it s₂) E s :=
  iter_rangeUnr hh hr hsmall hn F N fun I hI => range_rest (Inv I) (turn I) (done I) n 0 m₀ news (by omega) (h0 I hI)
end
end Mine
-- part KI1
namespace Mine
set_option Elab.async false
set_option maxRecDepth 100000
set_option maxHeartbeats 8000000
theorem fill_now3 : (hd.heap_39, PySem.Challenge.rw_go0002_02) = (hd.heap_39, PySem.Challenge.rw_go0002_02) := by
  k_fill
  rfl
local macro_rules | `(tactic| walk_at "call ref") => `(tactic| (refine Hold.on ?_))
local macro_rules | `(tactic| k_all) => `(tactic| first | assumption | (refine' Tail.ne ?ta ?tb; (case ta => assumption); (case tb => (try dsimp only); omega)) | fail "k_all")
noncomputable abbrev inPre (f c ci ca cn l : Addr) (q : Str) (dc pmn ct : Value) (oc o1 o2 o3 : Obj) (vs : List Value) (z : Nat) : List (Addr × Obj) :=
  [(f, fnMade (Str.ofString "inner") q inArgs.1 inBody.1 inScope.1 [(Str.ofString "n", cn), (Str.ofString "inner", ci), (Str.ofString "a_digits", ca)] dc pmn c ct), (c, oc), (ci, o1), (ca, o2), (cn, o3), (l, W.listOf vs.toArray z)]
theorem inner1 (w : World) (n : Nat) (tn : Tok) (hn : 1 ≤ n) (f c ci ca cn l : Addr) (q : Str) (dc pmn ct : Value) (oc o1 o2 o3 : Obj) (cvs : Array Value) (ctk : Tok)
    (hoc : oc.data = .fields cvs) (hcv : cvs[1]? = some (.str q ctk)) (ho1 : o1.data = .cell (some (.ref f))) (ho2 : o2.data = .cell (some (.ref l))) (ho3 : o3.data = .cell (some (.int (n : Int) tn))) :
    ∀ (k : Nat), 1 ≤ k → k * n ≤ 128 → ∀ (x lo hi : Int) (tx tl tr : Tok) (vs : List Value) (ns : List Int) (z : Nat), 0 ≤ x → x < 1073741824 → 0 ≤ lo → hi = lo + k → hi ≤ ns.length → ns.length ≤ 128 → IntsAre vs ns →
      Spec w f [.int x tx, .int lo tl, .int hi tr] k (8 * k) (inPre f c ci ca cn l q dc pmn ct oc o1 o2 o3 vs z)
        (fun r post => r = .none ∧ ∃ vs' z', IntsAre vs' (ns.take lo.toNat ++ digs n k x ++ ns.drop hi.toNat) ∧ post = inPre f c ci ca cn l q dc pmn ct oc o1 o2 o3 vs' z') := by
  intro k
  induction k using Nat.strongRecOn with
  | ind k ih =>
    intro hk1 hkn x lo hi tx tl tr vs ns z hx hx2 hlo hhi hlen hlen2 hvs
    unfold Spec
    intro prog p loose mean mg mb dp un gd cn' cs a ccd cl outer A₀ base h₀ L m news s Q E B F X N hND hAp T hk hd1 hu1 hret
    simp only [inPre, inArgs, inBody, inScope, List.cons_append, List.nil_append] at N
    refine wpAny_call ?_
    k_dflt (refine' code_nestL ?k1 ?k2 ?k3 ?k4 ?k5 ?kA ?kF ?kK ?k6 ?k7 ?k8 ?k9 ?kB ?_ ?c2 ?c3 ?c4 ?c5; (case kA => exact rfl); (case kF => exact rfl); (case kK => assumption); (case k1 => k_asm); (case k2 => k_asm); (case k3 => k_asm); (case k4 => k_asm); (case k5 => k_asm); (case k6 => k_mem); (case k7 => exact codeRec_news (by k_asm) (by k_mem) (by assumption) (by assumption)); (case k8 => ktr_room); (case k9 => exact BindsTo.of_eq rfl); (case c5 => decide); (case kB => exact locs rfl); (case c2 => exact rfl); (case c3 => exact rfl); (case c4 => exact rfl); k_whole; intro g' L' h' FG' F' N' B' X' T' l1; (try dsimp only); (try k_lift B'); (try k_fold))
    have C' := codeHd_of_K (c := 52) (P := 48) X' (by kernel_rfl)
    have hT : Tail L' news := fun p hp => l1 p (by simp [hp])
    have hA : ∀ p ∈ news, p.1 ≠ l := hAp l (by simp [inPre])
    have hND0 := hND
    simp only [inPre, List.map_cons, List.map_nil, List.nodup_cons, List.mem_cons, List.not_mem_nil, or_false, not_or, not_false_eq_true, and_true, List.nodup_nil] at hND
    obtain ⟨⟨e1, e2, e3, e4, e5⟩, ⟨e6, e7, e8, e9⟩, ⟨e10, e11, e12⟩, ⟨e13, e14⟩, e15⟩ := hND
    replace e5 := neN e5
    replace e9 := neN e9
    replace e12 := neN e12
    replace e14 := neN e14
    replace e15 := neN e15
    k_steps
    · have hk2 : k = 1 := by omega
      (rename News h₀ L _ _ => NN)
      subst hk2
      refine hret _ (inPre f c ci ca cn l q dc pmn ct oc o1 o2 o3 (vs.set lo.toNat (Value.int x tx)) z) _ _ (by assumption) NN hND0 (fun q hq => .inl (by simp only [inPre, List.mem_cons, List.not_mem_nil, or_false, List.map_cons, List.map_nil] at hq ⊢; rcases hq with h | h | h | h | h | h <;> simp [h])) ⟨rfl, _, z, ?_, rfl⟩
      have e := ints_set hvs lo.toNat (by omega) x tx
      unfold digs
      rw [dif_pos (Nat.le_refl 1), show hi.toNat = lo.toNat + 1 by omega]
      exact e
    · have hk2 : 2 ≤ k := by omega
      have hmid : (lo + hi).fdiv (2 ^ Int.toNat 1) = lo + (k / 2 : Nat) := by
        rw [Int.fdiv_eq_ediv_of_nonneg _ (by decide)]
        simp
        omega
      simp only [hmid] at *
      refine mul_int ?_ (IntMulOk.of_right (intBits_le_64 (by omega) ?_))
      rotate_left
      · have : n ≤ k * n := Nat.le_mul_of_pos_left _ (by omega)
        omega
      have hsh : (lo + ((k / 2 : Nat) : Int) - lo) * (n : Int) = ((k / 2 * n : Nat) : Int) := by
        rw [show lo + ((k / 2 : Nat) : Int) - lo = ((k / 2 : Nat) : Int) by omega]
        exact (Int.natCast_mul _ _).symm
      simp only [hsh] at *
      have hs128 : k / 2 * n ≤ 128 := Nat.le_trans (Nat.mul_le_mul_right _ (Nat.div_le_self _ _)) hkn
      have hs129 : (k - k / 2) * n ≤ 128 := Nat.le_trans (Nat.mul_le_mul_right _ (Nat.sub_le _ _)) hkn
      have hdig : digs n k x = digs n (k / 2) (x % 2 ^ (k / 2 * n)) ++ digs n (k - k / 2) (x / 2 ^ (k / 2 * n)) := by
        conv => lhs; unfold digs
        rw [dif_neg (by omega)]
      generalize hS : k / 2 * n = S at *
      try dsimp only
      k_steps
      refine Hold.off ?_
      have hpow : (0 : Int) < 2 ^ S := Int.pow_pos (by decide)
      rw [xor_low x S hx]
      have hm0 : 0 ≤ x % 2 ^ S := Int.emod_nonneg _ (by omega)
      have hm1 : x % 2 ^ S ≤ x := emod_le_self hx hpow
      have hd0 : 0 ≤ x / 2 ^ S := Int.ediv_nonneg hx (by omega)
      have hd2 : x / 2 ^ S ≤ x := Int.ediv_le_self _ hx
      simp only [up_eq] at *
      refine' Spec.use (ih (k / 2) (by omega) (by omega) (by omega) (x % 2 ^ S) lo (lo + (k / 2 : Nat)) _ _ _ vs ns z hm0 (by omega) hlo rfl (by omega) hlen2 hvs) news ?B ?F ?X ?N ?hs hND0 hAp ?T ?hk ?hd ?hu ?ret
      case B => k_asm
      case F => k_asm
      case X => k_asm
      case N => k_asm
      case T => k_asm
      case hk => exact rfl
      case hs => exact fun q hq => hq
      case hd => dsimp only [Around.deeper, ktrTop]; omega
      case hu => dsimp only [Around.deeper, ktrTop]; omega
      case ret =>
      rintro r post' h2 tk2 F2 N2 - - ⟨rfl, vs2, z2, hvs2, rfl⟩
      simp only [inPre, inArgs, inBody, inScope, List.cons_append, List.nil_append] at N2
      dsimp only
      k_steps
      refine Hold.off ?_
      have hl2 : (ns.take lo.toNat ++ digs n (k / 2) (x % 2 ^ S) ++ ns.drop (lo + (k / 2 : Nat)).toNat).length = ns.length := by
        rw [List.length_append, List.length_append, List.length_take, List.length_drop, digs_len _ _ _ (by omega)]
        omega
      refine' Spec.use (ih (k - k / 2) (by omega) (by omega) (by omega) (x / 2 ^ S) (lo + (k / 2 : Nat)) hi _ _ _ vs2 _ z2 hd0 (by omega) (by omega) (by omega) (by omega) (by omega) hvs2) news ?B ?F ?X ?N ?hs hND0 hAp ?T ?hk ?hd ?hu ?ret
      case B => k_asm
      case F => k_asm
      case X => k_asm
      case N => k_asm
      case T => k_asm
      case hk => exact rfl
      case hs => exact fun q hq => hq
      case hd => dsimp only [Around.deeper, ktrTop]; omega
      case hu => dsimp only [Around.deeper, ktrTop]; omega
      case ret =>
      rintro r post' h3 tk3 F3 N3 - - ⟨rfl, vs3, z3, hvs3, rfl⟩
      simp only [inPre, inArgs, inBody, inScope, List.cons_append, List.nil_append] at N3
      dsimp only
      k_steps
      (rename News h₀ L _ _ => NN)
      refine hret _ (inPre f c ci ca cn l q dc pmn ct oc o1 o2 o3 vs3 z3) _ _ (by assumption) NN hND0 (fun q hq => .inl (by simp only [inPre, List.mem_cons, List.not_mem_nil, or_false, List.map_cons, List.map_nil] at hq ⊢; rcases hq with h | h | h | h | h | h <;> simp [h])) ⟨rfl, _, z3, ?_, rfl⟩
      rw [hdig]
      have e := splice ns (digs n (k / 2) (x % 2 ^ S)) (digs n (k - k / 2) (x / 2 ^ S)) lo.toNat (k / 2) k (digs_len _ _ _ (by omega)) (by omega) (by omega)
      rw [show (lo + (k / 2 : Nat)).toNat = lo.toNat + k / 2 by omega, show hi.toNat = lo.toNat + k by omega] at hvs3
      rw [e] at hvs3
      rw [show hi.toNat = lo.toNat + k by omega]
      exact hvs3
end Mine
-- part KC2
namespace Mine
set_option Elab.async false
set_option maxRecDepth 100000
set_option maxHeartbeats 8000000
theorem fill_now2 : (hd.heap_39, PySem.Challenge.rw_go0002_02) = (hd.heap_39, PySem.Challenge.rw_go0002_02) := by
  k_fill
  rfl
local macro_rules | `(tactic| walk_at "call ref") => `(tactic| (refine Hold.on ?_))
local macro_rules | `(tactic| k_all) => `(tactic| first | assumption | (refine' Tail.ne ?ta ?tb; (case ta => assumption); (case tb => (try dsimp only); omega)) | fail "k_all")
local macro_rules | `(tactic| walk_at "m nodup") => `(tactic| repeat' (first | exact nd_nil | exact all_nil | refine nd_cons ?_ ?_ | refine all_cons ?_ ?_ | k_ne))
local macro_rules | `(tactic| walk_at "m apart") => `(tactic| repeat' (first | exact Apart.nil | refine Apart.cons ?_ ?_ | k_all))
local macro_rules | `(tactic| walk_at "m sub") => `(tactic| repeat' (first | exact sub_nil | exact sub_self | (refine' sub_cons ?ta ?_; (case ta => k_mem)) | refine sub_tail ?_ | fail "m sub"))
local macro_rules | `(tactic| walk_at "m enterC") => `(tactic| k_dflt (refine' code_defC ?k1 ?k2 ?k3 ?k4 ?k5 ?kA ?kF ?kK ?k6 ?k7 ?k8 ?k9 ?kB ?kD ?_ ?c2 ?c3 ?c4; (case kA => exact rfl); (case kF => exact rfl); (case kK => assumption); (case k1 => k_asm); (case k2 => k_asm); (case k3 => k_asm); (case k4 => k_asm); (case k5 => k_asm); (case k6 => k_is); (case k7 => k_is); (case k8 => ktr_room); (case k9 => first | exact BindsTo.of_eq rfl | exact binds_K (by k_in) rfl (by k_is) rfl rfl rfl | fail "k_enter: no rule for these arguments"); (case kB => exact rfl); (case kD => decide +kernel); (case c2 => exact rfl); (case c3 => exact rfl); (case c4 => exact rfl); k_whole))
local macro_rules | `(tactic| walk_at "m lt") => `(tactic| repeat' (first | refine List.forall_mem_cons.mpr ⟨?_, ?_⟩ | (refine' Tail.lt ?ta ?tb; (case ta => assumption); (case tb => (try dsimp only); omega)) | (refine ltA ?_; (try dsimp only); omega) | fail "m lt"))
theorem i2d_cold (w : World) (x : Int) (n : Nat) (tx tn : Tok) (hx : 0 ≤ x) (hx2 : x < 1073741824) (hn : 1 ≤ n) (hn2 : n ≤ 64) : Spec w 53 [.int x tx, .int n tn] 140 1100 [(48, tabObj #[])]
    (fun r post => ∃ a vs z tl, r = .ref a ∧ IntsAre vs (if x = 0 then [] else digs n (nd x n) x) ∧ TabSt 48 59 4 (Str.ofString "_int2digits" ++ (".<locals>." : Str) ++ Str.ofString "inner") tl ∧ post = (a, W.listOf vs.toArray z) :: tl) := by
  unfold Spec
  intro prog p loose mean mg mb dp un gd cn cs a ccd cl outer A₀ base h₀ L m news s Q E B F X N hND hAp T hk hd1 hu1 hret
  simp only [List.cons_append, List.nil_append] at N
  have hb := intBits_le_64 (k := x) (by omega) (by omega)
  have hA30 : ∀ p ∈ news, p.1 ≠ 48 := hAp 48 (by simp)
  have hnd := nd_le x n hb hn hn2
  refine wpAny_call ?_
  walk_at "m enterC"
  intro g' L' h' tk' cells' FG' F' N' Y' B' X' T' l1
  have hT : Tail L' news := fun p hp => l1 p (.tail _ hp)
  k_lt l1
  k_cells Y'
  (try simp only [List.cons_append, List.nil_append] at N')
  (try dsimp only)
  (try k_lift B')
  have C' := codeHd_of_K (c := 52) (P := 48) X' (by kernel_rfl)
  k_steps
  simp only [nd_eq x n hn] at *
  refine mul_one_K (by assumption) (by assumption) (by k_mem) (by omega) (by omega) ?_
  intro r4 h4 F4 N4 l4
  k_lt l4
  (try dsimp only)
  k_steps
  · refine KM.len_K (by assumption) (by k_mem) (n := nd x n) (by simp) (by omega) ?_
    (try dsimp only)
    k_steps
    refine Hold.off ?_
    rename_i oa ob oc3 da db d3 lz hz lzz hw o2 d2c f' c' oc' vs' t' ct' dc' h1' tk1' d1' d2' l5 l6 h2' o1 F9 N9 dd1 hx0
    refine' Spec.use (inner1 w n tn hn f' c' _ _ _ r4 _ _ _ _ oc' o1 o2 oc3 vs' t' d1' d2' dd1 d2c d3 (nd x n) (nd_pos hx0 hn) (nd_mul x n hb hn2) x 0 (nd x n) _ _ _ (List.replicate (nd x n) (Value.int 0 tk')) (List.replicate (nd x n) 0) 0 hx hx2 (by omega) (by simp) (by simp) (by simp; omega) (by simpa using ints_rep (nd x n) 0 tk')) ((48, tabObj #[rawInt 59, rawInt 4, .ref c']) :: news) ?B ?F ?X ?N ?hs ?hnd ?hap ?T ?hk ?hd ?hu ?ret
    case B => k_asm
    case F => k_asm
    case X => k_asm
    case N => k_asm
    case T => k_asm
    case hk => exact rfl
    case hs => walk_at "m sub"
    case hnd => walk_at "m nodup"
    case hap => walk_at "m apart"
    case hd => dsimp only [Around.deeper, ktrTop]; omega
    case hu => dsimp only [Around.deeper, ktrTop]; omega
    case ret =>
    rintro r post' h3 tk3 F3 N3 - - ⟨rfl, vs3, z3, hvs3, rfl⟩
    simp only [inPre, inArgs, inBody, inScope, List.cons_append, List.nil_append] at N3
    dsimp only
    k_steps
    (rename News h₀ L _ _ => NN)
    refine hret _ ((r4, W.listOf vs3.toArray z3) :: [(48, tabObj #[rawInt 59, rawInt 4, .ref c']), (c', oc')]) _ _ (by assumption) (fun q hq => NN q ((by walk_at "m sub" : ∀ p ∈ (r4, W.listOf vs3.toArray z3) :: (48, tabObj #[rawInt 59, rawInt 4, .ref c']) :: (c', oc') :: news, p ∈ _) q hq)) (by walk_at "m nodup") (Over.new (by walk_at "m lt") (Over.old (by simp) (Over.new (by walk_at "m lt") Over.nil))) ⟨_, vs3, z3, _, rfl, ?_, .warm c' oc' vs' t' d1' d2', rfl⟩
    rw [if_neg hx0]
    simpa using hvs3
  · rename_i f' c' oc' vs' t' ct' dc' h1' tk1' d1' d2' l5 l6 h2' o1 F9 N9 dd1 hx0 kF kN Tc kX
    refine hret _ ((r4, W.listOf (List.replicate (nd x n) (Value.int 0 tk')).toArray 0) :: [(48, tabObj #[rawInt 59, rawInt 4, .ref c']), (c', oc')]) _ _ (by assumption) (fun q hq => kN q ((by walk_at "m sub" : ∀ p ∈ (r4, W.listOf (List.replicate (nd x n) (Value.int 0 tk')).toArray 0) :: (48, tabObj #[rawInt 59, rawInt 4, .ref c']) :: (c', oc') :: news, p ∈ _) q hq)) (by walk_at "m nodup") (Over.new (by walk_at "m lt") (Over.old (by simp) (Over.new (by walk_at "m lt") Over.nil))) ⟨_, _, 0, _, rfl, ?_, .warm c' oc' vs' t' d1' d2', rfl⟩
    rw [if_pos hx0, hx0, nd_zero n hn]
    exact .nil
theorem i2d_warm (w : World) (x : Int) (n : Nat) (tx tn : Tok) (hx : 0 ≤ x) (hx2 : x < 1073741824) (hn : 1 ≤ n) (hn2 : n ≤ 64) (c : Addr) (oc : Obj) (cvs : Array Value) (ctk : Tok) (hoc : oc.data = .fields cvs) (hcv : cvs[1]? = some (.str (Str.ofString "_int2digits" ++ (".<locals>." : Str) ++ Str.ofString "inner") ctk)) : Spec w 53 [.int x tx, .int n tn] 140 1100 [(48, tabObj #[rawInt 59, rawInt 4, .ref c]), (c, oc)]
    (fun r post => ∃ a vs z tl, r = .ref a ∧ IntsAre vs (if x = 0 then [] else digs n (nd x n) x) ∧ TabSt 48 59 4 (Str.ofString "_int2digits" ++ (".<locals>." : Str) ++ Str.ofString "inner") tl ∧ post = (a, W.listOf vs.toArray z) :: tl) := by
  unfold Spec
  intro prog p loose mean mg mb dp un gd cn cs a ccd cl outer A₀ base h₀ L m news s Q E B F X N hND hAp T hk hd1 hu1 hret
  simp only [List.cons_append, List.nil_append] at N
  have hb := intBits_le_64 (k := x) (by omega) (by omega)
  have hA30 : ∀ p ∈ news, p.1 ≠ 48 := hAp 48 (by simp)
  have hAc : ∀ p ∈ news, p.1 ≠ c := hAp c (by simp)
  simp only [List.map_cons, List.map_nil, List.nodup_cons, List.mem_cons, List.not_mem_nil, or_false, not_or, not_false_eq_true, and_true, List.nodup_nil] at hND
  replace hND := neN hND
  have hnd := nd_le x n hb hn hn2
  refine wpAny_call ?_
  walk_at "m enterC"
  intro g' L' h' tk' cells' FG' F' N' Y' B' X' T' l1
  have hT : Tail L' news := fun p hp => l1 p (.tail _ (.tail _ hp))
  k_lt l1
  k_cells Y'
  (try simp only [List.cons_append, List.nil_append] at N')
  (try dsimp only)
  (try k_lift B')
  have C' := codeHd_of_K (c := 52) (P := 48) X' (by kernel_rfl)
  k_steps
  simp only [nd_eq x n hn] at *
  refine mul_one_K (by assumption) (by assumption) (by k_mem) (by omega) (by omega) ?_
  intro r4 h4 F4 N4 l4
  k_lt l4
  (try dsimp only)
  k_steps
  · refine KM.len_K (by assumption) (by k_mem) (n := nd x n) (by simp) (by omega) ?_
    (try dsimp only)
    k_steps
    refine Hold.off ?_
    rename_i oa ob oc3 da db d3 lz hz lzz hw o2 d2c f' ct' dc' h1' tk1' l5 h2' o1 F9 N9 dd1 hx0
    refine' Spec.use (inner1 w n tn hn f' c _ _ _ r4 _ _ _ _ oc o1 o2 oc3 cvs ctk hoc hcv dd1 d2c d3 (nd x n) (nd_pos hx0 hn) (nd_mul x n hb hn2) x 0 (nd x n) _ _ _ (List.replicate (nd x n) (Value.int 0 tk')) (List.replicate (nd x n) 0) 0 hx hx2 (by omega) (by simp) (by simp) (by simp; omega) (by simpa using ints_rep (nd x n) 0 tk')) ((48, tabObj #[rawInt 59, rawInt 4, .ref c]) :: news) ?B ?F ?X ?N ?hs ?hnd ?hap ?T ?hk ?hd ?hu ?ret
    case B => k_asm
    case F => k_asm
    case X => k_asm
    case N => k_asm
    case T => k_asm
    case hk => exact rfl
    case hs => walk_at "m sub"
    case hnd => walk_at "m nodup"
    case hap => walk_at "m apart"
    case hd => dsimp only [Around.deeper, ktrTop]; omega
    case hu => dsimp only [Around.deeper, ktrTop]; omega
    case ret =>
    rintro r post' h3 tk3 F3 N3 - - ⟨rfl, vs3, z3, hvs3, rfl⟩
    simp only [inPre, inArgs, inBody, inScope, List.cons_append, List.nil_append] at N3
    dsimp only
    k_steps
    (rename News h₀ L _ _ => NN)
    refine hret _ ((r4, W.listOf vs3.toArray z3) :: [(48, tabObj #[rawInt 59, rawInt 4, .ref c]), (c, oc)]) _ _ (by assumption) (fun q hq => NN q ((by walk_at "m sub" : ∀ p ∈ (r4, W.listOf vs3.toArray z3) :: (48, tabObj #[rawInt 59, rawInt 4, .ref c]) :: (c, oc) :: news, p ∈ _) q hq)) (by walk_at "m nodup") (Over.new (by walk_at "m lt") (Over.old (by simp) (Over.old (by simp) Over.nil))) ⟨_, vs3, z3, _, rfl, ?_, .warm c oc cvs ctk hoc hcv, rfl⟩
    rw [if_neg hx0]
    simpa using hvs3
  · rename_i f' ct' dc' h1' tk1' l5 h2' o1 F9 N9 dd1 hx0 kF kN Tc kX
    refine hret _ ((r4, W.listOf (List.replicate (nd x n) (Value.int 0 tk')).toArray 0) :: [(48, tabObj #[rawInt 59, rawInt 4, .ref c]), (c, oc)]) _ _ (by assumption) (fun q hq => kN q ((by walk_at "m sub" : ∀ p ∈ (r4, W.listOf (List.replicate (nd x n) (Value.int 0 tk')).toArray 0) :: (48, tabObj #[rawInt 59, rawInt 4, .ref c]) :: (c, oc) :: news, p ∈ _) q hq)) (by walk_at "m nodup") (Over.new (by walk_at "m lt") (Over.old (by simp) (Over.old (by simp) Over.nil))) ⟨_, _, 0, _, rfl, ?_, .warm c oc cvs ctk hoc hcv, rfl⟩
    rw [if_pos hx0, hx0, nd_zero n hn]
    exact .nil
theorem i2d (w : World) (x : Int) (n : Nat) (tx tn : Tok) (hx : 0 ≤ x) (hx2 : x < 1073741824) (hn : 1 ≤ n) (hn2 : n ≤ 64) (tl : List (Addr × Obj)) (ht : TabSt 48 59 4 (Str.ofString "_int2digits" ++ (".<locals>." : Str) ++ Str.ofString "inner") tl) : Spec w 53 [.int x tx, .int n tn] 140 1100 tl
    (fun r post => ∃ a vs z tl, r = .ref a ∧ IntsAre vs (if x = 0 then [] else digs n (nd x n) x) ∧ TabSt 48 59 4 (Str.ofString "_int2digits" ++ (".<locals>." : Str) ++ Str.ofString "inner") tl ∧ post = (a, W.listOf vs.toArray z) :: tl) := by
  cases ht with
  | cold => exact i2d_cold w x n tx tn hx hx2 hn hn2
  | warm c oc vs t h1 h2 => exact i2d_warm w x n tx tn hx hx2 hn hn2 c oc vs t h1 h2
end Mine
-- part KI2
namespace Mine
set_option Elab.async false
set_option maxRecDepth 100000
set_option maxHeartbeats 8000000
local macro_rules | `(tactic| walk_at "call ref") => `(tactic| (refine Hold.on ?_))
local macro_rules | `(tactic| k_all) => `(tactic| first | assumption | (refine' Tail.ne ?ta ?tb; (case ta => assumption); (case tb => (try dsimp only); omega)) | fail "k_all")
local macro_rules | `(tactic| walk_at "m nodup") => `(tactic| repeat' (first | exact nd_nil | exact all_nil | refine nd_cons ?_ ?_ | refine all_cons ?_ ?_ | k_ne))
local macro_rules | `(tactic| walk_at "m apart") => `(tactic| repeat' (first | exact Apart.nil | refine Apart.cons ?_ ?_ | k_all))
local macro_rules | `(tactic| walk_at "m sub") => `(tactic| repeat' (first | exact sub_nil | exact sub_self | (refine' sub_cons ?ta ?_; (case ta => k_mem)) | refine sub_tail ?_ | fail "m sub"))
local macro_rules | `(tactic| walk_at "m lt") => `(tactic| repeat' (first | refine List.forall_mem_cons.mpr ⟨?_, ?_⟩ | (refine' Tail.lt ?ta ?tb; (case ta => assumption); (case tb => (try dsimp only); omega)) | (refine ltA ?_; (try dsimp only); omega) | fail "m lt"))
local macro_rules | `(tactic| walk_at "m enterC") => `(tactic| k_dflt (refine' code_defC ?k1 ?k2 ?k3 ?k4 ?k5 ?kA ?kF ?kK ?k6 ?k7 ?k8 ?k9 ?kB ?kD ?_ ?c2 ?c3 ?c4; (case kA => exact rfl); (case kF => exact rfl); (case kK => assumption); (case k1 => k_asm); (case k2 => k_asm); (case k3 => k_asm); (case k4 => k_asm); (case k5 => k_asm); (case k6 => k_is); (case k7 => k_is); (case k8 => ktr_room); (case k9 => first | exact BindsTo.of_eq rfl | (refine' kp_binds ?kx ?ke; (case kx => k_in); (case ke => exact fun _ => rfl)) | fail "m enter: no rule for these arguments"); (case kB => exact rfl); (case kD => decide +kernel); (case c2 => exact rfl); (case c3 => exact rfl); (case c4 => exact rfl); k_whole))
local macro_rules | `(tactic| walk_at "m enterL") => `(tactic| k_dflt (refine' code_defL ?k1 ?k2 ?k3 ?k4 ?k5 ?kA ?kF ?kK ?k6 ?k7 ?k8 ?k9 ?kB ?_ ?c2 ?c3 ?c4 ?c5; (case kA => exact rfl); (case kF => exact rfl); (case kK => assumption); (case k1 => k_asm); (case k2 => k_asm); (case k3 => k_asm); (case k4 => k_asm); (case k5 => k_asm); (case k6 => k_is); (case k7 => k_is); (case k8 => ktr_room); (case k9 => first | exact BindsTo.of_eq rfl | (refine' kp_binds ?kx ?ke; (case kx => k_in); (case ke => exact fun _ => rfl)) | fail "m enter: no rule for these arguments"); (case c5 => decide); (case kB => exact locs rfl); (case c2 => exact rfl); (case c3 => exact rfl); (case c4 => exact rfl); k_whole))
local macro_rules | `(tactic| walk_at "m enterN") => `(tactic| k_dflt (refine' code_nestL ?k1 ?k2 ?k3 ?k4 ?k5 ?kA ?kF ?kK ?k6 ?k7 ?k8 ?k9 ?kB ?_ ?c2 ?c3 ?c4 ?c5; (case kA => exact rfl); (case kF => exact rfl); (case kK => assumption); (case k1 => k_asm); (case k2 => k_asm); (case k3 => k_asm); (case k4 => k_asm); (case k5 => k_asm); (case k6 => k_mem); (case k7 => exact codeRec_news (by k_asm) (by k_mem) (by assumption) (by assumption)); (case k8 => ktr_room); (case k9 => exact BindsTo.of_eq rfl); (case c5 => decide); (case kB => exact locs rfl); (case c2 => exact rfl); (case c3 => exact rfl); (case c4 => exact rfl); k_whole))
noncomputable abbrev jnPre (f c ci ca cn l : Addr) (q : Str) (dc pmn ct : Value) (oc o1 o2 o3 : Obj) (vs : List Value) (z : Nat) : List (Addr × Obj) :=
  [(f, fnMade (Str.ofString "inner") q jnArgs.1 jnBody.1 jnScope.1 [(Str.ofString "n", cn), (Str.ofString "inner", ci), (Str.ofString "digits", ca)] dc pmn c ct), (c, oc), (ci, o1), (ca, o2), (cn, o3), (l, W.listOf vs.toArray z)]
theorem inner2 (w : World) (n : Nat) (tn : Tok) (hn : 1 ≤ n) (f c ci ca cn l : Addr) (q : Str) (dc pmn ct : Value) (oc o1 o2 o3 : Obj) (cvs : Array Value) (ctk : Tok)
    (hoc : oc.data = .fields cvs) (hcv : cvs[1]? = some (.str q ctk)) (ho1 : o1.data = .cell (some (.ref f))) (ho2 : o2.data = .cell (some (.ref l))) (ho3 : o3.data = .cell (some (.int (n : Int) tn)))
    (vs : List Value) (ns : List Int) (z : Nat) (hlen2 : ns.length ≤ 128) (hvs : IntsAre vs ns) (hdg : ∀ d ∈ ns, 0 ≤ d ∧ d < 2 ^ n) :
    ∀ (k : Nat), 1 ≤ k → k * n ≤ 62 → ∀ (lo hi : Int) (tl tr : Tok), 0 ≤ lo → hi = lo + k → hi ≤ ns.length →
      Spec w f [.int lo tl, .int hi tr] k (8 * k) (jnPre f c ci ca cn l q dc pmn ct oc o1 o2 o3 vs z)
        (fun r post => ∃ t, r = .int (undig n ns k lo.toNat) t ∧ post = jnPre f c ci ca cn l q dc pmn ct oc o1 o2 o3 vs z) := by
  intro k
  induction k using Nat.strongRecOn with
  | ind k ih =>
    intro hk1 hkn lo hi tl tr hlo hhi hlen
    unfold Spec
    intro prog p loose mean mg mb dp un gd cn' cs a ccd cl outer A₀ base h₀ L m news s Q E B F X N hND hAp T hk hd1 hu1 hret
    simp only [jnPre, jnArgs, jnBody, jnScope, List.cons_append, List.nil_append] at N
    refine wpAny_call ?_
    walk_at "m enterN"
    intro g' L' h' FG' F' N' B' X' T' l1
    (try dsimp only)
    (try k_lift B')
    k_fold
    have C' := codeHd_of_K (c := 52) (P := 48) X' (by kernel_rfl)
    have hT : Tail L' news := fun p hp => l1 p (by simp [hp])
    have hA : ∀ p ∈ news, p.1 ≠ l := hAp l (by simp [jnPre])
    have hND0 := hND
    simp only [jnPre, List.map_cons, List.map_nil, List.nodup_cons, List.mem_cons, List.not_mem_nil, or_false, not_or, not_false_eq_true, and_true, List.nodup_nil] at hND
    obtain ⟨⟨e1, e2, e3, e4, e5⟩, ⟨e6, e7, e8, e9⟩, ⟨e10, e11, e12⟩, ⟨e13, e14⟩, e15⟩ := hND
    replace e5 := neN e5
    replace e9 := neN e9
    replace e12 := neN e12
    replace e14 := neN e14
    replace e15 := neN e15
    k_steps
    · have hk2 : k = 1 := by omega
      (rename News h₀ L _ _ => NN)
      subst hk2
      have e : ns.getD lo.toNat 0 = undig n ns 1 lo.toNat := by
        unfold undig
        rw [dif_pos (Nat.le_refl 1)]
      rw [e]
      refine hret _ (jnPre f c ci ca cn l q dc pmn ct oc o1 o2 o3 vs z) _ _ (by assumption) NN hND0 (fun q hq => .inl (by simp only [jnPre, List.mem_cons, List.not_mem_nil, or_false, List.map_cons, List.map_nil] at hq ⊢; rcases hq with h | h | h | h | h | h <;> simp [h])) ⟨_, rfl, rfl⟩
    · have hk2 : 2 ≤ k := by omega
      have hmid : (lo + hi).fdiv (2 ^ Int.toNat 1) = lo + (k / 2 : Nat) := by
        rw [Int.fdiv_eq_ediv_of_nonneg _ (by decide)]
        simp
        omega
      simp only [hmid] at *
      refine mul_int ?_ (IntMulOk.of_right (intBits_le_64 (by omega) ?_))
      rotate_left
      · have : n ≤ k * n := Nat.le_mul_of_pos_left _ (by omega)
        omega
      have hsh : (lo + ((k / 2 : Nat) : Int) - lo) * (n : Int) = ((k / 2 * n : Nat) : Int) := by
        rw [show lo + ((k / 2 : Nat) : Int) - lo = ((k / 2 : Nat) : Int) by omega]
        exact (Int.natCast_mul _ _).symm
      simp only [hsh] at *
      have hs128 : k / 2 * n ≤ 62 := Nat.le_trans (Nat.mul_le_mul_right _ (Nat.div_le_self _ _)) hkn
      have hs129 : (k - k / 2) * n ≤ 62 := Nat.le_trans (Nat.mul_le_mul_right _ (Nat.sub_le _ _)) hkn
      have hdig : undig n ns k lo.toNat = undig n ns (k - k / 2) (lo + (k / 2 : Nat)).toNat * 2 ^ (k / 2 * n) + undig n ns (k / 2) lo.toNat := by
        conv => lhs; unfold undig
        rw [dif_neg (by omega), show (lo + (k / 2 : Nat)).toNat = lo.toNat + k / 2 by omega]
      have hbd := undig_bound n ns hdg (k - k / 2) (lo + (k / 2 : Nat)).toNat (by omega)
      have hbd2 : (2 : Int) ^ ((k - k / 2) * n) ≤ 2 ^ 62 := two_pow_le hs129
      generalize hS : k / 2 * n = S at *
      try dsimp only
      k_steps
      refine Hold.off ?_
      refine' Spec.use (ih (k - k / 2) (by omega) (by omega) (by omega) (lo + (k / 2 : Nat)) hi _ _ (by omega) (by omega) hlen) news ?B ?F ?X ?N ?hs hND0 hAp ?T ?hk ?hd ?hu ?ret
      case B => k_asm
      case F => k_asm
      case X => k_asm
      case N => k_asm
      case T => k_asm
      case hk => exact rfl
      case hs => exact fun q hq => hq
      case hd => dsimp only [Around.deeper, ktrTop]; omega
      case hu => dsimp only [Around.deeper, ktrTop]; omega
      case ret =>
      rintro r post' h2 tk2 F2 N2 - - ⟨t2, rfl, rfl⟩
      simp only [jnPre, jnArgs, jnBody, jnScope, List.cons_append, List.nil_append] at N2
      have hVn : (undig n ns (k - k / 2) (lo + (k / 2 : Nat)).toNat).natAbs < 2 ^ 64 := by omega
      dsimp only
      k_steps
      refine Hold.off ?_
      refine' Spec.use (ih (k / 2) (by omega) (by omega) (by omega) lo (lo + (k / 2 : Nat)) _ _ (by omega) rfl (by omega)) news ?B ?F ?X ?N ?hs hND0 hAp ?T ?hk ?hd ?hu ?ret
      case B => k_asm
      case F => k_asm
      case X => k_asm
      case N => k_asm
      case T => k_asm
      case hk => exact rfl
      case hs => exact fun q hq => hq
      case hd => dsimp only [Around.deeper, ktrTop]; omega
      case hu => dsimp only [Around.deeper, ktrTop]; omega
      case ret =>
      rintro r post' h3 tk3 F3 N3 - - ⟨t3, rfl, rfl⟩
      simp only [jnPre, jnArgs, jnBody, jnScope, List.cons_append, List.nil_append] at N3
      dsimp only
      k_steps
      (rename News h₀ L _ _ => NN)
      simp only [Int.toNat_natCast, ← hdig]
      refine hret _ (jnPre f c ci ca cn l q dc pmn ct oc o1 o2 o3 vs z) _ _ (by assumption) NN hND0 (fun q hq => .inl (by simp only [jnPre, List.mem_cons, List.not_mem_nil, or_false, List.map_cons, List.map_nil] at hq ⊢; rcases hq with h | h | h | h | h | h <;> simp [h])) ⟨_, rfl, rfl⟩
end Mine
-- part KC1
namespace Mine
set_option Elab.async false
set_option maxRecDepth 100000
set_option maxHeartbeats 8000000
local macro_rules | `(tactic| walk_at "call ref") => `(tactic| (refine Hold.on ?_))
local macro_rules | `(tactic| k_all) => `(tactic| first | assumption | (refine' Tail.ne ?ta ?tb; (case ta => assumption); (case tb => (try dsimp only); omega)) | fail "k_all")
local macro_rules | `(tactic| walk_at "m nodup") => `(tactic| repeat' (first | exact nd_nil | exact all_nil | refine nd_cons ?_ ?_ | refine all_cons ?_ ?_ | k_ne))
local macro_rules | `(tactic| walk_at "m apart") => `(tactic| repeat' (first | exact Apart.nil | refine Apart.cons ?_ ?_ | k_all))
local macro_rules | `(tactic| walk_at "m sub") => `(tactic| repeat' (first | exact sub_nil | exact sub_self | (refine' sub_cons ?ta ?_; (case ta => k_mem)) | refine sub_tail ?_ | fail "m sub"))
local macro_rules | `(tactic| walk_at "m lt") => `(tactic| repeat' (first | refine List.forall_mem_cons.mpr ⟨?_, ?_⟩ | (refine' Tail.lt ?ta ?tb; (case ta => assumption); (case tb => (try dsimp only); omega)) | (refine ltA ?_; (try dsimp only); omega) | fail "m lt"))
local macro_rules | `(tactic| walk_at "m enterC") => `(tactic| k_dflt (refine' code_defC ?k1 ?k2 ?k3 ?k4 ?k5 ?kA ?kF ?kK ?k6 ?k7 ?k8 ?k9 ?kB ?kD ?_ ?c2 ?c3 ?c4; (case kA => exact rfl); (case kF => exact rfl); (case kK => assumption); (case k1 => k_asm); (case k2 => k_asm); (case k3 => k_asm); (case k4 => k_asm); (case k5 => k_asm); (case k6 => k_is); (case k7 => k_is); (case k8 => ktr_room); (case k9 => first | exact BindsTo.of_eq rfl | (refine' kp_binds ?kx ?ke; (case kx => k_in); (case ke => exact fun _ => rfl)) | fail "m enter: no rule for these arguments"); (case kB => exact rfl); (case kD => decide +kernel); (case c2 => exact rfl); (case c3 => exact rfl); (case c4 => exact rfl); k_whole))
local macro_rules | `(tactic| walk_at "m enterL") => `(tactic| k_dflt (refine' code_defL ?k1 ?k2 ?k3 ?k4 ?k5 ?kA ?kF ?kK ?k6 ?k7 ?k8 ?k9 ?kB ?_ ?c2 ?c3 ?c4 ?c5; (case kA => exact rfl); (case kF => exact rfl); (case kK => assumption); (case k1 => k_asm); (case k2 => k_asm); (case k3 => k_asm); (case k4 => k_asm); (case k5 => k_asm); (case k6 => k_is); (case k7 => k_is); (case k8 => ktr_room); (case k9 => first | exact BindsTo.of_eq rfl | (refine' kp_binds ?kx ?ke; (case kx => k_in); (case ke => exact fun _ => rfl)) | fail "m enter: no rule for these arguments"); (case c5 => decide); (case kB => exact locs rfl); (case c2 => exact rfl); (case c3 => exact rfl); (case c4 => exact rfl); k_whole))
local macro_rules | `(tactic| walk_at "m enterN") => `(tactic| k_dflt (refine' code_nestL ?k1 ?k2 ?k3 ?k4 ?k5 ?kA ?kF ?kK ?k6 ?k7 ?k8 ?k9 ?kB ?_ ?c2 ?c3 ?c4 ?c5; (case kA => exact rfl); (case kF => exact rfl); (case kK => assumption); (case k1 => k_asm); (case k2 => k_asm); (case k3 => k_asm); (case k4 => k_asm); (case k5 => k_asm); (case k6 => k_mem); (case k7 => exact codeRec_news (by k_asm) (by k_mem) (by assumption) (by assumption)); (case k8 => ktr_room); (case k9 => exact BindsTo.of_eq rfl); (case c5 => decide); (case kB => exact locs rfl); (case c2 => exact rfl); (case c3 => exact rfl); (case c4 => exact rfl); k_whole))
local macro_rules | `(tactic| walk_at "call builtin:divmod") => `(tactic| (refine Hold.on ?_))
theorem div2_ok (w : World) (x y n : Int) (tx ty tn : Tok) (hx : 0 ≤ x) (hx2 : x < 2 ^ 64) (hy : 0 < y) (hy2 : y < 1073741824) (hn : 0 ≤ n) : Spec w 39 [.int x tx, .int y ty, .int n tn] 1 8 []
    (fun r post => ∃ a t1 t2, r = .ref a ∧ post = [(a, tup2 (x / y) (x % y) t1 t2)]) := by
  unfold Spec
  intro prog p loose mean mg mb dp un gd cn cs a ccd cl outer A₀ base h₀ L m news s Q E B F X N hND hAp T hk hd1 hu1 hret
  simp only [List.nil_append] at N
  have hb : (Builtin.Int.intBits x : Int) - n ≤ 4000 := by
    have h2 := intBits_le_64 (k := x) (by omega) (by omega)
    omega
  refine wpAny_call ?_
  walk_at "m enterL"
  intro g' L' h' FG' F' N' B' X' T' l1
  (try dsimp only)
  (try k_lift B')
  k_fold
  k_steps
  refine Hold.off ?_
  refine' divmod_K ?kF ?kN hy hy2 ?_
  case kF => assumption
  case kN => assumption
  intro r t1 t2 h1 tk1 F1 N1 l1
  (try dsimp only)
  k_steps
  (rename News h₀ L _ _ => NN)
  exact hret _ [(r, tup2 (x / y) (x % y) t1 t2)] _ _ (by assumption) NN (by walk_at "m nodup") (Over.new l1 Over.nil) ⟨r, t1, t2, rfl, rfl⟩
end Mine
-- part KC3
namespace Mine
set_option Elab.async false
set_option maxRecDepth 100000
set_option maxHeartbeats 8000000
local macro_rules | `(tactic| walk_at "call ref") => `(tactic| (refine Hold.on ?_))
local macro_rules | `(tactic| k_all) => `(tactic| first | assumption | (refine' Tail.ne ?ta ?tb; (case ta => assumption); (case tb => (try dsimp only); omega)) | fail "k_all")
local macro_rules | `(tactic| walk_at "m nodup") => `(tactic| repeat' (first | exact nd_nil | exact all_nil | refine nd_cons ?_ ?_ | refine all_cons ?_ ?_ | k_ne))
local macro_rules | `(tactic| walk_at "m apart") => `(tactic| repeat' (first | exact Apart.nil | refine Apart.cons ?_ ?_ | k_all))
local macro_rules | `(tactic| walk_at "m sub") => `(tactic| repeat' (first | exact sub_nil | exact sub_self | (refine' sub_cons ?ta ?_; (case ta => k_mem)) | refine sub_tail ?_ | fail "m sub"))
local macro_rules | `(tactic| walk_at "m lt") => `(tactic| repeat' (first | refine List.forall_mem_cons.mpr ⟨?_, ?_⟩ | (refine' Tail.lt ?ta ?tb; (case ta => assumption); (case tb => (try dsimp only); omega)) | (refine ltA ?_; (try dsimp only); omega) | fail "m lt"))
local macro_rules | `(tactic| walk_at "m enterC") => `(tactic| k_dflt (refine' code_defC ?k1 ?k2 ?k3 ?k4 ?k5 ?kA ?kF ?kK ?k6 ?k7 ?k8 ?k9 ?kB ?kD ?_ ?c2 ?c3 ?c4; (case kA => exact rfl); (case kF => exact rfl); (case kK => assumption); (case k1 => k_asm); (case k2 => k_asm); (case k3 => k_asm); (case k4 => k_asm); (case k5 => k_asm); (case k6 => k_is); (case k7 => k_is); (case k8 => ktr_room); (case k9 => first | exact BindsTo.of_eq rfl | (refine' kp_binds ?kx ?ke; (case kx => k_in); (case ke => exact fun _ => rfl)) | fail "m enter: no rule for these arguments"); (case kB => exact rfl); (case kD => decide +kernel); (case c2 => exact rfl); (case c3 => exact rfl); (case c4 => exact rfl); k_whole))
local macro_rules | `(tactic| walk_at "m enterL") => `(tactic| k_dflt (refine' code_defL ?k1 ?k2 ?k3 ?k4 ?k5 ?kA ?kF ?kK ?k6 ?k7 ?k8 ?k9 ?kB ?_ ?c2 ?c3 ?c4 ?c5; (case kA => exact rfl); (case kF => exact rfl); (case kK => assumption); (case k1 => k_asm); (case k2 => k_asm); (case k3 => k_asm); (case k4 => k_asm); (case k5 => k_asm); (case k6 => k_is); (case k7 => k_is); (case k8 => ktr_room); (case k9 => first | exact BindsTo.of_eq rfl | (refine' kp_binds ?kx ?ke; (case kx => k_in); (case ke => exact fun _ => rfl)) | fail "m enter: no rule for these arguments"); (case c5 => decide); (case kB => exact locs rfl); (case c2 => exact rfl); (case c3 => exact rfl); (case c4 => exact rfl); k_whole))
local macro_rules | `(tactic| walk_at "m enterN") => `(tactic| k_dflt (refine' code_nestL ?k1 ?k2 ?k3 ?k4 ?k5 ?kA ?kF ?kK ?k6 ?k7 ?k8 ?k9 ?kB ?_ ?c2 ?c3 ?c4 ?c5; (case kA => exact rfl); (case kF => exact rfl); (case kK => assumption); (case k1 => k_asm); (case k2 => k_asm); (case k3 => k_asm); (case k4 => k_asm); (case k5 => k_asm); (case k6 => k_mem); (case k7 => exact codeRec_news (by k_asm) (by k_mem) (by assumption) (by assumption)); (case k8 => ktr_room); (case k9 => exact BindsTo.of_eq rfl); (case c5 => decide); (case kB => exact locs rfl); (case c2 => exact rfl); (case c3 => exact rfl); (case c4 => exact rfl); k_whole))
theorem d2i_cold (w : World) (n : Nat) (tn : Tok) (hn : 1 ≤ n) (l : Addr) (vs : List Value) (ns : List Int) (z : Nat) (hlen2 : ns.length ≤ 128) (hvs : IntsAre vs ns) (hdg : ∀ d ∈ ns, 0 ≤ d ∧ d < 2 ^ n) (hkn : ns.length * n ≤ 62) : Spec w 60 [.ref l, .int n tn] 140 1100 [(55, tabObj #[]), (l, W.listOf vs.toArray z)]
    (fun r post => ∃ t tl, r = .int (if ns = [] then 0 else undig n ns ns.length 0) t ∧ TabSt 55 74 4 (Str.ofString "_digits2int" ++ (".<locals>." : Str) ++ Str.ofString "inner") tl ∧ post = tl ++ [(l, W.listOf vs.toArray z)]) := by
  unfold Spec
  intro prog p loose mean mg mb dp un gd cn cs a ccd cl outer A₀ base h₀ L m news s Q E B F X N hND hAp T hk hd1 hu1 hret
  simp only [List.cons_append, List.nil_append] at N
  have hA37 : ∀ p ∈ news, p.1 ≠ 55 := hAp 55 (by simp)
  have hAl : ∀ p ∈ news, p.1 ≠ l := hAp l (by simp)
  simp only [List.map_cons, List.map_nil, List.nodup_cons, List.mem_cons, List.not_mem_nil, or_false, not_or, not_false_eq_true, and_true, List.nodup_nil] at hND
  replace hND := neN hND
  have hlv := hvs.length
  refine wpAny_call ?_
  walk_at "m enterC"
  intro g' L' h' tk' cells' FG' F' N' Y' B' X' T' l1
  have hT : Tail L' news := fun p hp => l1 p (.tail _ (.tail _ hp))
  k_lt l1
  k_cells Y'
  (try simp only [List.cons_append, List.nil_append] at N')
  (try dsimp only)
  (try k_lift B')
  have C' := codeHd_of_K (c := 59) (P := 55) X' (by kernel_rfl)
  k_steps
  · refine Hold.off ?_
    rename_i oa ob od da db dd f' c' oc' vs' t' ct' dc' h1' tk1' d1' d2' l5 l6 h2' o1 F9 N9 dd1 hx0
    have hne : ns ≠ [] := fun e => by rw [e] at hx0; exact absurd hx0 (Nat.lt_irrefl _)
    refine' Spec.use (inner2 w n tn hn f' c' _ _ _ l _ _ _ _ oc' o1 od ob vs' t' d1' d2' dd1 dd db vs ns z hlen2 hvs hdg ns.length hx0 hkn 0 ns.length _ _ (by omega) (by simp) (by omega)) ((55, tabObj #[rawInt 74, rawInt 4, .ref c']) :: news) ?B ?F ?X ?N ?hs ?hnd ?hap ?T ?hk ?hd ?hu ?ret
    case B => k_asm
    case F => k_asm
    case X => k_asm
    case N => k_asm
    case T => k_asm
    case hk => exact rfl
    case hs => walk_at "m sub"
    case hnd => walk_at "m nodup"
    case hap => walk_at "m apart"
    case hd => dsimp only [Around.deeper, ktrTop]; omega
    case hu => dsimp only [Around.deeper, ktrTop]; omega
    case ret =>
    rintro r post' h3 tk3 F3 N3 - - ⟨t3, rfl, rfl⟩
    simp only [jnPre, jnArgs, jnBody, jnScope, List.cons_append, List.nil_append] at N3
    dsimp only
    k_steps
    (rename News h₀ L _ _ => NN)
    refine hret _ ([(55, tabObj #[rawInt 74, rawInt 4, .ref c']), (c', oc')] ++ [(l, W.listOf vs.toArray z)]) _ _ (by assumption) (fun q hq => NN q ((by walk_at "m sub" : ∀ p ∈ (55, tabObj #[rawInt 74, rawInt 4, .ref c']) :: (c', oc') :: (l, W.listOf vs.toArray z) :: news, p ∈ _) q hq)) (by walk_at "m nodup") (Over.old (by simp) (Over.new (by walk_at "m lt") (Over.old (by simp) Over.nil))) ⟨t3, _, ?_, .warm c' oc' vs' t' d1' d2', rfl⟩
    rw [if_neg hne]
    rfl
  · rename_i f' c' oc' vs' t' ct' dc' h1' tk1' d1' d2' l5 l6 h2' o1 F9 N9 dd1 hx0 kF kN Tc kX
    have hne : ns = [] := List.eq_nil_of_length_eq_zero (by omega)
    refine hret _ ([(55, tabObj #[rawInt 74, rawInt 4, .ref c']), (c', oc')] ++ [(l, W.listOf vs.toArray z)]) _ _ (by assumption) (fun q hq => kN q ((by walk_at "m sub" : ∀ p ∈ (55, tabObj #[rawInt 74, rawInt 4, .ref c']) :: (c', oc') :: (l, W.listOf vs.toArray z) :: news, p ∈ _) q hq)) (by walk_at "m nodup") (Over.old (by simp) (Over.new (by walk_at "m lt") (Over.old (by simp) Over.nil))) ⟨_, _, congrArg (fun v => Value.int v _) (if_pos hne).symm, .warm c' oc' vs' t' d1' d2', rfl⟩
theorem d2i_warm (w : World) (n : Nat) (tn : Tok) (hn : 1 ≤ n) (l : Addr) (vs : List Value) (ns : List Int) (z : Nat) (hlen2 : ns.length ≤ 128) (hvs : IntsAre vs ns) (hdg : ∀ d ∈ ns, 0 ≤ d ∧ d < 2 ^ n) (hkn : ns.length * n ≤ 62) (c : Addr) (oc : Obj) (cvs : Array Value) (ctk : Tok) (hoc : oc.data = .fields cvs) (hcv : cvs[1]? = some (.str (Str.ofString "_digits2int" ++ (".<locals>." : Str) ++ Str.ofString "inner") ctk)) : Spec w 60 [.ref l, .int n tn] 140 1100 [(55, tabObj #[rawInt 74, rawInt 4, .ref c]), (c, oc), (l, W.listOf vs.toArray z)]
    (fun r post => ∃ t tl, r = .int (if ns = [] then 0 else undig n ns ns.length 0) t ∧ TabSt 55 74 4 (Str.ofString "_digits2int" ++ (".<locals>." : Str) ++ Str.ofString "inner") tl ∧ post = tl ++ [(l, W.listOf vs.toArray z)]) := by
  unfold Spec
  intro prog p loose mean mg mb dp un gd cn cs a ccd cl outer A₀ base h₀ L m news s Q E B F X N hND hAp T hk hd1 hu1 hret
  simp only [List.cons_append, List.nil_append] at N
  have hA37 : ∀ p ∈ news, p.1 ≠ 55 := hAp 55 (by simp)
  have hAl : ∀ p ∈ news, p.1 ≠ l := hAp l (by simp)
  simp only [List.map_cons, List.map_nil, List.nodup_cons, List.mem_cons, List.not_mem_nil, or_false, not_or, not_false_eq_true, and_true, List.nodup_nil] at hND
  obtain ⟨⟨e1, e2⟩, e3⟩ := hND
  replace e1 := neN e1
  replace e2 := neN e2
  replace e3 := neN e3
  have hAc : ∀ p ∈ news, p.1 ≠ c := hAp c (by simp)
  have hlv := hvs.length
  refine wpAny_call ?_
  walk_at "m enterC"
  intro g' L' h' tk' cells' FG' F' N' Y' B' X' T' l1
  have hT : Tail L' news := fun p hp => l1 p (.tail _ (.tail _ (.tail _ hp)))
  k_lt l1
  k_cells Y'
  (try simp only [List.cons_append, List.nil_append] at N')
  (try dsimp only)
  (try k_lift B')
  have C' := codeHd_of_K (c := 59) (P := 55) X' (by kernel_rfl)
  k_steps
  · refine Hold.off ?_
    rename_i oa ob od da db dd f' ct' dc' h1' tk1' l5 h2' o1 F9 N9 dd1 hx0
    have hne : ns ≠ [] := fun e => by rw [e] at hx0; exact absurd hx0 (Nat.lt_irrefl _)
    refine' Spec.use (inner2 w n tn hn f' c _ _ _ l _ _ _ _ oc o1 od ob cvs ctk hoc hcv dd1 dd db vs ns z hlen2 hvs hdg ns.length hx0 hkn 0 ns.length _ _ (by omega) (by simp) (by omega)) ((55, tabObj #[rawInt 74, rawInt 4, .ref c]) :: news) ?B ?F ?X ?N ?hs ?hnd ?hap ?T ?hk ?hd ?hu ?ret
    case B => k_asm
    case F => k_asm
    case X => k_asm
    case N => k_asm
    case T => k_asm
    case hk => exact rfl
    case hs => walk_at "m sub"
    case hnd => walk_at "m nodup"
    case hap => walk_at "m apart"
    case hd => dsimp only [Around.deeper, ktrTop]; omega
    case hu => dsimp only [Around.deeper, ktrTop]; omega
    case ret =>
    rintro r post' h3 tk3 F3 N3 - - ⟨t3, rfl, rfl⟩
    simp only [jnPre, jnArgs, jnBody, jnScope, List.cons_append, List.nil_append] at N3
    dsimp only
    k_steps
    (rename News h₀ L _ _ => NN)
    refine hret _ ([(55, tabObj #[rawInt 74, rawInt 4, .ref c]), (c, oc)] ++ [(l, W.listOf vs.toArray z)]) _ _ (by assumption) (fun q hq => NN q ((by walk_at "m sub" : ∀ p ∈ (55, tabObj #[rawInt 74, rawInt 4, .ref c]) :: (c, oc) :: (l, W.listOf vs.toArray z) :: news, p ∈ _) q hq)) (by walk_at "m nodup") (Over.old (by simp) (Over.old (by simp) (Over.old (by simp) Over.nil))) ⟨t3, _, ?_, .warm c oc cvs ctk hoc hcv, rfl⟩
    rw [if_neg hne]
    rfl
  · rename_i f' ct' dc' h1' tk1' l5 h2' o1 F9 N9 dd1 hx0 kF kN Tc kX
    have hne : ns = [] := List.eq_nil_of_length_eq_zero (by omega)
    refine hret _ ([(55, tabObj #[rawInt 74, rawInt 4, .ref c]), (c, oc)] ++ [(l, W.listOf vs.toArray z)]) _ _ (by assumption) (fun q hq => kN q ((by walk_at "m sub" : ∀ p ∈ (55, tabObj #[rawInt 74, rawInt 4, .ref c]) :: (c, oc) :: (l, W.listOf vs.toArray z) :: news, p ∈ _) q hq)) (by walk_at "m nodup") (Over.old (by simp) (Over.old (by simp) (Over.old (by simp) Over.nil))) ⟨_, _, congrArg (fun v => Value.int v _) (if_pos hne).symm, .warm c oc cvs ctk hoc hcv, rfl⟩
theorem d2i (w : World) (n : Nat) (tn : Tok) (hn : 1 ≤ n) (l : Addr) (vs : List Value) (ns : List Int) (z : Nat) (hlen2 : ns.length ≤ 128) (hvs : IntsAre vs ns) (hdg : ∀ d ∈ ns, 0 ≤ d ∧ d < 2 ^ n) (hkn : ns.length * n ≤ 62) (tl : List (Addr × Obj)) (ht : TabSt 55 74 4 (Str.ofString "_digits2int" ++ (".<locals>." : Str) ++ Str.ofString "inner") tl) : Spec w 60 [.ref l, .int n tn] 140 1100 (tl ++ [(l, W.listOf vs.toArray z)])
    (fun r post => ∃ t tl, r = .int (if ns = [] then 0 else undig n ns ns.length 0) t ∧ TabSt 55 74 4 (Str.ofString "_digits2int" ++ (".<locals>." : Str) ++ Str.ofString "inner") tl ∧ post = tl ++ [(l, W.listOf vs.toArray z)]) := by
  cases ht with
  | cold => exact d2i_cold w n tn hn l vs ns z hlen2 hvs hdg hkn
  | warm c oc cvs t h1 h2 => exact d2i_warm w n tn hn l vs ns z hlen2 hvs hdg hkn c oc cvs t h1 h2
end Mine
-- part KC4
namespace Mine
set_option Elab.async false
set_option maxRecDepth 100000
set_option maxHeartbeats 8000000
local macro_rules | `(tactic| walk_at "call ref") => `(tactic| (refine Hold.on ?_))
local macro_rules | `(tactic| k_all) => `(tactic| first | assumption | (refine' Tail.ne ?ta ?tb; (case ta => assumption); (case tb => (try dsimp only); omega)) | fail "k_all")
local macro_rules | `(tactic| walk_at "m nodup") => `(tactic| repeat' (first | exact nd_nil | exact all_nil | refine nd_cons ?_ ?_ | refine all_cons ?_ ?_ | k_ne))
local macro_rules | `(tactic| walk_at "m apart") => `(tactic| repeat' (first | exact Apart.nil | refine Apart.cons ?_ ?_ | k_all))
local macro_rules | `(tactic| walk_at "m sub") => `(tactic| repeat' (first | exact sub_nil | exact sub_self | (refine' sub_cons ?ta ?_; (case ta => k_mem)) | refine sub_tail ?_ | fail "m sub"))
local macro_rules | `(tactic| walk_at "m lt") => `(tactic| repeat' (first | refine List.forall_mem_cons.mpr ⟨?_, ?_⟩ | (refine' Tail.lt ?ta ?tb; (case ta => assumption); (case tb => (try dsimp only); omega)) | (refine ltA ?_; (try dsimp only); omega) | fail "m lt"))
local macro_rules | `(tactic| walk_at "m enterC") => `(tactic| k_dflt (refine' code_defC ?k1 ?k2 ?k3 ?k4 ?k5 ?kA ?kF ?kK ?k6 ?k7 ?k8 ?k9 ?kB ?kD ?_ ?c2 ?c3 ?c4; (case kA => exact rfl); (case kF => exact rfl); (case kK => assumption); (case k1 => k_asm); (case k2 => k_asm); (case k3 => k_asm); (case k4 => k_asm); (case k5 => k_asm); (case k6 => k_is); (case k7 => k_is); (case k8 => ktr_room); (case k9 => first | exact BindsTo.of_eq rfl | (refine' kp_binds ?kx ?ke; (case kx => k_in); (case ke => exact fun _ => rfl)) | fail "m enter: no rule for these arguments"); (case kB => exact rfl); (case kD => decide +kernel); (case c2 => exact rfl); (case c3 => exact rfl); (case c4 => exact rfl); k_whole))
local macro_rules | `(tactic| walk_at "m enterL") => `(tactic| k_dflt (refine' code_defL ?k1 ?k2 ?k3 ?k4 ?k5 ?kA ?kF ?kK ?k6 ?k7 ?k8 ?k9 ?kB ?_ ?c2 ?c3 ?c4 ?c5; (case kA => exact rfl); (case kF => exact rfl); (case kK => assumption); (case k1 => k_asm); (case k2 => k_asm); (case k3 => k_asm); (case k4 => k_asm); (case k5 => k_asm); (case k6 => k_is); (case k7 => k_is); (case k8 => ktr_room); (case k9 => first | exact BindsTo.of_eq rfl | (refine' kp_binds ?kx ?ke; (case kx => k_in); (case ke => exact fun _ => rfl)) | fail "m enter: no rule for these arguments"); (case c5 => decide); (case kB => exact locs rfl); (case c2 => exact rfl); (case c3 => exact rfl); (case c4 => exact rfl); k_whole))
local macro_rules | `(tactic| walk_at "m enterN") => `(tactic| k_dflt (refine' code_nestL ?k1 ?k2 ?k3 ?k4 ?k5 ?kA ?kF ?kK ?k6 ?k7 ?k8 ?k9 ?kB ?_ ?c2 ?c3 ?c4 ?c5; (case kA => exact rfl); (case kF => exact rfl); (case kK => assumption); (case k1 => k_asm); (case k2 => k_asm); (case k3 => k_asm); (case k4 => k_asm); (case k5 => k_asm); (case k6 => k_mem); (case k7 => exact codeRec_news (by k_asm) (by k_mem) (by assumption) (by assumption)); (case k8 => ktr_room); (case k9 => exact BindsTo.of_eq rfl); (case c5 => decide); (case kB => exact locs rfl); (case c2 => exact rfl); (case c3 => exact rfl); (case c4 => exact rfl); k_whole))
local macro_rules | `(tactic| walk_at "m lt'") => `(tactic| repeat' (first | refine List.forall_mem_cons.mpr ⟨?_, ?_⟩ | (refine' Tail.ne ?ta ?tb; (case ta => assumption); (case tb => (try dsimp only); omega)) | k_ne | fail "m lt'"))
local macro_rules | `(tactic| walk_at "UnrPost") => `(tactic| (refine Hold.on ?_))
local macro_rules | `(tactic| walk_at "UnrEnd") => `(tactic| (refine Hold.on ?_))
local macro_rules | `(tactic| walk_at "newTuple") => `(tactic| (refine Hold.on ?_))
abbrev q30 : Str := Str.ofString "_int2digits" ++ (".<locals>." : Str) ++ Str.ofString "inner"
abbrev q37 : Str := Str.ofString "_digits2int" ++ (".<locals>." : Str) ++ Str.ofString "inner"
theorem dmpos (w : World) (x y : Int) (tx ty : Tok) (hx : 0 ≤ x) (hx2 : x < 1073741824) (hy : 0 < y) (hy2 : y < 1073741824) (t1 t2 : List (Addr × Obj)) (ht1 : TabSt 48 59 4 q30 t1) (ht2 : TabSt 55 74 4 q37 t2) :
    Spec w 67 [.int x tx, .int y ty] 150 1200 (t1 ++ t2)
    (fun r post => ∃ a u1 u2 t1 t2, r = .ref a ∧ TabSt 48 59 4 q30 t1 ∧ TabSt 55 74 4 q37 t2 ∧ post = (a, tup2 (x / y) (x % y) u1 u2) :: (t1 ++ t2)) := by
  unfold Spec
  intro prog p loose mean mg mb dp un gd cn cs a ccd cl outer A₀ base h₀ L m news s Q E B F X N hND hAp T hk hd1 hu1 hret
  have hb : Builtin.Int.intBits y ≤ 30 := bits_le_of (by omega) (by omega)
  have hb1 := bits_pos (x := y) (by omega)
  refine wpAny_call ?_
  walk_at "m enterL"
  intro g' L' h' FG' F' N' B' X' T' l1
  (try dsimp only)
  (try k_lift B')
  k_fold
  have C' := codeHd_of_K (c := 52) (P := 48) X' (by kernel_rfl)
  k_steps
  have hND' := hND
  rw [List.map_append] at hND'
  refine Hold.off ?_
  refine' Spec.use (i2d w x (Builtin.Int.intBits y) _ _ hx hx2 hb1 (by omega) t1 ht1) (t2 ++ news) ?sB ?sF ?sX ?sN ?sS ?sD ?sA ?sT ?sK ?sP ?sU ?sR
  case sB => k_asm
  case sF => k_asm
  case sX => k_asm
  case sN => k_asm
  case sT => k_asm
  case sK => exact rfl
  case sS => exact fun q hq => by simpa [List.append_assoc] using hq
  case sD => exact (List.nodup_append.mp hND').1
  case sA =>
    intro b hb p hp
    rcases List.mem_append.mp hp with hp | hp
    · exact fun e => (List.nodup_append.mp hND').2.2 b hb p.1 (List.mem_map_of_mem hp) e.symm
    · exact hAp b (by rw [List.map_append]; exact List.mem_append_left _ hb) p hp
  case sP => dsimp only [Around.deeper, ktrTop]; omega
  case sU => dsimp only [Around.deeper, ktrTop]; omega
  case sR =>
  rintro r post' h2 tk2 F2 N2 hnd2 hov2 ⟨da, dvs, dz, t3, rfl, hdv, ht3, rfl⟩
  dsimp only
  rw [List.cons_append] at N2
  k_steps
  (rename Fr _ _ _ _ => FF)
  (rename News _ _ _ _ => NN)
  refine name_map FF fun m₀ hm₀ FF => ?_
  generalize hds : (if x = 0 then [] else digs (Builtin.Int.intBits y) (nd x (Builtin.Int.intBits y)) x) = ds at *
  rename_i qa hF lQ hG DA hI NX lD
  generalize hR : t3 ++ (t2 ++ news) = rest at *
  have hTl : Tail qa rest := allLt_tail lQ.2
  have hB0 : (0 : Int) < 2 ^ (Builtin.Int.intBits y) := Int.pow_pos (by decide)
  have hB1 : (2 : Int) ^ (Builtin.Int.intBits y) ≤ 1073741824 := two_pow_le (b := 30) hb
  have hdb : ∀ d ∈ ds.reverse, 0 ≤ d ∧ d < 2 ^ (Builtin.Int.intBits y) := by
    intro d hd
    rw [← hds] at hd
    rw [List.mem_reverse] at hd
    split at hd
    · cases hd
    · rename_i hx0
      exact digs_bound _ _ x (nd_pos hx0 hb1) hx (Int.lt_of_lt_of_le (lt_bits hx) (two_pow_le (nd_up hb1))) d hd
  have hdr : IntsAre dvs.reverse ds.reverse := IntsAre.reverse hdv
  have hbv : bev (2 ^ (Builtin.Int.intBits y)) ds.reverse = x := by
    rw [bev_rev, ← hds]
    split
    · rename_i hx0; rw [hx0]; rfl
    · rename_i hx0; exact digs_val _ _ x (nd_pos hx0 hb1)
  have hdl : ds.length ≤ 128 ∧ ds.length * Builtin.Int.intBits y ≤ 62 := by
    rw [← hds]
    split
    · simp
    · rename_i hx0
      have h1 := nd_mul2 x (Builtin.Int.intBits y) 30 (bits_le_of hx (by omega))
      have h2 := nd_le x (Builtin.Int.intBits y) (Nat.le_trans (bits_le_of hx (by omega : x < 2 ^ 30)) (by omega)) hb1 (by omega)
      rw [digs_len _ _ _ (nd_pos hx0 hb1)]
      omega
  refine rev_inv (by rfl) FF NN ?off (.tail _ (.head _)) rfl rfl (fun i m nl => ∃ (qvs : List Value) (qz : Nat) (tr : Tok) (u1 u2 : Option Value),
    m = (fun z => if z = Str.ofString "r" then some (.int (ld y (2 ^ (Builtin.Int.intBits y)) (ds.reverse.take i)).1 tr) else if z = Str.ofString "q_digit" then u1 else if z = Str.ofString "a_digit" then u2 else m₀ z) ∧
    IntsAre qvs (ld y (2 ^ (Builtin.Int.intBits y)) (ds.reverse.take i)).2 ∧ nl = (qa, W.listOf qvs.toArray qz) :: (da, W.listOf dvs.toArray dz) :: rest) ?start ?keep ?turn ?done
  case off => walk_at "m lt'"
  case start =>
    obtain ⟨t0, ht0⟩ : ∃ t0, m₀ (Str.ofString "r") = some (.int 0 t0) := by rw [hm₀]; exact ⟨_, rfl⟩
    exact ⟨[], 0, t0, m₀ (Str.ofString "q_digit"), m₀ (Str.ofString "a_digit"), canon3 m₀ _ _ _ _ ht0, .nil, rfl⟩
  case keep =>
    rintro i m nl ⟨qvs, qz, tr, u1, u2, rfl, hq, rfl⟩
    exact .tail _ (.head _)
  case turn =>
    intro i v it hit hv m nl h5 tk5 hI F5 N5
    obtain ⟨qvs, qz, tr, u1, u2, rfl, hq5, rfl⟩ := hI
    obtain ⟨d, td, rfl, hd⟩ := hdr.at i v hv
    clear NN FF NX
    subst hm₀
    dsimp only at F5
    have htk := take_snoc hd
    have hok := ld_ok y _ hy hB0 (ds.reverse.take i) fun q hq => hdb q (List.mem_of_mem_take hq)
    have hdd := hdb d (List.mem_of_getElem? hd)
    have hmb := mul_bound hok.1 hok.2.1 hy2 hdd.1 hdd.2 hB1
    have hsn := ld_snoc y (2 ^ (Builtin.Int.intBits y)) (ds.reverse.take i) d
    rw [← htk] at hsn
    generalize hL : ld y (2 ^ (Builtin.Int.intBits y)) (ds.reverse.take i) = lst at *
    obtain ⟨ho1, ho2, ho3, ho4⟩ := hok
    k_steps
    refine Hold.off ?_
    refine' Spec.use (div2_ok w (lst.1 * 2 ^ (Builtin.Int.intBits y) + d) y (Builtin.Int.intBits y) _ _ _ hmb.1 hmb.2 hy hy2 (by omega)) ((DA, it) :: (qa, W.listOf qvs.toArray qz) :: (da, W.listOf dvs.toArray dz) :: rest) ?sB ?sF ?sX ?sN ?sS ?sD ?sA ?sT ?sK ?sP ?sU ?sR
    case sB => k_asm
    case sF => k_asm
    case sX => k_asm
    case sN => k_asm
    case sT => k_asm
    case sK => exact rfl
    case sS => exact fun q hq => hq
    case sD => exact nd_nil
    case sA => exact Apart.nil
    case sP => dsimp only [Around.deeper, ktrTop]; omega
    case sU => dsimp only [Around.deeper, ktrTop]; omega
    case sR =>
    rintro r post' h6 tk6 F6 N6 - hov ⟨a6, u6, w6, rfl, rfl⟩
    have l6 : ∀ p ∈ (DA, it) :: (qa, W.listOf qvs.toArray qz) :: (da, W.listOf dvs.toArray dz) :: rest, p.1 < a6 := (hov _ (.head _)).resolve_left (by simp)
    k_lt l6
    rw [List.cons_append, List.nil_append] at N6
    dsimp only
    k_steps
    have hql : qvs.length ≤ 128 := by
      rw [hq5.length, ← hL, ld_len, List.length_take]
      have := hdl.1
      rw [List.length_reverse]
      omega
    refine' append_K ?aF ?aN ?aU ?_ ?aZ
    case aF => assumption
    case aN => assumption
    case aU => k_upd
    case aZ => show qvs.toArray.size ≤ sizeLine; rw [List.size_toArray]; exact Nat.le_trans hql (by decide)
    intro h7 F7 N7
    (try dsimp only)
    rw [List.push_toArray] at N7
    k_steps
    refine Hold.off ?_
    refine ⟨h7, _, _, (qa, W.listOf (qvs ++ [Value.int ((lst.1 * 2 ^ (Builtin.Int.intBits y) + d) / y) u6]).toArray (qz + 1)) :: (da, W.listOf dvs.toArray dz) :: rest, rfl, F7, fun p hp => N7 p (.tail _ hp), ?_, ?_⟩
    · walk_at "m lt'"
    · refine ⟨_, _, w6, some (Value.int ((lst.1 * 2 ^ (Builtin.Int.intBits y) + d) / y) u6), some (Value.int d td), ?_, ?_, rfl⟩
      rotate_left
      · rw [hsn]
        exact IntsAre.append hq5 (.cons _ _ .nil)
      · rw [hsn]
        exact recan3 _ _ _ _ _ _ _ _ _ _
  case done =>
    intro m nl h5 tk5 hI F5 N5
    obtain ⟨qvs, qz, tr, u1, u2, rfl, hq5, rfl⟩ := hI
    clear NN FF NX
    subst hm₀
    dsimp only at F5
    have hfull : ds.reverse.take dvs.reverse.length = ds.reverse := by rw [hdr.length, List.take_length]
    rw [hfull] at F5 hq5
    k_steps
    refine reverse_head_ints F5 N5 ?_ hq5 ?_ ?_
    · walk_at "m lt'"
    · intro h6 F6 N6 hq6
      (try dsimp only)
      k_steps
      refine Hold.off ?_
      have hqs : qvs.toArray.toList.reverse = qvs.reverse := rfl
      rw [hqs] at N6 hq6
      have hok := ld_ok y _ hy hB0 ds.reverse hdb
      have hdv2 := ld_div y _ x hy hB0 ds.reverse hdb hbv
      have hll := ld_len y (2 ^ (Builtin.Int.intBits y)) ds.reverse
      have hsep : ∀ b ∈ t2.map (·.1), ∀ p ∈ t3, p.1 ≠ b := by
        intro b hb p hp e
        rcases hov2 p (.tail _ hp) with h | h
        · exact (List.nodup_append.mp hND').2.2 p.1 h b hb e
        · obtain ⟨q, hq, rfl⟩ := List.mem_map.mp hb
          have := h q (List.mem_append_left _ hq)
          rw [e] at this
          exact absurd this (Nat.lt_irrefl _)
      have hql : ∀ p ∈ rest, p.1 < qa := hTl
      rw [← hR] at hql
      generalize hL : ld y (2 ^ (Builtin.Int.intBits y)) ds.reverse = lst at *
      obtain ⟨ho1, ho2, ho3, ho4⟩ := hok
      refine' Spec.use (d2i w (Builtin.Int.intBits y) _ hb1 qa qvs.reverse lst.2.reverse qz ?hln hq6 ?hdg ?hkn t2 ht2) (t3 ++ news) ?sB ?sF ?sX ?sN ?sS ?sD ?sA ?sT ?sK ?sP ?sU ?sR
      case sB => k_asm
      case sF => k_asm
      case sX => k_asm
      case sN => k_asm
      case sT => k_asm
      case sK => exact rfl
      case hln => rw [List.length_reverse, hll, List.length_reverse]; exact hdl.1
      case hdg => exact fun d hd => ho3 d (List.mem_reverse.mp hd)
      case hkn => rw [List.length_reverse, hll, List.length_reverse]; exact hdl.2
      case sS =>
        intro q hq
        rw [← hR]
        simp only [List.mem_append, List.mem_cons, List.not_mem_nil, or_false] at hq ⊢
        rcases hq with (h | h) | h | h
        · exact .inr (.inr (.inr (.inl h)))
        · exact .inl h
        · exact .inr (.inr (.inl h))
        · exact .inr (.inr (.inr (.inr h)))
      case sD =>
        rw [List.map_append]
        refine List.nodup_append.mpr ⟨(List.nodup_append.mp hND').2.1, by walk_at "m nodup", ?_⟩
        intro b hb c hc e
        obtain ⟨q, hq, rfl⟩ := List.mem_map.mp hb
        have h1 := hql q (List.mem_append_right _ (List.mem_append_left _ hq))
        rw [e, List.mem_singleton.mp hc] at h1
        exact absurd h1 (Nat.lt_irrefl _)
      case sA =>
        intro b hb p hp
        rw [List.map_append] at hb
        rcases List.mem_append.mp hb with hb | hb
        · rcases List.mem_append.mp hp with hp | hp
          · exact hsep b hb p hp
          · exact hAp b (by rw [List.map_append]; exact List.mem_append_right _ hb) p hp
        · intro e
          have h1 := hql p (by rcases List.mem_append.mp hp with hp | hp; exact List.mem_append_left _ hp; exact List.mem_append_right _ (List.mem_append_right _ hp))
          rw [e, List.mem_singleton.mp hb] at h1
          exact absurd h1 (Nat.lt_irrefl _)
      case sP => dsimp only [Around.deeper, ktrTop]; omega
      case sU => dsimp only [Around.deeper, ktrTop]; omega
      case sR =>
      rintro r post' h7 tk7 F7 N7 hnd7 hov7 ⟨u7, t4, rfl, ht4, rfl⟩
      have hval : (if lst.2.reverse = [] then (0 : Int) else undig (Builtin.Int.intBits y) lst.2.reverse lst.2.reverse.length 0) = x / y := by
        rw [← hdv2.1]
        split
        · rename_i he
          rw [List.reverse_eq_nil_iff.mp he]; rfl
        · rename_i he
          rw [undig_all _ _ he, ← bev_rev, List.reverse_reverse]
      rw [hval, hdv2.2] at *
      dsimp only
      k_steps
      refine Hold.off ?_
      refine' newTuple_K ?nF ?nN (show 2 ≤ sizeLine by decide) ?_
      case nF => assumption
      case nN => assumption
      intro a8 h8 F8 N8 l8
      (try dsimp only)
      k_steps
      (rename News h₀ L _ _ => NN)
      have hmem : ∀ p, p ∈ t4 ++ [(qa, W.listOf qvs.reverse.toArray qz)] ++ (t3 ++ news) → p.1 < a8 := fun p hp => l8 p hp
      refine hret _ ((a8, tup2 (x / y) (x % y) u7 tr) :: (t3 ++ t4)) _ _ (by assumption) ?_ ?_ ?_ ⟨a8, u7, tr, t3, t4, rfl, ht3, ht4, rfl⟩
      · intro q hq
        refine NN q ?_
        simp only [List.cons_append, List.mem_append, List.mem_cons] at hq ⊢
        rcases hq with h | (h | h) | h
        · exact .inl h
        · exact .inr (.inr (.inl h))
        · exact .inr (.inl (.inl h))
        · exact .inr (.inr (.inr h))
      · refine List.nodup_cons.mpr ⟨?_, ?_⟩
        · intro hm
          obtain ⟨q, hq, e⟩ := List.mem_map.mp hm
          have h1 := hmem q (by rcases List.mem_append.mp hq with h | h; exact List.mem_append_right _ (List.mem_append_left _ h); exact List.mem_append_left _ (List.mem_append_left _ h))
          rw [e] at h1
          exact absurd h1 (Nat.lt_irrefl _)
        · rw [List.map_append]
          refine List.nodup_append.mpr ⟨(List.nodup_cons.mp hnd2).2, ?_, ?_⟩
          · rw [List.map_append] at hnd7
            exact (List.nodup_append.mp hnd7).1
          · intro b hb c hc e
            obtain ⟨p, hp, rfl⟩ := List.mem_map.mp hb
            obtain ⟨q, hq, rfl⟩ := List.mem_map.mp hc
            rcases hov7 q (List.mem_append_left _ hq) with h | h
            · rw [List.map_append] at h
              rcases List.mem_append.mp h with h | h
              · exact hsep _ h p hp e
              · have h1 := hql p (List.mem_append_left _ hp)
                rw [e, List.mem_singleton.mp h] at h1
                exact absurd h1 (Nat.lt_irrefl _)
            · have h1 := h p (List.mem_append_left _ hp)
              rw [e] at h1
              exact absurd h1 (Nat.lt_irrefl _)
      · refine Over.new (fun p hp => hmem p (List.mem_append_right _ (List.mem_append_right _ hp))) ?_
        intro q hq
        rcases List.mem_append.mp hq with hq | hq
        · rcases hov2 q (.tail _ hq) with h | h
          · exact .inl (by rw [List.map_append]; exact List.mem_append_left _ h)
          · exact .inr fun p hp => h p (List.mem_append_right _ hp)
        · rcases hov7 q (List.mem_append_left _ hq) with h | h
          · rw [List.map_append] at h
            rcases List.mem_append.mp h with h | h
            · exact .inl (by rw [List.map_append]; exact List.mem_append_right _ h)
            · refine .inr fun p hp => ?_
              rw [List.mem_singleton.mp h]
              exact hql p (List.mem_append_right _ (List.mem_append_right _ hp))
          · exact .inr fun p hp => h p (List.mem_append_right _ hp)
    · rw [ld_len, List.length_reverse]
      exact Nat.le_trans hdl.1 (by decide)
end Mine
-- part KC5
namespace Mine
set_option Elab.async false
set_option maxRecDepth 100000
set_option maxHeartbeats 8000000
local macro_rules | `(tactic| walk_at "call ref") => `(tactic| (refine Hold.on ?_))
local macro_rules | `(tactic| k_all) => `(tactic| first | assumption | (refine' Tail.ne ?ta ?tb; (case ta => assumption); (case tb => (try dsimp only); omega)) | fail "k_all")
local macro_rules | `(tactic| walk_at "m nodup") => `(tactic| repeat' (first | exact nd_nil | exact all_nil | refine nd_cons ?_ ?_ | refine all_cons ?_ ?_ | k_ne))
local macro_rules | `(tactic| walk_at "m apart") => `(tactic| repeat' (first | exact Apart.nil | refine Apart.cons ?_ ?_ | k_all))
local macro_rules | `(tactic| walk_at "m sub") => `(tactic| repeat' (first | exact sub_nil | exact sub_self | (refine' sub_cons ?ta ?_; (case ta => k_mem)) | refine sub_tail ?_ | fail "m sub"))
local macro_rules | `(tactic| walk_at "m lt") => `(tactic| repeat' (first | refine List.forall_mem_cons.mpr ⟨?_, ?_⟩ | (refine' Tail.lt ?ta ?tb; (case ta => assumption); (case tb => (try dsimp only); omega)) | (refine ltA ?_; (try dsimp only); omega) | fail "m lt"))
local macro_rules | `(tactic| walk_at "m enterC") => `(tactic| k_dflt (refine' code_defC ?k1 ?k2 ?k3 ?k4 ?k5 ?kA ?kF ?kK ?k6 ?k7 ?k8 ?k9 ?kB ?kD ?_ ?c2 ?c3 ?c4; (case kA => exact rfl); (case kF => exact rfl); (case kK => assumption); (case k1 => k_asm); (case k2 => k_asm); (case k3 => k_asm); (case k4 => k_asm); (case k5 => k_asm); (case k6 => k_is); (case k7 => k_is); (case k8 => ktr_room); (case k9 => first | exact BindsTo.of_eq rfl | (refine' kp_binds ?kx ?ke; (case kx => k_in); (case ke => exact fun _ => rfl)) | fail "m enter: no rule for these arguments"); (case kB => exact rfl); (case kD => decide +kernel); (case c2 => exact rfl); (case c3 => exact rfl); (case c4 => exact rfl); k_whole))
local macro_rules | `(tactic| walk_at "m enterL") => `(tactic| k_dflt (refine' code_defL ?k1 ?k2 ?k3 ?k4 ?k5 ?kA ?kF ?kK ?k6 ?k7 ?k8 ?k9 ?kB ?_ ?c2 ?c3 ?c4 ?c5; (case kA => exact rfl); (case kF => exact rfl); (case kK => assumption); (case k1 => k_asm); (case k2 => k_asm); (case k3 => k_asm); (case k4 => k_asm); (case k5 => k_asm); (case k6 => k_is); (case k7 => k_is); (case k8 => ktr_room); (case k9 => first | exact BindsTo.of_eq rfl | (refine' kp_binds ?kx ?ke; (case kx => k_in); (case ke => exact fun _ => rfl)) | fail "m enter: no rule for these arguments"); (case c5 => decide); (case kB => exact locs rfl); (case c2 => exact rfl); (case c3 => exact rfl); (case c4 => exact rfl); k_whole))
local macro_rules | `(tactic| walk_at "m enterN") => `(tactic| k_dflt (refine' code_nestL ?k1 ?k2 ?k3 ?k4 ?k5 ?kA ?kF ?kK ?k6 ?k7 ?k8 ?k9 ?kB ?_ ?c2 ?c3 ?c4 ?c5; (case kA => exact rfl); (case kF => exact rfl); (case kK => assumption); (case k1 => k_asm); (case k2 => k_asm); (case k3 => k_asm); (case k4 => k_asm); (case k5 => k_asm); (case k6 => k_mem); (case k7 => exact codeRec_news (by k_asm) (by k_mem) (by assumption) (by assumption)); (case k8 => ktr_room); (case k9 => exact BindsTo.of_eq rfl); (case c5 => decide); (case kB => exact locs rfl); (case c2 => exact rfl); (case c3 => exact rfl); (case c4 => exact rfl); k_whole))
def TT (tt : List (Addr × Obj)) : Prop := ∃ t1 t2, TabSt 48 59 4 q30 t1 ∧ TabSt 55 74 4 q37 t2 ∧ tt = t1 ++ t2
theorem idm (w : World) (x y : Int) (tx ty : Tok) (hx : 0 ≤ x) (hx2 : x < 1073741824) (hy : 0 < y) (hy2 : y < 1073741824) (tt : List (Addr × Obj)) (ht : TT tt) :
    Spec w 74 [.int x tx, .int y ty] 151 1208 tt
    (fun r post => ∃ a u1 u2 tt, r = .ref a ∧ TT tt ∧ post = (a, tup2 (x / y) (x % y) u1 u2) :: tt) := by
  obtain ⟨t1, t2, ht1, ht2, rfl⟩ := ht
  unfold Spec
  intro prog p loose mean mg mb dp un gd cn cs a ccd cl outer A₀ base h₀ L m news s Q E B F X N hND hAp T hk hd1 hu1 hret
  have hy0 : y ≠ 0 := by omega
  have hy1 : ¬ y < 0 := by omega
  have hx1 : ¬ x < 0 := by omega
  refine wpAny_call ?_
  walk_at "m enterL"
  intro g' L' h' FG' F' N' B' X' T' l1
  (try dsimp only)
  (try k_lift B')
  k_fold
  k_steps
  · exact absurd (by assumption) hy0
  · refine Hold.off ?_
    refine' Spec.use (dmpos w x y _ _ hx hx2 hy hy2 t1 t2 ht1 ht2) news ?sB ?sF ?sX ?sN ?sS hND hAp ?sT ?sK ?sP ?sU ?sR
    case sB => k_asm
    case sF => k_asm
    case sX => k_asm
    case sN => k_asm
    case sT => k_asm
    case sK => exact rfl
    case sS => exact fun q hq => hq
    case sP => dsimp only [Around.deeper, ktrTop]; omega
    case sU => dsimp only [Around.deeper, ktrTop]; omega
    case sR =>
    rintro r post' h7 tk7 F7 N7 hnd7 hov7 ⟨a7, u1, u2, t3, t4, rfl, ht3, ht4, rfl⟩
    dsimp only
    k_steps
    (rename News h₀ L _ _ => NN)
    exact hret _ _ _ _ (by assumption) NN hnd7 hov7 ⟨a7, u1, u2, t3 ++ t4, rfl, ⟨t3, t4, ht3, ht4, rfl⟩, rfl⟩
end Mine
-- part KU
namespace Mine
set_option Elab.async false
set_option maxRecDepth 100000
set_option maxHeartbeats 8000000
def Good (tt0 news tt : List (Addr × Obj)) : Prop := TT tt ∧ (tt.map (·.1)).Nodup ∧ ∀ q ∈ tt, q.1 ∈ tt0.map (·.1) ∨ ∀ p ∈ news, p.1 < q.1
theorem Good.start {tt news : List (Addr × Obj)} (h : TT tt) (hn : (tt.map (·.1)).Nodup) : Good tt news tt := ⟨h, hn, fun _ hq => .inl (List.mem_map_of_mem hq)⟩
theorem Good.apart {tt0 news tt : List (Addr × Obj)} (g : Good tt0 news tt) (h : Apart (tt0.map (·.1)) news) : Apart (tt.map (·.1)) news := fun b hb p hp => by
  obtain ⟨q, hq, rfl⟩ := List.mem_map.mp hb
  rcases g.2.2 q hq with h1 | h1
  · exact h _ h1 p hp
  · exact fun e => absurd (e ▸ h1 p hp) (Nat.lt_irrefl _)
theorem Good.step {tt0 news news' tt tt' : List (Addr × Obj)} (g : Good tt0 news tt) (h : TT tt') (hn : (tt'.map (·.1)).Nodup) (ho : ∀ q ∈ tt', q.1 ∈ tt.map (·.1) ∨ ∀ p ∈ news', p.1 < q.1) (hs : ∀ p ∈ news, p ∈ news') : Good tt0 news tt' :=
  ⟨h, hn, fun q hq => (ho q hq).elim (fun h1 => by
    obtain ⟨q', hq', e⟩ := List.mem_map.mp h1
    rw [← e]
    exact g.2.2 q' hq') fun h1 => .inr fun p hp => h1 p (hs p hp)⟩
section
variable {w : World} {prog p : Program} {loose : List Str} {mean : ExcName → Option Value} {mg mb : Str → Option Value} {dp un : Nat} {gd : Option (List Code)} {cn : Str} {cs : Scope} {a : Addr} {ccd : Value} {cl : List (Str × Addr)} {outer : List Env} {A₀ : Around} {base h₀ : Heap} {L : Addr} {m : Str → Option Value}
    {nl : List (Addr × Obj)} {s : Shared} {Q E : Value → Shared → Prop} {x y : Int} {tx ty : Tok} {tt0 rest tt : List (Addr × Obj)}
theorem use_idm (G : Good tt0 rest tt) (hA : Apart (tt0.map (·.1)) rest) (B : Below A₀ base outer h₀) (F : Fr h₀ L s.heap m) (X : (hd.heap_39 w.params).In h₀) (N : News h₀ L s.heap nl) (hs : ∀ q ∈ tt ++ rest, q ∈ nl) (T : Top p loose mean mg mb h₀) (hk : cs.kind = .function) (hd1 : dp + 151 < recursionLimit) (hu : un + 1208 < cLine)
    (hx : 0 ≤ x ∧ x < 1073741824 ∧ 0 < y ∧ y < 1073741824) (ret : ∀ r t1 t2 tt' h' tk', Good tt0 rest tt' → Fr h₀ L h' m → News h₀ L h' ((r, tup2 (x / y) (x % y) t1 t2) :: (tt' ++ rest)) → Q (.ref r) { s with heap := h', toks := tk' }) :
    wpAny (model prog w) (ktrTop dp un gd cn cs L a ccd cl outer) (call (.ref 74) [.int x tx, .int y ty]) Q E s := by
  refine Spec.use (idm w x y tx ty hx.1 hx.2.1 hx.2.2.1 hx.2.2.2 tt G.1) rest B F X N hs G.2.1 (G.apart hA) T hk hd1 hu ?_
  rintro r post' h' tk' F' N' hn ho ⟨a', t1, t2, tt', rfl, ht, rfl⟩
  exact ret a' t1 t2 tt' h' tk' (G.step ht (List.nodup_cons.mp hn).2 (fun q hq => ho q (.tail _ hq)) fun _ h => h) F' N'
end
def Ok (rest tt : List (Addr × Obj)) : Prop := TT tt ∧ (tt.map (·.1)).Nodup ∧ Apart (tt.map (·.1)) rest
theorem Ok.good {rest tt : List (Addr × Obj)} (k : Ok rest tt) : Good tt rest tt := Good.start k.1 k.2.1
theorem Ok.of {rest tt0 tt : List (Addr × Obj)} (g : Good tt0 rest tt) (h : Apart (tt0.map (·.1)) rest) : Ok rest tt := ⟨g.1, g.2.1, g.apart h⟩
theorem Ok.sub {rest rest' tt : List (Addr × Obj)} (k : Ok rest tt) (h : ∀ p ∈ rest', ∃ q ∈ rest, q.1 = p.1) : Ok rest' tt := ⟨k.1, k.2.1, fun b hb p hp => by
  obtain ⟨q, hq, e⟩ := h p hp
  rw [← e]
  exact k.2.2 b hb q hq⟩
theorem Ok.sub' {rest rest' tt : List (Addr × Obj)} (k : Ok rest tt) (h : ∀ p ∈ rest', p.1 ∈ rest.map (·.1)) : Ok rest' tt := k.sub fun p hp => by
  obtain ⟨q, hq, e⟩ := List.mem_map.mp (h p hp)
  exact ⟨q, hq, e⟩
theorem Ok.cons {rest tt : List (Addr × Obj)} {p : Addr × Obj} (k : Ok rest tt) (h : ∀ q ∈ tt, q.1 ≠ p.1) : Ok (p :: rest) tt := ⟨k.1, k.2.1, fun b hb q hq => by
  obtain ⟨z, hz, rfl⟩ := List.mem_map.mp hb
  rcases List.mem_cons.mp hq with rfl | hq
  · exact Ne.symm (h z hz)
  · exact k.2.2 _ hb q hq⟩
theorem Ok.ne {rest tt : List (Addr × Obj)} (k : Ok rest tt) {p : Addr × Obj} (hp : p ∈ rest) : ∀ q ∈ tt, q.1 ≠ p.1 := fun q hq e => k.2.2 q.1 (List.mem_map_of_mem hq) p hp e.symm
section
variable {w : World} {prog p : Program} {loose : List Str} {mean : ExcName → Option Value} {mg mb : Str → Option Value} {dp un : Nat} {gd : Option (List Code)} {cn : Str} {cs : Scope} {a : Addr} {ccd : Value} {cl : List (Str × Addr)} {outer : List Env} {A₀ : Around} {base h₀ : Heap} {L : Addr} {m : Str → Option Value}
    {nl : List (Addr × Obj)} {s : Shared} {Q E : Value → Shared → Prop} {x y : Int} {tx ty : Tok} {rest tt : List (Addr × Obj)}
theorem ok_idm (G : Ok rest tt) (B : Below A₀ base outer h₀) (F : Fr h₀ L s.heap m) (X : (hd.heap_39 w.params).In h₀) (N : News h₀ L s.heap nl) (hs : ∀ q ∈ tt ++ rest, q ∈ nl) (T : Top p loose mean mg mb h₀) (hk : cs.kind = .function) (hd1 : dp + 151 < recursionLimit) (hu : un + 1208 < cLine)
    (hx : 0 ≤ x ∧ x < 1073741824 ∧ 0 < y ∧ y < 1073741824) (ret : ∀ r t1 t2 tt' h' tk', Ok rest tt' → Fr h₀ L h' m → News h₀ L h' ((r, tup2 (x / y) (x % y) t1 t2) :: (tt' ++ rest)) → Q (.ref r) { s with heap := h', toks := tk' }) :
    wpAny (model prog w) (ktrTop dp un gd cn cs L a ccd cl outer) (call (.ref 74) [.int x tx, .int y ty]) Q E s :=
  use_idm G.good G.2.2 B F X N hs T hk hd1 hu hx fun r t1 t2 tt' h' tk' g F N => ret r t1 t2 tt' h' tk' (Ok.of g G.2.2) F N
end
end Mine
-- part TL2
namespace Mine
set_option Elab.async false
/-- tuples of ints by the first pair that differs -/
def lexLt : List Int → List Int → Bool
  | [], [] => false
  | [], _ :: _ => true
  | _ :: _, [] => false
  | x :: xs, y :: ys => if x = y then lexLt xs ys else decide (x < y)
section
variable {prog : Program} {w : World} {A : Around} {E : Value → Shared → Prop} {s : Shared}
theorem lt_loop : ∀ (x y : List Int) (xs ys : List Value), ItemsAre (intKind prog w) x xs → ItemsAre (intKind prog w) y ys → ∀ s : Shared,
    wpAny (model prog w) A (forIn (xs.zip ys) ((none : Option PySem.Fin), ()) fun x (_ : Option PySem.Fin × Unit) => do
      let e ← eqBool x.fst x.snd
      if (!e) = true then do
          rule "tuple.compare.by-the-first-pair-that-differs"
          let v ← richCompare CmpOp.Lt x.fst x.snd
          let r ← ret v
          pure (ForInStep.done (some r, ()))
        else pure (ForInStep.yield (none, ())))
    (fun r s' => s' = s ∧ (r.1 = some (.done (.ret (.bool (lexLt x y)))) ∨ (r.1 = none ∧ lexLt x y = decide (xs.length < ys.length)))) (fun _ _ => False) s
  | [], [], _, _, .nil, .nil, s => by
    simp only [List.zip_nil_left, List.forIn_nil]
    exact wpAny_pure ⟨rfl, .inr ⟨rfl, by simp [lexLt]⟩⟩
  | [], _ :: _, _, _, .nil, .cons _ _, s => by
    simp only [List.zip_nil_left, List.forIn_nil]
    exact wpAny_pure ⟨rfl, .inr ⟨rfl, by simp [lexLt]⟩⟩
  | _ :: _, [], _, _, .cons _ _, .nil, s => by
    simp only [List.zip_nil_right, List.forIn_nil]
    exact wpAny_pure ⟨rfl, .inr ⟨rfl, by simp [lexLt]⟩⟩
  | p :: x, q :: y, _, _, .cons (v := u) (vs := us) h1 hx, .cons (v := v) (vs := vs) h2 hy, s => by
    simp only [List.zip_cons_cons, List.forIn_cons]
    refine wpAny_bind (wpAny_bind ((intKind prog w).eqBool (a := p) (b := q) h1 h2 ?_))
    by_cases hpq : p = q
    · subst hpq
      rw [decide_eq_true rfl]
      simp only [Bool.not_true, Bool.false_eq_true, if_false]
      refine wpAny_pure ?_
      dsimp only
      refine wpAny_mono (lt_loop x y us vs hx hy s) (fun r s' hr => ?_) fun _ _ e => e
      refine ⟨hr.1, ?_⟩
      simpa [lexLt] using hr.2
    · rw [decide_eq_false hpq]
      simp only [Bool.not_false, if_true]
      obtain ⟨t, rfl⟩ := Value.isInt_shape h1
      obtain ⟨t', rfl⟩ := Value.isInt_shape h2
      refine wpAny_bind (wpAny_rule (wpAny_bind ?_))
      show wpAny _ _ (compareOp .Lt _ _) _ _ _
      refine wpAny_lt_int ?_
      exact wpAny_bind (wpAny_pure (wpAny_pure (wpAny_pure ⟨rfl, .inl (by simp [lexLt, hpq])⟩)))
theorem tuple_lt_tree {x y : List Int} {a b : Addr} {P : PySem.Fin → Shared → Prop} (hx : IsTupleKey (intKind prog w) s.heap x a) (hy : IsTupleKey (intKind prog w) s.heap y b) (h : P (.done (.ret (.bool (lexLt x y)))) s) :
    wpAny (model prog w) A (Builtin.«tuple.__lt__» ⟨[.ref a, .ref b], []⟩) P E s := by
  have hTb := hy.typeIs
  obtain ⟨oa, xs, na, hoa, _, hda, hia⟩ := hx
  obtain ⟨ob, ys, nb, hob, _, hdb, hib⟩ := hy
  show wpAny _ _ (isInstance (.ref b) (.type "tuple") >>= _) _ _ s
  refine wpAny_bind (wpAny_isInstance hTb isSubtype_tuple_tuple ?_)
  simp only [Bool.not_true, Bool.false_eq_true, if_false]
  refine wpAny_bind (wpAny_tupleItemsOf hoa hda ?_)
  refine wpAny_bind (wpAny_tupleItemsOf hob hdb ?_)
  refine wpAny_bind ?_
  refine wpAny_mono (lt_loop x y xs.toList ys.toList hia hib s) (fun r s' hr => ?_) fun _ _ e => e.elim
  obtain ⟨rfl, hr⟩ := hr
  obtain ⟨r1, r2⟩ := r
  rcases hr with hr | ⟨hr, hl⟩
  · dsimp only at hr
    subst hr
    exact wpAny_pure h
  · dsimp only at hr
    subst hr
    rw [hl] at h
    refine wpAny_pure ?_
    simpa [Builtin.Tuple.tupleCompareSizes] using h
theorem lt_tups {x y : List Int} {a b : Addr} {Q : Value → Shared → Prop} (hu : A.units < cLine) (hx : IsTupleKey (intKind prog w) s.heap x a) (hy : IsTupleKey (intKind prog w) s.heap y b) (h : Q (.bool (lexLt x y)) s) :
    wpAny (model prog w) A (compareOp .Lt (.ref a) (.ref b)) Q E s := by
  show wpAny _ _ (richCompare .Lt _ _) _ _ _
  exact wpAny_richCompare_same_room (op := .Lt) hx.typeIs hy.typeIs F.slot_tuple_lt (wpAny_call_entry F.slot_tuple_lt hx.typeIs F.entry_tuple_lt (tuple_lt_tree hx hy ⟨_, rfl, (fun e => nomatch e), h⟩) (F.args_tuple_lt_2 _ _)) hu
theorem ne_loop : ∀ (x y : List Int) (xs ys : List Value), ItemsAre (intKind prog w) x xs → ItemsAre (intKind prog w) y ys → ∀ s : Shared,
    wpAny (model prog w) A (forIn (xs.zip ys) ((none : Option PySem.Fin), ()) fun x (_ : Option PySem.Fin × Unit) => do
      let e ← eqBool x.fst x.snd
      if (!e) = true then do
          let r ← ret (.bool true)
          pure (ForInStep.done (some r, ()))
        else pure (ForInStep.yield (none, ())))
    (fun r s' => s' = s ∧ ((r.1 = some (.done (.ret (.bool true))) ∧ x ≠ y) ∨ (r.1 = none ∧ decide (x ≠ y) = decide (xs.length ≠ ys.length)))) (fun _ _ => False) s
  | [], [], _, _, .nil, .nil, s => by
    simp only [List.zip_nil_left, List.forIn_nil]
    exact wpAny_pure ⟨rfl, .inr ⟨rfl, by simp⟩⟩
  | [], _ :: _, _, _, .nil, .cons _ _, s => by
    simp only [List.zip_nil_left, List.forIn_nil]
    exact wpAny_pure ⟨rfl, .inr ⟨rfl, by simp⟩⟩
  | _ :: _, [], _, _, .cons _ _, .nil, s => by
    simp only [List.zip_nil_right, List.forIn_nil]
    exact wpAny_pure ⟨rfl, .inr ⟨rfl, by simp⟩⟩
  | p :: x, q :: y, _, _, .cons (v := u) (vs := us) h1 hx, .cons (v := v) (vs := vs) h2 hy, s => by
    simp only [List.zip_cons_cons, List.forIn_cons]
    refine wpAny_bind (wpAny_bind ((intKind prog w).eqBool (a := p) (b := q) h1 h2 ?_))
    by_cases hpq : p = q
    · subst hpq
      rw [decide_eq_true rfl]
      simp only [Bool.not_true, Bool.false_eq_true, if_false]
      refine wpAny_pure ?_
      dsimp only
      refine wpAny_mono (ne_loop x y us vs hx hy s) (fun r s' hr => ?_) fun _ _ e => e
      refine ⟨hr.1, ?_⟩
      simpa using hr.2
    · rw [decide_eq_false hpq]
      simp only [Bool.not_false, if_true]
      exact wpAny_bind (wpAny_pure (wpAny_pure (wpAny_pure ⟨rfl, .inl ⟨rfl, by simp [hpq]⟩⟩)))
theorem tuple_ne_tree {x y : List Int} {a b : Addr} {P : PySem.Fin → Shared → Prop} (hx : IsTupleKey (intKind prog w) s.heap x a) (hy : IsTupleKey (intKind prog w) s.heap y b) (h : P (.done (.ret (.bool (decide (x ≠ y))))) s) :
    wpAny (model prog w) A (Builtin.«tuple.__ne__» ⟨[.ref a, .ref b], []⟩) P E s := by
  have hTb := hy.typeIs
  obtain ⟨oa, xs, na, hoa, _, hda, hia⟩ := hx
  obtain ⟨ob, ys, nb, hob, _, hdb, hib⟩ := hy
  show wpAny _ _ (isInstance (.ref b) (.type "tuple") >>= _) _ _ s
  refine wpAny_bind (wpAny_isInstance hTb isSubtype_tuple_tuple ?_)
  simp only [Bool.not_true, Bool.false_eq_true, if_false]
  refine wpAny_bind (wpAny_tupleItemsOf hoa hda ?_)
  refine wpAny_bind (wpAny_tupleItemsOf hob hdb ?_)
  refine wpAny_bind ?_
  refine wpAny_mono (ne_loop x y xs.toList ys.toList hia hib s) (fun r s' hr => ?_) fun _ _ e => e.elim
  obtain ⟨rfl, hr⟩ := hr
  obtain ⟨r1, r2⟩ := r
  rcases hr with ⟨hr, hne⟩ | ⟨hr, hl⟩
  · dsimp only at hr
    subst hr
    rw [decide_eq_true hne] at h
    exact wpAny_pure h
  · dsimp only at hr
    subst hr
    rw [hl] at h
    refine wpAny_pure ?_
    simpa [Builtin.Tuple.tupleCompareSizes, bne, Bool.beq_eq_decide_eq] using h
theorem ne_tups {x y : List Int} {a b : Addr} {Q : Value → Shared → Prop} (hu : A.units < cLine) (hx : IsTupleKey (intKind prog w) s.heap x a) (hy : IsTupleKey (intKind prog w) s.heap y b) (h : Q (.bool (decide (x ≠ y))) s) :
    wpAny (model prog w) A (compareOp .NotEq (.ref a) (.ref b)) Q E s := by
  show wpAny _ _ (richCompare .NotEq _ _) _ _ _
  exact wpAny_richCompare_same_room (op := .NotEq) hx.typeIs hy.typeIs F.slot_tuple_ne (wpAny_call_entry F.slot_tuple_ne hx.typeIs F.entry_tuple_ne (tuple_ne_tree hx hy ⟨_, rfl, (fun e => nomatch e), h⟩) (F.args_tuple_ne_2 _ _)) hu
end
end Mine
-- part MIR
namespace Mine
def okP (p : List Int) : Bool := decide (p.length ≤ 3) && p.all fun x => decide (0 ≤ x) && decide (x ≤ 4)
def cutF (p : List Int) (row sq : Nat) : List Int := p.take row ++ (p.drop row).map fun l => if (sq : Int) < l then (sq : Int) else l
def bitesRow (p : List Int) (row n : Nat) : List (List Int) := (List.range n).flatMap fun sq => if row = 0 ∧ sq = 0 then [] else [cutF p row sq]
def bitesF (p : List Int) : List (List Int) := (List.range p.length).flatMap fun row => bitesRow p row (p.getD row 0).toNat
def bisF (order : List (List Int)) (p : List Int) : Nat → Nat → Nat → Nat
  | 0, lo, _ => lo
  | f + 1, lo, hi => if lo < hi then (if lexLt (order.getD ((lo + hi) / 2) []) p then bisF order p f ((lo + hi) / 2 + 1) hi else bisF order p f lo ((lo + hi) / 2)) else lo
def bisT (order : List (List Int)) (p : List Int) : Nat := bisF order p order.length 0 order.length
abbrev Kn := List (List Int × Bool)
def getF (known : Kn) (p : List Int) : Option Bool := (known.find? fun x => decide (x.1 = p)).map (·.2)
def winsF : Nat → List Int → List (List Int) → Kn → Option (Bool × List (List Int) × Kn)
  | 0, _, _, _ => none
  | f + 1, p, order, known =>
    if okP p && decide (order.length ≤ 500) && decide (known.length ≤ 500) then
      if bisT order p = order.length ∨ order.getD (bisT order p) [] ≠ p then
        match (bitesF p).foldlM (fun (c : Bool × List (List Int) × Kn) q => (winsF f q c.2.1 c.2.2).map fun d => (c.1 || !d.1, d.2)) (false, order.take (bisT order p) ++ p :: order.drop (bisT order p), known) with
        | none => none
        | some c => if (getF c.2.2 p).isNone && decide (c.2.2.length ≤ 500) then some (c.1, c.2.1, c.2.2 ++ [(p, c.1)]) else none
      else (getF known p).map fun b => (b, order, known)
    else none
def sortedB : List (List Int) → Bool
  | [] => true
  | [_] => true
  | x :: y :: r => lexLt x y && sortedB (y :: r)
end Mine
-- part MIR2
namespace Mine
def evalT {α : Type} (n : Nat) (ans : Nat → Nat → Bool) : KasT α → Option α
  | .ret a => some a
  | .ask i j k => if decide (i < n) && decide (j < n) then evalT n ans (k (ans i j)) else none
def sortF (ps : List (List Int)) : Option (List (List Int)) := (evalT ps.length (fun i j => lexLt (ps.getD i []) (ps.getD j [])) (kas_sort ps.length)).bind fun p => if p.toList.all (fun i => decide (i < ps.length)) then some (p.toList.map fun i => ps.getD i []) else none
end Mine
-- part LP
namespace Mine
set_option Elab.async false
set_option maxRecDepth 100000
def waysF (r q : Nat) : Nat → Int
  | 0 => 1
  | k + 1 => waysF r q k * ((q : Int) + r - k) / ((k : Int) + 1)
def okWays (r q k : Nat) : Bool := decide (waysF r q k * ((q : Int) + r - k) % ((k : Int) + 1) = 0) && decide (0 ≤ waysF r q k) && decide (waysF r q k ≤ 1000)
def okRow (p : List Int) : Bool := okP p && !p.isEmpty && decide (p.getD 0 0 ≠ 0) && decide (p.reverse.Pairwise (· ≤ ·))
def okWin (known : Kn) (p : List Int) : Bool := match getF known p with
  | none => false
  | some b => (bitesF p).all (fun a => (getF known a).isSome) && (b == (bitesF p).any fun a => decide (getF known a = some false))
def okTwo (known : Kn) (p : List Int) : Bool := !((decide (p.drop 2 = []) || decide (p.drop 2 = [0])) && decide (p.length > 1) && decide (getF known p = some (decide (p.getD 0 0 = p.getD 1 0 + 1))))
def okSquare (r q : Nat) (known : Kn) : Bool := !(decide (r = q) && decide (r > 1)) || decide (getF known ((q : Int) :: List.replicate (r - 1) 1) = some false)
def factsF (r q : Nat) (order : List (List Int)) (known : Kn) : Bool :=
  decide (sortF (known.map (·.1)) = some order) && known.all (fun c => !c.1.isEmpty) && decide (known.length < 60) && decide (order.length < 60) && (List.range (r + 1)).all (okWays r q) && decide ((order.length : Int) = waysF r q r - 1) &&
    order.all okRow && order.all (okWin known) && order.all (okTwo known) && okSquare r q known
def checkF (r q : Nat) : Bool := match winsF 14 (List.replicate r (q : Int)) [] [] with
  | none => false
  | some (b, order, known) => (b == decide (r * q > 1)) && factsF r q order known
theorem check_all : ∀ r, r < 3 → ∀ q, q < 4 → checkF (r + 1) (q + 1) = true := by
  intro r hr q hq
  match r, q with
  | 0, 0 => decide +kernel
  | 0, 1 => decide +kernel
  | 0, 2 => decide +kernel
  | 0, 3 => decide +kernel
  | 1, 0 => decide +kernel
  | 1, 1 => decide +kernel
  | 1, 2 => decide +kernel
  | 1, 3 => decide +kernel
  | 2, 0 => decide +kernel
  | 2, 1 => decide +kernel
  | 2, 2 => decide +kernel
  | 2, 3 => decide +kernel
  | r + 3, _ => exact absurd hr (by omega)
  | _, q + 4 => exact absurd hq (by omega)
structure Facts (r q : Nat) (order : List (List Int)) (known : Kn) : Prop where
  sort : sortF (known.map (·.1)) = some order
  keys : ∀ c ∈ known, c.1 ≠ []
  klen : known.length < 60
  olen : order.length < 60
  ways : ∀ k, k ≤ r → waysF r q k * ((q : Int) + r - k) % ((k : Int) + 1) = 0 ∧ 0 ≤ waysF r q k ∧ waysF r q k ≤ 1000
  count : (order.length : Int) = waysF r q r - 1
  rows : ∀ p ∈ order, okP p = true ∧ p ≠ [] ∧ p.getD 0 0 ≠ 0 ∧ p.reverse.Pairwise (· ≤ ·)
  wins : ∀ p ∈ order, okWin known p = true
  two : ∀ p ∈ order, okTwo known p = true
  square : okSquare r q known = true
theorem law_facts (r q : Nat) (hr : 1 ≤ r ∧ r ≤ 3) (hq : 1 ≤ q ∧ q ≤ 4) : ∃ order known, winsF 14 (List.replicate r (q : Int)) [] [] = some (decide (r * q > 1), order, known) ∧ Facts r q order known := by
  have h := check_all (r - 1) (by omega) (q - 1) (by omega)
  rw [show r - 1 + 1 = r by omega, show q - 1 + 1 = q by omega] at h
  unfold checkF at h
  split at h
  · cases h
  · rename_i b order known hw
    simp only [Bool.and_eq_true, beq_iff_eq] at h
    obtain ⟨rfl, h⟩ := h
    refine ⟨order, known, hw, ?_⟩
    unfold factsF at h
    simp only [Bool.and_eq_true, decide_eq_true_eq, List.all_eq_true, List.mem_range, Bool.not_eq_true', List.isEmpty_eq_false_iff] at h
    obtain ⟨⟨⟨⟨⟨⟨⟨⟨⟨h1, h2⟩, h3⟩, h4⟩, h5⟩, h6⟩, h7⟩, h8⟩, h9⟩, h10⟩ := h
    refine ⟨h1, h2, h3, h4, fun k hk => ?_, h6, fun p hp => ?_, h8, h9, h10⟩
    · have := h5 k (by omega)
      unfold okWays at this
      simp only [Bool.and_eq_true, decide_eq_true_eq] at this
      exact ⟨this.1.1, this.1.2, this.2⟩
    · have := h7 p hp
      unfold okRow at this
      simp only [Bool.and_eq_true, decide_eq_true_eq, Bool.not_eq_true', List.isEmpty_eq_false_iff] at this
      exact ⟨this.1.1.1, this.1.1.2, this.1.2, this.2⟩
end Mine
-- part P0
namespace Mine
set_option Elab.async false
abbrev tupO (vs : List Value) (n : Nat) : Obj := { cls := .type "tuple", data := .seq vs.toArray n }
/-- the ledger holds the position p at a -/
def PosAt (nl : List (Addr × Obj)) (a : Addr) (p : List Int) : Prop := ∃ vs n, (a, tupO vs n) ∈ nl ∧ IntsAre vs p
theorem PosAt.mono {nl nl' : List (Addr × Obj)} {a : Addr} {p : List Int} (h : PosAt nl a p) (hs : ∀ q ∈ nl, q ∈ nl') : PosAt nl' a p :=
  let ⟨vs, n, hm, hi⟩ := h; ⟨vs, n, hs _ hm, hi⟩
theorem ints_key {prog : Program} {w : World} : ∀ {vs : List Value} {ns : List Int}, IntsAre vs ns → ItemsAre (intKind prog w) ns vs
  | _, _, .nil => .nil
  | _, _, .cons n t r => .cons (by simp [intKind, Value.isInt]) (ints_key r)
theorem PosAt.key {prog : Program} {w : World} {h₀ h : Heap} {L a : Addr} {p : List Int} {nl : List (Addr × Obj)} (x : PosAt nl a p) (N : News h₀ L h nl) : IsTupleKey (intKind prog w) h p a :=
  let ⟨vs, n, hm, hi⟩ := x; ⟨_, vs.toArray, n, (N _ hm).1, rfl, rfl, ints_key hi⟩
inductive RefsAre (nl : List (Addr × Obj)) : List Value → List (List Int) → Prop
  | nil : RefsAre nl [] []
  | cons {a : Addr} {p : List Int} {vs : List Value} {ps : List (List Int)} : PosAt nl a p → RefsAre nl vs ps → RefsAre nl (.ref a :: vs) (p :: ps)
section
variable {nl nl' : List (Addr × Obj)}
theorem RefsAre.mono (hs : ∀ q ∈ nl, q ∈ nl') : ∀ {vs : List Value} {ps : List (List Int)}, RefsAre nl vs ps → RefsAre nl' vs ps
  | _, _, .nil => .nil
  | _, _, .cons h r => .cons (h.mono hs) (RefsAre.mono hs r)
theorem RefsAre.length : ∀ {vs : List Value} {ps : List (List Int)}, RefsAre nl vs ps → vs.length = ps.length
  | _, _, .nil => rfl
  | _, _, .cons _ r => congrArg (· + 1) r.length
theorem RefsAre.get : ∀ {vs : List Value} {ps : List (List Int)}, RefsAre nl vs ps → ∀ i, i < ps.length → ∃ a, vs[i]? = some (.ref a) ∧ PosAt nl a (ps.getD i [])
  | _, _, .nil, i, h => absurd h (Nat.not_lt_zero _)
  | _, _, .cons h r, 0, _ => ⟨_, rfl, h⟩
  | _, _, .cons _ r, i + 1, hi => by
    obtain ⟨a, e, p⟩ := r.get i (Nat.lt_of_succ_lt_succ hi)
    exact ⟨a, by simpa using e, by simpa using p⟩
theorem RefsAre.app : ∀ {vs ws : List Value} {ps qs : List (List Int)}, RefsAre nl vs ps → RefsAre nl ws qs → RefsAre nl (vs ++ ws) (ps ++ qs)
  | _, _, _, _, .nil, h => h
  | _, _, _, _, .cons h r, h' => .cons h (r.app h')
theorem RefsAre.take : ∀ {vs : List Value} {ps : List (List Int)}, RefsAre nl vs ps → ∀ k, RefsAre nl (vs.take k) (ps.take k)
  | _, _, _, 0 => by simp only [List.take_zero]; exact .nil
  | _, _, .nil, k + 1 => by simp only [List.take_nil]; exact .nil
  | _, _, .cons h r, k + 1 => by simp only [List.take_succ_cons]; exact .cons h (r.take k)
theorem RefsAre.drop : ∀ {vs : List Value} {ps : List (List Int)}, RefsAre nl vs ps → ∀ k, RefsAre nl (vs.drop k) (ps.drop k)
  | _, _, h, 0 => by simpa using h
  | _, _, .nil, k + 1 => by simp only [List.drop_nil]; exact .nil
  | _, _, .cons h r, k + 1 => by simp only [List.drop_succ_cons]; exact r.drop k
theorem bisF_end (order : List (List Int)) (p : List Int) (lo : Nat) : ∀ f, bisF order p f lo lo = lo
  | 0 => rfl
  | f + 1 => by unfold bisF; rw [if_neg (Nat.lt_irrefl _)]
theorem bisF_step (order : List (List Int)) (p : List Int) (f lo hi : Nat) (h : lo < hi) : bisF order p (f + 1) lo hi = if lexLt (order.getD ((lo + hi) / 2) []) p then bisF order p f ((lo + hi) / 2 + 1) hi else bisF order p f lo ((lo + hi) / 2) := by
  rw [bisF, if_pos h]
theorem bisF_le (order : List (List Int)) (p : List Int) : ∀ (f lo hi : Nat), lo ≤ hi → bisF order p f lo hi ≤ hi
  | 0, lo, hi, h => h
  | f + 1, lo, hi, h => by
    unfold bisF
    split
    · split
      · exact bisF_le order p f _ _ (by omega)
      · exact Nat.le_trans (bisF_le order p f _ _ (by omega)) (by omega)
    · exact h
theorem bisT_le (order : List (List Int)) (p : List Int) : bisT order p ≤ order.length := bisF_le _ _ _ _ _ (Nat.zero_le _)
end
section
variable {prog : Program} {w : World} {A : Around} {E : Value → Shared → Prop} {s : Shared}
theorem my_item {value slice : PySem.Expr} {l : Addr} {vs : List Value} {k : Int} {u : Tok} {v : Value} {Q : Value → Shared → Prop}
    (hl : s.heap.IsList l vs.toArray) (h0 : 0 ≤ k) (hhi : k < 2 ^ 63) (hx : vs[k.toNat]? = some v) (h : Q v s)
    (hs : subscripted slice false (.ref l) (.int k u) = operate [.ref l, .int k u] (getItem (.ref l) (.int k u)) := by with_unfolding_all rfl) :
    wpAny (model prog w) A (subscriptTail value slice (.ref l) (.int k u)) Q E s :=
  tail_any hl.typeIs slot_list_getitem.lookup (wpAny_getItem_list hl h0 hhi (by simpa using hx) h) hs
end
end Mine
-- part FC
namespace Mine
set_option Elab.async false
section
variable {prog : Program} {w : World} {A : Around} {E : Value → Shared → Prop} {s : Shared} {h₀ : Heap} {env : Env} {Q : Flow → Shared → Prop}
/-- a for's loop at its iterator -/
def LoopC (prog : Program) (w : World) (A : Around) (env : Env) (x : Str) (px : Pos) (body : List Stmt) (Q : Flow → Shared → Prop) (E : Value → Shared → Prop) (it : Value) (s₂ : Shared) : Prop :=
  codeAny (model prog w) A (.forLoop (.Name x px) it body [] env) (fun r s' => match r with | .ok f => Q f s' | .error e => cameBackBy (model prog w) A env E e s') s₂
theorem For_cell {x : Str} {px pos : Pos} {iter : Expr} {body : List Stmt}
    (h : wpAny (model prog w) A (eval iter env) (fun xv s₁ => wpAny (model prog w) A (pyIter xv) (fun it s₂ => LoopC prog w A env x px body Q E it s₂) E s₁) E s)
    (hs : ∀ x, foldedSetIterable iter env x = pure x := by intro _; rfl) : wpAny (model prog w) A (exec (.For (.Name x px) iter body [] pos) env) Q E s :=
  wpAny_For h hs
def CPost (h₀ : Heap) (L : Addr) (s₁ : Shared) (it c : Addr × Obj) (rest : (Str → Option Value) → List (Addr × Obj) → Prop) (f : Flow) (s₂ : Shared) : Prop :=
  match f with
  | .ret _ => False
  | .brk => False
  | _ => ∃ h' tk m' news' oc', s₂ = { s₁ with heap := h', toks := tk } ∧ Fr h₀ L h' m' ∧ News h₀ L h' (it :: (c.1, oc') :: news') ∧ (∀ p ∈ news', p.1 ≠ it.1 ∧ p.1 ≠ c.1) ∧ (∃ v, oc'.data = .cell v) ∧ rest m' news'
/-- a for over range(a, b) whose name is a cell, by an invariant -/
theorem range_cell {x : Str} {px : Pos} {body : List Stmt} {r c : Addr} {oc : Obj} {v₀ : Option Value} {a₀ b₀ : Int} {t₀ u₀ w₀ : Tok} {n : Nat} {m₀ : Str → Option Value} {news nl : List (Addr × Obj)}
    (hh : A.handled = none) (hr : IsRange s.heap r a₀ b₀ 1 t₀ u₀ w₀) (hsmall : Builtin.Range.small a₀ b₀ 1 = true) (hn : Builtin.Range.rangeSize a₀ b₀ 1 = (n : Int)) (F : Fr h₀ env.locals s.heap m₀) (N : News h₀ env.locals s.heap nl)
    (hs : ∀ p ∈ (c, oc) :: news, p ∈ nl) (hoc : oc.data = .cell v₀) (hoff : ∀ p ∈ news, p.1 ≠ c)
    (hx : env.kindOf x = some .cell) (hk : env.scope.kind = .function) (hcl : env.cells.lookup x = some c)
    (Inv : Nat → (Str → Option Value) → List (Addr × Obj) → Prop) (h0 : Inv 0 m₀ news)
    (turn : ∀ I i t it oc m nl h tk, i < n → Inv i m nl → oc.data = .cell (some (.int (a₀ + (i : Int)) t)) → (∀ p ∈ news, p.1 < I) → c < I → Fr h₀ env.locals h m → News h₀ env.locals h ((I, it) :: (c, oc) :: nl) → (∀ p ∈ nl, p.1 ≠ I ∧ p.1 ≠ c) →
      wpAny (model prog w) A (execs body env) (CPost h₀ env.locals { s with heap := h, toks := tk } (I, it) (c, oc) (Inv (i + 1))) E { s with heap := h, toks := tk })
    (done : ∀ m nl h tk oc, Inv n m nl → (∃ v, oc.data = .cell v) → Fr h₀ env.locals h m → News h₀ env.locals h ((c, oc) :: nl) → (∀ p ∈ nl, p.1 ≠ c) → Q .next { s with heap := h, toks := tk })
    (hE : PassesOwn (model prog w) A env E := by passes_own) :
    wpAny (model prog w) A (pyIter (.ref r)) (fun it s₂ => LoopC prog w A env x px body Q E it s₂) E s := by
  refine wpAny_pyIter_range hr hsmall ?_
  have N1 : News h₀ env.locals s.heap ((c, oc) :: news) := fun p hp => N p (hs p hp)
  generalize hI : s.heap.objs.size = I
  have hlt : ∀ p ∈ (c, oc) :: news, p.1 < I := fun p hp => hI ▸ Heap.lt_size (N1 p hp).1
  have hlc : c < I := hlt _ (.head _)
  have hnew : h₀.get? I = none := hI ▸ next_is_new F
  have hLI : env.locals < I := hI ▸ F.ns.lt
  have hcL : c ≠ env.locals := (N1 _ (.head _)).2.1
  have hc0 : h₀.get? c = none := (N1 _ (.head _)).2.2
  have nLI : env.locals ≠ I := Nat.ne_of_lt hLI
  have ncI : c ≠ I := Nat.ne_of_lt hlc
  have W : Walks prog w A I [I] [I] n (fun i v => i < n ∧ ∃ t, v = .int (a₀ + i * 1) t)
      (fun i h => IsRangeIter h I (a₀ + (i : Nat) * 1) ((n : Int) - (i : Nat)) 1) := (Walks.range hh I a₀ 1 n).bound
  unfold LoopC
  refine codeAny_forLoop
    (fun k s' => ∃ h' tk m' nl' oc' i, s' = { s with heap := h', toks := tk } ∧ IsRangeIter h' I (a₀ + (i : Nat) * 1) ((n : Int) - (i : Nat)) 1 ∧ Fr h₀ env.locals h' m' ∧ News h₀ env.locals h' ((c, oc') :: nl') ∧ (∀ p ∈ nl', p.1 ≠ I ∧ p.1 ≠ c) ∧ (∃ v, oc'.data = .cell v) ∧ Inv i m' nl' ∧ i ≤ n ∧ k = n + 1 - i) ?_ (n + 1)
    ⟨_, s.toks, m₀, news, oc, 0, rfl, by (show IsRangeIter _ _ _ _ _; rw [hn]; subst hI; simpa using Heap.get?_push_size _ rfl), F.push _, (fun p hp => ⟨Heap.get?_push_of_some _ (N1 p hp).1, (N1 p hp).2⟩), (fun p hp => ⟨Nat.ne_of_lt (hlt p (.tail _ hp)), hoff p hp⟩), ⟨_, hoc⟩, h0, Nat.zero_le _, rfl⟩
  rintro k s' ⟨h', tk, m', nl', oc', i, rfl, hst', F', N', off', ⟨vc, hoc'⟩, hJ, hi, rfl⟩
  have k1 : ∀ h₁ : Heap, (∀ b o, b ∉ [I] → h'.get? b = some o → h₁.get? b = some o) → ∀ b o, b ≠ I → h'.get? b = some o → h₁.get? b = some o := fun h₁ hk b o hb e => hk b o (by simpa using hb) e
  by_cases hlt2 : i < n
  · refine W.item i _ _ _ hlt2 hst' fun v h₁ tk₁ hP hst₁ hk₁ => ?_
    have kk := k1 h₁ hk₁
    obtain ⟨_, t, rfl⟩ := hP
    have ec := kk c oc' ncI (N' (c, oc') (.head _)).1
    refine wpAny_assign_Name (wpAny_storeName_cell (c := c) hk hx hcl ⟨oc', ec, hoc'⟩ (fun h₂ hc₂ hs₂ => ?_))
    obtain ⟨oc₂, ec₂, dc₂⟩ := hc₂
    have kp : ∀ b o, b ≠ c → h₁.get? b = some o → h₂.get? b = some o := fun b o hb e => hs₂.extBut b o hb e
    have F₂ : Fr h₀ env.locals h₂ m' := ⟨F'.ns.at' fun o e => kp _ o (Ne.symm hcL) (kk _ o nLI e), fun b o e => kp b o (fun q => by rw [q, hc0] at e; cases e) (kk b o (fun q => by rw [q, hnew] at e; cases e) (F'.keep b o e)), F'.above⟩
    have hst₂ : IsRangeIter h₂ I (a₀ + ((i + 1 : Nat)) * 1) ((n : Int) - ((i + 1 : Nat))) 1 := kp _ _ (Ne.symm ncI) hst₁
    have N₂ : News h₀ env.locals h₂ ((I, itR (a₀ + ((i + 1 : Nat)) * 1) ((n : Int) - ((i + 1 : Nat)))) :: (c, oc₂) :: nl') := fun p hp => by
      rcases List.mem_cons.mp hp with rfl | hp
      · exact ⟨hst₂, Ne.symm nLI, hnew⟩
      rcases List.mem_cons.mp hp with rfl | hp
      · exact ⟨ec₂, hcL, hc0⟩
      · have z := N' p (.tail _ hp)
        exact ⟨kp _ _ (off' p hp).2 (kk _ _ (off' p hp).1 z.1), z.2⟩
    refine wpAny_passesOwn hE (wpAny_mono (turn I i t _ oc₂ m' nl' h₂ _ hlt2 hJ (by rw [dc₂, Int.mul_one]) (fun p hp => hlt p (.tail _ hp)) hlc F₂ N₂ off') (fun f s₃ h₃ => ?_) fun _ _ e => e)
    have fin : (∃ h' tk m' news' oc', s₃ = { s with heap := h', toks := tk } ∧ Fr h₀ env.locals h' m' ∧ News h₀ env.locals h' ((I, itR (a₀ + ((i + 1 : Nat)) * 1) ((n : Int) - ((i + 1 : Nat)))) :: (c, oc') :: news') ∧ (∀ p ∈ news', p.1 ≠ I ∧ p.1 ≠ c) ∧ (∃ v, oc'.data = .cell v) ∧ Inv (i + 1) m' news') →
        ∃ m, m < n + 1 - i ∧ ∃ h' tk m' nl' oc' i, s₃ = { s with heap := h', toks := tk } ∧ IsRangeIter h' I (a₀ + (i : Nat) * 1) ((n : Int) - (i : Nat)) 1 ∧ Fr h₀ env.locals h' m' ∧ News h₀ env.locals h' ((c, oc') :: nl') ∧ (∀ p ∈ nl', p.1 ≠ I ∧ p.1 ≠ c) ∧ (∃ v, oc'.data = .cell v) ∧ Inv i m' nl' ∧ i ≤ n ∧ m = n + 1 - i := by
      rintro ⟨h9, tk₃, m₃, nl₃, oc₃, rfl, F₃, N₃, off₃, hc₃, J₃⟩
      exact ⟨n + 1 - (i + 1), by omega, h9, tk₃, m₃, nl₃, oc₃, i + 1, rfl, (N₃ _ (.head _)).1, F₃, fun p hp => N₃ p (.tail _ hp), off₃, hc₃, J₃, hlt2, rfl⟩
    cases f with
    | ret v => exact h₃.elim
    | brk => exact h₃.elim
    | cont => exact fin h₃
    | next => exact fin h₃
  · obtain rfl : i = n := by omega
    refine W.done _ _ _ hst' fun h₁ tk₁ hk₁ => wpAny_execs_nil ?_
    have kk := k1 h₁ hk₁
    refine done m' nl' h₁ tk₁ oc' hJ ⟨vc, hoc'⟩ ⟨F'.ns.at' fun o e => kk _ o nLI e, fun b o e => kk b o (fun q => by rw [q, hnew] at e; cases e) (F'.keep b o e), F'.above⟩ (fun p hp => ?_) fun p hp => (off' p hp).2
    rcases List.mem_cons.mp hp with rfl | hp2
    · exact ⟨kk _ _ ncI (N' _ hp).1, (N' _ hp).2⟩
    · exact ⟨kk _ _ (off' p hp2).1 (N' _ hp).1, (N' _ hp).2⟩
end
end Mine
-- part FT
namespace Mine
set_option Elab.async false
section
variable {prog : Program} {w : World} {A : Around} {E : Value → Shared → Prop} {s : Shared} {h₀ : Heap} {L : Addr} {m : Str → Option Value} {news : List (Addr × Obj)}
inductive PartIs : Value → Option Int → Prop
  | none : PartIs .none Option.none
  | int (i : Int) (u : Tok) : PartIs (.int i u) (some i)
theorem part_of {v : Value} {k : Option Int} {Q : Option Int → Shared → Prop} (p : PartIs v k) (h : Q k s) : wpAny (model prog w) A (Builtin.Slice.slicePartIndex v) Q E s := by
  cases p with
  | none => exact slicePart_none h
  | int i u => exact slicePart_int h
theorem applied {sl : Addr} {n : Nat} {vl vu : Value} {lo hi : Option Int} {Q : Int × Int × Nat → Shared → Prop} (hs : s.heap.IsSliceOf sl vl vu .none) (pl : PartIs vl lo) (pu : PartIs vu hi)
    (h : Q ((Builtin.Slice.sliceAdjust lo hi 1 (n : Int)).1, 1, Builtin.Slice.slicePlaces (Builtin.Slice.sliceAdjust lo hi 1 (n : Int)).1 (Builtin.Slice.sliceAdjust lo hi 1 (n : Int)).2 1) s) :
    wpAny (model prog w) A (Builtin.Slice.sliceApplied (.ref sl) (pure (n : Int))) Q E s := by
  obtain ⟨os, hos, hcs, hds⟩ := id hs
  unfold Builtin.Slice.sliceApplied Builtin.Slice.sliceFields
  refine wpAny_bind (wpAny_bind (wpAny_field hos hds (x := vl) rfl (wpAny_bind (wpAny_field hos hds (x := vu) rfl (wpAny_bind (wpAny_field hos hds (x := .none) rfl (wpAny_pure ?_)))))))
  refine wpAny_bind (slicePart_none ?_)
  show wpAny _ _ (if ((1 : Int) == 0) = true then _ else _) _ _ s
  rw [if_neg (by decide)]
  refine wpAny_bind (part_of pl (wpAny_bind (part_of pu (wpAny_bind (wpAny_pure ?_)))))
  exact wpAny_pure h
/-- a slice of a tuple: the tuple itself, or a new one -/
theorem getItem_tslice {t sl : Addr} {items : Array Value} {vl vu : Value} {lo hi : Option Int} {a n : Nat} {Q : Value → Shared → Prop} (ht : IsTup s.heap t items) (hs : s.heap.IsSliceOf sl vl vu .none) (pl : PartIs vl lo) (pu : PartIs vu hi)
    (ha : (Builtin.Slice.sliceAdjust lo hi 1 (items.size : Int)).1 = (a : Int)) (hn : Builtin.Slice.slicePlaces (Builtin.Slice.sliceAdjust lo hi 1 (items.size : Int)).1 (Builtin.Slice.sliceAdjust lo hi 1 (items.size : Int)).2 1 = n)
    (h1 : a = 0 → n = items.size → Q (.ref t) s)
    (h2 : ¬ (a = 0 ∧ n = items.size) → Q (.ref s.heap.objs.size) { s with heap := s.heap.push { cls := .type "tuple", data := .seq ((items.toList.drop a).take n).toArray } })
    (hsz : items.size ≤ 1000) : wpAny (model prog w) A (getItem (.ref t) (.ref sl)) Q E s := by
  have hdrop : sizeOk (.seq ((items.toList.drop a).take n).toArray) := by
    show ((items.toList.drop a).take n).toArray.size ≤ sizeLine
    rw [List.size_toArray, List.length_take, List.length_drop, Array.length_toList]
    have : (1000 : Nat) ≤ sizeLine := by decide
    omega
  obtain ⟨os, hos, hcs, hds⟩ := id hs
  have hTs : s.TypeIs (.ref sl) "slice" := ⟨os, hos, hcs⟩
  unfold getItem
  try with_reducible refine wpAny_holding ?_
  first | refine wpAny_bind (wpAny_pure ?_) | skip
  refine wpAny_bind (wpAny_sequenceKey ht.typeIs (by decide) ?_)
  refine wpAny_bind (wpAny_callSpecial?_slot (name := Str.ofString "__getitem__") ht.typeIs slot_tuple_getitem
    (wpAny_call_entry slot_tuple_getitem ht.typeIs entry_tuple_getitem ?_ (args_tuple_getitem _ _)))
  show wpAny _ _ (Builtin.Tuple.tupleItemsOf (.ref t) >>= _) _ _ s
  refine wpAny_bind (tupleItemsOf_ ht ?_)
  refine wpAny_bind (wpAny_typeOf hTs ?_)
  rw [if_pos (by decide)]
  refine wpAny_bind (applied hs pl pu ?_)
  rw [hn, ha]
  have e : ((List.range n).filterMap fun (k : Nat) => items[((a : Int) + (k : Int) * 1).toNat]?).toArray = ((items.toList.drop a).take n).toArray := by
    have e : (fun (k : Nat) => items[((a : Int) + (k : Int) * 1).toNat]?) = fun k => items[a + k]? := by
      funext k
      have : ((a : Int) + (k : Int) * 1).toNat = a + k := by omega
      rw [this]
    rw [e]
    have := pick_run items a n
    rw [List.filterMap_map] at this
    have e2 : ((fun x => items[x]?) ∘ fun x => a + x) = fun k => items[a + k]? := rfl
    rw [e2] at this
    rw [this]
  dsimp only
  by_cases hc : a = 0 ∧ n = items.size
  · obtain ⟨rfl, rfl⟩ := hc
    rw [if_pos (by simp)]
    have hT := ht.typeIs
    unfold Builtin.Tuple.tupleIsExact
    refine wpAny_bind (wpAny_bind (wpAny_typeOf hT (wpAny_pure ?_)))
    rw [if_pos (by decide)]
    exact wpAny_bind (wpAny_rule (wpAny_bind (wpAny_pure (wpAny_pure ⟨_, rfl, wpAny_pure (h1 rfl rfl)⟩))))
  · have hno : ¬ (((a : Int) == 0 && (1 : Int) == 1 && n == items.size) = true) := by
      simp only [Bool.and_eq_true, beq_iff_eq, and_true]
      omega
    rw [if_neg hno, e]
    first
      | exact wpAny_bind (m := Builtin.Tuple.tupleExact _) (wpAny_newObj_type (wpAny_pure ⟨_, rfl, wpAny_pure (h2 hc)⟩) hdrop)
      | exact wpAny_bind (m := Builtin.Tuple.tupleExact _) (wpAny_newObj_type (wpAny_bind (wpAny_pure (wpAny_pure ⟨_, rfl, wpAny_pure (h2 hc)⟩))) hdrop)
      | exact wpAny_bind (wpAny_bind (m := Builtin.Tuple.tupleExact _) (wpAny_newObj_type (wpAny_pure (wpAny_pure ⟨_, rfl, wpAny_pure (h2 hc)⟩)) hdrop))
      | exact wpAny_bind (wpAny_bind (m := Builtin.Tuple.tupleExact _) (wpAny_newObj_type (wpAny_pure ⟨_, rfl, wpAny_pure (h2 hc)⟩) hdrop))
theorem tslice {value slice : Expr} {t : Addr} {vs : List Value} {z : Nat} {vl vu : Value} {lo hi : Option Int} {a n : Nat} {Q : Value → Shared → Prop}
    (F : Fr h₀ L s.heap m) (N : News h₀ L s.heap news) (hm : (t, tupO vs z) ∈ news) (pl : PartIs vl lo) (pu : PartIs vu hi)
    (ha : (Builtin.Slice.sliceAdjust lo hi 1 (vs.length : Int)).1 = (a : Int)) (hn : Builtin.Slice.slicePlaces (Builtin.Slice.sliceAdjust lo hi 1 (vs.length : Int)).1 (Builtin.Slice.sliceAdjust lo hi 1 (vs.length : Int)).2 1 = n) (hsz : vs.length ≤ 1000)
    (h : ∀ D z' ext h', (∀ q ∈ ext, ∀ n ∈ news, n.1 < q.1) → (D, tupO ((vs.drop a).take n) z') ∈ ext ++ news → Fr h₀ L h' m → News h₀ L h' (ext ++ news) → Q (.ref D) { s with heap := h' })
    (hs : subscripted slice false (.ref t) (.ref s.heap.objs.size) = operate [.ref s.heap.objs.size, .ref t] (getItem (.ref t) (.ref s.heap.objs.size)) := by with_unfolding_all rfl)
    (hg : ∀ r, letTemporaryGo value (.ref t) r = pure () := by intro _; with_unfolding_all rfl) :
    wpAny (model prog w) A (subscriptTail value slice (.ref t) (.ref s.heap.objs.size)) Q E { s with heap := s.heap.push { cls := .type "slice", data := .fields #[vl, vu, .none] } } := by
  have ht : IsTup s.heap t vs.toArray := N.isTup hm
  have ht' : IsTup (s.heap.push { cls := .type "slice", data := .fields #[vl, vu, .none] }) t vs.toArray := ht.keeps fun _ _ e => Heap.get?_push_of_some _ e
  refine subscriptTail_ops (s := { s with heap := s.heap.push { cls := .type "slice", data := .fields #[vl, vu, .none] } }) ht'.typeIs slot_tuple_getitem.lookup
    (getItem_tslice ht' (Heap.IsSliceOf.new ..) pl pu (a := a) (n := n) (by simpa using ha) (by simpa using hn) (fun h0 h1 => ?_) (fun _ => ?_) (by simpa using hsz)) hs hg
  · subst h0
    refine h t z [] _ (fun q hq => nomatch hq) ?_ (F.push _) (N.grown fun _ _ e => Heap.get?_push_of_some _ e)
    rw [List.nil_append, List.drop_zero, List.take_of_length_le (by rw [h1, List.size_toArray]; exact Nat.le_refl _)]
    exact hm
  · have N1 := News.push (F.push { cls := .type "slice", data := .fields #[vl, vu, .none] }) (N.grown fun _ _ e => Heap.get?_push_of_some _ e) { cls := .type "tuple", data := .seq ((vs.drop a).take n).toArray }
    rw [Heap.size_push] at N1
    show Q (.ref (s.heap.push _).objs.size) _
    rw [Heap.size_push]
    refine h _ 0 [(s.heap.objs.size + 1, tupO ((vs.drop a).take n) 0)] _ ?_ (.head _) ((F.push _).push _) N1
    intro q hq r hr
    rw [List.mem_singleton.mp hq]
    exact Nat.lt_succ_of_lt (Heap.lt_size (N r hr).1)
theorem upto_adj (b n : Nat) (hb : b ≤ n) : (Builtin.Slice.sliceAdjust none (some (b : Int)) 1 (n : Int)).1 = ((0 : Nat) : Int) ∧ Builtin.Slice.slicePlaces (Builtin.Slice.sliceAdjust none (some (b : Int)) 1 (n : Int)).1 (Builtin.Slice.sliceAdjust none (some (b : Int)) 1 (n : Int)).2 1 = b := by
  unfold Builtin.Slice.sliceAdjust Builtin.Slice.slicePlaces
  simp only [show ¬ ((1 : Int) < 0) by omega, show ¬ ((b : Int) < 0) by omega, if_false, show (1 : Int) > 0 by omega, if_true, Int.ediv_one]
  refine ⟨rfl, ?_⟩
  rw [Int.min_eq_left (by omega)]
  split <;> omega
theorem from_adj (a n : Nat) (hb : a ≤ n) : (Builtin.Slice.sliceAdjust (some (a : Int)) none 1 (n : Int)).1 = (a : Int) ∧ Builtin.Slice.slicePlaces (Builtin.Slice.sliceAdjust (some (a : Int)) none 1 (n : Int)).1 (Builtin.Slice.sliceAdjust (some (a : Int)) none 1 (n : Int)).2 1 = n - a := by
  rw [adjust_from a n hb]
  exact ⟨rfl, places_from a n hb⟩
theorem from_adj2 (a n : Nat) (hb : n ≤ a) : (Builtin.Slice.sliceAdjust (some (a : Int)) none 1 (n : Int)).1 = (n : Int) ∧ Builtin.Slice.slicePlaces (Builtin.Slice.sliceAdjust (some (a : Int)) none 1 (n : Int)).1 (Builtin.Slice.sliceAdjust (some (a : Int)) none 1 (n : Int)).2 1 = 0 := by
  unfold Builtin.Slice.sliceAdjust Builtin.Slice.slicePlaces
  simp only [show ¬ ((1 : Int) < 0) by omega, show ¬ ((a : Int) < 0) by omega, if_false, show (1 : Int) > 0 by omega, if_true, Int.ediv_one]
  rw [Int.min_eq_right (by omega)]
  refine ⟨rfl, ?_⟩
  rw [if_neg (by omega)]
  rfl
end
end Mine
-- part FL
namespace Mine
set_option Elab.async false
section
variable {prog : Program} {w : World} {A : Around} {E : Value → Shared → Prop} {s : Shared} {h₀ : Heap} {L : Addr} {m : Str → Option Value} {env : Env}
/-- the source of a comprehension: a tuple of the ledger -/
def CompTup (prog : Program) (w : World) (A : Around) (h₀ : Heap) (L : Addr) (m : Str → Option Value) (env : Env) (elt : Expr) (x : Str) (scope : Scope) (cl : List (Str × Addr)) (Fin : Shared → List Value → List (Addr × Obj) → Prop) (xv : Value) (s₁ : Shared) : Prop :=
  ∃ ax its z news, xv = .ref ax ∧ A.handled = none ∧ Fr h₀ L s₁.heap m ∧ News h₀ L s₁.heap news ∧ (ax, tupO its z) ∈ news ∧ its.length ≤ 1000 ∧
    ∀ s₂ : Shared, (∃ h, s₂ = { s₁ with heap := h }) → LCg.CompRest prog w A h₀ L m env elt x scope cl s₂ (fun nw => (ax, tupO its z) ∈ nw) (fun i v => its[i]? = some v) (Fin s₂) its.length 0 [] news
theorem tup_st {ax I : Addr} {its : List Value} {z : Nat} : ∀ i (h h' : Heap) (o : Obj) (nw : List (Addr × Obj)), (h.IsTupleIter I ax i ∧ h.IsTuple ax its.toArray) → h.get? I = some o → h'.get? I = some o → (∀ b o, h₀.get? b = some o → h'.get? b = some o) → News h₀ L h' nw → (ax, tupO its z) ∈ nw → (h'.IsTupleIter I ax i ∧ h'.IsTuple ax its.toArray) :=
  fun i h h' o nw st e e' k N S => ⟨by obtain ⟨o', q, r⟩ := st.1; rw [e] at q; cases q; exact ⟨o, e', r⟩, ⟨_, (N _ S).1, rfl, z, rfl⟩⟩
theorem ListComp_tup {elt iter : Expr} {x : Str} {px : Pos} {scope : Scope} {cl : List (Str × Addr)} {pos : Pos} {Q : Value → Shared → Prop} (_F₀ : Fr h₀ L s.heap m)
    (hclos : closureFor scope env = pure cl) (hcell : ∀ y ∈ scope.names, y.2 ≠ .cell) (hkind : scope.kind = .function)
    (hnames : ∀ y ∈ scope.names, y.2 = .local → scope.names.lookup y.1 = some .local) (hx : scope.names.lookup x = some .local)
    (h : wpAny (model prog w) A (eval iter env) (CompTup prog w A h₀ L m env elt x scope cl (fun s₂ => LCg.FinE h₀ L m s₂ Q)) E s)
    (hs : ∀ x, foldedSetIterable iter env x = pure x := by intro _; rfl) :
    wpAny (model prog w) A (eval (.ListComp elt [⟨.Name x px, iter, [], 0⟩] scope pos) env) Q E s := by
  rw [eval_ListComp]
  refine wpAny_comprehension_free (use := none) rfl hs hclos hkind hnames (wpAny_mono h (fun xv s₁ h₁ => ?_) fun _ _ e => e)
  obtain ⟨ax, its, z, news, rfl, hh, F, N, hm, hsz, R⟩ := h₁
  have hl : s₁.heap.IsTuple ax its.toArray := ⟨_, (N _ hm).1, rfl, z, rfl⟩
  have hlt : ax < s₁.heap.objs.size := Heap.lt_size (N _ hm).1
  refine wpAny_pyIter_tuple hl ?_
  have up : ∀ b o, s₁.heap.get? b = some o → (s₁.heap.push { cls := .type "tuple_iterator", data := .fields #[.ref ax, .int 0 0] }).get? b = some o := fun b o e => Heap.get?_push_of_some _ e
  have hne : its.toArray.size = its.length := List.size_toArray ..
  have W := Walks.tuple (prog := prog) (w := w) hh s₁.heap.objs.size ax (Nat.ne_of_lt hlt) its.toArray
  rw [hne] at W
  refine LCg.block_U (P := fun i v => its[i]? = some v) (S := fun nw => (ax, tupO its z) ∈ nw) { sub := W.sub, frame := W.frame, done := W.done, self := W.self, item := fun i s Q E hi st hQ => W.item i s Q E hi st fun v h' tk hP => hQ v h' tk (by simpa using hP) }
    (Nat.le_trans hsz (by decide)) (fun i h st => by obtain ⟨o, e, _⟩ := st.1; exact ⟨o, e⟩) tup_st hcell hkind hx ⟨⟨_, Heap.get?_push_size _ rfl, rfl, rfl⟩, hl.at fun o e => up _ o e⟩ (fun b hb => ?_)
    (F.keeps up) (N.grown up) (Nat.ne_of_lt F.ns.lt) (next_is_new F) (fun p hp => Nat.ne_of_lt (Heap.lt_size (N p hp).1)) hm (R _ ⟨_, rfl⟩) ?_
  · show b < (s₁.heap.push _).objs.size
    rw [Heap.size_push]
    rcases List.mem_cons.mp hb with rfl | hb
    · exact Nat.lt_succ_self _
    · rw [List.mem_singleton.mp hb]; exact Nat.lt_succ_of_lt hlt
  · intro D C h tk m' ys news' F' N' o1 hn hC₀ hD₀ hCL hDL hCD offC fin
    refine ⟨m', hn, fun h'' hs'' => fin D h'' tk (F'.change hs'' hCL hC₀) (fun p hp => ?_) o1⟩
    refine ⟨hs''.extBut _ _ ?_ (N' p hp).1, (N' p hp).2⟩
    rcases List.mem_cons.mp hp with rfl | hp
    · exact Ne.symm hCD
    · exact offC p hp
end
section
variable {prog : Program} {w : World} {A : Around} {h₀ : Heap} {L : Addr} {m : Str → Option Value} {env : Env} {elt : Expr} {x : Str} {scope : Scope} {cl : List (Str × Addr)} {s : Shared} {S : List (Addr × Obj) → Prop} {P : Nat → Value → Prop} {Fin : List Value → List (Addr × Obj) → Prop} {news : List (Addr × Obj)}
/-- comprehension without a test: an invariant over the turns -/
theorem cr_inv {n : Nat} (I : Nat → List Value → List (Addr × Obj) → Prop)
    (turn : ∀ i ys news v Ia oI C oC D m₂ h tk (E' : Value → Shared → Prop), i < n → I i ys news → P i v → LCg.NsObj oC m₂ → m₂ x = some v → Fr h₀ L h m → News h₀ L h ((Ia, oI) :: (C, oC) :: (D, LCg.lst ys) :: news) → LCg.Off3 Ia C D news → ((@Ne Nat Ia C) ∧ (@Ne Nat Ia D) ∧ (@Ne Nat C D)) →
      wpAny (model prog w) A (eval elt (compEnvC scope cl C env)) (LCg.CompEnd h₀ L m { s with heap := h, toks := tk } Ia oI C oC D (LCg.lst ys) S (fun y news' => I (i + 1) (ys ++ [y]) news')) E' { s with heap := h, toks := tk })
    (h0 : I 0 [] news) (fin : ∀ ys news, I n ys news → Fin ys news) : LCg.CompRest prog w A h₀ L m env elt x scope cl s S P Fin n 0 [] news := by
  have key : ∀ (j i : Nat) (ys : List Value) (news : List (Addr × Obj)), i + j = n → I i ys news → LCg.CompRest prog w A h₀ L m env elt x scope cl s S P Fin j i ys news := by
    intro j
    induction j with
    | zero =>
      intro i ys news hi hI
      obtain rfl : i = n := by omega
      exact LCg.CompRest.zero (fin ys news hI)
    | succ j ih =>
      intro i ys news hi hI
      refine LCg.CompRest.succ ?_
      intro v Ia oI C oC D m₂ h tk E' hv hC hx F N off ne
      refine wpAny_mono (turn i ys news v Ia oI C oC D m₂ h tk E' (by omega) hI hv hC hx F N off ne) (fun y s₃ hr => ?_) fun _ _ e => e
      obtain ⟨h', tk', nw, e, F', N', off', hS, hr⟩ := hr
      exact ⟨h', tk', nw, e, F', N', off', hS, ih (i + 1) _ _ (by omega) hr⟩
  exact key n 0 [] news (by omega) h0
end
section
variable {prog : Program} {w : World} {A : Around} {h₀ : Heap} {L : Addr} {m : Str → Option Value} {env : Env} {ct elt : Expr} {x : Str} {scope : Scope} {cl : List (Str × Addr)} {s : Shared} {S : List (Addr × Obj) → Prop} {P : Nat → Value → Prop} {Fin : List Value → List (Addr × Obj) → Prop} {news : List (Addr × Obj)}
/-- comprehension with one test: an invariant over the turns (place, items so far, ledger) -/
theorem crt_inv {n : Nat} (I : Nat → List Value → List (Addr × Obj) → Prop)
    (turn : ∀ i ys news v Ia oI C oC D m₂ h tk (E' : Value → Shared → Prop), i < n → I i ys news → P i v → LCg.NsObj oC m₂ → m₂ x = some v → Fr h₀ L h m → News h₀ L h ((Ia, oI) :: (C, oC) :: (D, LCg.lst ys) :: news) → LCg.Off3 Ia C D news → ((@Ne Nat Ia C) ∧ (@Ne Nat Ia D) ∧ (@Ne Nat C D)) →
      wpAny (model prog w) A (isTrue ct (compEnvC scope cl C env) (eval ct (compEnvC scope cl C env))) (fun ok s' => if ok = true then
        wpAny (model prog w) A (eval elt (compEnvC scope cl C env)) (LCg.CompEnd h₀ L m { s with heap := h, toks := tk } Ia oI C oC D (LCg.lst ys) S (fun y news' => I (i + 1) (ys ++ [y]) news')) E' s'
        else LCg.CompEnd h₀ L m { s with heap := h, toks := tk } Ia oI C oC D (LCg.lst ys) S (fun _ news' => I (i + 1) ys news') Value.none s') E' { s with heap := h, toks := tk })
    (h0 : I 0 [] news) (fin : ∀ ys news, I n ys news → Fin ys news) : LCt.CompRestT prog w A h₀ L m env ct elt x scope cl s S P Fin n 0 [] news := by
  have key : ∀ (j i : Nat) (ys : List Value) (news : List (Addr × Obj)), i + j = n → I i ys news → LCt.CompRestT prog w A h₀ L m env ct elt x scope cl s S P Fin j i ys news := by
    intro j
    induction j with
    | zero =>
      intro i ys news hi hI
      obtain rfl : i = n := by omega
      exact LCt.CompRestT.zero (fin ys news hI)
    | succ j ih =>
      intro i ys news hi hI
      refine LCt.CompRestT.succ ?_
      intro v Ia oI C oC D m₂ h tk E' hv hC hx F N off ne
      refine wpAny_mono (turn i ys news v Ia oI C oC D m₂ h tk E' (by omega) hI hv hC hx F N off ne) (fun b s₂ hq => ?_) fun _ _ e => e
      cases b with
      | true =>
        simp only [if_true] at hq ⊢
        refine wpAny_mono hq (fun y s₃ hr => ?_) fun _ _ e => e
        obtain ⟨h', tk', nw, e, F', N', off', hS, hr⟩ := hr
        exact ⟨h', tk', nw, e, F', N', off', hS, ih (i + 1) _ _ (by omega) hr⟩
      | false =>
        simp only [Bool.false_eq_true, if_false] at hq ⊢
        obtain ⟨h', tk', nw, e, F', N', off', hS, hr⟩ := hq
        exact ⟨h', tk', nw, e, F', N', off', hS, ih (i + 1) _ _ (by omega) hr⟩
  exact key n 0 [] news (by omega) h0
end
end Mine
-- part FD
namespace Mine
set_option Elab.async false
abbrev tk2 (prog : Program) (w : World) : HeapKind prog w (List Int) := tupleKind (intKind prog w)
/-- the dict object holds the positions of known, its keys in the ledger -/
def KnownIs (prog : Program) (w : World) (nl : List (Addr × Obj)) (o : Obj) (known : Kn) : Prop :=
  ∃ (es : Array DictEntry) (ep : Nat) (xs : List (List Int × Addr × Value)), o.ExactDict ∧ o.data = .dict es ep ∧ es.toList = xs.map (entryOfKey (tk2 prog w)) ∧ (∀ y ∈ xs, PosAt nl y.2.1 y.1) ∧ (xs.map (·.1)).Nodup ∧ xs.map (fun y => (y.1, y.2.2)) = known.map (fun c => (c.1, Value.bool c.2))
section
variable {prog : Program} {w : World} {A : Around} {E : Value → Shared → Prop} {s : Shared} {h₀ : Heap} {L K a : Addr} {m : Str → Option Value} {nl nl' rest : List (Addr × Obj)} {o : Obj} {known : Kn} {p : List Int}
theorem KnownIs.mono (hs : ∀ q ∈ nl, q ∈ nl') (k : KnownIs prog w nl o known) : KnownIs prog w nl' o known :=
  let ⟨es, ep, xs, h1, h2, h3, h4, h5, h6⟩ := k; ⟨es, ep, xs, h1, h2, h3, fun y hy => (h4 y hy).mono hs, h5, h6⟩
theorem KnownIs.new : KnownIs prog w nl { cls := .type "dict", data := .dict #[] } [] := ⟨#[], 0, [], ⟨rfl, rfl, rfl⟩, rfl, rfl, (fun _ h => nomatch h), .nil, rfl⟩
theorem at_known {xs : List (List Int × Addr × Value)} {known : Kn} (h : xs.map (fun y => (y.1, y.2.2)) = known.map (fun c => (c.1, Value.bool c.2))) (p : List Int) : (atKey xs p).map (·.2) = (getF known p).map Value.bool := by
  induction xs generalizing known with
  | nil =>
    cases known with
    | nil => rfl
    | cons c r => simp at h
  | cons y r ih =>
    cases known with
    | nil => simp at h
    | cons c r' =>
      simp only [List.map_cons, List.cons.injEq, Prod.mk.injEq] at h
      obtain ⟨⟨e1, e2⟩, h⟩ := h
      have ih := ih h
      unfold atKey getF at ih ⊢
      simp only [List.find?_cons, e1]
      by_cases hp : c.1 = p
      · simp only [hp, decide_true, Option.map_some, e2]
      · simp only [hp, decide_false]
        exact ih
theorem KnownIs.dict (k : KnownIs prog w nl o known) (N : News h₀ L s.heap nl) (hm : (K, o) ∈ nl) : ∃ xs, s.heap.DictOfH (tk2 prog w) K xs ∧ (∀ y ∈ xs, PosAt nl y.2.1 y.1) ∧ xs.map (fun y => (y.1, y.2.2)) = known.map (fun c => (c.1, Value.bool c.2)) :=
  let ⟨es, ep, xs, h1, h2, h3, h4, h5, h6⟩ := k
  ⟨xs, ⟨o, es, ep, (N _ hm).1, h1, h2, h3, fun y hy => (h4 y hy).key N, h5⟩, h4, h6⟩
theorem kd_get {value slice : PySem.Expr} {b : Bool} {Q : Value → Shared → Prop} (k : KnownIs prog w nl o known) (N : News h₀ L s.heap nl) (hm : (K, o) ∈ nl) (hp : PosAt nl a p) (hb : getF known p = some b) (hu : A.units + 8 < cLine)
    (h : ∀ tk, Q (.bool b) { s with toks := tk })
    (hs : subscripted slice false (.ref K) (.ref a) = operate [.ref K, .ref a] (getItem (.ref K) (.ref a)) := by with_unfolding_all rfl) :
    wpAny (model prog w) A (subscriptTail value slice (.ref K) (.ref a)) Q E s := by
  obtain ⟨xs, hd, hx, e⟩ := k.dict N hm
  have e1 := at_known e p
  rw [hb] at e1
  obtain ⟨q, hq, e2⟩ : ∃ q, atKey xs p = some q ∧ q.2 = .bool b := by
    cases hq : atKey xs p with
    | none => rw [hq] at e1; cases e1
    | some q => rw [hq] at e1; exact ⟨q, rfl, by simpa using e1⟩
  refine tail_any hd.typeIs slot_dict_getitem.lookup (wpAny_getItem_heap (tupleKind_room_in1 (by omega)) (hp.key N) hd hq ?_) hs
  rw [e2]
  exact h _
theorem kd_set {b : Bool} {Q : Unit → Shared → Prop} {kept : List (Addr × Obj)} (F : Fr h₀ L s.heap m) (N : News h₀ L s.heap ((K, o) :: rest)) (hkr : ∀ q ∈ kept, q ∈ rest) (k : KnownIs prog w kept o known) (hap : ∀ q ∈ rest, q.1 ≠ K) (hp : PosAt kept a p) (hb : getF known p = none) (hz : known.length ≤ 1000) (hu : A.units + 8 < cLine)
    (h : ∀ o' h' tk, KnownIs prog w kept o' (known ++ [(p, b)]) → Fr h₀ L h' m → News h₀ L h' ((K, o') :: rest) → Q () { s with heap := h', toks := tk }) :
    wpAny (model prog w) A (setItem (.ref K) (.ref a) (.bool b)) Q E s := by
  have Nr : News h₀ L s.heap kept := fun q hq => N q (.tail _ (hkr q hq))
  obtain ⟨es, ep, xs, h1, h2, h3, h4, h5, h6⟩ := k
  have hd : s.heap.DictOfH (tk2 prog w) K xs := ⟨o, es, ep, (N _ (.head _)).1, h1, h2, h3, fun y hy => (h4 y hy).key Nr, h5⟩
  have e1 := at_known h6 p
  rw [hb] at e1
  have hn : atKey xs p = none := by
    cases hq : atKey xs p with
    | none => rfl
    | some q => rw [hq] at e1; cases e1
  have hl : xs.length = known.length := by simpa using congrArg List.length h6
  refine wpAny_setItem_heap (tupleKind_room_in1 (by omega)) (hp.key Nr) hd (fun h' hd' hs' => ?_) (by rw [hl]; exact Nat.le_trans hz (by decide))
  rw [storedH_new hn] at hd'
  obtain ⟨o', es', ep', g1, g2, g3, g4, g5, g6⟩ := hd'
  have z := N (K, o) (.head _)
  refine h o' h' _ ⟨es', ep', _, g2, g3, g4, fun y hy => ?_, g6, ?_⟩ (F.change hs' z.2.1 z.2.2) (N.setHead hap hs' g1)
  · rcases List.mem_append.mp hy with hy | hy
    · exact h4 y hy
    · rw [List.mem_singleton.mp hy]; exact hp
  · rw [List.map_append, List.map_append, h6]; rfl
theorem ne_nil {l b : Addr} {ys : List Value} {Q : Value → Shared → Prop} (hl : s.heap.IsList l ys.toArray) (hb : s.heap.IsList b #[]) (hu : A.units < cLine) (h : Q (.bool (!ys.isEmpty)) s) : wpAny (model prog w) A (compareOp .NotEq (.ref l) (.ref b)) Q E s := by
  show wpAny _ _ (richCompare .NotEq _ _) _ _ _
  cases ys with
  | nil => exact SeqAt.RcNeAt.lists (e := fun _ => true) hl hb rfl hu (fun j h1 h2 => absurd h1 (Nat.not_lt_zero _)) prog w E Q h
  | cons y r => exact SeqAt.RcNeAt.lists_lengths hl hb (by simp) hu prog w E Q h
end
end Mine
-- part FS
namespace Mine
set_option Elab.async false
set_option maxRecDepth 100000
set_option maxHeartbeats 4000000
section
variable {prog : Program} {w : World} {A : Around} {E : Value → Shared → Prop} {s : Shared}
/-- two tuples of ints by the sort's own less-than -/
theorem lex_tree {Q : Bool → Shared → Prop} {fin : Bool} : ∀ {x y : List Int} {xs ys : List Value}, IntsAre xs x → IntsAre ys y → ∀ (i : Nat) (s : Shared), fin = decide (xs.length < ys.length) → Q (lexLt x y) s → KatLex prog w A true fin Q (xs.zip ys) i s
  | _, _, _, _, .nil, .nil, i, s, hf, h => kat_nil (by rw [hf]; exact h)
  | _, _, _, _, .nil, .cons _ _ _, i, s, hf, h => kat_nil (by rw [hf]; exact h)
  | _, _, _, _, .cons _ _ _, .nil, i, s, hf, h => kat_nil (by rw [hf]; exact h)
  | _, _, _, _, .cons p t hx, .cons q u hy, i, s, hf, h => by
    rw [List.zip_cons_cons]
    refine kat_cons ((intKind prog w).eqBool (a := p) (b := q) (by simp [intKind, Value.isInt]) (by simp [intKind, Value.isInt]) ?_)
    by_cases hpq : p = q
    · subst hpq
      rw [decide_eq_true rfl]
      refine kat_yes (lex_tree hx hy (i + 1) s (by rw [hf]; simp) ?_)
      simpa [lexLt] using h
    · rw [decide_eq_false hpq]
      refine kat_no ?_
      rw [lexLt, if_neg hpq] at h
      cases hb : (true && i == 0) with
      | true => exact oneLt_int h
      | false =>
        refine kat_one _ _ ?_
        refine wpAny_lt_int ?_
        exact h
theorem key_lt {a b : Addr} {nl : List (Addr × Obj)} {h₀ : Heap} {L : Addr} {x y : List Int} {Q : Bool → Shared → Prop} (N : News h₀ L s.heap nl) (hx : PosAt nl a x) (hy : PosAt nl b y) (h : Q (lexLt x y) s) :
    wpAny (model prog w) A (keyLt' (tuples' true) (.ref a) (.ref b)) Q E s := by
  obtain ⟨xs, n, hm, hi⟩ := hx
  obtain ⟨ys, k, hm2, hi2⟩ := hy
  exact kat_lt (N _ hm).1 rfl (N _ hm2).1 rfl (lex_tree hi hi2 0 s (by simp) h)
theorem run_tree {α : Type} {n : Nat} {ans : Nat → Nat → Bool} {cmp : Nat → Nat → (Bool → Shared → Prop) → Shared → Prop} {s : Shared} (hc : ∀ i j C, i < n → j < n → C (ans i j) s → cmp i j C s) {G : α → Shared → Prop} :
    ∀ (t : KasT α) (r : α), evalT n ans t = some r → G r s → t.kasWp cmp G s
  | .ret a, r, e, h => by
    have : a = r := Option.some.inj e
    subst this
    exact h
  | .ask i j k, r, e, h => by
    unfold evalT at e
    split at e
    · rename_i hij
      simp only [Bool.and_eq_true, decide_eq_true_eq] at hij
      exact hc i j _ hij.1 hij.2 (run_tree hc (k (ans i j)) r e h)
    · cases e
theorem pos_tups {h₀ h : Heap} {L : Addr} {nl : List (Addr × Obj)} (N : News h₀ L h nl) : ∀ {vs : List Value} {ps : List (List Int)}, RefsAre nl vs ps → (∀ p ∈ ps, p ≠ []) → ∃ fs, KatTups h vs fs ∧ fs.length = ps.length ∧ ∀ v ∈ fs, ∃ n t, v = .int n t
  | _, _, .nil, _ => ⟨[], trivial, rfl, fun _ h => nomatch h⟩
  | _, _, .cons hp r, hne => by
    obtain ⟨fs, h1, h2, h3⟩ := pos_tups N r fun p hm => hne p (.tail _ hm)
    obtain ⟨xs, n, hm, hi⟩ := hp
    cases hi with
    | nil => exact absurd rfl (hne _ (.head _))
    | cons k t hr =>
      refine ⟨.int k t :: fs, KatTups.cons (N _ hm).1 rfl rfl rfl h1, congrArg (· + 1) h2, fun v hv => ?_⟩
      rcases List.mem_cons.mp hv with rfl | hv
      · exact ⟨_, _, rfl⟩
      · exact h3 v hv
theorem refs_pick {nl : List (Addr × Obj)} {vs : List Value} {ps : List (List Int)} (h : RefsAre nl vs ps) : ∀ (is : List Nat), (∀ i ∈ is, i < ps.length) → RefsAre nl (is.map fun i => vs.getD i .none) (is.map fun i => ps.getD i [])
  | [], _ => .nil
  | i :: r, hi => by
    obtain ⟨a, e, hp⟩ := h.get i (hi i (.head _))
    have e2 : vs.getD i .none = .ref a := by rw [List.getD_eq_getElem?_getD, e]; rfl
    rw [List.map_cons, List.map_cons, e2]
    exact .cons hp (refs_pick h r fun j hj => hi j (.tail _ hj))
/-- list.sort of a list of positions that heads the ledger -/
theorem sort_small {h₀ : Heap} {L D : Addr} {m : Str → Option Value} {nl : List (Addr × Obj)} {vs : List Value} {n : Nat} {Q : Value → Shared → Prop} (F : Fr h₀ L s.heap m) (N : News h₀ L s.heap ((D, W.listOf vs.toArray n) :: nl)) (hap : ∀ q ∈ nl, q.1 ≠ D) (h2 : vs.length < 2)
    (h : ∀ c h', Fr h₀ L h' m → News h₀ L h' ((D, W.listOf vs.toArray c) :: nl) → Q .none { s with heap := h' }) :
    wpAny (model prog w) A (call (.builtin "list.sort") [.ref D]) Q E s := by
  have z := N (D, W.listOf vs.toArray n) (.head _)
  have ho : s.heap.get? D = some (seqObj "list" vs.toArray n) := z.1
  have ha : D < s.heap.objs.size := Heap.lt_size ho
  refine wpAny_call_entry slot_list_sort ⟨_, ho, rfl⟩ entry_list_sort ?_ (args_list_sort _)
  have s1 := Heap.SameBut.update s.heap D (Obj.mapSeq fun _ => (#[] : Array Value))
  obtain ⟨e1, ho1⟩ : ∃ e1, (s.heap.update D (Obj.mapSeq fun _ => (#[] : Array Value))).get? D = some (seqObj "list" #[] e1) := ⟨_, get?_update_seq ho fun _ => #[]⟩
  have ho3 : (((s.heap.update D (Obj.mapSeq fun _ => (#[] : Array Value))).push (seqObj "tuple" vs.toArray 0)).push (seqObj "list" #[] 0)).get? D = some (seqObj "list" #[] e1) := Heap.get?_push_of_some _ (Heap.get?_push_of_some _ ho1)
  have Nr : News h₀ L s.heap nl := fun q hq => N q (.tail _ hq)
  have F3 : Fr h₀ L (((s.heap.update D (Obj.mapSeq fun _ => (#[] : Array Value))).push (seqObj "tuple" vs.toArray 0)).push (seqObj "list" #[] 0)) m := ((kas_fr F s1 z.2.1 z.2.2).push _).push _
  have N3 : News h₀ L (((s.heap.update D (Obj.mapSeq fun _ => (#[] : Array Value))).push (seqObj "tuple" vs.toArray 0)).push (seqObj "list" #[] 0)) nl :=
    (kas_news Nr s1 hap).grown fun b x e => Heap.get?_push_of_some _ (Heap.get?_push_of_some _ e)
  have s2 := Heap.SameBut.update (((s.heap.update D (Obj.mapSeq fun _ => (#[] : Array Value))).push (seqObj "tuple" vs.toArray 0)).push (seqObj "list" #[] 0)) D (Obj.mapSeq fun _ => vs.toArray)
  obtain ⟨c2, hc2⟩ : ∃ c2, ((((s.heap.update D (Obj.mapSeq fun _ => (#[] : Array Value))).push (seqObj "tuple" vs.toArray 0)).push (seqObj "list" #[] 0)).update D (Obj.mapSeq fun _ => vs.toArray)).get? D = some (seqObj "list" vs.toArray c2) := ⟨_, get?_update_seq ho3 fun _ => vs.toArray⟩
  have hfin := h c2 _ (kas_fr F3 s2 z.2.1 z.2.2) (fun q hq => by
    rcases List.mem_cons.mp hq with rfl | hq
    · exact ⟨hc2, z.2.1, z.2.2⟩
    · exact kas_news N3 s2 hap q hq)
  rw [list_sort_plain]
  refine wpAny_bind (listItems_at ho rfl ?_)
  refine wpAny_bind (listUpdate_at ho rfl ?_ (by rw [List.size_toArray, sizeLine_eq]; omega) (Nat.zero_le _))
  refine wpAny_bind (seqEpoch_at ho1 rfl ?_)
  refine wpAny_bind (wpAny_newTuple ?_ (by show vs.length ≤ _; rw [sizeLine_eq]; omega))
  refine wpAny_bind (wpAny_newList ?_ (Nat.zero_le _))
  refine wpAny_holding ?_
  show wpAny (model prog w) A.in1 _ _ _ { s with heap := ((s.heap.update D (Obj.mapSeq fun _ => (#[] : Array Value))).push (seqObj "tuple" vs.toArray 0)).push (seqObj "list" #[] 0) }
  dsimp only
  have hn2 : vs.toArray.size < 2 := by rw [List.size_toArray]; omega
  rw [if_pos hn2, if_pos hn2]
  refine wpAny_bind (wpAny_pure ?_)
  rw [StateT.run_pure]
  refine wpAny_bind (wpAny_pure ?_)
  dsimp only
  have harr : (arrOf (SortSt.mk' general' (vs.toArray.zip vs.toArray) #[] 7 none)).map (·.2) = vs.toArray := by
    show ((vs.toArray.zip vs.toArray)).map (·.2) = vs.toArray
    apply Array.toList_inj.mp
    simp [List.map_snd_zip]
  rw [harr]
  refine wpAny_bind (seqEpoch_at ho3 rfl ?_)
  refine wpAny_bind (listUpdate_at ho3 rfl ?_ (Nat.zero_le _) (by rw [List.size_toArray, sizeLine_eq]; omega))
  simp only [bne_self_eq_false, Bool.false_eq_true, if_false]
  exact wpAny_pure ⟨_, rfl, hfin⟩
theorem sortF_one (p : List Int) : sortF [p] = some [p] := rfl
theorem sortF_nil : sortF [] = some [] := rfl
theorem sort_pos {h₀ : Heap} {L D : Addr} {m : Str → Option Value} {nl kept : List (Addr × Obj)} {vs : List Value} {ps out : List (List Int)} {n : Nat} {Q : Value → Shared → Prop} (F : Fr h₀ L s.heap m) (N : News h₀ L s.heap ((D, W.listOf vs.toArray n) :: nl)) (hap : ∀ q ∈ nl, q.1 ≠ D)
    (hkn : ∀ q ∈ kept, q ∈ nl) (hR : RefsAre kept vs ps) (hne : ∀ p ∈ ps, p ≠ []) (h64 : ps.length < 64) (hs : sortF ps = some out)
    (h : ∀ vs' c h', RefsAre kept vs' out → Fr h₀ L h' m → News h₀ L h' ((D, W.listOf vs'.toArray c) :: nl) → Q .none { s with heap := h' }) :
    wpAny (model prog w) A (call (.builtin "list.sort") [.ref D]) Q E s := by
  have hl := hR.length
  by_cases h2 : vs.length < 2
  · have e : out = ps := by
      match ps, vs, hR, h2, hs with
      | [], _, _, _, hs => rw [sortF_nil] at hs; exact (Option.some.inj hs).symm
      | [p], _, _, _, hs => rw [sortF_one] at hs; exact (Option.some.inj hs).symm
      | p :: q :: r, _, .cons _ (.cons _ _), h2, _ => exact absurd h2 (by simp only [List.length_cons]; omega)
    subst e
    exact sort_small F N hap h2 fun c h' F' N' => h vs c h' hR F' N'
  · have h2 : 2 ≤ vs.length := by omega
    refine kat_lsort (vs := vs) F N (UpdF.head hap) rfl h2 (by omega) ?_
    intro e1 h' F' N'
    have N2 : News h₀ L h' nl := fun q hq => N' q (.tail _ hq)
    obtain ⟨fs, t1, t2, t3⟩ := pos_tups N2 (hR.mono hkn) hne
    refine kat_kind (s := { s with heap := h' }) (T := .type "int") t1 (by omega) (fun v hv => ?_) rfl ?_
    · obtain ⟨k, t, rfl⟩ := t3 v hv
      exact Looks.now
    · rw [show (Value.type "int" != Value.type "tuple") = true by rfl]
      unfold sortF at hs
      cases hT : evalT ps.length (fun i j => lexLt (ps.getD i []) (ps.getD j [])) (kas_sort ps.length) with
      | none => rw [hT] at hs; cases hs
      | some p =>
      rw [hT] at hs
      simp only [Option.bind_some] at hs
      split at hs
      rotate_left
      · cases hs
      rename_i hall
      simp only [List.all_eq_true, decide_eq_true_eq] at hall
      replace hs := Option.some.inj hs
      rw [hl]
      refine run_tree (n := ps.length) (fun i j C hi hj hc => ?_) _ _ hT ?_
      · unfold kas_ask
        obtain ⟨a, ea, ha⟩ := hR.get i hi
        obtain ⟨b, eb, hb⟩ := hR.get j hj
        rw [List.getD_eq_getElem?_getD, List.getD_eq_getElem?_getD, ea, eb]
        exact key_lt (s := { s with heap := h' }) N2 (ha.mono hkn) (hb.mono hkn) hc
      · refine KasFin.intro F' N' (UpdF.head hap) fun h2 c F2 N3 => ?_
        refine h _ c h2 ?_ F2 N3
        rw [← hs]
        exact refs_pick hR _ hall
end
end Mine
-- part FI
namespace Mine
set_option Elab.async false
set_option maxRecDepth 100000
set_option maxHeartbeats 4000000
/-- a dict object, whatever its keys -/
def RawD (h : Heap) (d : Addr) (es : Array DictEntry) (ep : Nat) : Prop := ∃ o, h.get? d = some o ∧ o.ExactDict ∧ o.data = .dict es ep
theorem RawD.to {h h' : Heap} {d : Addr} {es : Array DictEntry} {ep : Nat} (x : RawD h d es ep) (k : ∀ o, h.get? d = some o → h'.get? d = some o) : RawD h' d es ep := let ⟨o, e, r⟩ := x; ⟨o, k o e, r⟩
theorem KeyIter.to {h h' : Heap} {I d : Addr} {i n ep : Nat} (x : h.IsKeyIter I d i n ep) (k : ∀ o, h.get? I = some o → h'.get? I = some o) : h'.IsKeyIter I d i n ep := let ⟨o, e, r⟩ := x; ⟨o, k o e, r⟩
section
variable {prog : Program} {w : World} {A : Around} {E : Value → Shared → Prop} {s : Shared} {d I : Addr} {es : Array DictEntry} {ep i : Nat}
theorem raw_iter {Q : Value → Shared → Prop} (hd : (d == sysModules) = false) (hm : RawD s.heap d es ep)
    (h : Q (.ref s.heap.objs.size) { s with heap := s.heap.push { cls := .type "dict_keyiterator", data := .fields #[.ref d, .int 0 0, .int es.size 0, .int ep 0] } }) : wpAny (model prog w) A (pyIter (.ref d)) Q E s := by
  obtain ⟨o, ho, hc, hdat⟩ := hm
  have hT : s.TypeIs (.ref d) "dict" := ⟨o, ho, hc.1⟩
  refine wpAny_pyIter_slot hT F.slot_dict_iter (wpAny_call_entry F.slot_dict_iter hT F.entry_dict_iter ?_ (F.args_dict_iter_1 _))
  unfold Builtin.«dict.__iter__» Builtin.Dict.dictSlotNone
  refine wpAny_bind (wpAny_bind (wpAny_notOrdered_dict hT ?_))
  show wpAny _ _ (pure (Value.ref d)) _ _ s
  refine wpAny_pure ?_
  show wpAny _ _ (Builtin.Dict.showsAll d >>= _) _ _ s
  unfold Builtin.Dict.showsAll
  rw [if_neg (by rw [hd]; exact Bool.false_ne_true)]
  refine wpAny_bind (wpAny_pure (wpAny_bind (wpAny_dictEntries ho hdat (wpAny_bind (wpAny_dictEpoch ho hdat ?_)))))
  exact wpAny_bind (wpAny_newObj_type (wpAny_pure ⟨_, rfl, "dict_keyiterator", _, ⟨_, Heap.get?_push_size _ rfl, rfl⟩, F.slot_dict_keyiterator_next.lookup, h⟩))
theorem raw_item {Q : Option Value → Shared → Prop} {e : DictEntry} (hit : s.heap.IsKeyIter I d i es.size ep) (hm : RawD s.heap d es ep) (hx : es[i]? = some e)
    (hQ : ∀ h', h'.IsKeyIter I d (i + 1) es.size ep → Heap.SameBut I s.heap h' → Q (some e.key) { s with heap := h' }) : wpAny (model prog w) A (pyNext (.ref I)) Q E s := by
  obtain ⟨o, ho, hc, hd⟩ := id hit
  obtain ⟨od, hod, hcd, hdd⟩ := hm
  have hlt : i < es.size := by
    rcases Nat.lt_or_ge i es.size with h | h
    · exact h
    · rw [Array.getElem?_eq_none h] at hx; cases hx
  have hke : es[i] = e := by rw [Array.getElem?_eq_getElem hlt] at hx; exact Option.some.inj hx
  unfold pyNext
  refine wpAny_bind (wpAny_attempt (wpAny_callSpecial?_slot (name := Str.ofString "__next__") hit.typeIs F.slot_dict_keyiterator_next
    (wpAny_call_entry F.slot_dict_keyiterator_next hit.typeIs F.entry_dict_keyiterator_next ?_ (F.args_dict_keyiterator_next_1 _))))
  refine wpAny_bind (wpAny_pure (wpAny_bind (wpAny_bind ?_)))
  first | refine wpAny_bind (wpAny_typeNameOfWhole_keyiter hit.typeIs (wpAny_pure ?_)) | refine wpAny_bind (wpAny_typeNameOf_keyiter hit.typeIs (wpAny_pure ?_))
  refine wpAny_bind (wpAny_fieldsOf ho hd ?_)
  simp only [show Builtin.Dict_items.ownsTuple "dict_keyiterator" = false by decide, Bool.false_eq_true, if_false]
  show wpAny _ _ (if (Value.ref d == Value.none) = true then _ else _) _ _ s
  rw [if_neg (show ¬ ((Value.ref d == Value.none) = true) from Bool.false_ne_true)]
  refine wpAny_bind (wpAny_pure (wpAny_bind (wpAny_dictEntries hod hdd ?_)))
  rw [if_neg (by simp)]
  refine wpAny_bind (wpAny_pure (wpAny_bind (wpAny_dictEpoch hod hdd ?_)))
  rw [if_neg (by simp)]
  refine wpAny_pure ?_
  simp only [show ¬ ((i : Int) < 0) from by omega, if_false, Int.toNat_natCast, Array.getElem?_eq_getElem hlt, hke]
  refine wpAny_bind ?_
  first | refine wpAny_bind (wpAny_typeNameOfWhole_keyiter hit.typeIs (wpAny_pure ?_)) | refine wpAny_bind (wpAny_typeNameOf_keyiter hit.typeIs (wpAny_pure ?_))
  refine wpAny_bind (wpAny_isOneOf_keyiter hit.typeIs ?_)
  show wpAny _ _ (setField (.ref I) 1 (rawInt ((i : Int) + 1)) >>= _) _ _ s
  refine wpAny_bind (wpAny_setField ho hd (by simp) ?_)
  have hit' : (s.heap.update I (Obj.mapFields (·.setIfInBounds 1 (rawInt ((i : Int) + 1))))).IsKeyIter I d (i + 1) es.size ep :=
    ⟨_, Heap.get?_update_self _ ho (Obj.isFreed_of_fields (Obj.data_mapFields hd _)), (Obj.cls_mapFields ..).trans hc, by rw [Obj.data_mapFields hd]; simp [rawInt]⟩
  refine wpAny_bind (wpAny_holding ?_)
  refine wpAny_bind (wpAny_isOneOf_keyiter (s := { s with heap := s.heap.update I (Obj.mapFields (·.setIfInBounds 1 (rawInt ((i : Int) + 1)))) }) hit'.typeIs ?_)
  show wpAny _ _ (pure e.key) _ _ _
  exact wpAny_pure (wpAny_pure ⟨_, rfl, wpAny_pure (hQ _ hit' (Heap.SameBut.update ..))⟩)
theorem raw_end {Q : Option Value → Shared → Prop} (hh : A.handled = none) (hit : s.heap.IsKeyIter I d i es.size ep) (hm : RawD s.heap d es ep) (hx : es.size ≤ i)
    (hQ : ∀ h', Heap.ExtBut I s.heap h' → Q none { s with heap := h' }) : wpAny (model prog w) A (pyNext (.ref I)) Q E s := by
  obtain ⟨o, ho, hc, hd⟩ := id hit
  obtain ⟨od, hod, hcd, hdd⟩ := hm
  unfold pyNext
  refine wpAny_bind (wpAny_attempt (wpAny_callSpecial?_slot (name := Str.ofString "__next__") hit.typeIs F.slot_dict_keyiterator_next
    (wpAny_call_entry F.slot_dict_keyiterator_next hit.typeIs F.entry_dict_keyiterator_next ?_ (F.args_dict_keyiterator_next_1 _))))
  refine wpAny_bind (wpAny_pure (wpAny_bind (wpAny_bind ?_)))
  first | refine wpAny_bind (wpAny_typeNameOfWhole_keyiter hit.typeIs (wpAny_pure ?_)) | refine wpAny_bind (wpAny_typeNameOf_keyiter hit.typeIs (wpAny_pure ?_))
  refine wpAny_bind (wpAny_fieldsOf ho hd ?_)
  simp only [show Builtin.Dict_items.ownsTuple "dict_keyiterator" = false by decide, Bool.false_eq_true, if_false]
  show wpAny _ _ (if (Value.ref d == Value.none) = true then _ else _) _ _ s
  rw [if_neg (show ¬ ((Value.ref d == Value.none) = true) from Bool.false_ne_true)]
  refine wpAny_bind (wpAny_pure (wpAny_bind (wpAny_dictEntries hod hdd ?_)))
  rw [if_neg (by simp)]
  refine wpAny_bind (wpAny_pure (wpAny_bind (wpAny_dictEpoch hod hdd ?_)))
  rw [if_neg (by simp)]
  refine wpAny_pure ?_
  simp only [show ¬ ((i : Int) < 0) from by omega, if_false, Int.toNat_natCast, Array.getElem?_eq_none hx]
  refine wpAny_bind ?_
  first | refine wpAny_bind (wpAny_typeNameOfWhole_keyiter hit.typeIs (wpAny_pure ?_)) | refine wpAny_bind (wpAny_typeNameOf_keyiter hit.typeIs (wpAny_pure ?_))
  show wpAny _ _ (setField (.ref I) 0 .none >>= _) _ _ s
  refine wpAny_bind (wpAny_setField ho hd (by simp) ?_)
  show wpAny _ _ (newExc (.type "StopIteration") [] >>= _) _ _ _
  refine wpAny_bind ?_
  simp only [newExc, newTuple]
  refine wpAny_bind (wpAny_newObj_type ?_ (by size_fits))
  refine wpAny_bind (m := firstArgMember _ _) (wpAny_of_eq (a := Value.none) (by first | rfl | (simp only [firstArgMember]; rfl)) ?_)
  refine wpAny_newObj_type ?_ (by size_fits)
  simp only [raiseNew]
  refine wpAny_bind (wpAny_handled ?_)
  rw [show A.in1.handled = none from hh]
  refine wpAny_bind (wpAny_pure (wpAny_throw ?_))
  refine wpAny_bind (wpAny_isInstance (T := "StopIteration") (b := true) ⟨_, Heap.get?_push_size _ rfl, rfl⟩ isSubtype_stop ?_)
  exact wpAny_pure (hQ _ (((Heap.SameBut.update ..).extBut.push _).push _))
theorem raw_walks (hh : A.handled = none) (I d : Addr) (hne : d ≠ I) (es : Array DictEntry) (ep : Nat) :
    Walks prog w A I [I, d] [I] es.size (fun i v => ∃ e, es[i]? = some e ∧ v = e.key) (fun i h => h.IsKeyIter I d i es.size ep ∧ RawD h d es ep) where
  sub := fun b hb => by simp at hb; simp [hb]
  frame := fun _ _ _ st hk => ⟨KeyIter.to st.1 fun o e => hk I (by simp) o e, st.2.to fun o e => hk d (by simp) o e⟩
  item := fun i s Q E hi st hQ => by
    refine raw_item st.1 st.2 (Array.getElem?_eq_getElem hi) fun h' hit' hs' => ?_
    exact hQ _ h' s.toks ⟨_, Array.getElem?_eq_getElem hi, rfl⟩ ⟨hit', st.2.to fun o e => hs'.extBut d o hne e⟩ fun b o hb e => hs'.extBut b o (fun h => hb (by simp [h])) e
  done := fun s Q E st hQ => raw_end hh st.1 st.2 (Nat.le_refl _) fun h' he' => hQ h' s.toks fun b o hb e => he' b o (fun h => hb (by simp [h])) e
  self := fun _ _ _ _ st hQ => wpAny_pyIter_keyiter st.1 hQ
theorem raw_src (lo : (d == sysModules) = false) : KdlSrc prog w "dict" d d es.size (fun i v => ∃ e, es[i]? = some e ∧ v = e.key) (fun h => RawD h d es ep) where
  type := fun _ hm => let ⟨o, ho, hc, _⟩ := hm; ⟨o, ho, hc.1⟩
  there := fun _ hm => let ⟨_, ho, _⟩ := hm; ⟨Heap.lt_size ho, Heap.lt_size ho⟩
  keep := fun _ _ hm hk => hm.to fun o e => hk d (.inl rfl) o e
  notList := by decide
  notTuple := by decide
  hint := fun _ _ _ _ hm hq => kdl_hint_dict (let ⟨o, ho, hc, _⟩ := hm; ⟨o, ho, hc.1⟩) hq
  iter := fun _ _ hh hm => ⟨_, _, (fun _ _ hq => raw_iter lo hm hq), raw_walks hh _ d (Nat.ne_of_lt (let ⟨_, ho, _⟩ := hm; Heap.lt_size ho)) es ep, ⟨⟨_, Heap.get?_push_size _ rfl, rfl, rfl⟩, hm.to fun o e => Heap.get?_push_of_some _ e⟩⟩
end
section
variable {prog : Program} {w : World} {A : Around} {E : Value → Shared → Prop} {s : Shared} {h₀ : Heap} {L K : Addr} {m : Str → Option Value} {nl kept : List (Addr × Obj)} {o : Obj} {known : Kn} {out : List (List Int)}
theorem refs_of {nl : List (Addr × Obj)} : ∀ (vs : List Value) (ps : List (List Int)), vs.length = ps.length → (∀ i (v : Value), vs[i]? = some v → ∃ a, v = .ref a ∧ PosAt nl a (ps.getD i [])) → RefsAre nl vs ps
  | [], [], _, _ => .nil
  | [], _ :: _, h, _ => by cases h
  | _ :: _, [], h, _ => by cases h
  | v :: vs, p :: ps, h, hi => by
    obtain ⟨a, rfl, hp⟩ := hi 0 v rfl
    exact .cons hp (refs_of vs ps (Nat.succ.inj h) fun i u hu => by simpa using hi (i + 1) u (by simpa using hu))
/-- sorted(known) -/
theorem sorted_known {Q : Value → Shared → Prop} (hh : A.handled = none) (lo : (K == sysModules) = false) (F : Fr h₀ L s.heap m) (N : News h₀ L s.heap nl) (hm : (K, o) ∈ nl) (hkn : ∀ q ∈ kept, q ∈ nl) (k : KnownIs prog w kept o known)
    (hne : ∀ c ∈ known, c.1 ≠ []) (h64 : known.length < 64) (hs : sortF (known.map (·.1)) = some out)
    (h : ∀ D vs c h' tk, RefsAre kept vs out → (∀ q ∈ nl, q.1 < D) → Fr h₀ L h' m → News h₀ L h' ((D, W.listOf vs.toArray c) :: nl) → Q (.ref D) { s with heap := h', toks := tk }) :
    wpAny (model prog w) A (call (.builtin "sorted") [.ref K]) Q E s := by
  obtain ⟨es, ep, xs, h1, h2, h3, h4, h5, h6⟩ := k
  have hxl : xs.length = known.length := by simpa using congrArg List.length h6
  have hes : es.size = xs.length := by rw [← Array.length_toList, h3, List.length_map]
  have hxk : xs.map (·.1) = known.map (·.1) := by
    have := congrArg (List.map (·.1)) h6
    rw [List.map_map, List.map_map] at this
    exact this
  refine kdu_sorted (raw_src (es := es) (ep := ep) lo) hh F N ⟨o, (N _ hm).1, h1, h2⟩ (by rw [hes, hxl, sizeLine_eq]; omega) ?_
  intro D h' tk vs F' N' lD hvl hvp
  have hR : RefsAre kept vs (known.map (·.1)) := by
    refine refs_of vs _ (by rw [hvl, hes, hxl, List.length_map]) fun i v hv => ?_
    obtain ⟨e, he, rfl⟩ := hvp i v hv
    have hx := entry_at h3 i
    rw [he] at hx
    cases hxi : xs[i]? with
    | none => rw [hxi] at hx; cases hx
    | some y =>
    rw [hxi] at hx
    have hye : e = entryOfKey (tk2 prog w) y := by simpa using hx
    subst hye
    refine ⟨y.2.1, rfl, ?_⟩
    have : (known.map (·.1)).getD i [] = y.1 := by
      rw [← hxk, List.getD_eq_getElem?_getD, List.getElem?_map, hxi]
      rfl
    rw [this]
    exact h4 y (List.mem_of_getElem? hxi)
  refine sort_pos F' N' (fun q hq => Nat.ne_of_lt (lD q hq)) hkn hR (fun p hp => ?_) (by rw [List.length_map]; exact h64) hs ?_
  · obtain ⟨c, hc, rfl⟩ := List.mem_map.mp hp
    exact hne c hc
  · intro vs' c h2 hR' F2 N2
    exact h D vs' c h2 tk hR' lD F2 N2
/-- sorted of a tuple of ints -/
theorem sorted_tuple {Q : Value → Shared → Prop} {a : Addr} {vs : List Value} {ns : List Int} {z : Nat} (F : Fr h₀ L s.heap m) (N : News h₀ L s.heap nl) (hm : (a, tupO vs z) ∈ nl) (hi : IntsAre vs ns) (h64 : ns.length < 64)
    (h : ∀ D vs' ns' c h', IntsAre vs' ns' → ns'.Perm ns → ns'.Pairwise (· ≤ ·) → (∀ q ∈ nl, q.1 < D) → Fr h₀ L h' m → News h₀ L h' ((D, W.listOf vs'.toArray c) :: nl) → Q (.ref D) { s with heap := h' }) :
    wpAny (model prog w) A (call (.builtin "sorted") [.ref a]) Q E s := by
  have hl := hi.length
  refine call_function_entry kind_sorted plain_sorted entry_sorted (args_sorted1 _) ?_
  unfold Builtin.«sorted»
  refine wpAny_bind (m := PySem.checkCount "sorted" 1 1 _) (wpAny_pure ?_)
  refine wpAny_bind (wpAny_collect_seq a (T := "tuple") (.inr rfl) (N _ hm).1 rfl rfl (fun h1 k1 => ?_) (by rw [List.size_toArray, sizeLine_eq]; omega))
  have F1 := F.keeps k1
  have N1 : News h₀ L h1 nl := fun p hp => ⟨k1 _ _ (N p hp).1, (N p hp).2⟩
  refine wpAny_bind (wpAny_newList ?_ (by show vs.length ≤ _; rw [sizeLine_eq]; omega))
  have hoL : (h1.push (seqObj "list" vs.toArray 0)).get? h1.objs.size = some (seqObj "list" vs.toArray 0) := Heap.get?_push_size _ rfl
  refine wpAny_bind (wpAny_holding (wpAny_call_entry slot_list_sort ⟨_, hoL, rfl⟩ entry_list_sort ?body (args_list_sort _)))
  case body =>
    refine list_sort_tree (s := { s with heap := h1.push (seqObj "list" vs.toArray 0) }) hoL hi (by omega) fun out ns' a1 a2 a3 => ⟨_, rfl, wpAny_pure ⟨_, rfl, ?_⟩⟩
    obtain ⟨e, he⟩ := sortedHeap_at (out := out) hoL
    have hlt : ∀ q ∈ nl, q.1 < h1.objs.size := fun q hq => Heap.lt_size (N1 q hq).1
    have hLt : L < h1.objs.size := F1.ns.lt
    have up : ∀ b o, h1.get? b = some o → (sortedHeap (h1.push (seqObj "list" vs.toArray 0)) h1.objs.size vs out).get? b = some o := fun b o q => by
      have hb := Heap.lt_size q
      rw [sortedHeap_old (Nat.ne_of_lt hb) (by rw [Heap.size_push]; exact Nat.lt_succ_of_lt hb)]
      exact Heap.get?_push_of_some _ q
    refine h _ out.toList ns' e _ a1 a2 a3 hlt (F1.kept up) fun p hp => ?_
    rcases List.mem_cons.mp hp with rfl | hp
    · exact ⟨he, Ne.symm (Nat.ne_of_lt hLt), by
        cases q : h₀.get? h1.objs.size with
        | none => rfl
        | some o' => exact absurd (Heap.lt_size (F1.keep _ o' q)) (Nat.lt_irrefl _)⟩
    · exact ⟨up _ _ (N1 p hp).1, (N1 p hp).2⟩
end
end Mine
-- part FM
namespace Mine
set_option Elab.async false
set_option maxRecDepth 100000
set_option maxHeartbeats 4000000
theorem noFill_tuple_mul : fillsNumberSlot (.type "tuple") "mul" = pure false :=
  PySem.fillsNumberSlot_seq (id := "tuple.__mul__") (r := some (.builtin "tuple.__rmul__")) F.slot_tuple_mul.lookup (by decide +kernel) F.slot_tuple_rmul.lookup (by decide +kernel)
theorem repeat_tuple : seqRepeat? (.type "tuple") = pure (some (.builtin "tuple.__mul__")) := by
  unfold seqRepeat?
  rw [PySem.seqSlot_of (T := "tuple") (name := "__mul__") (id := "tuple.__mul__") F.slot_tuple_mul.lookup (by decide +kernel), PySem.seqSlot_of (T := "tuple") (name := "__rmul__") (id := "tuple.__rmul__") F.slot_tuple_rmul.lookup (by decide +kernel)]
  rfl
theorem rmul_tuple (a : Int) (t : Tok) (l : Addr) (items : Array Value) (n : Nat) :
    Meets (Builtin.«int.__rmul__» ⟨[.int a t, .ref l], []⟩) (fun _ R s => s.heap.get? l = some { cls := .type "tuple", dict := none, data := .seq items n, slots := #[] } ∧ R (.ok (.ret Value.notImplemented)) s) :=
  .of_wp fun prog w A R s h => by obtain ⟨hp, g, d, tk, os⟩ := s; obtain ⟨hl, h⟩ := h; wp_walk; exact ⟨_, rfl, h⟩
section
variable {prog : Program} {w : World} {A : Around} {E : Value → Shared → Prop} {s : Shared} {h₀ : Heap} {L : Addr} {m : Str → Option Value} {news : List (Addr × Obj)}
theorem rep_arr (v : Value) : ∀ n : Nat, (List.replicate n (#[v] : Array Value)).foldl (· ++ ·) #[] = (List.replicate n v).toArray := by
  intro n
  have key : ∀ (n : Nat) (a : Array Value), (List.replicate n (#[v] : Array Value)).foldl (· ++ ·) a = a ++ (List.replicate n v).toArray := by
    intro n
    induction n with
    | zero => intro a; simp
    | succ n ih => intro a; rw [List.replicate_succ, List.foldl_cons, ih, List.replicate_succ]; apply Array.toList_inj.mp; simp
  rw [key]
  simp
theorem tup_mul {t : Addr} {v : Value} {k : Nat} {x : Int} {u : Tok} {n : Nat} {Q : Value → Shared → Prop} (F : Fr h₀ L s.heap m) (N : News h₀ L s.heap news) (hm : (t, tupO [v] k) ∈ news) (hx : x = (n : Nat)) (h1 : 1 ≤ n) (h2 : n ≤ 1000)
    (hs : n = 1 → Q (.ref t) s) (hw : ∀ h', Fr h₀ L h' m → News h₀ L h' ((s.heap.objs.size, tupO (List.replicate n v) 0) :: news) → Q (.ref s.heap.objs.size) { s with heap := h' }) :
    wpAny (model prog w) A (binaryOp .Mult (.ref t) (.int x u)) Q E s := by
  subst hx
  have ht := (N _ hm).1
  have hT : s.TypeIs (.ref t) "tuple" := ⟨_, ht, rfl⟩
  refine wpAny_binaryOp_repeat_ref (T := "tuple") (U := "int") (by decide) hT (fun s' => typeIs_int s' _ u) noFill_tuple_mul PySem.F.fills_int_mul PySem.F.slot_int_rmul repeat_tuple PySem.F.slot_int_index.lookup
    (call_meets PySem.F.slot_int_rmul (typeIs_int s _ u) PySem.F.entry_int_rmul (PySem.F.args_int_rmul_2 _ _) (rmul_tuple _ u t _ k) ⟨ht, rfl, hT, ?_⟩)
  refine wpAny_call_entry PySem.F.slot_tuple_mul hT PySem.F.entry_tuple_mul ?_ (PySem.F.args_tuple_mul_2 _ _)
  show wpAny _ _ (asIndex (.int (n : Int) u) >>= _) _ _ s
  refine wpAny_bind (wpAny_of_eq (a := (n : Int)) rfl ?_)
  dsimp only
  rw [if_neg (by simp; omega)]
  refine wpAny_bind (tupleItemsOf_ (N.isTup hm) ?_)
  by_cases hn : n = 1
  · subst hn
    rw [if_pos (by simp)]
    unfold Builtin.Tuple.tupleIsExact
    refine wpAny_bind (wpAny_bind (wpAny_typeOf hT (wpAny_pure ?_)))
    rw [if_pos (by decide)]
    exact wpAny_bind (wpAny_rule (wpAny_bind (wpAny_pure (wpAny_pure ⟨_, rfl, hs rfl⟩))))
  · rw [if_neg (by simp; omega), if_neg (by simp; omega), if_neg (by simp; omega)]
    rw [if_neg (by unfold Builtin.Tuple.tupleTooMany; simp [sizeLine]; omega)]
    have e : (List.foldl (· ++ ·) #[] (List.replicate ((n : Int)).toNat ([v].toArray))) = (List.replicate n v).toArray := by
      rw [Int.toNat_natCast]
      exact rep_arr v n
    rw [e]
    have hz : sizeOk (.seq (List.replicate n v).toArray) := by
      show (List.replicate n v).toArray.size ≤ sizeLine
      simp [sizeLine]
      omega
    have hq := hw (s.heap.push (tupO (List.replicate n v) 0)) (F.push _) (News.push F N _)
    exact wpAny_bind (wpAny_newObj_type (wpAny_pure ⟨_, rfl, hq⟩) hz)
theorem tup_mul1 {t : Addr} {v : Value} {k : Nat} {x : Int} {u : Tok} {n : Nat} {base nl : List (Addr × Obj)} {Q : Value → Shared → Prop} (F : Fr h₀ L s.heap m) (N : News h₀ L s.heap nl) (hm : (t, tupO [v] k) ∈ nl) (hb : ∀ q ∈ base, q ∈ nl ∧ q.1 < t) (hx : x = (n : Nat)) (h1 : 1 ≤ n) (h2 : n ≤ 1000)
    (h : ∀ D z' h', (∀ q ∈ base, q.1 < D) → Fr h₀ L h' m → News h₀ L h' ((D, tupO (List.replicate n v) z') :: base) → Q (.ref D) { s with heap := h' }) :
    wpAny (model prog w) A (binaryOp .Mult (.ref t) (.int x u)) Q E s := by
  refine tup_mul F N hm hx h1 h2 (fun e => ?_) fun h' F' N' => ?_
  · subst e
    refine h t k s.heap (fun q hq => (hb q hq).2) F fun q hq => ?_
    rcases List.mem_cons.mp hq with rfl | hq
    · exact N _ hm
    · exact N _ (hb q hq).1
  · refine h s.heap.objs.size 0 h' (fun q hq => Heap.lt_size (N q (hb q hq).1).1) F' fun q hq => ?_
    rcases List.mem_cons.mp hq with rfl | hq
    · exact N' _ (.head _)
    · exact N' _ (.tail _ (hb q hq).1)
theorem eq_refs {nl : List (Addr × Obj)} (N : News h₀ L s.heap nl) {vs ws : List Value} {ps : List (List Int)} (h1 : RefsAre nl vs ps) (h2 : RefsAre nl ws ps) (hu : A.units < cLine) (j : Nat) (a : j < vs.length) (b : j < ws.length) : SeqAt.EqAt A s vs[j] ws[j] true := by
  intro prog w E Q hq
  obtain ⟨x, e1, p1⟩ := h1.get j (by rw [← h1.length]; exact a)
  obtain ⟨y, e2, p2⟩ := h2.get j (by rw [← h2.length]; exact b)
  rw [List.getElem?_eq_getElem a] at e1
  rw [List.getElem?_eq_getElem b] at e2
  rw [Option.some.inj e1, Option.some.inj e2]
  refine wpAny_eqBool_tuple (knd := intKind prog w) hu (p1.key N) (p2.key N) ?_
  rw [decide_eq_true rfl]
  exact hq
theorem ne_lists {nl : List (Addr × Obj)} {a b : Addr} {vs ws : List Value} {ps : List (List Int)} {Q : Value → Shared → Prop} (N : News h₀ L s.heap nl) (ha : s.heap.IsList a vs.toArray) (hb : s.heap.IsList b ws.toArray) (h1 : RefsAre nl vs ps) (h2 : RefsAre nl ws ps) (hu : A.units + 8 < cLine) (h : Q (.bool false) s) :
    wpAny (model prog w) A (compareOp .NotEq (.ref a) (.ref b)) Q E s := by
  show wpAny _ _ (richCompare .NotEq _ _) _ _ _
  refine SeqAt.RcNeAt.lists (e := fun _ => true) ha hb (by rw [List.size_toArray, List.size_toArray, h1.length, h2.length]) (by omega) (fun j j1 j2 => ?_) prog w E Q ?_
  · have hu1 : A.in1.units < cLine := by
      show A.units + 1 < cLine
      omega
    simpa using eq_refs (A := A.in1) N h1 h2 hu1 j (by simpa using j1) (by simpa using j2)
  · have e : (!(List.range vs.toArray.size).all fun _ => true) = false := by simp
    rw [e]
    exact h
/-- l[::-1] of a list of ints that the expression itself made -/
theorem rev_slice {value slice : Expr} {l : Addr} {vs : List Value} {ns : List Int} {t : Tok} {ops : List Value} {Q : Value → Shared → Prop} (F : Fr h₀ L s.heap m) (N : News h₀ L s.heap news) (hl : s.heap.IsList l vs.toArray) (hi : IntsAre vs ns) (hz : ns.length ≤ 1000)
    (h : ∀ D ws h', IntsAre ws ns.reverse → Fr h₀ L h' m → News h₀ L h' ((D, W.listOf ws.toArray 0) :: news) → Q (.ref D) { s with heap := h' })
    (hs : subscripted slice false (.ref l) (.ref s.heap.objs.size) = operate ops (getItem (.ref l) (.ref s.heap.objs.size)) := by with_unfolding_all rfl) :
    wpAny (model prog w) A (subscriptTail value slice (.ref l) (.ref s.heap.objs.size)) Q E { s with heap := s.heap.push { cls := .type "slice", data := .fields #[.none, .none, .int (-1) t] } } := by
  refine tail_any (Heap.IsList.typeIs (s := { s with heap := s.heap.push { cls := .type "slice", data := .fields #[.none, .none, .int (-1) t] } }) (hl.push _)) slot_list_getitem.lookup
    (wpAny_getItem_list_slice (hl.push _) (Heap.IsSliceOf.new ..) IsPart.none IsPart.none (IsPart.int (-1) t) (by decide) ?_ (by rw [List.size_toArray, hi.length, sizeLine_eq]; omega)) hs
  have N1 := News.push (F.push { cls := .type "slice", data := .fields #[.none, .none, .int (-1) t] }) (N.grown fun _ _ e => Heap.get?_push_of_some _ e) { cls := .type "list", data := .seq (slicePick vs.toArray none none (some (-1))) }
  rw [krv_pick] at N1 ⊢
  exact h _ vs.reverse _ hi.reverse ((F.push _).push _) N1
/-- t[k:] of a tuple, k written -/
theorem tslice_from {value slice : Expr} {t : Addr} {vs : List Value} {z : Nat} {u : Tok} (k : Nat) {Q : Value → Shared → Prop}
    (F : Fr h₀ L s.heap m) (N : News h₀ L s.heap news) (hm : (t, tupO vs z) ∈ news) (hsz : vs.length ≤ 1000)
    (h : ∀ D z' ext h', (∀ q ∈ ext, ∀ n ∈ news, n.1 < q.1) → (D, tupO (vs.drop k) z') ∈ ext ++ news → Fr h₀ L h' m → News h₀ L h' (ext ++ news) → Q (.ref D) { s with heap := h' })
    (hs : subscripted slice false (.ref t) (.ref s.heap.objs.size) = operate [.ref s.heap.objs.size, .ref t] (getItem (.ref t) (.ref s.heap.objs.size)) := by with_unfolding_all rfl)
    (hg : ∀ r, letTemporaryGo value (.ref t) r = pure () := by intro _; with_unfolding_all rfl) :
    wpAny (model prog w) A (subscriptTail value slice (.ref t) (.ref s.heap.objs.size)) Q E { s with heap := s.heap.push { cls := .type "slice", data := .fields #[.int (k : Int) u, .none, .none] } } := by
  by_cases hk : k ≤ vs.length
  · refine tslice F N hm (.int _ u) .none (from_adj k vs.length hk).1 (from_adj k vs.length hk).2 hsz (fun D z' ext h' he hd F' N' => ?_) hs hg
    rw [List.take_of_length_le (by rw [List.length_drop]; exact Nat.le_refl _)] at hd
    exact h D z' ext h' he hd F' N'
  · refine tslice F N hm (.int _ u) .none (from_adj2 k vs.length (by omega)).1 (from_adj2 k vs.length (by omega)).2 hsz (fun D z' ext h' he hd F' N' => ?_) hs hg
    rw [List.take_zero, ← List.drop_eq_nil_of_le (show vs.length ≤ k by omega)] at hd
    exact h D z' ext h' he hd F' N'
theorem in_two {l a b x : Addr} {nl : List (Addr × Obj)} {pa pb px : List Int} {Q : Value → Shared → Prop} (N : News h₀ L s.heap nl) (hl : s.heap.IsList l #[.ref a, .ref b]) (ha : PosAt nl a pa) (hb : PosAt nl b pb) (hx : PosAt nl x px) (hu : A.units + 8 < cLine)
    (h : Q (.bool (decide (pa = px) || decide (pb = px))) s) : wpAny (model prog w) A (compareOp .In (.ref x) (.ref l)) Q E s := by
  have hu1 : A.in1.units < cLine := by
    show A.units + 1 < cLine
    omega
  refine SeqAt.in_listAt (fun y => if y = .ref a then decide (pa = px) else decide (pb = px)) hl (fun y hy => ?_) ?_
  · intro prog w E Q hq
    by_cases hya : y = .ref a
    · subst hya
      rw [if_pos rfl] at hq
      exact wpAny_eqBool_tuple (knd := intKind prog w) hu1 (ha.key N) (hx.key N) hq
    · rw [if_neg hya] at hq
      have : y = .ref b := by
        simp only [Array.mem_def, List.mem_cons, List.not_mem_nil, or_false] at hy
        rcases hy with rfl | rfl
        · exact absurd rfl hya
        · rfl
      subst this
      exact wpAny_eqBool_tuple (knd := intKind prog w) hu1 (hb.key N) (hx.key N) hq
  · have e : (#[Value.ref a, Value.ref b].any fun y => if y = .ref a then decide (pa = px) else decide (pb = px)) = (decide (pa = px) || decide (pb = px)) := by
      by_cases hab : (Value.ref b) = .ref a
      · have : b = a := by injection hab
        subst this
        obtain ⟨v1, n1, m1, i1⟩ := ha
        obtain ⟨v2, n2, m2, i2⟩ := hb
        have e1 := (N _ m1).1
        rw [(N _ m2).1] at e1
        have e2 : v2.toArray = v1.toArray := by
          have := congrArg Obj.data (Option.some.inj e1)
          injection this
        have e3 : v2 = v1 := by simpa using congrArg Array.toList e2
        subst e3
        have e4 : pa = pb := by
          have h1 := ints_key (prog := prog) (w := w) i1
          have h2 := ints_key (prog := prog) (w := w) i2
          exact h1.inj h2
        subst e4
        simp
      · simp [hab]
    rw [e]
    exact h
theorem tup_mul2 {t : Addr} {v : Value} {k : Nat} {x : Int} {u : Tok} {n : Nat} {Q : Value → Shared → Prop} (F : Fr h₀ L s.heap m) (N : News h₀ L s.heap news) (hm : (t, tupO [v] k) ∈ news) (hx : x = (n : Nat)) (h1 : 1 ≤ n) (h2 : n ≤ 1000)
    (h : ∀ D z' h', Fr h₀ L h' m → News h₀ L h' ((D, tupO (List.replicate n v) z') :: news) → Q (.ref D) { s with heap := h' }) :
    wpAny (model prog w) A (binaryOp .Mult (.ref t) (.int x u)) Q E s := by
  refine tup_mul F N hm hx h1 h2 (fun e => ?_) fun h' F' N' => h _ 0 h' F' N'
  subst e
  refine h t k s.heap F fun q hq => ?_
  rcases List.mem_cons.mp hq with rfl | hq
  · exact N _ hm
  · exact N _ hq
end
end Mine
-- part Q1
namespace Mine
set_option Elab.async false
set_option maxRecDepth 100000
set_option maxHeartbeats 8000000
local macro_rules | `(tactic| walk_at "call ref") => `(tactic| (refine Hold.on ?_))
local macro_rules | `(tactic| k_all) => `(tactic| first | assumption | (refine' Tail.ne ?ta ?tb; (case ta => assumption); (case tb => (try dsimp only); omega)) | fail "k_all")
local macro_rules | `(tactic| walk_at "m nodup") => `(tactic| repeat' (first | exact nd_nil | exact all_nil | refine nd_cons ?_ ?_ | refine all_cons ?_ ?_ | k_ne))
local macro_rules | `(tactic| walk_at "m apart") => `(tactic| repeat' (first | exact Apart.nil | refine Apart.cons ?_ ?_ | k_all))
local macro_rules | `(tactic| walk_at "m sub") => `(tactic| repeat' (first | exact sub_nil | exact sub_self | (refine' sub_cons ?ta ?_; (case ta => k_mem)) | refine sub_tail ?_ | fail "m sub"))
local macro_rules | `(tactic| walk_at "m lt") => `(tactic| repeat' (first | refine List.forall_mem_cons.mpr ⟨?_, ?_⟩ | (refine' Tail.lt ?ta ?tb; (case ta => assumption); (case tb => (try dsimp only); omega)) | (refine ltA ?_; (try dsimp only); omega) | fail "m lt"))
local macro_rules | `(tactic| walk_at "m enterC") => `(tactic| k_dflt (refine' code_defC ?k1 ?k2 ?k3 ?k4 ?k5 ?kA ?kF ?kK ?k6 ?k7 ?k8 ?k9 ?kB ?kD ?_ ?c2 ?c3 ?c4; (case kA => exact rfl); (case kF => exact rfl); (case kK => assumption); (case k1 => k_asm); (case k2 => k_asm); (case k3 => k_asm); (case k4 => k_asm); (case k5 => k_asm); (case k6 => k_is); (case k7 => k_is); (case k8 => ktr_room); (case k9 => first | exact BindsTo.of_eq rfl | (refine' kp_binds ?kx ?ke; (case kx => k_in); (case ke => exact fun _ => rfl)) | fail "m enter: no rule for these arguments"); (case kB => exact rfl); (case kD => decide +kernel); (case c2 => exact rfl); (case c3 => exact rfl); (case c4 => exact rfl); k_whole))
local macro_rules | `(tactic| walk_at "m enterL") => `(tactic| k_dflt (refine' code_defL ?k1 ?k2 ?k3 ?k4 ?k5 ?kA ?kF ?kK ?k6 ?k7 ?k8 ?k9 ?kB ?_ ?c2 ?c3 ?c4 ?c5; (case kA => exact rfl); (case kF => exact rfl); (case kK => assumption); (case k1 => k_asm); (case k2 => k_asm); (case k3 => k_asm); (case k4 => k_asm); (case k5 => k_asm); (case k6 => k_is); (case k7 => k_is); (case k8 => ktr_room); (case k9 => first | exact BindsTo.of_eq rfl | (refine' kp_binds ?kx ?ke; (case kx => k_in); (case ke => exact fun _ => rfl)) | fail "m enter: no rule for these arguments"); (case c5 => decide); (case kB => exact locs rfl); (case c2 => exact rfl); (case c3 => exact rfl); (case c4 => exact rfl); k_whole))
local macro_rules | `(tactic| walk_at "m enterN") => `(tactic| k_dflt (refine' code_nestL ?k1 ?k2 ?k3 ?k4 ?k5 ?kA ?kF ?kK ?k6 ?k7 ?k8 ?k9 ?kB ?_ ?c2 ?c3 ?c4 ?c5; (case kA => exact rfl); (case kF => exact rfl); (case kK => assumption); (case k1 => k_asm); (case k2 => k_asm); (case k3 => k_asm); (case k4 => k_asm); (case k5 => k_asm); (case k6 => k_mem); (case k7 => exact codeRec_news (by k_asm) (by k_mem) (by assumption) (by assumption)); (case k8 => ktr_room); (case k9 => exact BindsTo.of_eq rfl); (case c5 => decide); (case kB => exact locs rfl); (case c2 => exact rfl); (case c3 => exact rfl); (case c4 => exact rfl); k_whole))
local macro_rules | `(tactic| walk_at "exec While Compare cons nil") => `(tactic| (refine Hold.on ?_))
local macro_rules | `(tactic| walk_at "KswPost") => `(tactic| (refine Hold.on ?_))
local macro_rules | `(tactic| walk_at "call builtin:len") => `(tactic| (refine Hold.on ?_))
local macro_rules | `(tactic| walk_at "subscriptTail") => `(tactic| (refine Hold.on ?_))
local macro_rules | `(tactic| walk_at "compareOp Lt ref ref") => `(tactic| (refine Hold.on ?_))

theorem bis2 (w : World) (l x : Addr)  (vs : List Value) (ps : List (List Int)) (p : List Int) (z : Nat) (hlen : ps.length ≤ 1000) :
  ∀ (prog p0 : Program) (loose : List Str) (mean : ExcName → Option Value) (mg mb : Str → Option Value) (dp un : Nat) (gd : Option (List Code)) (cn : Str) (cs : Scope) (a : Addr) (ccd : Value) (cl : List (Str × Addr)) (outer : List Env) (A₀ : Around) (base h₀ : Heap) (L : Addr) (m : Str → Option Value)
    (news : List (Addr × Obj)) (s : Shared) (Q E : Value → Shared → Prop), RefsAre news vs ps → PosAt news x p →
    Below A₀ base outer h₀ → Fr h₀ L s.heap m → (hd.heap_39 w.params).In h₀ → News h₀ L s.heap ((l, W.listOf vs.toArray z) :: news) → (∀ q ∈ news, q.1 ≠ l) → Top p0 loose mean mg mb h₀ → cs.kind = .function → dp + 1 < recursionLimit → un + 8 < cLine →
    (∀ h' tk' t, Fr h₀ L h' m → News h₀ L h' ((l, W.listOf vs.toArray z) :: news) → Q (.int (bisT ps p : Nat) t) { s with heap := h', toks := tk' }) →
    wpAny (model prog w) (ktrTop dp un gd cn cs L a ccd cl outer) (call (.ref 32) [.ref l, .ref x]) Q E s := by
  intro prog p0 loose mean mg mb dp un gd cn cs a ccd cl outer A₀ base h₀ L m news s Q E hR hP B F X N hAp T hk hd1 hu1 hret
  have hvl := hR.length
  refine wpAny_call ?_
  walk_at "m enterL"
  intro g' L' h' FG' F' N' B' X' T' l1
  (try dsimp only)
  (try k_lift B')
  k_fold
  k_steps
  refine Hold.off ?_
  (rename News g' L' _ _ => NN)
  refine kun_lenL (k := (ps.length : Int)) (NN.isList (.head _)) (by simp [hvl]) (by omega) ?_
  (try dsimp only)
  k_steps
  refine Hold.off ?_
  (rename Fr _ _ _ _ => FF)
  (rename News g' L' _ _ => NN)
  refine ksw_while (σ := Int × Int × Tok × Tok) (fun c => (l, W.listOf vs.toArray z) :: news) (fun c => [(Str.ofString "lo", .int c.1 c.2.2.1), (Str.ofString "hi", .int c.2.1 c.2.2.2)])
    (fun c => True) ["mid"] (fun c => 0 ≤ c.1 ∧ c.1 ≤ c.2.1 ∧ c.2.1 ≤ ps.length ∧ ∃ f : Nat, c.2.1.toNat - c.1.toNat ≤ f ∧ bisF ps p f c.1.toNat c.2.1.toNat = bisT ps p) (fun c => (c.2.1 - c.1).toNat) (0, ps.length, _, _) FF NN trivial (by intro q hq; simp only [List.mem_cons, List.not_mem_nil, or_false] at hq; rcases hq with rfl | rfl <;> rfl)
    ⟨by omega, by simp, by simp, ps.length, by simp, by simp [bisT]⟩ ?_
  rintro ⟨a1, b1, ta, tb⟩ u h5 tk5 - ⟨p1, p2, p3, f, p4, p5⟩ F5 N5
  dsimp only at p1 p2 p3 p4 p5 F5 N5 ⊢
  clear FF NN
  k_steps
  · refine Hold.off ?_
    (rename Fr g' L' _ _ => F6)
    (rename News g' L' _ _ => N6)
    have hab : a1 < b1 := by first | assumption | omega
    have hmid : a1 ≤ (a1 + b1).fdiv 2 ∧ (a1 + b1).fdiv 2 < b1 ∧ ((a1 + b1).fdiv 2).toNat = (a1.toNat + b1.toNat) / 2 := by
      rw [Int.fdiv_eq_ediv_of_nonneg _ (by decide)]
      omega
    generalize (a1 + b1).fdiv 2 = md at *
    obtain ⟨xa, hx1, hx2⟩ := hR.get md.toNat (by omega)
    refine my_item (N6.isList (.head _)) (by omega) (by omega) hx1 ?_ (by with_unfolding_all rfl)
    k_steps
    refine Hold.off ?_
    refine lt_tups (by first | omega | (dsimp only [Around.deeper, ktrTop]; omega)) ((hx2.mono (fun q hq => .tail _ hq)).key N6) ((hP.mono (fun q hq => .tail _ hq)).key N6) ?_
    obtain ⟨f, rfl⟩ : ∃ f' : Nat, f = f' + 1 := ⟨f - 1, by omega⟩
    rw [bisF_step _ _ _ _ _ (by omega)] at p5
    rw [← hmid.2.2] at p5
    cases hlt : lexLt (ps.getD md.toNat []) p with
    | true =>
      rw [hlt, if_pos rfl] at p5
      k_steps
      refine Hold.off ?_
      refine' ksw_end (md + 1, b1, _, tb) ?e0 ?e1 (fun q hq => hq) trivial ?e2 ?e3 ⟨by dsimp only; omega, by dsimp only; omega, p3, f, by dsimp only; omega, by (dsimp only; rw [show (md + 1).toNat = md.toNat + 1 by omega]; exact p5)⟩ ?e4
      case e0 => assumption
      case e1 => assumption
      case e2 =>
        intro q hq
        simp only [List.mem_cons, List.not_mem_nil, or_false] at hq
        rcases hq with rfl | rfl <;> rfl
      case e3 =>
        intro z h1 h2
        have n1 : z ≠ Str.ofString "lo" := h1 _ (.head _)
        have n2 : z ≠ Str.ofString "hi" := h1 _ (.tail _ (.head _))
        have n3 : z ≠ Str.ofString "mid" := by
          intro e
          subst e
          exact absurd h2 (by decide)
        rw [if_neg n1, if_neg n3]
        simp only [kstB, if_neg n1, if_neg n2, h2]
        rfl
      case e4 => dsimp only; omega
    | false =>
      rw [hlt, if_neg (by decide)] at p5
      k_steps
      refine Hold.off ?_
      refine' ksw_end (a1, md, ta, _) ?e0 ?e1 (fun q hq => hq) trivial ?e2 ?e3 ⟨p1, by dsimp only; omega, by dsimp only; omega, f, by dsimp only; omega, p5⟩ ?e4
      case e0 => assumption
      case e1 => assumption
      case e2 =>
        intro q hq
        simp only [List.mem_cons, List.not_mem_nil, or_false] at hq
        rcases hq with rfl | rfl <;> rfl
      case e3 =>
        intro z h1 h2
        have n1 : z ≠ Str.ofString "lo" := h1 _ (.head _)
        have n2 : z ≠ Str.ofString "hi" := h1 _ (.tail _ (.head _))
        have n3 : z ≠ Str.ofString "mid" := by
          intro e
          subst e
          exact absurd h2 (by decide)
        rw [if_neg n2, if_neg n3]
        simp only [kstB, if_neg n1, if_neg n2, h2]
        rfl
      case e4 => dsimp only; omega
  · (rename News h₀ L _ _ => NN)
    have hab : a1 = b1 := by omega
    rw [← hab, bisF_end] at p5
    have e : a1 = ((bisT ps p : Nat) : Int) := by omega
    rw [e]
    exact hret _ _ _ (by assumption) NN

theorem bis4 (w : World) (l x : Addr) (t0 : Tok) (vs : List Value) (ps : List (List Int)) (p : List Int) (z : Nat) (hlen : ps.length ≤ 1000) :
  ∀ (prog p0 : Program) (loose : List Str) (mean : ExcName → Option Value) (mg mb : Str → Option Value) (dp un : Nat) (gd : Option (List Code)) (cn : Str) (cs : Scope) (a : Addr) (ccd : Value) (cl : List (Str × Addr)) (outer : List Env) (A₀ : Around) (base h₀ : Heap) (L : Addr) (m : Str → Option Value)
    (news : List (Addr × Obj)) (s : Shared) (Q E : Value → Shared → Prop), RefsAre news vs ps → PosAt news x p →
    Below A₀ base outer h₀ → Fr h₀ L s.heap m → (hd.heap_39 w.params).In h₀ → News h₀ L s.heap ((l, W.listOf vs.toArray z) :: news) → (∀ q ∈ news, q.1 ≠ l) → Top p0 loose mean mg mb h₀ → cs.kind = .function → dp + 1 < recursionLimit → un + 8 < cLine →
    (∀ h' tk' t, Fr h₀ L h' m → News h₀ L h' ((l, W.listOf vs.toArray z) :: news) → Q (.int (bisT ps p : Nat) t) { s with heap := h', toks := tk' }) →
    wpAny (model prog w) (ktrTop dp un gd cn cs L a ccd cl outer) (call (.ref 32) [.ref l, .ref x, .int 0 t0, .none]) Q E s := by
  intro prog p0 loose mean mg mb dp un gd cn cs a ccd cl outer A₀ base h₀ L m news s Q E hR hP B F X N hAp T hk hd1 hu1 hret
  have hvl := hR.length
  refine wpAny_call ?_
  walk_at "m enterL"
  intro g' L' h' FG' F' N' B' X' T' l1
  (try dsimp only)
  (try k_lift B')
  k_fold
  k_steps
  refine Hold.off ?_
  (rename News g' L' _ _ => NN)
  refine kun_lenL (k := (ps.length : Int)) (NN.isList (.head _)) (by simp [hvl]) (by omega) ?_
  (try dsimp only)
  k_steps
  refine Hold.off ?_
  (rename Fr _ _ _ _ => FF)
  (rename News g' L' _ _ => NN)
  refine ksw_while (σ := Int × Int × Tok × Tok) (fun c => (l, W.listOf vs.toArray z) :: news) (fun c => [(Str.ofString "lo", .int c.1 c.2.2.1), (Str.ofString "hi", .int c.2.1 c.2.2.2)])
    (fun c => True) ["mid"] (fun c => 0 ≤ c.1 ∧ c.1 ≤ c.2.1 ∧ c.2.1 ≤ ps.length ∧ ∃ f : Nat, c.2.1.toNat - c.1.toNat ≤ f ∧ bisF ps p f c.1.toNat c.2.1.toNat = bisT ps p) (fun c => (c.2.1 - c.1).toNat) (0, ps.length, _, _) FF NN trivial (by intro q hq; simp only [List.mem_cons, List.not_mem_nil, or_false] at hq; rcases hq with rfl | rfl <;> rfl)
    ⟨by omega, by simp, by simp, ps.length, by simp, by simp [bisT]⟩ ?_
  rintro ⟨a1, b1, ta, tb⟩ u h5 tk5 - ⟨p1, p2, p3, f, p4, p5⟩ F5 N5
  dsimp only at p1 p2 p3 p4 p5 F5 N5 ⊢
  clear FF NN
  k_steps
  · refine Hold.off ?_
    (rename Fr g' L' _ _ => F6)
    (rename News g' L' _ _ => N6)
    have hab : a1 < b1 := by first | assumption | omega
    have hmid : a1 ≤ (a1 + b1).fdiv 2 ∧ (a1 + b1).fdiv 2 < b1 ∧ ((a1 + b1).fdiv 2).toNat = (a1.toNat + b1.toNat) / 2 := by
      rw [Int.fdiv_eq_ediv_of_nonneg _ (by decide)]
      omega
    generalize (a1 + b1).fdiv 2 = md at *
    obtain ⟨xa, hx1, hx2⟩ := hR.get md.toNat (by omega)
    refine my_item (N6.isList (.head _)) (by omega) (by omega) hx1 ?_ (by with_unfolding_all rfl)
    k_steps
    refine Hold.off ?_
    refine lt_tups (by first | omega | (dsimp only [Around.deeper, ktrTop]; omega)) ((hx2.mono (fun q hq => .tail _ hq)).key N6) ((hP.mono (fun q hq => .tail _ hq)).key N6) ?_
    obtain ⟨f, rfl⟩ : ∃ f' : Nat, f = f' + 1 := ⟨f - 1, by omega⟩
    rw [bisF_step _ _ _ _ _ (by omega)] at p5
    rw [← hmid.2.2] at p5
    cases hlt : lexLt (ps.getD md.toNat []) p with
    | true =>
      rw [hlt, if_pos rfl] at p5
      k_steps
      refine Hold.off ?_
      refine' ksw_end (md + 1, b1, _, tb) ?e0 ?e1 (fun q hq => hq) trivial ?e2 ?e3 ⟨by dsimp only; omega, by dsimp only; omega, p3, f, by dsimp only; omega, by (dsimp only; rw [show (md + 1).toNat = md.toNat + 1 by omega]; exact p5)⟩ ?e4
      case e0 => assumption
      case e1 => assumption
      case e2 =>
        intro q hq
        simp only [List.mem_cons, List.not_mem_nil, or_false] at hq
        rcases hq with rfl | rfl <;> rfl
      case e3 =>
        intro z h1 h2
        have n1 : z ≠ Str.ofString "lo" := h1 _ (.head _)
        have n2 : z ≠ Str.ofString "hi" := h1 _ (.tail _ (.head _))
        have n3 : z ≠ Str.ofString "mid" := by
          intro e
          subst e
          exact absurd h2 (by decide)
        rw [if_neg n1, if_neg n3]
        simp only [kstB, if_neg n1, if_neg n2, h2]
        rfl
      case e4 => dsimp only; omega
    | false =>
      rw [hlt, if_neg (by decide)] at p5
      k_steps
      refine Hold.off ?_
      refine' ksw_end (a1, md, ta, _) ?e0 ?e1 (fun q hq => hq) trivial ?e2 ?e3 ⟨p1, by dsimp only; omega, by dsimp only; omega, f, by dsimp only; omega, p5⟩ ?e4
      case e0 => assumption
      case e1 => assumption
      case e2 =>
        intro q hq
        simp only [List.mem_cons, List.not_mem_nil, or_false] at hq
        rcases hq with rfl | rfl <;> rfl
      case e3 =>
        intro z h1 h2
        have n1 : z ≠ Str.ofString "lo" := h1 _ (.head _)
        have n2 : z ≠ Str.ofString "hi" := h1 _ (.tail _ (.head _))
        have n3 : z ≠ Str.ofString "mid" := by
          intro e
          subst e
          exact absurd h2 (by decide)
        rw [if_neg n2, if_neg n3]
        simp only [kstB, if_neg n1, if_neg n2, h2]
        rfl
      case e4 => dsimp only; omega
  · (rename News h₀ L _ _ => NN)
    have hab : a1 = b1 := by omega
    rw [← hab, bisF_end] at p5
    have e : a1 = ((bisT ps p : Nat) : Int) := by omega
    rw [e]
    exact hret _ _ _ (by assumption) NN

end Mine
-- part Q2
namespace Mine
set_option Elab.async false
set_option maxRecDepth 100000
set_option maxHeartbeats 8000000
local macro_rules | `(tactic| walk_at "call ref") => `(tactic| (refine Hold.on ?_))
local macro_rules | `(tactic| k_all) => `(tactic| first | assumption | (refine' Tail.ne ?ta ?tb; (case ta => assumption); (case tb => (try dsimp only); omega)) | fail "k_all")
local macro_rules | `(tactic| walk_at "m nodup") => `(tactic| repeat' (first | exact nd_nil | exact all_nil | refine nd_cons ?_ ?_ | refine all_cons ?_ ?_ | k_ne))
local macro_rules | `(tactic| walk_at "m apart") => `(tactic| repeat' (first | exact Apart.nil | refine Apart.cons ?_ ?_ | k_all))
local macro_rules | `(tactic| walk_at "m sub") => `(tactic| repeat' (first | exact sub_nil | exact sub_self | (refine' sub_cons ?ta ?_; (case ta => k_mem)) | refine sub_tail ?_ | fail "m sub"))
local macro_rules | `(tactic| walk_at "m lt") => `(tactic| repeat' (first | refine List.forall_mem_cons.mpr ⟨?_, ?_⟩ | (refine' Tail.lt ?ta ?tb; (case ta => assumption); (case tb => (try dsimp only); omega)) | (refine ltA ?_; (try dsimp only); omega) | fail "m lt"))
local macro_rules | `(tactic| walk_at "m enterC") => `(tactic| k_dflt (refine' code_defC ?k1 ?k2 ?k3 ?k4 ?k5 ?kA ?kF ?kK ?k6 ?k7 ?k8 ?k9 ?kB ?kD ?_ ?c2 ?c3 ?c4; (case kA => exact rfl); (case kF => exact rfl); (case kK => assumption); (case k1 => k_asm); (case k2 => k_asm); (case k3 => k_asm); (case k4 => k_asm); (case k5 => k_asm); (case k6 => k_is); (case k7 => k_is); (case k8 => ktr_room); (case k9 => first | exact BindsTo.of_eq rfl | (refine' kp_binds ?kx ?ke; (case kx => k_in); (case ke => exact fun _ => rfl)) | fail "m enter: no rule for these arguments"); (case kB => exact rfl); (case kD => decide +kernel); (case c2 => exact rfl); (case c3 => exact rfl); (case c4 => exact rfl); k_whole))
local macro_rules | `(tactic| walk_at "m enterL") => `(tactic| k_dflt (refine' code_defL ?k1 ?k2 ?k3 ?k4 ?k5 ?kA ?kF ?kK ?k6 ?k7 ?k8 ?k9 ?kB ?_ ?c2 ?c3 ?c4 ?c5; (case kA => exact rfl); (case kF => exact rfl); (case kK => assumption); (case k1 => k_asm); (case k2 => k_asm); (case k3 => k_asm); (case k4 => k_asm); (case k5 => k_asm); (case k6 => k_is); (case k7 => k_is); (case k8 => ktr_room); (case k9 => first | exact BindsTo.of_eq rfl | (refine' kp_binds ?kx ?ke; (case kx => k_in); (case ke => exact fun _ => rfl)) | fail "m enter: no rule for these arguments"); (case c5 => decide); (case kB => exact locs rfl); (case c2 => exact rfl); (case c3 => exact rfl); (case c4 => exact rfl); k_whole))
local macro_rules | `(tactic| walk_at "m enterN") => `(tactic| k_dflt (refine' code_nestL ?k1 ?k2 ?k3 ?k4 ?k5 ?kA ?kF ?kK ?k6 ?k7 ?k8 ?k9 ?kB ?_ ?c2 ?c3 ?c4 ?c5; (case kA => exact rfl); (case kF => exact rfl); (case kK => assumption); (case k1 => k_asm); (case k2 => k_asm); (case k3 => k_asm); (case k4 => k_asm); (case k5 => k_asm); (case k6 => k_mem); (case k7 => exact codeRec_news (by k_asm) (by k_mem) (by assumption) (by assumption)); (case k8 => ktr_room); (case k9 => exact BindsTo.of_eq rfl); (case c5 => decide); (case kB => exact locs rfl); (case c2 => exact rfl); (case c3 => exact rfl); (case c4 => exact rfl); k_whole))
theorem ins_arr (vs : List Value) (k : Nat) (y : Value) (hk : k ≤ vs.length) : ((vs.toArray.extract 0 k).push y ++ vs.toArray.extract k) = (vs.take k ++ y :: vs.drop k).toArray := by
  apply Array.ext'
  simp [List.take_of_length_le]
theorem insert_head_K {prog : Program} {w : World} {A : Around} {E : Value → Shared → Prop} {s : Shared} {h₀ : Heap} {L : Addr} {m : Str → Option Value} {D : Addr} {vs : List Value} {n k : Nat} {x : Int} {u : Tok} {y : Value} {rest : List (Addr × Obj)} {Q : Value → Shared → Prop}
    (F : Fr h₀ L s.heap m) (N : News h₀ L s.heap ((D, W.listOf vs.toArray n) :: rest)) (hap : ∀ p ∈ rest, p.1 ≠ D) (hx : x = (k : Nat)) (hk : k ≤ vs.length) (hl : vs.length ≤ 1000)
    (h : ∀ h', Fr h₀ L h' m → News h₀ L h' ((D, W.listOf (vs.take k ++ y :: vs.drop k).toArray (n + 1)) :: rest) → Q .none { s with heap := h' }) :
    wpAny (model prog w) A (call (.builtin "list.insert") [.ref D, .int x u, y]) Q E s := by
  have ho := N.get (.head _)
  have hsz : vs.toArray.size ≤ sizeLine := by
    show vs.length ≤ 2 ^ 24
    omega
  have hfit : ¬ (!Builtin.List.listFitsIndex x) = true := by
    have : Builtin.List.listFitsIndex x = true := by
      unfold Builtin.List.listFitsIndex
      simp only [Bool.and_eq_true, decide_eq_true_eq]
      omega
    rw [this]
    simp
  have e : Obj.mapSeq (fun xs => have j := if x < 0 then (x + (xs.size : Int)).toNat else min x.toNat xs.size; (xs.extract 0 j).push y ++ xs.extract j) (W.listOf vs.toArray n) = W.listOf (vs.take k ++ y :: vs.drop k).toArray (n + 1) := by
    have hj : (if x < 0 then (x + (vs.toArray.size : Int)).toNat else min x.toNat vs.toArray.size) = k := by
      rw [if_neg (by omega), hx, Int.toNat_natCast, List.size_toArray, Nat.min_eq_left hk]
    have hs : ((vs.take k ++ y :: vs.drop k).toArray.size == vs.toArray.size) = false := by
      simp
      omega
    unfold Obj.mapSeq
    simp only [hj, ins_arr vs k y hk, hs]
    rfl
  refine call_meets PySem.F.slot_list_insert ⟨_, ho, rfl⟩ PySem.F.entry_list_insert (PySem.F.args_list_insert_3 _ _ _) (AutoSeq1.list_insert_list_int_val_1 D vs.toArray n x u y hfit hsz) ⟨ho, ?_⟩
  refine h _ (F.change (Heap.SameBut.update ..) (N _ (.head _)).2.1 (N _ (.head _)).2.2) (N.setHead hap (Heap.SameBut.update ..) ?_)
  rw [Heap.get?_update_self _ ho (by rw [e]; rfl), e]
local macro_rules | `(tactic| walk_at "call builtin:list.insert") => `(tactic| (refine Hold.on ?_))
theorem insort (w : World) (l x : Addr) (vs : List Value) (ps : List (List Int)) (p : List Int) (z : Nat) (hlen : ps.length ≤ 1000) :
  ∀ (prog p0 : Program) (loose : List Str) (mean : ExcName → Option Value) (mg mb : Str → Option Value) (dp un : Nat) (gd : Option (List Code)) (cn : Str) (cs : Scope) (a : Addr) (ccd : Value) (cl : List (Str × Addr)) (outer : List Env) (A₀ : Around) (base h₀ : Heap) (L : Addr) (m : Str → Option Value)
    (news : List (Addr × Obj)) (s : Shared) (Q E : Value → Shared → Prop), RefsAre news vs ps → PosAt news x p →
    Below A₀ base outer h₀ → Fr h₀ L s.heap m → (hd.heap_39 w.params).In h₀ → News h₀ L s.heap ((l, W.listOf vs.toArray z) :: news) → (∀ q ∈ news, q.1 ≠ l) → Top p0 loose mean mg mb h₀ → cs.kind = .function → dp + 2 < recursionLimit → un + 16 < cLine →
    (∀ h' tk', Fr h₀ L h' m → News h₀ L h' ((l, W.listOf (vs.take (bisT ps p) ++ .ref x :: vs.drop (bisT ps p)).toArray (z + 1)) :: news) → Q .none { s with heap := h', toks := tk' }) →
    wpAny (model prog w) (ktrTop dp un gd cn cs L a ccd cl outer) (call (.ref 23) [.ref l, .ref x]) Q E s := by
  intro prog p0 loose mean mg mb dp un gd cn cs a ccd cl outer A₀ base h₀ L m news s Q E hR hP B F X N hAp T hk hd1 hu1 hret
  have hvl := hR.length
  refine wpAny_call ?_
  walk_at "m enterL"
  intro g' L' h' FG' F' N' B' X' T' l1
  (try dsimp only)
  (try k_lift B')
  k_fold
  k_steps
  refine Hold.off ?_
  refine' bis4 w l x _ vs ps p z hlen _ ?t0 _ _ _ _ _ _ _ _ _ _ _ _ _ _ _ ?t1 _ _ news _ _ _ hR hP ?sB ?sF ?sX ?sN hAp ?sT ?sK ?sP ?sU ?sR
  case sB => k_asm
  case sF => k_asm
  case sX => k_asm
  case sN => k_asm
  case sT => k_asm
  case sK => exact rfl
  case sP => dsimp only [Around.deeper, ktrTop]; omega
  case sU => dsimp only [Around.deeper, ktrTop]; omega
  case sR =>
  intro h7 tk7 t7 F7 N7
  dsimp only
  k_steps
  refine Hold.off ?_
  have hb := bisT_le ps p
  refine' insert_head_K ?nF ?nN hAp rfl (by rw [hvl]; exact hb) (by rw [hvl]; exact hlen) ?_
  case nF => assumption
  case nN => assumption
  intro h8 F8 N8
  (try dsimp only)
  k_steps
  (rename News h₀ L _ _ => NN)
  exact hret _ _ (by assumption) NN
end Mine
-- part Q3
namespace Mine
set_option Elab.async false
set_option maxRecDepth 100000
set_option maxHeartbeats 8000000
local macro_rules | `(tactic| walk_at "call ref") => `(tactic| (refine Hold.on ?_))
local macro_rules | `(tactic| k_all) => `(tactic| first | assumption | (refine' Tail.ne ?ta ?tb; (case ta => assumption); (case tb => (try dsimp only); omega)) | fail "k_all")
local macro_rules | `(tactic| walk_at "m nodup") => `(tactic| repeat' (first | exact nd_nil | exact all_nil | refine nd_cons ?_ ?_ | refine all_cons ?_ ?_ | k_ne))
local macro_rules | `(tactic| walk_at "m apart") => `(tactic| repeat' (first | exact Apart.nil | refine Apart.cons ?_ ?_ | k_all))
local macro_rules | `(tactic| walk_at "m sub") => `(tactic| repeat' (first | exact sub_nil | exact sub_self | (refine' sub_cons ?ta ?_; (case ta => k_mem)) | refine sub_tail ?_ | fail "m sub"))
local macro_rules | `(tactic| walk_at "m lt") => `(tactic| repeat' (first | refine List.forall_mem_cons.mpr ⟨?_, ?_⟩ | (refine' Tail.lt ?ta ?tb; (case ta => assumption); (case tb => (try dsimp only); omega)) | (refine ltA ?_; (try dsimp only); omega) | fail "m lt"))
local macro_rules | `(tactic| walk_at "m enterC") => `(tactic| k_dflt (refine' code_defC ?k1 ?k2 ?k3 ?k4 ?k5 ?kA ?kF ?kK ?k6 ?k7 ?k8 ?k9 ?kB ?kD ?_ ?c2 ?c3 ?c4; (case kA => exact rfl); (case kF => exact rfl); (case kK => assumption); (case k1 => k_asm); (case k2 => k_asm); (case k3 => k_asm); (case k4 => k_asm); (case k5 => k_asm); (case k6 => k_is); (case k7 => k_is); (case k8 => ktr_room); (case k9 => first | exact BindsTo.of_eq rfl | (refine' kp_binds ?kx ?ke; (case kx => k_in); (case ke => exact fun _ => rfl)) | fail "m enter: no rule for these arguments"); (case kB => exact rfl); (case kD => decide +kernel); (case c2 => exact rfl); (case c3 => exact rfl); (case c4 => exact rfl); k_whole))
local macro_rules | `(tactic| walk_at "m enterL") => `(tactic| k_dflt (refine' code_defL ?k1 ?k2 ?k3 ?k4 ?k5 ?kA ?kF ?kK ?k6 ?k7 ?k8 ?k9 ?kB ?_ ?c2 ?c3 ?c4 ?c5; (case kA => exact rfl); (case kF => exact rfl); (case kK => assumption); (case k1 => k_asm); (case k2 => k_asm); (case k3 => k_asm); (case k4 => k_asm); (case k5 => k_asm); (case k6 => k_is); (case k7 => k_is); (case k8 => ktr_room); (case k9 => first | exact BindsTo.of_eq rfl | (refine' kp_binds ?kx ?ke; (case kx => k_in); (case ke => exact fun _ => rfl)) | fail "m enter: no rule for these arguments"); (case c5 => decide); (case kB => exact locs rfl); (case c2 => exact rfl); (case c3 => exact rfl); (case c4 => exact rfl); k_whole))
local macro_rules | `(tactic| walk_at "m enterN") => `(tactic| k_dflt (refine' code_nestL ?k1 ?k2 ?k3 ?k4 ?k5 ?kA ?kF ?kK ?k6 ?k7 ?k8 ?k9 ?kB ?_ ?c2 ?c3 ?c4 ?c5; (case kA => exact rfl); (case kF => exact rfl); (case kK => assumption); (case k1 => k_asm); (case k2 => k_asm); (case k3 => k_asm); (case k4 => k_asm); (case k5 => k_asm); (case k6 => k_mem); (case k7 => exact codeRec_news (by k_asm) (by k_mem) (by assumption) (by assumption)); (case k8 => ktr_room); (case k9 => exact BindsTo.of_eq rfl); (case c5 => decide); (case kB => exact locs rfl); (case c2 => exact rfl); (case c3 => exact rfl); (case c4 => exact rfl); k_whole))
local macro_rules | `(tactic| walk_at "call builtin:len") => `(tactic| (refine Hold.on ?_))
local macro_rules | `(tactic| walk_at "exec For Name Call cons nil") => `(tactic| (refine Hold.on ?_))
local macro_rules | `(tactic| walk_at "pyIter ref") => `(tactic| (refine Hold.on ?_))
local macro_rules | `(tactic| walk_at "UnrPost") => `(tactic| (refine Hold.on ?_))
local macro_rules | `(tactic| walk_at "UnrEnd") => `(tactic| (refine Hold.on ?_))
local macro_rules | `(tactic| walk_at "CPost") => `(tactic| (refine Hold.on ?_))
local macro_rules | `(tactic| walk_at "subscriptTail") => `(tactic| (refine Hold.on ?_))
local macro_rules | `(tactic| walk_at "call type:tuple") => `(tactic| (refine Hold.on ?_))
local macro_rules | `(tactic| walk_at "binaryOp Add ref ref") => `(tactic| (refine Hold.on ?_))
local macro_rules | `(tactic| walk_at "call builtin:list.append") => `(tactic| (refine Hold.on ?_))
local macro_rules | `(tactic| walk_at "eval ListComp") => `(tactic| (refine Hold.on ?_))
local macro_rules | `(tactic| walk_at "CompTup") => `(tactic| (refine Hold.on ?_))
local macro_rules | `(tactic| walk_at "CompEnd") => `(tactic| (refine Hold.on ?_))
section
variable {prog : Program} {w : World} {A : Around} {E : Value → Shared → Prop} {s : Shared} {h₀ : Heap} {L D1 D4 : Addr} {m : Str → Option Value} {nl base : List (Addr × Obj)} {as bs : List Value} {z1 : Nat}
theorem add_cut {Q : Value → Shared → Prop} (F : Fr h₀ L s.heap m) (N : News h₀ L s.heap ((D4, tupO bs 0) :: nl)) (hb : ∀ q ∈ base, q ∈ nl) (h1 : (D1, tupO as z1) ∈ nl) (hl : ∀ q ∈ nl, q.1 < D4) (hbs : bs ≠ []) (hz : as.length + bs.length ≤ 1000)
    (h : ∀ r h', Fr h₀ L h' m → News h₀ L h' ((r, tupO (as ++ bs) 0) :: base) → (∀ q ∈ base, q.1 < r) → Q (.ref r) { s with heap := h' }) : wpAny (model prog w) A (binaryOp .Add (.ref D1) (.ref D4)) Q E s := by
  by_cases ha : as = []
  · subst ha
    refine kde_addT0 F N (N.isTup (.tail _ h1)) (N.isTup (.head _)) rfl (by simp at hz ⊢; omega) ?_
    refine h D4 s.heap F (fun q hq => ?_) (fun q hq => hl q (hb q hq))
    rcases List.mem_cons.mp hq with rfl | hq
    · exact N _ (.head _)
    · exact N _ (.tail _ (hb q hq))
  · refine kde_addT (zs := as ++ bs) F N (N.isTup (.tail _ h1)) (N.isTup (.head _)) (by simpa using ha) (by simpa using hbs) (by simp; omega) (by simp) ?_
    intro r h' F' N' lr
    refine h r h' F' (fun q hq => ?_) (fun q hq => lr q (.tail _ (hb q hq)))
    rcases List.mem_cons.mp hq with rfl | hq
    · exact N' _ (.head _)
    · exact N' _ (.tail _ (.tail _ (hb q hq)))
end
theorem row_snoc (p : List Int) (i j : Nat) (h : ¬ (i = 0 ∧ j = 0)) : bitesRow p i (j + 1) = bitesRow p i j ++ [cutF p i j] := by
  unfold bitesRow
  rw [List.range_succ, List.flatMap_append, List.flatMap_singleton, if_neg h]
theorem row_len (p : List Int) (i : Nat) : ∀ n, (bitesRow p i n).length ≤ n
  | 0 => by simp [bitesRow]
  | n + 1 => by
    have ih := row_len p i n
    unfold bitesRow at ih ⊢
    rw [List.range_succ, List.flatMap_append, List.length_append, List.flatMap_singleton]
    split
    · simp only [List.length_nil]; omega
    · simp only [List.length_cons, List.length_nil]; omega
theorem ok_at {p : List Int} {i : Nat} (h : okP p = true) (hi : i < p.length) : 0 ≤ p.getD i 0 ∧ p.getD i 0 ≤ 100 := by
  unfold okP at h
  simp only [Bool.and_eq_true, decide_eq_true_eq, List.all_eq_true] at h
  have := h.2 (p.getD i 0) (by rw [List.getD_eq_getElem?_getD, List.getElem?_eq_getElem hi]; exact List.getElem_mem hi)
  omega
local macro_rules | `(tactic| walk_at "compareOp NotEq ref ref") => `(tactic| (refine Hold.on ?_))
theorem news_cons {h₀ h : Heap} {L : Addr} {ext l : List (Addr × Obj)} {q : Addr × Obj} (N : News h₀ L h (ext ++ l)) (hm : q ∈ ext ++ l) : News h₀ L h (q :: l) := fun r hr => by
  rcases List.mem_cons.mp hr with rfl | hr
  · exact N _ hm
  · exact N _ (List.mem_append_right _ hr)
theorem rows_len {p : List Int} (h : okP p = true) : ∀ i, i ≤ p.length → ((List.range i).flatMap fun row => bitesRow p row (p.getD row 0).toNat).length ≤ 100 * i
  | 0, _ => by simp
  | i + 1, hi => by
    have ih := rows_len h i (by omega)
    have h1 := ok_at h (show i < p.length by omega)
    have h2 := row_len p i (p.getD i 0).toNat
    rw [List.range_succ, List.flatMap_append, List.length_append, List.flatMap_singleton]
    omega
def Fresh (news ts : List (Addr × Obj)) : Prop := (∀ q ∈ ts, ∀ n ∈ news, n.1 < q.1) ∧ (ts.map (fun q => q.1)).Nodup
theorem kst_self {m : Str → Option Value} {ps : List (Str × Value)} (h : ∀ p ∈ ps, m p.1 = some p.2) : kstB m ps = m := funext fun _ => kstB_eq h fun _ => rfl
theorem bites (w : World) (x : Addr) (vs : List Value) (p : List Int) (z : Nat) (hi : IntsAre vs p) (hok : okP p = true) :
  ∀ (prog p0 : Program) (loose : List Str) (mean : ExcName → Option Value) (mg mb : Str → Option Value) (dp un : Nat) (gd : Option (List Code)) (cn : Str) (cs : Scope) (a : Addr) (ccd : Value) (cl : List (Str × Addr)) (outer : List Env) (A₀ : Around) (base h₀ : Heap) (L : Addr) (m : Str → Option Value)
    (news : List (Addr × Obj)) (s : Shared) (Q E : Value → Shared → Prop), (x, tupO vs z) ∈ news →
    Below A₀ base outer h₀ → Fr h₀ L s.heap m → (hd.heap_39 w.params).In h₀ → News h₀ L s.heap news → Top p0 loose mean mg mb h₀ → cs.kind = .function → dp + 2 < recursionLimit → un + 16 < cLine →
    (∀ D rs z' ts h' tk', Fresh news ((D, W.listOf rs.toArray z') :: ts) → RefsAre ts rs (bitesF p) → Fr h₀ L h' m → News h₀ L h' ((D, W.listOf rs.toArray z') :: (ts ++ news)) → Q (.ref D) { s with heap := h', toks := tk' }) →
    wpAny (model prog w) (ktrTop dp un gd cn cs L a ccd cl outer) (call (.ref 79) [.ref x]) Q E s := by
  intro prog p0 loose mean mg mb dp un gd cn cs a ccd cl outer A₀ base h₀ L m news s Q E hX B F X N T hk hd1 hu1 hret
  have hvl := hi.length
  have hpl : p.length ≤ 100 := by
    unfold okP at hok
    simp only [Bool.and_eq_true, decide_eq_true_eq] at hok
    omega
  refine wpAny_call ?_
  walk_at "m enterC"
  intro g' L' h' tk' cells' FG' F' N' Y' B' X' T' l1
  have hT : Tail L' news := l1
  k_cells Y'
  (try simp only [List.cons_append, List.nil_append] at N')
  (try dsimp only)
  (try k_lift B')
  k_steps
  refine Hold.off ?_
  (rename Fr _ _ _ _ => FF)
  (with_unfolding_all refine' For_invVF FF ?k1 ?k2 ?_)
  (case k1 => exact rfl)
  (case k2 => exact rfl)
  k_steps
  refine Hold.off ?_
  (rename News g' L' _ _ => NN)
  refine kun_lenT (k := (p.length : Int)) (NN.isTup (.tail _ (.tail _ hX))) (by simp [hvl]) (by omega) ?_
  (try dsimp only)
  k_steps
  refine Hold.off ?_
  (rename IsRange _ _ _ _ _ _ _ _ => hr)

  (rename Fr g' L' _ _ => FF)
  (rename News g' L' _ _ => NN)
  (rename _ ∧ AllLt _ news => lD)
  rename_i oS dS D _ _ FX NX _ _ _ _ _ _
  have lD1 := ltN lD.1
  have hT1 : @LT.lt Nat _ L' (L' + 1) := Nat.lt_succ_self _
  refine range_inv (n := p.length) (by rfl) hr (small_one (by omega) (by omega) (by omega) (by omega)) (by rw [rangeSize_one]; split <;> omega) FF NN
    (fun I i m nl => ∃ rs z' ts oc, nl = (D, W.listOf rs.toArray z') :: (L' + 1, oc) :: (ts ++ news) ∧ (∃ v, oc.data = .cell v) ∧ RefsAre ts rs ((List.range i).flatMap fun row => bitesRow p row (p.getD row 0).toNat) ∧ (∀ q ∈ ts, D < q.1) ∧ (ts.map (fun q => q.1)).Nodup ∧ (∀ q ∈ ts, q.1 ≠ I) ∧ D < I ∧ m (Str.ofString "found") = some (.ref D) ∧ m (Str.ofString "lengths") = some (.ref x)) ?start ?turn ?done
  case start => exact fun I hI => ⟨[], 0, [], oS, rfl, ⟨_, dS⟩, .nil, (fun q hq => nomatch hq), .nil, (fun q hq => nomatch hq), hI _ (.head _), rfl, rfl⟩
  case done =>
    rintro I m6 nl6 h6 tk6 ⟨rs, z', ts, oc, rfl, ⟨vc, hoc⟩, hR, hts, hnd, htI, hDI, hm1, hm2⟩ F6 N6
    have em := kst_self (m := m6) (ps := [(Str.ofString "found", Value.ref D), (Str.ofString "lengths", Value.ref x)]) (by
      intro q hq
      simp only [List.mem_cons, List.not_mem_nil, or_false] at hq
      rcases hq with rfl | rfl
      · exact hm1
      · exact hm2)
    rw [← em] at F6
    clear em
    replace F6 : Fr g' L' h6 _ := F6
    replace N6 : News g' L' h6 _ := N6
    k_steps
    (rename News h₀ L _ _ => N7)
    have hnD : ∀ n ∈ news, n.1 < D := fun n hn => Nat.lt_trans (Nat.lt_trans (hT n hn) hT1) lD1
    refine hret D rs z' ts _ _ ⟨?_, ?_⟩ hR (by assumption) ?_
    · intro q hq n hn
      rcases List.mem_cons.mp hq with rfl | hq
      · exact hnD n hn
      · exact Nat.lt_trans (hnD n hn) (hts q hq)
    · refine List.nodup_cons.mpr ⟨fun hm => ?_, hnd⟩
      obtain ⟨q, hq, e⟩ := List.mem_map.mp hm
      exact absurd (hts q hq) (e ▸ Nat.lt_irrefl _)
    · intro q hq
      rcases List.mem_cons.mp hq with rfl | hq
      · exact N7 _ (.head _)
      · exact N7 _ (.tail _ (.tail _ hq))
  case turn =>
    rintro I i ti hin m5 nl5 h5 tk5 ⟨rs, z', ts, oc, rfl, ⟨vc, hoc⟩, hR, hts, hnd, htI, hDI, hm1, hm2⟩ F5 N5
    clear FF NN hr FX NX
    have em := kst_self (m := m5) (ps := [(Str.ofString "found", Value.ref D), (Str.ofString "lengths", Value.ref x)]) (by
      intro q hq
      simp only [List.mem_cons, List.not_mem_nil, or_false] at hq
      rcases hq with rfl | rfl
      · exact hm1
      · exact hm2)
    rw [← em, Int.zero_add] at F5
    clear em
    replace F5 : Fr g' L' h5 _ := F5
    replace N5 : News g' L' h5 _ := N5
    generalize itR (0 + ((i + 1 : Nat) : Int)) ((p.length : Int) - ((i + 1 : Nat) : Int)) = itI at N5 ⊢
    have hX5 : (x, tupO vs z) ∈ ts ++ news := List.mem_append_right _ hX
    have heb := ok_at hok hin
    k_steps
    refine Hold.off ?_
    refine For_cell ?_
    k_steps
    refine Hold.off ?_
    refine item_tuple_ints (N5.isTup (.tail _ (.tail _ (.tail _ hX5)))) hi (Int.natCast_nonneg i) (Int.ofNat_lt.mpr hin) (by omega) ?_ (by with_unfolding_all rfl)
    intro te
    rw [Int.toNat_natCast]
    generalize hep : p.getD i 0 = ep at *
    k_steps
    refine Hold.off ?_
    (rename IsRange _ _ _ _ _ _ _ _ => hr)
    (rename Fr g' L' _ _ => FF)
    (rename News g' L' _ _ => NN)
    have hoffc : ∀ q ∈ (I, itI) :: (D, W.listOf rs.toArray z') :: (ts ++ news), q.1 ≠ L' + 1 := by
      intro q hq
      rcases List.mem_cons.mp hq with rfl | hq
      · exact Ne.symm (Nat.ne_of_lt (Nat.lt_trans lD1 hDI))
      rcases List.mem_cons.mp hq with rfl | hq
      · exact Ne.symm (Nat.ne_of_lt lD1)
      rcases List.mem_append.mp hq with hq | hq
      · exact Ne.symm (Nat.ne_of_lt (Nat.lt_trans lD1 (hts q hq)))
      · exact Nat.ne_of_lt (Nat.lt_trans (hT q hq) hT1)
    refine range_cell (n := ep.toNat) (c := L' + 1) (oc := oc) (news := (I, itI) :: (D, W.listOf rs.toArray z') :: (ts ++ news)) (by rfl) hr (small_one (by omega) (by omega) (by omega) (by omega)) (by rw [rangeSize_one]; split <;> omega) FF NN
      (by
        intro q hq
        rcases List.mem_cons.mp hq with rfl | hq
        · exact .tail _ (.tail _ (.head _))
        rcases List.mem_cons.mp hq with rfl | hq
        · exact .head _
        rcases List.mem_cons.mp hq with rfl | hq
        · exact .tail _ (.head _)
        · exact .tail _ (.tail _ (.tail _ hq))) hoc hoffc rfl rfl rfl
      (fun j m nl => ∃ rs z' ts, nl = (I, itI) :: (D, W.listOf rs.toArray z') :: (ts ++ news) ∧ RefsAre ts rs ((List.range i).flatMap (fun row => bitesRow p row (p.getD row 0).toNat) ++ bitesRow p i j) ∧ (∀ q ∈ ts, D < q.1) ∧ (ts.map (fun q => q.1)).Nodup ∧ (∀ q ∈ ts, q.1 ≠ I) ∧ m (Str.ofString "found") = some (.ref D) ∧ m (Str.ofString "lengths") = some (.ref x) ∧ m (Str.ofString "row") = some (.int (i : Int) ti)) ?start ?turn ?done
    case start => exact ⟨rs, z', ts, rfl, by simpa [bitesRow] using hR, hts, hnd, htI, rfl, rfl, rfl⟩
    case done =>
      rintro m6 nl6 h6 tk6 oc6 ⟨rs, z', ts, rfl, hR, hts, hnd, htI, hm1, hm2, hm3⟩ ⟨v6, hv6⟩ F6 N6 off6
      k_steps
      refine Hold.off ?_
      refine ⟨h6, _, m6, (D, W.listOf rs.toArray z') :: (L' + 1, oc6) :: (ts ++ news), rfl, F6, ?_, ?_, rs, z', ts, oc6, rfl, ⟨_, hv6⟩, ?_, hts, hnd, htI, hDI, hm1, hm2⟩
      · intro q hq
        refine N6 q ?_
        rcases List.mem_cons.mp hq with rfl | hq
        · exact .tail _ (.head _)
        rcases List.mem_cons.mp hq with rfl | hq
        · exact .tail _ (.tail _ (.head _))
        rcases List.mem_cons.mp hq with rfl | hq
        · exact .head _
        · exact .tail _ (.tail _ (.tail _ hq))
      · intro q hq
        rcases List.mem_cons.mp hq with rfl | hq
        · exact Nat.ne_of_lt hDI
        rcases List.mem_cons.mp hq with rfl | hq
        · exact Nat.ne_of_lt (Nat.lt_trans lD1 hDI)
        rcases List.mem_append.mp hq with hq | hq
        · exact htI q hq
        · exact Nat.ne_of_lt (Nat.lt_trans (Nat.lt_trans (hT q hq) hT1) (Nat.lt_trans lD1 hDI))
      · rw [List.range_succ, List.flatMap_append, List.flatMap_singleton, hep]
        exact hR
    case turn =>
      rintro J j tj itJ oc6 m6 nl6 h6 tk6 hjn ⟨rs, z', ts, rfl, hR, hts, hnd, htI, hm1, hm2, hm3⟩ hoc6 hJ hcJ F6 N6 off6
      have em := kst_self (m := m6) (ps := [(Str.ofString "found", Value.ref D), (Str.ofString "lengths", Value.ref x), (Str.ofString "row", Value.int (i : Int) ti)]) (by
        intro q hq
        simp only [List.mem_cons, List.not_mem_nil, or_false] at hq
        rcases hq with rfl | rfl | rfl
        · exact hm1
        · exact hm2
        · exact hm3)
      rw [← em] at F6
      rw [Int.zero_add] at hoc6
      clear em
      replace F6 : Fr g' L' h6 _ := F6
      replace N6 : News g' L' h6 _ := N6
      have hX6 : (x, tupO vs z) ∈ ts ++ news := List.mem_append_right _ hX
      k_steps
      refine Hold.off ?_
      (rename News g' L' _ _ => N7)
      refine ne_tups (x := [(i : Int), (j : Int)]) (y := [0, 0]) (by first | omega | (dsimp only [Around.deeper, ktrTop]; omega)) (PosAt.key ⟨[_, _], _, .tail _ (.head _), .cons _ _ (.cons _ _ .nil)⟩ N7) (PosAt.key ⟨[_, _], _, .head _, .cons _ _ (.cons _ _ .nil)⟩ N7) ?_
      by_cases h00 : i = 0 ∧ j = 0
      · obtain ⟨rfl, rfl⟩ := h00
        rw [decide_eq_false (by simp)]
        k_steps
        refine Hold.off ?_
        (rename News g' L' _ _ => N8)
        (rename Fr g' L' _ _ => F8)
        refine ⟨_, _, _, (I, itI) :: (D, W.listOf rs.toArray z') :: (ts ++ news), oc6, rfl, F8, fun q hq => N8 q (.tail _ (.tail _ hq)), off6, ⟨_, hoc6⟩, rs, z', ts, rfl, ?_, hts, hnd, htI, rfl, rfl, rfl⟩
        simpa [bitesRow] using hR
      · rw [decide_eq_true (by simp; omega)]
        k_steps
        refine Hold.off ?_
        (rename News g' L' _ _ => N8)
        (rename Fr g' L' _ _ => F8)
        replace N8 : News g' L' _ ((J, itJ) :: (L' + 1, oc6) :: (I, itI) :: (D, W.listOf rs.toArray z') :: (ts ++ news)) := fun q hq => N8 q (.tail _ (.tail _ hq))
        refine tslice F8 N8 (.tail _ (.tail _ (.tail _ (.tail _ hX6)))) .none (.int _ _) (upto_adj i vs.length (by omega)).1 (upto_adj i vs.length (by omega)).2 (by omega) ?_ (by with_unfolding_all rfl)

        rintro D1 z1 ext1 h9 - hd1 F9 N9
        replace N9 := news_cons N9 hd1
        rw [List.drop_zero] at N9
        clear N8 F8 hd1
        k_steps
        refine Hold.off ?_
        (rename Fr g' L' _ _ => F8)
        refine ListComp_tup F8 (by with_unfolding_all rfl) (by decide) (by rfl) (by decide) (by rfl) ?_
        k_steps
        refine Hold.off ?_
        (rename News g' L' _ _ => N8)
        (rename Fr g' L' _ _ => F8)
        refine tslice F8 N8 (.tail _ (.tail _ (.tail _ (.tail _ (.tail _ hX6))))) (.int _ _) .none (from_adj i vs.length (by omega)).1 (from_adj i vs.length (by omega)).2 (by omega) ?_ (by with_unfolding_all rfl)
        rintro D2 z2 ext2 h10 - hd2 F10 N10
        replace N10 := news_cons N10 hd2
        rw [List.take_of_length_le (by rw [List.length_drop]; exact Nat.le_refl _)] at N10
        clear N8 F8 hd2
        k_steps
        refine Hold.off ?_
        (rename News g' L' _ _ => N8)
        (rename Fr g' L' _ _ => F8)
        refine ⟨D2, vs.drop i, z2, _, rfl, rfl, F8, N8, .head _, by rw [List.length_drop]; omega, ?_⟩
        rintro s₂ ⟨g₂, rfl⟩
        refine cr_inv (fun k ys nl => nl = (D2, tupO (vs.drop i) z2) :: (D1, tupO (vs.take i) z1) :: (J, itJ) :: (L' + 1, oc6) :: (I, itI) :: (D, W.listOf rs.toArray z') :: (ts ++ news) ∧ IntsAre ys (((p.drop i).take k).map fun l => if (j : Int) < l then (j : Int) else l)) ?turn2 ⟨rfl, .nil⟩ ?fin2
        case turn2 =>
          rintro k ys nl v Ia oI C oC Dl m₂ h11 tk11 E' hkn ⟨rfl, hys⟩ hv hC hx F11 N11 off11 hne11
          have hdi : IntsAre (vs.drop i) (p.drop i) := hi.drop i
          obtain ⟨d, td, rfl, hd⟩ := hdi.at k v hv
          k_steps
          refine Hold.off ?_
          (rename News g' L' _ _ => N12)
          (rename Fr g' L' _ _ => F12)
          refine LCg.CompEnd.intro F12 N12 _ (fun q hq => hq) off11 (.head _) ⟨rfl, ?_⟩
          rw [List.take_succ, hd, List.map_append]
          exact IntsAre.append hys (.cons _ _ .nil)
        case fin2 =>
          rintro ys nl ⟨rfl, hys⟩ Dl h12 tk12 F12 N12 -
          rw [List.take_of_length_le (by rw [List.length_drop, List.length_drop]; omega)] at hys
          have hyl := hys.length
          rw [List.length_map, List.length_drop] at hyl
          dsimp only
          k_steps
          refine Hold.off ?_
          (rename News g' L' _ _ => N13)
          (rename Fr g' L' _ _ => F13)
          refine kde_tupleOf F13 N13 (N13.isList (.head _)) (by simp; omega) rfl ?_
          intro D4 h14 F14 N14 l14

          k_steps
          refine Hold.off ?_
          (rename News g' L' _ _ => N13)
          (rename Fr g' L' _ _ => F13)
          refine add_cut (base := (J, itJ) :: (L' + 1, oc6) :: (I, itI) :: (D, W.listOf rs.toArray z') :: (ts ++ news)) (D1 := D1) (as := vs.take i) (bs := ys) (z1 := z1) F13 N13 (fun q hq => .tail _ (.tail _ (.tail _ hq))) (.tail _ (.tail _ (.head _))) l14 (by intro e; rw [e] at hyl; simp at hyl; omega) (by rw [List.length_take]; omega) ?_
          intro r h15 F15 N15 l15
          k_steps
          refine Hold.off ?_
          (rename News g' L' _ _ => N16)
          (rename Fr g' L' _ _ => F16)
          have hrD : D < r := l15 (D, W.listOf rs.toArray z') (.tail _ (.tail _ (.tail _ (.head _))))
          have hDJ : D < J := hJ (D, W.listOf _ _) (.tail _ (.head _))
          have hrl : rs.length ≤ 20000 := by
            rw [hR.length, List.length_append]
            have h1 := rows_len hok i (by omega)
            have h2 := row_len p i j
            omega
          have N17 : News g' L' h15 ((D, W.listOf rs.toArray z') :: (r, tupO (vs.take i ++ ys) 0) :: (J, itJ) :: (L' + 1, oc6) :: (I, itI) :: (ts ++ news)) := by
            intro q hq
            refine N16 q ?_
            rcases List.mem_cons.mp hq with rfl | hq
            · exact .tail _ (.tail _ (.tail _ (.tail _ (.head _))))
            rcases List.mem_cons.mp hq with rfl | hq
            · exact .head _
            rcases List.mem_cons.mp hq with rfl | hq
            · exact .tail _ (.head _)
            rcases List.mem_cons.mp hq with rfl | hq
            · exact .tail _ (.tail _ (.head _))
            rcases List.mem_cons.mp hq with rfl | hq
            · exact .tail _ (.tail _ (.tail _ (.head _)))
            · exact .tail _ (.tail _ (.tail _ (.tail _ (.tail _ hq))))
          refine' append_K ?aF ?aN ?aU ?_ ?aZ
          case aF => exact F16
          case aN => exact N17
          case aU =>
            refine .head fun q hq => ?_
            rcases List.mem_cons.mp hq with rfl | hq
            · exact Ne.symm (Nat.ne_of_lt hrD)
            rcases List.mem_cons.mp hq with rfl | hq
            · exact Ne.symm (Nat.ne_of_lt hDJ)
            rcases List.mem_cons.mp hq with rfl | hq
            · exact Nat.ne_of_lt lD1
            rcases List.mem_cons.mp hq with rfl | hq
            · exact Ne.symm (Nat.ne_of_lt hDI)
            rcases List.mem_append.mp hq with hq | hq
            · exact Ne.symm (Nat.ne_of_lt (hts q hq))
            · exact Nat.ne_of_lt (Nat.lt_trans (Nat.lt_trans (hT q hq) hT1) lD1)
          case aZ => show rs.toArray.size ≤ sizeLine; rw [List.size_toArray]; exact Nat.le_trans hrl (by decide)
          intro h18 F18 N18
          (try dsimp only)
          rw [List.push_toArray] at N18
          k_steps
          refine Hold.off ?_
          (rename News g' L' _ _ => N19)
          (rename Fr g' L' _ _ => F19)
          have hIr : I < r := l15 (I, itI) (.tail _ (.tail _ (.head _)))
          have hJr : J < r := l15 (J, itJ) (.head _)
          refine ⟨_, _, _, (I, itI) :: (D, W.listOf (rs ++ [Value.ref r]).toArray (z' + 1)) :: (((r, tupO (vs.take i ++ ys) 0) :: ts) ++ news), oc6, rfl, F19, ?_, ?_, ⟨_, hoc6⟩, rs ++ [Value.ref r], z' + 1, (r, tupO (vs.take i ++ ys) 0) :: ts, rfl, ?_, ?_, ?_, ?_, rfl, rfl, rfl⟩
          · intro q hq
            refine N19 q ?_
            rcases List.mem_cons.mp hq with rfl | hq
            · exact .tail _ (.tail _ (.head _))
            rcases List.mem_cons.mp hq with rfl | hq
            · exact .tail _ (.tail _ (.tail _ (.head _)))
            rcases List.mem_cons.mp hq with rfl | hq
            · exact .tail _ (.tail _ (.tail _ (.tail _ (.head _))))
            rcases List.mem_cons.mp hq with rfl | hq
            · exact .head _
            rcases List.mem_cons.mp hq with rfl | hq
            · exact .tail _ (.head _)
            · exact .tail _ (.tail _ (.tail _ (.tail _ (.tail _ hq))))
          · intro q hq
            rcases List.mem_cons.mp hq with rfl | hq
            · exact off6 _ (.head _)
            rcases List.mem_cons.mp hq with rfl | hq
            · exact ⟨Nat.ne_of_lt hDJ, Ne.symm (Nat.ne_of_lt lD1)⟩
            rcases List.mem_cons.mp hq with rfl | hq
            · exact ⟨Ne.symm (Nat.ne_of_lt hJr), Ne.symm (Nat.ne_of_lt (Nat.lt_trans lD1 hrD))⟩
            · exact off6 q (.tail _ (.tail _ hq))
          · rw [row_snoc p i j h00, ← List.append_assoc]
            refine (hR.mono fun q hq => .tail _ hq).app (.cons ⟨_, _, .head _, ?_⟩ .nil)
            exact IntsAre.append (hi.take i) hys
          · intro q hq
            rcases List.mem_cons.mp hq with rfl | hq
            · exact hrD
            · exact hts q hq
          · refine List.nodup_cons.mpr ⟨fun hm => ?_, hnd⟩
            obtain ⟨q, hq, e⟩ := List.mem_map.mp hm
            exact absurd (l15 q (.tail _ (.tail _ (.tail _ (.tail _ (List.mem_append_left _ hq)))))) (e ▸ Nat.lt_irrefl _)
          · intro q hq
            rcases List.mem_cons.mp hq with rfl | hq
            · exact Ne.symm (Nat.ne_of_lt hIr)
            · exact htI q hq
end Mine
-- part Q4
namespace Mine
set_option Elab.async false
set_option maxRecDepth 100000
set_option maxHeartbeats 8000000
local macro_rules | `(tactic| walk_at "call ref") => `(tactic| (refine Hold.on ?_))
local macro_rules | `(tactic| k_all) => `(tactic| first | assumption | (refine' Tail.ne ?ta ?tb; (case ta => assumption); (case tb => (try dsimp only); omega)) | fail "k_all")
local macro_rules | `(tactic| walk_at "m nodup") => `(tactic| repeat' (first | exact nd_nil | exact all_nil | refine nd_cons ?_ ?_ | refine all_cons ?_ ?_ | k_ne))
local macro_rules | `(tactic| walk_at "m apart") => `(tactic| repeat' (first | exact Apart.nil | refine Apart.cons ?_ ?_ | k_all))
local macro_rules | `(tactic| walk_at "m sub") => `(tactic| repeat' (first | exact sub_nil | exact sub_self | (refine' sub_cons ?ta ?_; (case ta => k_mem)) | refine sub_tail ?_ | fail "m sub"))
local macro_rules | `(tactic| walk_at "m lt") => `(tactic| repeat' (first | refine List.forall_mem_cons.mpr ⟨?_, ?_⟩ | (refine' Tail.lt ?ta ?tb; (case ta => assumption); (case tb => (try dsimp only); omega)) | (refine ltA ?_; (try dsimp only); omega) | fail "m lt"))
local macro_rules | `(tactic| walk_at "m enterC") => `(tactic| k_dflt (refine' code_defC ?k1 ?k2 ?k3 ?k4 ?k5 ?kA ?kF ?kK ?k6 ?k7 ?k8 ?k9 ?kB ?kD ?_ ?c2 ?c3 ?c4; (case kA => exact rfl); (case kF => exact rfl); (case kK => assumption); (case k1 => k_asm); (case k2 => k_asm); (case k3 => k_asm); (case k4 => k_asm); (case k5 => k_asm); (case k6 => k_is); (case k7 => k_is); (case k8 => ktr_room); (case k9 => first | exact BindsTo.of_eq rfl | (refine' kp_binds ?kx ?ke; (case kx => k_in); (case ke => exact fun _ => rfl)) | fail "m enter: no rule for these arguments"); (case kB => exact rfl); (case kD => decide +kernel); (case c2 => exact rfl); (case c3 => exact rfl); (case c4 => exact rfl); k_whole))
local macro_rules | `(tactic| walk_at "m enterL") => `(tactic| k_dflt (refine' code_defL ?k1 ?k2 ?k3 ?k4 ?k5 ?kA ?kF ?kK ?k6 ?k7 ?k8 ?k9 ?kB ?_ ?c2 ?c3 ?c4 ?c5; (case kA => exact rfl); (case kF => exact rfl); (case kK => assumption); (case k1 => k_asm); (case k2 => k_asm); (case k3 => k_asm); (case k4 => k_asm); (case k5 => k_asm); (case k6 => k_is); (case k7 => k_is); (case k8 => ktr_room); (case k9 => first | exact BindsTo.of_eq rfl | (refine' kp_binds ?kx ?ke; (case kx => k_in); (case ke => exact fun _ => rfl)) | fail "m enter: no rule for these arguments"); (case c5 => decide); (case kB => exact locs rfl); (case c2 => exact rfl); (case c3 => exact rfl); (case c4 => exact rfl); k_whole))
local macro_rules | `(tactic| walk_at "m enterN") => `(tactic| k_dflt (refine' code_nestL ?k1 ?k2 ?k3 ?k4 ?k5 ?kA ?kF ?kK ?k6 ?k7 ?k8 ?k9 ?kB ?_ ?c2 ?c3 ?c4 ?c5; (case kA => exact rfl); (case kF => exact rfl); (case kK => assumption); (case k1 => k_asm); (case k2 => k_asm); (case k3 => k_asm); (case k4 => k_asm); (case k5 => k_asm); (case k6 => k_mem); (case k7 => exact codeRec_news (by k_asm) (by k_mem) (by assumption) (by assumption)); (case k8 => ktr_room); (case k9 => exact BindsTo.of_eq rfl); (case c5 => decide); (case kB => exact locs rfl); (case c2 => exact rfl); (case c3 => exact rfl); (case c4 => exact rfl); k_whole))
local macro_rules | `(tactic| walk_at "m mem") => `(tactic| with_reducible (first | exact List.mem_cons_self | (refine' List.mem_cons_of_mem _ ?_; walk_at "m mem") | (refine' List.mem_append_right _ ?_; walk_at "m mem") | fail "m mem"))
local macro_rules | `(tactic| k_mem) => `(tactic| walk_at "m mem")
local macro_rules | `(tactic| walk_at "call builtin:len") => `(tactic| (refine Hold.on ?_))
local macro_rules | `(tactic| walk_at "subscriptTail") => `(tactic| (refine Hold.on ?_))
local macro_rules | `(tactic| walk_at "compareOp NotEq ref ref") => `(tactic| (refine Hold.on ?_))
local macro_rules | `(tactic| walk_at "eval ListComp") => `(tactic| (refine Hold.on ?_))
local macro_rules | `(tactic| walk_at "CompSrcT") => `(tactic| (refine Hold.on ?_))
local macro_rules | `(tactic| walk_at "CompEnd") => `(tactic| (refine Hold.on ?_))
local macro_rules | `(tactic| walk_at "setItem ref ref") => `(tactic| (refine Hold.on ?_))
local macro_rules | `(tactic| walk_at "TestPost") => `(tactic| (refine Hold.on ?_))
def TestPost (c : Bool) (h₀ : Heap) (L : Addr) (m : Str → Option Value) (nl : List (Addr × Obj)) (s₁ : Shared) (b : Bool) (s₂ : Shared) : Prop := b = c ∧ ∃ h' tk', s₂ = { s₁ with heap := h', toks := tk' } ∧ Fr h₀ L h' m ∧ News h₀ L h' nl
local macro_rules | `(tactic| walk_at "isTrue BoolOp") => `(tactic| ((fail_if_success (with_reducible show wpAny _ _ _ (TestPost _ _ _ _ _ _) _ _)); (refine Hold.on ?_)))
theorem test_cut {prog : Program} {w : World} {A : Around} {E : Value → Shared → Prop} {s : Shared} {h₀ : Heap} {L : Addr} {m : Str → Option Value} {nl : List (Addr × Obj)} {t : Sem Bool} {c : Bool} {Q : Bool → Shared → Prop}
    (h1 : wpAny (model prog w) A t (TestPost c h₀ L m nl s) E s) (h2 : ∀ h' tk', Fr h₀ L h' m → News h₀ L h' nl → Q c { s with heap := h', toks := tk' }) : wpAny (model prog w) A t Q E s :=
  wpAny_mono h1 (fun b s2 ⟨e, h', tk', e2, F, N⟩ => by subst e e2; exact h2 h' tk' F N) fun _ _ e => e
/-- one bite's part of the fold -/
def foldF (f : Nat) (c : Bool × List (List Int) × Kn) (q : List Int) : Option (Bool × List (List Int) × Kn) := (winsF f q c.2.1 c.2.2).map fun d => (c.1 || !d.1, d.2)
theorem drop_at {α : Type} {l : List α} {i : Nat} {v : α} (h : l[i]? = some v) : l.drop i = v :: l.drop (i + 1) := by
  obtain ⟨hi, e⟩ := List.getElem?_eq_some_iff.mp h
  rw [List.drop_eq_getElem_cons hi, e]
theorem getF_snoc {known : Kn} {p : List Int} (b : Bool) (h : getF known p = none) : getF (known ++ [(p, b)]) p = some b := by
  unfold getF at h ⊢
  rw [List.find?_append]
  cases hf : known.find? (fun x => decide (x.1 = p)) with
  | none => simp
  | some v => rw [hf] at h; cases h
theorem bites_len {p : List Int} (h : okP p = true) : (bitesF p).length ≤ 10000 := by
  have h1 := rows_len h p.length (Nat.le_refl _)
  have h2 : p.length ≤ 3 := by
    unfold okP at h
    simp only [Bool.and_eq_true, decide_eq_true_eq] at h
    exact h.1
  unfold bitesF
  omega
/-- the contract of _law_wins: what the mirror gives with the fuel f -/
def WinsAt (w : World) (f : Nat) : Prop :=
  ∀ (x D K : Addr) (p : List Int) (order : List (List Int)) (known : Kn) (rs : List Value) (z : Nat) (o : Obj) (b : Bool) (order' : List (List Int)) (known' : Kn), winsF f p order known = some (b, order', known') →
  ∀ (prog p0 : Program) (loose : List Str) (mean : ExcName → Option Value) (mg mb : Str → Option Value) (dp un : Nat) (gd : Option (List Code)) (cn : Str) (cs : Scope) (a : Addr) (ccd : Value) (cl : List (Str × Addr)) (outer : List Env) (A₀ : Around) (base h₀ : Heap) (L : Addr) (m : Str → Option Value)
    (news kept : List (Addr × Obj)) (s : Shared) (Q E : Value → Shared → Prop), (∀ q ∈ kept, q ∈ news) → PosAt kept x p → RefsAre kept rs order → KnownIs prog w kept o known →
    Below A₀ base outer h₀ → Fr h₀ L s.heap m → (hd.heap_39 w.params).In h₀ → News h₀ L s.heap ((D, W.listOf rs.toArray z) :: (K, o) :: news) → D ≠ K → (∀ q ∈ news, q.1 ≠ D ∧ q.1 ≠ K) → Top p0 loose mean mg mb h₀ → cs.kind = .function → dp + (f + 4) < recursionLimit → un + 8 * (f + 4) < cLine →
    (∀ rs' z' o' ts h' tk', Fresh ((D, W.listOf rs.toArray z) :: (K, o) :: news) ts → RefsAre (ts ++ kept) rs' order' → KnownIs prog w (ts ++ kept) o' known' → Fr h₀ L h' m → News h₀ L h' ((D, W.listOf rs'.toArray z') :: (K, o') :: (ts ++ news)) → Q (.bool b) { s with heap := h', toks := tk' }) →
    wpAny (model prog w) (ktrTop dp un gd cn cs L a ccd cl outer) (call (.ref 84) [.ref x, .ref D, .ref K]) Q E s
theorem wins_step (w : World) (f : Nat) (ih : WinsAt w f) : WinsAt w (f + 1) := by
  intro x D K p order known rs z o b order' known' hw
  intro prog p0 loose mean mg mb dp un gd cn cs a ccd cl outer A₀ base h₀ L m news kept s Q E hkp hP hR hKn B F X N hDK hAp T hk hd1 hu1 hret
  have hvl := hR.length
  refine wpAny_call ?_
  walk_at "m enterC"
  intro g' L' h' tk' cells' FG' F' N' Y' B' X' T' l1
  have hT : Tail L' news := fun q hq => l1 q (.tail _ (.tail _ hq))
  have hTD : D < L' := l1 _ (.head _)
  have hTK : K < L' := l1 _ (.tail _ (.head _))
  clear l1
  k_cells Y'
  (try simp only [List.cons_append, List.nil_append] at N')
  (try dsimp only)
  (try k_lift B')
  k_steps
  refine Hold.off ?_
  rename_i ocK ocO dK dO
  replace dK : ocK.data = .cell (some (.ref K)) := dK
  replace dO : ocO.data = .cell (some (.ref D)) := dO
  have hL1 : @LT.lt Nat _ L' (L' + 1) := Nat.lt_succ_self _
  have hL2 : @LT.lt Nat _ (L' + 1) (L' + 1 + 1) := Nat.lt_succ_self _
  have nD1 : L' + 1 ≠ D := Ne.symm (Nat.ne_of_lt (Nat.lt_trans hTD hL1))
  have nD2 : L' + 1 + 1 ≠ D := Ne.symm (Nat.ne_of_lt (Nat.lt_trans hTD (Nat.lt_trans hL1 hL2)))
  have nK1 : L' + 1 ≠ K := Ne.symm (Nat.ne_of_lt (Nat.lt_trans hTK hL1))
  have nK2 : L' + 1 + 1 ≠ K := Ne.symm (Nat.ne_of_lt (Nat.lt_trans hTK (Nat.lt_trans hL1 hL2)))
  unfold winsF at hw
  split at hw
  rotate_left
  · cases hw
  rename_i hok
  simp only [Bool.and_eq_true, decide_eq_true_eq] at hok
  obtain ⟨⟨hok, hol⟩, hkl⟩ := hok
  have hup : ∀ q ∈ kept, q ∈ (L' + 1 + 1, ocK) :: (L' + 1, ocO) :: (K, o) :: news := fun q hq => .tail _ (.tail _ (.tail _ (hkp q hq)))
  refine' bis2 w D x rs order p z (by omega) _ _ _ _ _ _ _ _ _ _ _ _ _ _ _ _ _ _ _ _ ((L' + 1 + 1, ocK) :: (L' + 1, ocO) :: (K, o) :: news) _ _ _ (hR.mono hup) (hP.mono hup) ?sB ?sF ?sX ?sN ?sA ?sT ?sK ?sP ?sU ?sR
  case sB => k_asm
  case sF => k_asm
  case sX => k_asm
  case sT => k_asm
  case sN =>
    intro q hq
    refine N' q ?_
    rcases List.mem_cons.mp hq with rfl | hq
    · exact .tail _ (.tail _ (.head _))
    rcases List.mem_cons.mp hq with rfl | hq
    · exact .head _
    rcases List.mem_cons.mp hq with rfl | hq
    · exact .tail _ (.head _)
    · exact .tail _ (.tail _ (.tail _ hq))
  case sA =>
    intro q hq
    rcases List.mem_cons.mp hq with rfl | hq
    · exact nD2
    rcases List.mem_cons.mp hq with rfl | hq
    · exact nD1
    rcases List.mem_cons.mp hq with rfl | hq
    · exact Ne.symm hDK
    · exact (hAp q hq).1
  case sK => exact rfl
  case sP => dsimp only [Around.deeper, ktrTop]; omega
  case sU => dsimp only [Around.deeper, ktrTop]; omega
  case sR =>
  intro h7 tk7 t7 F7 N7
  have hbl := bisT_le order p
  clear N' F'
  dsimp only
  k_steps
  refine Hold.off ?_
  (rename Fr g' L' _ _ => F8)
  (rename News g' L' _ _ => N8)
  obtain ⟨mf, F9⟩ : ∃ mf, Fr g' L' _ (kstB mf [(Str.ofString "place", .int (bisT order p : Nat) t7), (Str.ofString "lengths", .ref x)]) := ⟨_, by
    rw [kst_self]
    · exact F8
    · intro q hq
      simp only [List.mem_cons, List.not_mem_nil, or_false] at hq
      rcases hq with rfl | rfl <;> rfl⟩
  clear F8
  have hup2 : ∀ q ∈ kept, q ∈ (D, W.listOf rs.toArray z) :: (L' + 1 + 1, ocK) :: (L' + 1, ocO) :: (K, o) :: news := fun q hq => .tail _ (hup q hq)
  refine test_cut (c := decide (bisT order p = order.length ∨ order.getD (bisT order p) [] ≠ p)) (h₀ := g') (L := L') (m := kstB mf [(Str.ofString "place", .int (bisT order p : Nat) t7), (Str.ofString "lengths", .ref x)]) (nl := (D, W.listOf rs.toArray z) :: (L' + 1 + 1, ocK) :: (L' + 1, ocO) :: (K, o) :: news) ?test ?cont
  case test =>
    k_steps
    refine Hold.off ?_
    (rename News g' L' _ _ => N9)
    refine kun_lenL (k := (order.length : Int)) (N9.isList (.head _)) (by simp [hvl]) (by omega) ?_
    (try dsimp only)
    k_steps
    · refine Hold.off ?_
      have hpl : bisT order p = order.length := by omega
      rw [decide_eq_true (.inl hpl)]
      exact ⟨rfl, _, _, rfl, by assumption, by assumption⟩
    · refine Hold.off ?_
      have hpl : ¬ bisT order p = order.length := by omega
      (rename News g' L' _ _ => N10)
      obtain ⟨xa, hx1, hx2⟩ := hR.get (bisT order p) (by omega)
      refine my_item (N10.isList (.head _)) (by omega) (by omega) (by rw [Int.toNat_natCast]; exact hx1) ?_ (by with_unfolding_all rfl)
      k_steps
      refine Hold.off ?_
      (rename News g' L' _ _ => N11)
      refine ne_tups (by first | omega | (dsimp only [Around.deeper, ktrTop]; omega)) ((hx2.mono hup2).key N11) ((hP.mono hup2).key N11) ?_
      have e : decide (bisT order p = order.length ∨ order.getD (bisT order p) [] ≠ p) = decide (order.getD (bisT order p) [] ≠ p) := by simp [hpl]
      rw [e]
      k_steps
      all_goals (refine Hold.off ?_)
      all_goals exact ⟨by first | rfl | simp_all, _, _, rfl, by assumption, by assumption⟩
  case cont =>
    intro h9 tk9 F9 N9
    by_cases hc : bisT order p = order.length ∨ order.getD (bisT order p) [] ≠ p
    · rw [decide_eq_true hc]
      rw [if_pos hc] at hw
      split at hw
      · cases hw
      rename_i cc hfold
      split at hw
      rotate_left
      · cases hw
      rename_i hend
      simp only [Bool.and_eq_true, decide_eq_true_eq, Option.isNone_iff_eq_none] at hend
      obtain ⟨hgn, hcl⟩ := hend
      simp only [Option.some.injEq, Prod.mk.injEq] at hw
      obtain ⟨rfl, rfl, rfl⟩ := hw
      k_steps
      refine Hold.off ?_
      refine' insort w D x rs order p z (by omega) _ _ _ _ _ _ _ _ _ _ _ _ _ _ _ _ _ _ _ _ ((L' + 1 + 1, ocK) :: (L' + 1, ocO) :: (K, o) :: news) _ _ _ (hR.mono hup) (hP.mono hup) ?sB ?sF ?sX ?sN ?sA ?sT ?sK ?sP ?sU ?sR
      case sB => k_asm
      case sF => k_asm
      case sX => k_asm
      case sT => k_asm
      case sN => k_asm
      case sA =>
        intro q hq
        rcases List.mem_cons.mp hq with rfl | hq
        · exact nD2
        rcases List.mem_cons.mp hq with rfl | hq
        · exact nD1
        rcases List.mem_cons.mp hq with rfl | hq
        · exact Ne.symm hDK
        · exact (hAp q hq).1
      case sK => exact rfl
      case sP => dsimp only [Around.deeper, ktrTop]; omega
      case sU => dsimp only [Around.deeper, ktrTop]; omega
      case sR =>
      intro h10 tk10 F10 N10
      have hR1 := (hR.take (bisT order p)).app (.cons hP (hR.drop (bisT order p)))
      generalize hrs1 : rs.take (bisT order p) ++ Value.ref x :: rs.drop (bisT order p) = rs1 at *
      generalize ho1 : order.take (bisT order p) ++ p :: order.drop (bisT order p) = order1 at *
      dsimp only
      k_steps
      refine Hold.off ?_
      (rename Fr g' L' _ _ => F11)
      refine LCt.ListComp_T F11 (by with_unfolding_all rfl) (by decide) (by rfl) (by decide) (by rfl) ?_
      k_steps
      refine Hold.off ?_
      (rename News g' L' _ _ => N11)
      obtain ⟨vx, zx, hmx, hix⟩ := hP
      have hP : PosAt kept x p := ⟨vx, zx, hmx, hix⟩
      refine' bites w x vx p zx hix hok _ _ _ _ _ _ _ _ _ _ _ _ _ _ _ _ _ _ _ _ ((D, W.listOf rs1.toArray (z + 1)) :: (L' + 1 + 1, ocK) :: (L' + 1, ocO) :: (K, o) :: news) _ _ _ (.tail _ (hup _ hmx)) ?sB ?sF ?sX ?sN ?sT ?sK ?sP ?sU ?sR
      case sB => k_asm
      case sF => k_asm
      case sX => k_asm
      case sT => k_asm
      case sN => exact N11
      case sK => exact rfl
      case sP => dsimp only [Around.deeper, ktrTop]; omega
      case sU => dsimp only [Around.deeper, ktrTop]; omega
      case sR =>
      intro Bl rsB zB tsB h12 tk12 hfB hRB F12 N12
      dsimp only
      k_steps
      refine Hold.off ?_
      (rename Fr g' L' _ _ => F13)
      (rename News g' L' _ _ => N13)
      replace N13 : News g' L' h12 ((D, W.listOf rs1.toArray (z + 1)) :: (K, o) :: ([] ++ ((L' + 1 + 1, ocK) :: (L' + 1, ocO) :: (Bl, W.listOf rsB.toArray zB) :: (tsB ++ news)))) := by
        intro q hq
        refine N13 q ?_
        simp only [List.mem_cons, List.mem_append, List.nil_append] at hq ⊢
        rcases hq with h | h | h | h | h | h | h
        · exact .inr (.inr (.inl h))
        · exact .inr (.inr (.inr (.inr (.inr (.inl h)))))
        · exact .inr (.inr (.inr (.inl h)))
        · exact .inr (.inr (.inr (.inr (.inl h))))
        · exact .inl h
        · exact .inr (.inl h)
        · exact .inr (.inr (.inr (.inr (.inr (.inr h)))))
      have hBD : D < Bl := hfB.1 _ (.head _) _ (.head _)
      have hBK : K < Bl := hfB.1 _ (.head _) _ (.tail _ (.tail _ (.tail _ (.head _))))
      have htD : ∀ q ∈ tsB, D < q.1 ∧ K < q.1 ∧ ∀ n ∈ news, n.1 < q.1 := fun q hq => ⟨hfB.1 _ (.tail _ hq) _ (.head _), hfB.1 _ (.tail _ hq) _ (.tail _ (.tail _ (.tail _ (.head _)))), fun n hn => hfB.1 _ (.tail _ hq) n (.tail _ (.tail _ (.tail _ (.tail _ hn))))⟩
      have hkp2 : ∀ (ts : List (Addr × Obj)), ∀ q ∈ ts ++ (tsB ++ kept), q ∈ ts ++ ((L' + 1 + 1, ocK) :: (L' + 1, ocO) :: (Bl, W.listOf rsB.toArray zB) :: (tsB ++ news)) := by
        intro ts q hq
        rcases List.mem_append.mp hq with hq | hq
        · exact List.mem_append_left _ hq
        rcases List.mem_append.mp hq with hq | hq
        · exact List.mem_append_right _ (.tail _ (.tail _ (.tail _ (List.mem_append_left _ hq))))
        · exact List.mem_append_right _ (.tail _ (.tail _ (.tail _ (List.mem_append_right _ (hkp q hq)))))
      have hbase : ∀ q ∈ (L' + 1 + 1, ocK) :: (L' + 1, ocO) :: (Bl, W.listOf rsB.toArray zB) :: (tsB ++ news), q.1 ≠ D ∧ q.1 ≠ K := by
        intro q hq
        rcases List.mem_cons.mp hq with rfl | hq
        · exact ⟨nD2, nK2⟩
        rcases List.mem_cons.mp hq with rfl | hq
        · exact ⟨nD1, nK1⟩
        rcases List.mem_cons.mp hq with rfl | hq
        · exact ⟨Ne.symm (Nat.ne_of_lt hBD), Ne.symm (Nat.ne_of_lt hBK)⟩
        rcases List.mem_append.mp hq with hq | hq
        · exact ⟨Ne.symm (Nat.ne_of_lt (htD q hq).1), Ne.symm (Nat.ne_of_lt (htD q hq).2.1)⟩
        · exact hAp q hq
      have hrBl : rsB.toArray.size ≤ sizeLine := by
        rw [List.size_toArray, hRB.length]
        exact Nat.le_trans (bites_len hok) (by decide)
      refine LCt.CompSrcT.ledger (by rfl) F13 N13 (.tail _ (.tail _ (.tail _ (.tail _ (.head _))))) hrBl ?_
      intro g₂
      refine crt_inv (fun i ys nl => ∃ rs z o ts acc order known, nl = (D, W.listOf rs.toArray z) :: (K, o) :: (ts ++ ((L' + 1 + 1, ocK) :: (L' + 1, ocO) :: (Bl, W.listOf rsB.toArray zB) :: (tsB ++ news))) ∧
        (∀ q ∈ ts, D < q.1 ∧ K < q.1 ∧ ∀ n ∈ tsB ++ news, n.1 < q.1) ∧ (ts.map fun q => q.1).Nodup ∧ RefsAre (ts ++ (tsB ++ kept)) rs order ∧ KnownIs prog w (ts ++ (tsB ++ kept)) o known ∧ ((bitesF p).drop i).foldlM (foldF f) (acc, order, known) = some cc ∧ acc = !ys.isEmpty) ?turn ?start ?fin
      case start =>
        refine ⟨rs1, z + 1, o, [], false, order1, known, rfl, (fun q hq => nomatch hq), .nil, ?_, ?_, hfold, rfl⟩
        · exact hR1.mono fun q hq => List.mem_append_right tsB hq
        · exact hKn.mono fun q hq => List.mem_append_right tsB hq
      case turn =>
        rintro i ys nl v Ia oI C oC Dc m₂ h14 tk14 E' hin ⟨rs2, z2, o2, ts2, acc, order2, known2, rfl, hf2, hn2, hR2, hK2, hfd, hacc⟩ hv hC hx F14 N14 off14 hne14
        rw [List.size_toArray, hRB.length] at hin
        obtain ⟨xa, hx1, hx2⟩ := hRB.get i hin
        have hv2 : rsB[i]? = some v := by simpa using hv
        rw [hx1] at hv2
        obtain rfl := Option.some.inj hv2
        have hqi : (bitesF p)[i]? = some ((bitesF p).getD i []) := by
          rw [List.getD_eq_getElem?_getD, List.getElem?_eq_getElem hin]; rfl
        generalize (bitesF p).getD i [] = q1 at *
        rw [drop_at hqi, List.foldlM_cons] at hfd
        cases hw1 : winsF f q1 order2 known2 with
        | none => unfold foldF at hfd; rw [hw1] at hfd; cases hfd
        | some d1 =>
        obtain ⟨b1, order3, known3⟩ := d1
        rw [show foldF f (acc, order2, known2) q1 = some (acc || !b1, order3, known3) by unfold foldF; rw [hw1]; rfl] at hfd
        replace hfd : ((bitesF p).drop (i + 1)).foldlM (foldF f) (acc || !b1, order3, known3) = some cc := hfd
        clear F13 N13
        k_steps
        refine Hold.off ?_
        (rename News g' L' _ _ => N15)
        have off := off14.mem
        have oD := off (D, W.listOf rs2.toArray z2) (.head _)
        have oK := off (K, o2) (.tail _ (.head _))
        refine' ih xa D K q1 order2 known2 rs2 z2 o2 b1 order3 known3 hw1 _ _ _ _ _ _ _ _ _ _ _ _ _ _ _ _ _ _ _ _ ((Ia, oI) :: (C, oC) :: (Dc, LCg.lst ys) :: (ts2 ++ ((L' + 1 + 1, ocK) :: (L' + 1, ocO) :: (Bl, W.listOf rsB.toArray zB) :: (tsB ++ news)))) (ts2 ++ (tsB ++ kept)) _ _ _ ?sQ ?sPos hR2 hK2 ?sB ?sF ?sX ?sN hDK ?sA ?sT ?sK ?sP ?sU ?sR
        case sQ => exact fun q hq => .tail _ (.tail _ (.tail _ (hkp2 ts2 q hq)))
        case sPos => exact hx2.mono fun q hq => List.mem_append_right _ (List.mem_append_left _ hq)
        case sB => k_asm
        case sF => k_asm
        case sX => k_asm
        case sT => k_asm
        case sN =>
          intro q hq
          refine N15 q ?_
          simp only [List.mem_cons] at hq ⊢
          rcases hq with h | h | h | h | h | h
          · exact .inr (.inr (.inr (.inl h)))
          · exact .inr (.inr (.inr (.inr (.inl h))))
          · exact .inl h
          · exact .inr (.inl h)
          · exact .inr (.inr (.inl h))
          · exact .inr (.inr (.inr (.inr (.inr h))))
        case sA =>
          intro q hq
          rcases List.mem_cons.mp hq with rfl | hq
          · exact ⟨Ne.symm oD.1, Ne.symm oK.1⟩
          rcases List.mem_cons.mp hq with rfl | hq
          · exact ⟨Ne.symm oD.2.1, Ne.symm oK.2.1⟩
          rcases List.mem_cons.mp hq with rfl | hq
          · exact ⟨Ne.symm oD.2.2, Ne.symm oK.2.2⟩
          rcases List.mem_append.mp hq with hq | hq
          · exact ⟨Ne.symm (Nat.ne_of_lt (hf2 q hq).1), Ne.symm (Nat.ne_of_lt (hf2 q hq).2.1)⟩
          · exact hbase q hq
        case sK => exact rfl
        case sP => dsimp only [Around.deeper, ktrTop]; omega
        case sU => dsimp only [Around.deeper, ktrTop]; omega
        case sR =>
        intro rs3 z3 o3 ts3 h16 tk16 hf3 hR3 hK3 F16 N16
        have N17 : News g' L' h16 ((Ia, oI) :: (C, oC) :: (Dc, LCg.lst ys) :: (D, W.listOf rs3.toArray z3) :: (K, o3) :: ((ts3 ++ ts2) ++ ((L' + 1 + 1, ocK) :: (L' + 1, ocO) :: (Bl, W.listOf rsB.toArray zB) :: (tsB ++ news)))) := by
          intro q hq
          refine N16 q ?_
          simp only [List.mem_cons, List.mem_append] at hq ⊢
          rcases hq with h | h | h | h | h | (h | h) | h
          · exact .inr (.inr (.inr (.inl h)))
          · exact .inr (.inr (.inr (.inr (.inl h))))
          · exact .inr (.inr (.inr (.inr (.inr (.inl h)))))
          · exact .inl h
          · exact .inr (.inl h)
          · exact .inr (.inr (.inl h))
          · exact .inr (.inr (.inr (.inr (.inr (.inr (.inl h))))))
          · exact .inr (.inr (.inr (.inr (.inr (.inr (.inr h))))))
        clear N15 N16
        have off17 : LCg.Off3 Ia C Dc ((D, W.listOf rs3.toArray z3) :: (K, o3) :: ((ts3 ++ ts2) ++ ((L' + 1 + 1, ocK) :: (L' + 1, ocO) :: (Bl, W.listOf rsB.toArray zB) :: (tsB ++ news)))) := by
          refine LCg.Off3.of fun q hq => ?_
          rcases List.mem_cons.mp hq with rfl | hq
          · exact oD
          rcases List.mem_cons.mp hq with rfl | hq
          · exact oK
          rcases List.mem_append.mp hq with hq | hq
          · rcases List.mem_append.mp hq with hq | hq
            · exact ⟨Ne.symm (Nat.ne_of_lt (hf3.1 q hq _ (.tail _ (.tail _ (.head _))))), Ne.symm (Nat.ne_of_lt (hf3.1 q hq _ (.tail _ (.tail _ (.tail _ (.head _)))))), Ne.symm (Nat.ne_of_lt (hf3.1 q hq _ (.tail _ (.tail _ (.tail _ (.tail _ (.head _)))))))⟩
            · exact off q (.tail _ (.tail _ (List.mem_append_left _ hq)))
          · exact off q (.tail _ (.tail _ (List.mem_append_right _ hq)))
        have hS : LCg.SrcAt g' Bl rsB.toArray ((D, W.listOf rs3.toArray z3) :: (K, o3) :: ((ts3 ++ ts2) ++ ((L' + 1 + 1, ocK) :: (L' + 1, ocO) :: (Bl, W.listOf rsB.toArray zB) :: (tsB ++ news)))) := .inr ⟨_, .tail _ (.tail _ (List.mem_append_right _ (.tail _ (.tail _ (.head _))))), rfl, zB, rfl⟩
        have hf5 : ∀ q ∈ ts3 ++ ts2, D < q.1 ∧ K < q.1 ∧ ∀ n ∈ tsB ++ news, n.1 < q.1 := by
          intro q hq
          rcases List.mem_append.mp hq with hq | hq
          · exact ⟨hf3.1 q hq _ (.head _), hf3.1 q hq _ (.tail _ (.head _)), fun n hn => hf3.1 q hq n (.tail _ (.tail _ (.tail _ (.tail _ (.tail _ (List.mem_append_right _ (.tail _ (.tail _ (.tail _ hn)))))))))⟩
          · exact hf2 q hq
        have hn5 : ((ts3 ++ ts2).map fun q => q.1).Nodup := by
          rw [List.map_append]
          refine List.nodup_append.mpr ⟨hf3.2, hn2, ?_⟩
          intro b hb c hc e
          obtain ⟨q, hq, rfl⟩ := List.mem_map.mp hb
          obtain ⟨q2, hq2, rfl⟩ := List.mem_map.mp hc
          have := hf3.1 q hq q2 (.tail _ (.tail _ (.tail _ (.tail _ (.tail _ (List.mem_append_left _ hq2))))))
          exact absurd this (e ▸ Nat.lt_irrefl _)
        have hR5 : RefsAre ((ts3 ++ ts2) ++ (tsB ++ kept)) rs3 order3 := by rw [List.append_assoc]; exact hR3
        have hK5 : KnownIs prog w ((ts3 ++ ts2) ++ (tsB ++ kept)) o3 known3 := by rw [List.append_assoc]; exact hK3
        dsimp only
        cases b1 with
        | true =>
          k_steps
          refine Hold.off ?_
          (rename News g' L' _ _ => N18)
          (rename Fr g' L' _ _ => F18)
          refine LCg.CompEnd.intro F18 N18 _ (fun q hq => hq) off17 hS ⟨rs3, z3, o3, ts3 ++ ts2, acc, order3, known3, rfl, hf5, hn5, hR5, hK5, ?_, hacc⟩
          simpa using hfd
        | false =>
          k_steps
          refine Hold.off ?_
          (rename News g' L' _ _ => N18)
          (rename Fr g' L' _ _ => F18)
          refine LCg.CompEnd.intro F18 N18 _ (fun q hq => hq) off17 hS ⟨rs3, z3, o3, ts3 ++ ts2, true, order3, known3, rfl, hf5, hn5, hR5, hK5, ?_, by simp⟩
          simpa using hfd
      case fin =>
        rintro ys nl ⟨rs2, z2, o2, ts2, acc, order2, known2, rfl, hf2, hn2, hR2, hK2, hfd, hacc⟩ Dc h14 tk14 F14 N14 -
        rw [List.size_toArray, hRB.length, List.drop_length] at hfd
        replace hfd : (acc, order2, known2) = cc := Option.some.inj hfd
        subst hfd
        dsimp only at hgn hcl hret
        dsimp only
        k_steps
        refine Hold.off ?_
        (rename News g' L' _ _ => N15)
        refine ne_nil (N15.isList (.tail _ (.head _))) (N15.isList (.head _)) (by first | omega | (dsimp only [Around.deeper, ktrTop]; omega)) ?_
        rw [← hacc]
        k_steps
        refine Hold.off ?_
        (rename News g' L' _ _ => N16)
        (rename Fr g' L' _ _ => F16)
        have hkk : ∀ q ∈ ts2 ++ (tsB ++ kept), q ∈ (D, W.listOf rs2.toArray z2) :: (ts2 ++ ((L' + 1 + 1, ocK) :: (L' + 1, ocO) :: (Bl, W.listOf rsB.toArray zB) :: (tsB ++ news))) := fun q hq => .tail _ (hkp2 ts2 q hq)
        have hPk : PosAt (ts2 ++ (tsB ++ kept)) x p := hP.mono fun q hq => List.mem_append_right _ (List.mem_append_right _ hq)
        refine kd_set (rest := (D, W.listOf rs2.toArray z2) :: (ts2 ++ ((L' + 1 + 1, ocK) :: (L' + 1, ocO) :: (Bl, W.listOf rsB.toArray zB) :: (tsB ++ news)))) (known := known2) (p := p) F16 ?sN hkk hK2 ?sA hPk hgn (by omega) (by first | omega | (dsimp only [Around.deeper, ktrTop]; omega)) ?_
        case sN =>
          intro q hq
          refine N16 q ?_
          simp only [List.mem_cons] at hq ⊢
          rcases hq with h | h | h
          · exact .inr (.inr (.inr (.inl h)))
          · exact .inr (.inr (.inl h))
          · exact .inr (.inr (.inr (.inr h)))
        case sA =>
          intro q hq
          rcases List.mem_cons.mp hq with rfl | hq
          · exact hDK
          rcases List.mem_append.mp hq with hq | hq
          · exact Ne.symm (Nat.ne_of_lt (hf2 q hq).2.1)
          · exact (hbase q hq).2
        intro o3 h17 tk17 hK3 F17 N17
        k_steps
        refine Hold.off ?_
        (rename News g' L' _ _ => N18)
        refine kd_get ((hK3.mono hkk).mono fun q hq => .tail _ hq) N18 (.head _) ((hPk.mono hkk).mono fun q hq => .tail _ hq) (getF_snoc acc hgn) (by first | omega | (dsimp only [Around.deeper, ktrTop]; omega)) ?_ (by with_unfolding_all rfl)
        intro tk19
        (try dsimp only)
        k_steps
        (rename News h₀ L _ _ => N20)
        refine hret rs2 z2 o3 (ts2 ++ tsB) _ _ ⟨?_, ?_⟩ (by rw [List.append_assoc]; exact hR2) (by rw [List.append_assoc]; exact hK3) (by assumption) ?_
        · intro q hq n hn
          rcases List.mem_append.mp hq with hq | hq
          · have z9 := hf2 q hq
            rcases List.mem_cons.mp hn with rfl | hn
            · exact z9.1
            rcases List.mem_cons.mp hn with rfl | hn
            · exact z9.2.1
            · exact z9.2.2 n (List.mem_append_right _ hn)
          · have z9 := htD q hq
            rcases List.mem_cons.mp hn with rfl | hn
            · exact z9.1
            rcases List.mem_cons.mp hn with rfl | hn
            · exact z9.2.1
            · exact z9.2.2 n hn
        · rw [List.map_append]
          refine List.nodup_append.mpr ⟨hn2, (List.nodup_cons.mp hfB.2).2, ?_⟩
          intro b hb c hc e
          obtain ⟨q, hq, rfl⟩ := List.mem_map.mp hb
          obtain ⟨q2, hq2, rfl⟩ := List.mem_map.mp hc
          have := (hf2 q hq).2.2 q2 (List.mem_append_left _ hq2)
          exact absurd this (e ▸ Nat.lt_irrefl _)
        · intro q hq
          refine N20 q ?_
          simp only [List.mem_cons, List.mem_append] at hq ⊢
          rcases hq with h | h | (h | h) | h
          · exact .inr (.inl h)
          · exact .inl h
          · exact .inr (.inr (.inl h))
          · exact .inr (.inr (.inr (.inr (.inr (.inr (.inl h))))))
          · exact .inr (.inr (.inr (.inr (.inr (.inr (.inr h))))))
    · rw [decide_eq_false hc]
      rw [if_neg hc] at hw
      cases hg : getF known p with
      | none => rw [hg] at hw; cases hw
      | some b1 =>
      rw [hg] at hw
      simp only [Option.map_some, Option.some.injEq, Prod.mk.injEq] at hw
      obtain ⟨rfl, rfl, rfl⟩ := hw
      k_steps
      refine Hold.off ?_
      (rename News g' L' _ _ => N10)
      refine kd_get (hKn.mono hup2) N10 (.tail _ (.tail _ (.tail _ (.head _)))) (hP.mono hup2) hg (by first | omega | (dsimp only [Around.deeper, ktrTop]; omega)) ?_ (by with_unfolding_all rfl)
      intro tk11
      (try dsimp only)
      k_steps
      (rename News h₀ L _ _ => N12)
      refine hret rs z o [] _ _ ⟨(fun q hq => nomatch hq), .nil⟩ hR hKn (by assumption) ?_
      intro q hq
      refine N12 q ?_
      rcases List.mem_cons.mp hq with rfl | hq
      · exact .head _
      rcases List.mem_cons.mp hq with rfl | hq
      · exact .tail _ (.tail _ (.tail _ (.head _)))
      · exact .tail _ (.tail _ (.tail _ (.tail _ hq)))
theorem wins (w : World) : ∀ f, WinsAt w f
  | 0 => fun _ _ _ _ _ _ _ _ _ _ _ _ h => by cases h
  | f + 1 => wins_step w f (wins w f)
end Mine
-- part X2
namespace Mine
set_option Elab.async false
set_option maxRecDepth 100000
set_option maxHeartbeats 8000000
local macro_rules | `(tactic| walk_at "call ref") => `(tactic| (refine Hold.on ?_))
local macro_rules | `(tactic| k_all) => `(tactic| first | assumption | (refine' Tail.ne ?ta ?tb; (case ta => assumption); (case tb => (try dsimp only); omega)) | fail "k_all")
local macro_rules | `(tactic| walk_at "m nodup") => `(tactic| repeat' (first | exact nd_nil | exact all_nil | refine nd_cons ?_ ?_ | refine all_cons ?_ ?_ | k_ne))
local macro_rules | `(tactic| walk_at "m apart") => `(tactic| repeat' (first | exact Apart.nil | refine Apart.cons ?_ ?_ | k_all))
local macro_rules | `(tactic| walk_at "m sub") => `(tactic| repeat' (first | exact sub_nil | exact sub_self | (refine' sub_cons ?ta ?_; (case ta => k_mem)) | refine sub_tail ?_ | fail "m sub"))
local macro_rules | `(tactic| walk_at "m lt") => `(tactic| repeat' (first | refine List.forall_mem_cons.mpr ⟨?_, ?_⟩ | (refine' Tail.lt ?ta ?tb; (case ta => assumption); (case tb => (try dsimp only); omega)) | (refine ltA ?_; (try dsimp only); omega) | fail "m lt"))
local macro_rules | `(tactic| walk_at "m enterC") => `(tactic| k_dflt (refine' code_defC ?k1 ?k2 ?k3 ?k4 ?k5 ?kA ?kF ?kK ?k6 ?k7 ?k8 ?k9 ?kB ?kD ?_ ?c2 ?c3 ?c4; (case kA => exact rfl); (case kF => exact rfl); (case kK => assumption); (case k1 => k_asm); (case k2 => k_asm); (case k3 => k_asm); (case k4 => k_asm); (case k5 => k_asm); (case k6 => k_is); (case k7 => k_is); (case k8 => ktr_room); (case k9 => first | exact BindsTo.of_eq rfl | (refine' kp_binds ?kx ?ke; (case kx => k_in); (case ke => exact fun _ => rfl)) | fail "m enter: no rule for these arguments"); (case kB => exact rfl); (case kD => decide +kernel); (case c2 => exact rfl); (case c3 => exact rfl); (case c4 => exact rfl); k_whole))
local macro_rules | `(tactic| walk_at "m enterL") => `(tactic| k_dflt (refine' code_defL ?k1 ?k2 ?k3 ?k4 ?k5 ?kA ?kF ?kK ?k6 ?k7 ?k8 ?k9 ?kB ?_ ?c2 ?c3 ?c4 ?c5; (case kA => exact rfl); (case kF => exact rfl); (case kK => assumption); (case k1 => k_asm); (case k2 => k_asm); (case k3 => k_asm); (case k4 => k_asm); (case k5 => k_asm); (case k6 => k_is); (case k7 => k_is); (case k8 => ktr_room); (case k9 => first | exact BindsTo.of_eq rfl | (refine' kp_binds ?kx ?ke; (case kx => k_in); (case ke => exact fun _ => rfl)) | fail "m enter: no rule for these arguments"); (case c5 => decide); (case kB => exact locs rfl); (case c2 => exact rfl); (case c3 => exact rfl); (case c4 => exact rfl); k_whole))
local macro_rules | `(tactic| walk_at "m enterN") => `(tactic| k_dflt (refine' code_nestL ?k1 ?k2 ?k3 ?k4 ?k5 ?kA ?kF ?kK ?k6 ?k7 ?k8 ?k9 ?kB ?_ ?c2 ?c3 ?c4 ?c5; (case kA => exact rfl); (case kF => exact rfl); (case kK => assumption); (case k1 => k_asm); (case k2 => k_asm); (case k3 => k_asm); (case k4 => k_asm); (case k5 => k_asm); (case k6 => k_mem); (case k7 => exact codeRec_news (by k_asm) (by k_mem) (by assumption) (by assumption)); (case k8 => ktr_room); (case k9 => exact BindsTo.of_eq rfl); (case c5 => decide); (case kB => exact locs rfl); (case c2 => exact rfl); (case c3 => exact rfl); (case c4 => exact rfl); k_whole))
local macro_rules | `(tactic| walk_at "m mem") => `(tactic| with_reducible (first | exact List.mem_cons_self | (refine' List.mem_cons_of_mem _ ?_; walk_at "m mem") | (refine' List.mem_append_right _ ?_; walk_at "m mem") | fail "m mem"))
local macro_rules | `(tactic| k_mem) => `(tactic| walk_at "m mem")
local macro_rules | `(tactic| walk_at "binaryOp Mult ref int") => `(tactic| (refine Hold.on ?_))
local macro_rules | `(tactic| walk_at "call builtin:sorted") => `(tactic| (refine Hold.on ?_))
local macro_rules | `(tactic| walk_at "compareOp NotEq ref ref") => `(tactic| (refine Hold.on ?_))

theorem law2 (w : World) (r q : Nat) (tr tq : Tok) (hr : 1 ≤ r ∧ r ≤ 3) (hq : 1 ≤ q ∧ q ≤ 4) (order : List (List Int)) (known : Kn) (hwin : winsF 14 (List.replicate r (q : Int)) [] [] = some (decide (r * q > 1), order, known)) (fct : Facts r q order known)
    {prog p : Program} {loose : List Str} {mean : ExcName → Option Value} {mg mb : Str → Option Value} {dp un : Nat} {gd : Option (List Code)} {fa : Addr} {ccd : Value} {outer : List Env} {A₀ : Around} {base h₀ : Heap} {L : Addr} {u : Str → Option Value} {s : Shared}
    {Q : Flow → Shared → Prop} {E : Value → Shared → Prop} {tt : List (Addr × Obj)} {oC oK : Obj} {D K : Addr} {z : Nat}
    (B : Below A₀ base outer h₀) (X : (hd.heap_39 w.params).In h₀) (T : Top p loose mean mg mb h₀) (hd1 : dp + 300 < recursionLimit) (hu : un + 2400 < cLine) (hoC : oC.data = .cell (some (.ref K)))
    (hkn : ∀ nl, KnownIs prog w nl oK []) (lo : (K == sysModules) = false) (htt : ∀ n ∈ tt, n.1 < L) (hLD : L + 1 < D) (hDK : D < K)
    (F : Fr h₀ L s.heap (kstB u [(Str.ofString "rows", .int (r : Int) tr), (Str.ofString "squares", .int (q : Int) tq), (Str.ofString "order", .ref D)])) (N : News h₀ L s.heap ((K, oK) :: (D, W.listOf #[] z) :: (L + 1, oC) :: tt))
    (ret : ∀ rs z' o' ts h' tk', RefsAre ts rs order → KnownIs prog w ts o' known → (∀ n ∈ ts, D < n.1 ∧ K < n.1) → (ts.map fun n => n.1).Nodup → Fr h₀ L h' (kstB u [(Str.ofString "rows", .int (r : Int) tr), (Str.ofString "squares", .int (q : Int) tq), (Str.ofString "order", .ref D)]) →
      News h₀ L h' ((D, W.listOf rs.toArray z') :: (K, o') :: (ts ++ (L + 1, oC) :: tt)) → Q .next { s with heap := h', toks := tk' }) :
    wpAny (model prog w) (lawA dp un gd L fa ccd outer) (exec st2.1 (lawEnv L fa ccd)) Q E s := by
  dsimp only [st2, lawEnv, lawA, lawScope]
  replace hLD := ltN hLD
  replace hDK := ltN hDK
  k_steps
  refine Hold.off ?_
  (rename News h₀ L _ _ => N1)
  (rename Fr h₀ L _ _ => F1)
  rename_i t1 _ lt1
  have hlt : ∀ n ∈ (K, oK) :: (D, W.listOf #[] z) :: (L + 1, oC) :: tt, n.1 < t1 := by
    intro n hn
    rcases List.mem_cons.mp hn with rfl | hn
    · exact lt1.1
    rcases List.mem_cons.mp hn with rfl | hn
    · exact lt1.2.1
    rcases List.mem_cons.mp hn with rfl | hn
    · exact lt1.2.2.1
    · exact Nat.lt_trans (htt n hn) (Nat.lt_trans (Nat.lt_succ_self _) lt1.2.2.1)
  refine tup_mul1 (base := (K, oK) :: (D, W.listOf #[] z) :: (L + 1, oC) :: tt) (n := r) F1 N1 (.head _) (fun n hn => ⟨.tail _ hn, hlt n hn⟩) rfl hr.1 (by omega) ?_
  intro x zx h2 lx F2 N2
  k_steps
  refine Hold.off ?_
  (rename News h₀ L _ _ => N3)
  refine' wins w 14 x D K (List.replicate r (q : Int)) [] [] [] z oK (decide (r * q > 1)) order known hwin _ _ _ _ _ _ _ _ _ _ _ _ _ _ _ _ _ _ _ _ ((x, tupO (List.replicate r (Value.int (q : Int) tq)) zx) :: (L + 1, oC) :: tt) [(x, tupO (List.replicate r (Value.int (q : Int) tq)) zx)] _ _ _ ?sQ ⟨_, _, .head _, ints_rep r (q : Int) tq⟩ .nil (hkn _) ?sB ?sF ?sX ?sN (Nat.ne_of_lt hDK) ?sA ?sT ?sK ?sP ?sU ?sR
  case sQ =>
    intro n hn
    rw [List.mem_singleton.mp hn]
    exact .head _
  case sB => k_asm
  case sF => k_asm
  case sX => k_asm
  case sT => k_asm
  case sN =>
    intro n hn
    refine N3 n ?_
    simp only [List.mem_cons] at hn ⊢
    rcases hn with h | h | h | h | h
    · exact .inr (.inr (.inl h))
    · exact .inr (.inl h)
    · exact .inl h
    · exact .inr (.inr (.inr (.inl h)))
    · exact .inr (.inr (.inr (.inr h)))
  case sA =>
    intro n hn
    rcases List.mem_cons.mp hn with rfl | hn
    · exact ⟨Ne.symm (Nat.ne_of_lt (lx _ (.tail _ (.head _)))), Ne.symm (Nat.ne_of_lt (lx _ (.head _)))⟩
    rcases List.mem_cons.mp hn with rfl | hn
    · exact ⟨Nat.ne_of_lt hLD, Nat.ne_of_lt (Nat.lt_trans hLD hDK)⟩
    · have hL := Nat.lt_trans (htt n hn) (Nat.lt_succ_self L)
      exact ⟨Nat.ne_of_lt (Nat.lt_trans hL hLD), Nat.ne_of_lt (Nat.lt_trans (Nat.lt_trans hL hLD) hDK)⟩
  case sK => exact rfl
  case sP => first | omega | (dsimp only [Around.deeper, ktrTop]; omega)
  case sU => first | omega | (dsimp only [Around.deeper, ktrTop]; omega)
  case sR =>
  intro rs z3 o3 ts h3 tk3 hf3 hR3 hK3 F3 N4
  generalize hwb : decide (r * q > 1) = wb at *
  have hr1 : (1 : Int) ≤ (r : Int) ∧ (r : Int) ≤ 100 := by omega
  have hq1 : (1 : Int) ≤ (q : Int) ∧ (q : Int) ≤ 100 := by omega
  clear hr hq
  have hwb2 : wb = decide ((1 : Int) < (r : Int) * (q : Int)) := by
    rw [← hwb]
    refine decide_eq_decide.mpr ⟨fun h => ?_, fun h => ?_⟩
    · exact_mod_cast h
    · exact_mod_cast h
  k_steps
  · rename_i hbad
    rw [hwb2] at hbad
    simp at hbad
  · refine Hold.off ?_
    (rename News h₀ L _ _ => N5)
    (rename Fr h₀ L _ _ => F5)
    have hkp : ∀ n ∈ ts ++ [(x, tupO (List.replicate r (Value.int (q : Int) tq)) zx)], n ∈ (D, W.listOf rs.toArray z3) :: (K, o3) :: (ts ++ (x, tupO (List.replicate r (Value.int (q : Int) tq)) zx) :: (L + 1, oC) :: tt) := by
      intro n hn
      rcases List.mem_append.mp hn with hn | hn
      · exact .tail _ (.tail _ (List.mem_append_left _ hn))
      · rw [List.mem_singleton.mp hn]
        exact .tail _ (.tail _ (List.mem_append_right _ (.head _)))
    refine sorted_known (by rfl) lo F5 N5 (.tail _ (.head _)) hkp hK3 fct.keys (by have := fct.klen; omega) fct.sort ?_
    intro SD vsS cS h6 tk6 hRS lS F6 N6
    k_steps
    refine Hold.off ?_
    (rename News h₀ L _ _ => N7)
    refine ne_lists N7 (N7.isList (.tail _ (.head _))) (N7.isList (.head _)) (hR3.mono fun n hn => .tail _ (hkp n hn)) (hRS.mono fun n hn => .tail _ (hkp n hn)) (by first | omega | (dsimp only [Around.deeper, ktrTop]; omega)) ?_
    k_steps
    (rename News h₀ L _ _ => N8)
    (rename Fr h₀ L _ _ => F8)
    have hD1 : D < x := lx _ (.tail _ (.head _))
    have hK1 : K < x := lx _ (.head _)
    refine ret rs z3 o3 (ts ++ [(x, tupO (List.replicate r (Value.int (q : Int) tq)) zx)]) _ _ hR3 hK3 ?_ ?_ F8 ?_
    · intro n hn
      rcases List.mem_append.mp hn with hn | hn
      · exact ⟨hf3.1 n hn _ (.head _), hf3.1 n hn _ (.tail _ (.head _))⟩
      · rw [List.mem_singleton.mp hn]
        exact ⟨hD1, hK1⟩
    · rw [List.map_append]
      refine List.nodup_append.mpr ⟨hf3.2, by simp, ?_⟩
      intro b hb c hc e
      obtain ⟨n, hn, rfl⟩ := List.mem_map.mp hb
      obtain ⟨n2, hn2, rfl⟩ := List.mem_map.mp hc
      rw [List.mem_singleton.mp hn2] at e
      have := hf3.1 n hn _ (.tail _ (.tail _ (.head _)))
      exact absurd this (e ▸ Nat.lt_irrefl _)
    · intro n hn
      refine N8 n (.tail _ ?_)
      rw [List.append_assoc] at hn
      exact hn

end Mine
-- part X4
namespace Mine
set_option Elab.async false
set_option maxRecDepth 100000
set_option maxHeartbeats 8000000
local macro_rules | `(tactic| walk_at "call ref") => `(tactic| (refine Hold.on ?_))
local macro_rules | `(tactic| k_all) => `(tactic| first | assumption | (refine' Tail.ne ?ta ?tb; (case ta => assumption); (case tb => (try dsimp only); omega)) | fail "k_all")
local macro_rules | `(tactic| walk_at "m nodup") => `(tactic| repeat' (first | exact nd_nil | exact all_nil | refine nd_cons ?_ ?_ | refine all_cons ?_ ?_ | k_ne))
local macro_rules | `(tactic| walk_at "m apart") => `(tactic| repeat' (first | exact Apart.nil | refine Apart.cons ?_ ?_ | k_all))
local macro_rules | `(tactic| walk_at "m sub") => `(tactic| repeat' (first | exact sub_nil | exact sub_self | (refine' sub_cons ?ta ?_; (case ta => k_mem)) | refine sub_tail ?_ | fail "m sub"))
local macro_rules | `(tactic| walk_at "m lt") => `(tactic| repeat' (first | refine List.forall_mem_cons.mpr ⟨?_, ?_⟩ | (refine' Tail.lt ?ta ?tb; (case ta => assumption); (case tb => (try dsimp only); omega)) | (refine ltA ?_; (try dsimp only); omega) | fail "m lt"))
local macro_rules | `(tactic| walk_at "m enterC") => `(tactic| k_dflt (refine' code_defC ?k1 ?k2 ?k3 ?k4 ?k5 ?kA ?kF ?kK ?k6 ?k7 ?k8 ?k9 ?kB ?kD ?_ ?c2 ?c3 ?c4; (case kA => exact rfl); (case kF => exact rfl); (case kK => assumption); (case k1 => k_asm); (case k2 => k_asm); (case k3 => k_asm); (case k4 => k_asm); (case k5 => k_asm); (case k6 => k_is); (case k7 => k_is); (case k8 => ktr_room); (case k9 => first | exact BindsTo.of_eq rfl | (refine' kp_binds ?kx ?ke; (case kx => k_in); (case ke => exact fun _ => rfl)) | fail "m enter: no rule for these arguments"); (case kB => exact rfl); (case kD => decide +kernel); (case c2 => exact rfl); (case c3 => exact rfl); (case c4 => exact rfl); k_whole))
local macro_rules | `(tactic| walk_at "m enterL") => `(tactic| k_dflt (refine' code_defL ?k1 ?k2 ?k3 ?k4 ?k5 ?kA ?kF ?kK ?k6 ?k7 ?k8 ?k9 ?kB ?_ ?c2 ?c3 ?c4 ?c5; (case kA => exact rfl); (case kF => exact rfl); (case kK => assumption); (case k1 => k_asm); (case k2 => k_asm); (case k3 => k_asm); (case k4 => k_asm); (case k5 => k_asm); (case k6 => k_is); (case k7 => k_is); (case k8 => ktr_room); (case k9 => first | exact BindsTo.of_eq rfl | (refine' kp_binds ?kx ?ke; (case kx => k_in); (case ke => exact fun _ => rfl)) | fail "m enter: no rule for these arguments"); (case c5 => decide); (case kB => exact locs rfl); (case c2 => exact rfl); (case c3 => exact rfl); (case c4 => exact rfl); k_whole))
local macro_rules | `(tactic| walk_at "m enterN") => `(tactic| k_dflt (refine' code_nestL ?k1 ?k2 ?k3 ?k4 ?k5 ?kA ?kF ?kK ?k6 ?k7 ?k8 ?k9 ?kB ?_ ?c2 ?c3 ?c4 ?c5; (case kA => exact rfl); (case kF => exact rfl); (case kK => assumption); (case k1 => k_asm); (case k2 => k_asm); (case k3 => k_asm); (case k4 => k_asm); (case k5 => k_asm); (case k6 => k_mem); (case k7 => exact codeRec_news (by k_asm) (by k_mem) (by assumption) (by assumption)); (case k8 => ktr_room); (case k9 => exact BindsTo.of_eq rfl); (case c5 => decide); (case kB => exact locs rfl); (case c2 => exact rfl); (case c3 => exact rfl); (case c4 => exact rfl); k_whole))
local macro_rules | `(tactic| walk_at "m mem") => `(tactic| with_reducible (first | exact List.mem_cons_self | (refine' List.mem_cons_of_mem _ ?_; walk_at "m mem") | (refine' List.mem_append_right _ ?_; walk_at "m mem") | fail "m mem"))
local macro_rules | `(tactic| k_mem) => `(tactic| walk_at "m mem")
local macro_rules | `(tactic| walk_at "pyIter ref") => `(tactic| (refine Hold.on ?_))
local macro_rules | `(tactic| walk_at "UnrPost") => `(tactic| (refine Hold.on ?_))
local macro_rules | `(tactic| walk_at "UnrEnd") => `(tactic| (refine Hold.on ?_))

theorem mid_mem {α : Type} {l r : List α} {x p : α} (h : p ∈ l ++ x :: r) : p ∈ x :: (l ++ r) := by
  rcases List.mem_append.mp h with h | h
  · exact .tail _ (List.mem_append_left _ h)
  rcases List.mem_cons.mp h with rfl | h
  · exact .head _
  · exact .tail _ (List.mem_append_right _ h)
theorem mid_mem' {α : Type} {l r : List α} {x p : α} (h : p ∈ x :: (l ++ r)) : p ∈ l ++ x :: r := by
  rcases List.mem_cons.mp h with rfl | h
  · exact List.mem_append_right _ (.head _)
  rcases List.mem_append.mp h with h | h
  · exact List.mem_append_left _ h
  · exact List.mem_append_right _ (.tail _ h)
theorem law4 (w : World) (r q : Nat) (tr tq tw : Tok) (hr : 1 ≤ r ∧ r ≤ 3) (hq : 1 ≤ q ∧ q ≤ 4) (order : List (List Int)) (known : Kn) (fct : Facts r q order known)
    {prog p : Program} {loose : List Str} {mean : ExcName → Option Value} {mg mb : Str → Option Value} {dp un : Nat} {gd : Option (List Code)} {fa : Addr} {ccd : Value} {outer : List Env} {A₀ : Around} {base h₀ : Heap} {L : Addr} {u : Str → Option Value} {s : Shared}
    {Q : Flow → Shared → Prop} {E : Value → Shared → Prop} {tt : List (Addr × Obj)} {R : List (Addr × Obj)} {D : Addr}
    (B : Below A₀ base outer h₀) (X : (hd.heap_39 w.params).In h₀) (T : Top p loose mean mg mb h₀) (hd1 : dp + 300 < recursionLimit) (hu : un + 2400 < cLine)
    (F : Fr h₀ L s.heap (kstB u [(Str.ofString "ways", .int 1 tw), (Str.ofString "rows", .int (r : Int) tr), (Str.ofString "squares", .int (q : Int) tq), (Str.ofString "order", .ref D)])) (N : News h₀ L s.heap (tt ++ R)) (G : Ok R tt)
    (ret : ∀ u' tt' tw' h' tk', Ok R tt' → Fr h₀ L h' (kstB u' [(Str.ofString "ways", .int (waysF r q r) tw'), (Str.ofString "rows", .int (r : Int) tr), (Str.ofString "squares", .int (q : Int) tq), (Str.ofString "order", .ref D)]) →
      News h₀ L h' (tt' ++ R) → Q .next { s with heap := h', toks := tk' }) (hE : PassesOwn (model prog w) (lawA dp un gd L fa ccd outer) (lawEnv L fa ccd) E) :
    wpAny (model prog w) (lawA dp un gd L fa ccd outer) (exec st4.1 (lawEnv L fa ccd)) Q E s := by
  dsimp only [st4, lawEnv, lawA, lawScope] at hE ⊢
  have hr1 : (1 : Int) ≤ (r : Int) ∧ (r : Int) ≤ 100 := by omega
  have hq1 : (1 : Int) ≤ (q : Int) ∧ (q : Int) ≤ 100 := by omega
  clear hr hq
  (with_unfolding_all refine' For_invVF F ?k1 ?k2 ?_)
  (case k1 => exact rfl)
  (case k2 => exact rfl)
  k_steps
  refine Hold.off ?_
  (rename IsRange _ _ _ _ _ _ _ _ => hrg)
  (rename Fr h₀ L _ _ => F1)
  (rename News h₀ L _ _ => N1)
  refine range_inv (n := r) (by rfl) hrg (small_one (by omega) (by omega) (by omega) (by omega)) (by rw [rangeSize_one]; split <;> omega) F1 N1
    (fun I k m nl => ∃ tt tw, nl = tt ++ R ∧ Ok R tt ∧ (∀ n ∈ tt, n.1 ≠ I) ∧ (∀ n ∈ R, n.1 ≠ I) ∧ m (Str.ofString "ways") = some (.int (waysF r q k) tw) ∧ m (Str.ofString "rows") = some (.int (r : Int) tr) ∧ m (Str.ofString "squares") = some (.int (q : Int) tq) ∧ m (Str.ofString "order") = some (.ref D)) ?start ?turn ?done
  case start => exact fun I hI => ⟨tt, tw, rfl, G, fun n hn => Nat.ne_of_lt (hI n (List.mem_append_left _ hn)), fun n hn => Nat.ne_of_lt (hI n (List.mem_append_right _ hn)), rfl, rfl, rfl, rfl⟩
  case done =>
    rintro I m5 nl5 h5 tk5 ⟨tt5, tw5, rfl, G5, -, -, m1, m2, m3, m4⟩ F5 N5
    refine ret m5 tt5 tw5 h5 tk5 G5 ?_ N5
    rw [kst_self]
    · exact F5
    · intro n hn
      simp only [List.mem_cons, List.not_mem_nil, or_false] at hn
      rcases hn with rfl | rfl | rfl | rfl
      · exact m1
      · exact m2
      · exact m3
      · exact m4
  case turn =>
    rintro I k tk hk m5 nl5 h5 tk5 ⟨tt5, tw5, rfl, G5, hI1, hI2, m1, m2, m3, m4⟩ F5 N5
    have em := kst_self (m := m5) (ps := [(Str.ofString "ways", .int (waysF r q k) tw5), (Str.ofString "rows", .int (r : Int) tr), (Str.ofString "squares", .int (q : Int) tq), (Str.ofString "order", .ref D)]) (by
      intro n hn
      simp only [List.mem_cons, List.not_mem_nil, or_false] at hn
      rcases hn with rfl | rfl | rfl | rfl
      · exact m1
      · exact m2
      · exact m3
      · exact m4)
    rw [← em, Int.zero_add] at F5
    clear em m1 m2 m3 m4 ret
    replace F5 : Fr h₀ L h5 _ := F5
    replace N5 : News h₀ L h5 _ := N5
    generalize itR (0 + ((k + 1 : Nat) : Int)) ((r : Int) - ((k + 1 : Nat) : Int)) = itI at N5 ⊢
    replace N5 : News h₀ L h5 (tt5 ++ (I, itI) :: R) := fun n hn => N5 n (mid_mem hn)
    have G6 : Ok ((I, itI) :: R) tt5 := G5.cons hI1
    obtain ⟨w1, w2, w3⟩ := fct.ways k (by omega)
    have hstep : waysF r q (k + 1) = waysF r q k * ((q : Int) + r - k) / ((k : Int) + 1) := rfl
    generalize waysF r q k = W at *
    generalize hW2 : waysF r q (k + 1) = W2 at hstep
    have hk1 : (0 : Int) ≤ (k : Int) ∧ (k : Int) < (r : Int) := by omega
    have hf : 0 ≤ (q : Int) + r - k ∧ (q : Int) + r - k ≤ 200 := by omega
    have hm0 : 0 ≤ W * ((q : Int) + r - k) := Int.mul_nonneg w2 hf.1
    have hm1 : W * ((q : Int) + r - k) ≤ 1000 * 200 := Int.le_trans (Int.mul_le_mul_of_nonneg_right w3 hf.1) (Int.mul_le_mul_of_nonneg_left hf.2 (by decide))
    k_steps
    refine Hold.off ?_
    (rename News h₀ L _ _ => N6)
    refine' ok_idm G6 ?sB ?sF ?sX ?sN (fun n hn => hn) ?sT ?sK ?sP ?sU ⟨hm0, by omega, by omega, by omega⟩ ?_
    case sB => k_asm
    case sF => k_asm
    case sX => k_asm
    case sN => exact N6
    case sT => k_asm
    case sK => exact rfl
    case sP => first | omega | (dsimp only [Around.deeper, ktrTop]; omega)
    case sU => first | omega | (dsimp only [Around.deeper, ktrTop]; omega)
    intro r6 t1 t2 tt6 h7 tk7 G7 F7 N7
    rw [← hstep, w1] at N7
    (try dsimp only)
    clear N6 G6
    k_steps
    refine Hold.off ?_
    (rename News h₀ L _ _ => N8)
    (rename Fr h₀ L _ _ => F8)
    refine ⟨_, _, _, tt6 ++ R, rfl, F8, fun n hn => N8 n (.tail _ (mid_mem' hn)), ?_, tt6, t1, rfl, ⟨G7.1, G7.2.1, fun b hb n hn => G7.2.2 b hb n (.tail _ hn)⟩, G7.ne (.head _), hI2, by rw [hW2]; rfl, rfl, rfl, rfl⟩
    intro n hn
    rcases List.mem_append.mp hn with hn | hn
    · exact G7.ne (.head _) n hn
    · exact hI2 n hn

end Mine
-- part X5
namespace Mine
set_option Elab.async false
set_option maxRecDepth 100000
set_option maxHeartbeats 8000000
local macro_rules | `(tactic| walk_at "call ref") => `(tactic| (refine Hold.on ?_))
local macro_rules | `(tactic| k_all) => `(tactic| first | assumption | (refine' Tail.ne ?ta ?tb; (case ta => assumption); (case tb => (try dsimp only); omega)) | fail "k_all")
local macro_rules | `(tactic| walk_at "m nodup") => `(tactic| repeat' (first | exact nd_nil | exact all_nil | refine nd_cons ?_ ?_ | refine all_cons ?_ ?_ | k_ne))
local macro_rules | `(tactic| walk_at "m apart") => `(tactic| repeat' (first | exact Apart.nil | refine Apart.cons ?_ ?_ | k_all))
local macro_rules | `(tactic| walk_at "m sub") => `(tactic| repeat' (first | exact sub_nil | exact sub_self | (refine' sub_cons ?ta ?_; (case ta => k_mem)) | refine sub_tail ?_ | fail "m sub"))
local macro_rules | `(tactic| walk_at "m lt") => `(tactic| repeat' (first | refine List.forall_mem_cons.mpr ⟨?_, ?_⟩ | (refine' Tail.lt ?ta ?tb; (case ta => assumption); (case tb => (try dsimp only); omega)) | (refine ltA ?_; (try dsimp only); omega) | fail "m lt"))
local macro_rules | `(tactic| walk_at "m enterC") => `(tactic| k_dflt (refine' code_defC ?k1 ?k2 ?k3 ?k4 ?k5 ?kA ?kF ?kK ?k6 ?k7 ?k8 ?k9 ?kB ?kD ?_ ?c2 ?c3 ?c4; (case kA => exact rfl); (case kF => exact rfl); (case kK => assumption); (case k1 => k_asm); (case k2 => k_asm); (case k3 => k_asm); (case k4 => k_asm); (case k5 => k_asm); (case k6 => k_is); (case k7 => k_is); (case k8 => ktr_room); (case k9 => first | exact BindsTo.of_eq rfl | (refine' kp_binds ?kx ?ke; (case kx => k_in); (case ke => exact fun _ => rfl)) | fail "m enter: no rule for these arguments"); (case kB => exact rfl); (case kD => decide +kernel); (case c2 => exact rfl); (case c3 => exact rfl); (case c4 => exact rfl); k_whole))
local macro_rules | `(tactic| walk_at "m enterL") => `(tactic| k_dflt (refine' code_defL ?k1 ?k2 ?k3 ?k4 ?k5 ?kA ?kF ?kK ?k6 ?k7 ?k8 ?k9 ?kB ?_ ?c2 ?c3 ?c4 ?c5; (case kA => exact rfl); (case kF => exact rfl); (case kK => assumption); (case k1 => k_asm); (case k2 => k_asm); (case k3 => k_asm); (case k4 => k_asm); (case k5 => k_asm); (case k6 => k_is); (case k7 => k_is); (case k8 => ktr_room); (case k9 => first | exact BindsTo.of_eq rfl | (refine' kp_binds ?kx ?ke; (case kx => k_in); (case ke => exact fun _ => rfl)) | fail "m enter: no rule for these arguments"); (case c5 => decide); (case kB => exact locs rfl); (case c2 => exact rfl); (case c3 => exact rfl); (case c4 => exact rfl); k_whole))
local macro_rules | `(tactic| walk_at "m enterN") => `(tactic| k_dflt (refine' code_nestL ?k1 ?k2 ?k3 ?k4 ?k5 ?kA ?kF ?kK ?k6 ?k7 ?k8 ?k9 ?kB ?_ ?c2 ?c3 ?c4 ?c5; (case kA => exact rfl); (case kF => exact rfl); (case kK => assumption); (case k1 => k_asm); (case k2 => k_asm); (case k3 => k_asm); (case k4 => k_asm); (case k5 => k_asm); (case k6 => k_mem); (case k7 => exact codeRec_news (by k_asm) (by k_mem) (by assumption) (by assumption)); (case k8 => ktr_room); (case k9 => exact BindsTo.of_eq rfl); (case c5 => decide); (case kB => exact locs rfl); (case c2 => exact rfl); (case c3 => exact rfl); (case c4 => exact rfl); k_whole))
local macro_rules | `(tactic| walk_at "m mem") => `(tactic| with_reducible (first | exact List.mem_cons_self | (refine' List.mem_cons_of_mem _ ?_; walk_at "m mem") | (refine' List.mem_append_right _ ?_; walk_at "m mem") | fail "m mem"))
local macro_rules | `(tactic| k_mem) => `(tactic| walk_at "m mem")
local macro_rules | `(tactic| walk_at "call builtin:len") => `(tactic| (refine Hold.on ?_))
local macro_rules | `(tactic| walk_at "call builtin:sorted") => `(tactic| (refine Hold.on ?_))
local macro_rules | `(tactic| walk_at "call type:list") => `(tactic| (refine Hold.on ?_))
local macro_rules | `(tactic| walk_at "eval ListComp") => `(tactic| (refine Hold.on ?_))
local macro_rules | `(tactic| walk_at "CompSrcT") => `(tactic| (refine Hold.on ?_))
local macro_rules | `(tactic| walk_at "CompEnd") => `(tactic| (refine Hold.on ?_))
local macro_rules | `(tactic| walk_at "subscriptTail") => `(tactic| (refine Hold.on ?_))
local macro_rules | `(tactic| walk_at "compareOp NotEq ref ref") => `(tactic| (refine Hold.on ?_))

theorem law5 (w : World) (r q : Nat) (tr tq tw : Tok) (hr : 1 ≤ r ∧ r ≤ 3) (hq : 1 ≤ q ∧ q ≤ 4) (order : List (List Int)) (known : Kn) (fct : Facts r q order known)
    {prog p : Program} {loose : List Str} {mean : ExcName → Option Value} {mg mb : Str → Option Value} {dp un : Nat} {gd : Option (List Code)} {fa : Addr} {ccd : Value} {outer : List Env} {A₀ : Around} {base h₀ : Heap} {L : Addr} {u : Str → Option Value} {s : Shared}
    {Q : Flow → Shared → Prop} {E : Value → Shared → Prop} {tt : List (Addr × Obj)} {oC oK : Obj} {D K : Addr} {ts : List (Addr × Obj)} {rs : List Value} {z : Nat}
    (B : Below A₀ base outer h₀) (X : (hd.heap_39 w.params).In h₀) (T : Top p loose mean mg mb h₀) (hd1 : dp + 300 < recursionLimit) (hu : un + 2400 < cLine) (hoC : oC.data = .cell (some (.ref K)))
    (F : Fr h₀ L s.heap (kstB u [(Str.ofString "ways", .int (waysF r q r) tw), (Str.ofString "rows", .int (r : Int) tr), (Str.ofString "squares", .int (q : Int) tq), (Str.ofString "order", .ref D)])) (N : News h₀ L s.heap (tt ++ (D, W.listOf rs.toArray z) :: (K, oK) :: (L + 1, oC) :: ts)) (hR : RefsAre ts rs order)
    (ret : ∀ h' tk', Fr h₀ L h' (kstB u [(Str.ofString "ways", .int (waysF r q r) tw), (Str.ofString "rows", .int (r : Int) tr), (Str.ofString "squares", .int (q : Int) tq), (Str.ofString "order", .ref D)]) → News h₀ L h' (tt ++ (D, W.listOf rs.toArray z) :: (K, oK) :: (L + 1, oC) :: ts) → Q .next { s with heap := h', toks := tk' }) :
    wpAny (model prog w) (lawA dp un gd L fa ccd outer) (exec st5.1 (lawEnv L fa ccd)) Q E s := by
  dsimp only [st5, lawEnv, lawA, lawScope]
  have hcnt := fct.count
  have hol := fct.olen
  have hvl := hR.length
  have hw2 := (fct.ways r (Nat.le_refl _)).2
  generalize waysF r q r = wy at *
  k_steps
  refine Hold.off ?_
  (rename News h₀ L _ _ => N1)
  refine kun_lenL (k := (order.length : Int)) (N1.isList (List.mem_append_right _ (.head _))) (by simp [hvl]) (by omega) ?_
  (try dsimp only)
  k_steps
  · rename_i hbad
    exact absurd hcnt hbad
  refine Hold.off ?_
  (rename News h₀ L _ _ => N2)
  (rename Fr h₀ L _ _ => F2)
  refine LCt.ListComp_T F2 (by with_unfolding_all rfl) (by decide) (by rfl) (by decide) (by rfl) ?_
  k_steps
  refine Hold.off ?_
  (rename News h₀ L _ _ => N3)
  (rename Fr h₀ L _ _ => F3)
  refine LCt.CompSrcT.ledger (by rfl) F3 N3 (List.mem_append_right _ (.head _)) (by rw [List.size_toArray, hvl, sizeLine_eq]; omega) ?_
  intro g₂
  refine crt_inv (fun i ys nl => nl = tt ++ (D, W.listOf rs.toArray z) :: (K, oK) :: (L + 1, oC) :: ts ∧ ys = []) ?turn ⟨rfl, rfl⟩ ?fin
  case turn =>
    rintro i ys nl v Ia oI C oC2 Dc m₂ h4 tk4 E' hin ⟨rfl, rfl⟩ hv hC hx F4 N4 off4 hne4
    rw [List.size_toArray, hvl] at hin
    obtain ⟨xa, hx1, hx2⟩ := hR.get i hin
    have hv2 : rs[i]? = some v := by simpa using hv
    rw [hx1] at hv2
    obtain rfl := Option.some.inj hv2
    have hpm : order.getD i [] ∈ order := by
      rw [List.getD_eq_getElem?_getD, List.getElem?_eq_getElem hin]
      exact List.getElem_mem hin
    obtain ⟨p1, p2, p3, p4⟩ := fct.rows _ hpm
    generalize order.getD i [] = pp at *
    have hpl : pp.length ≤ 3 := by
      unfold okP at p1
      simp only [Bool.and_eq_true, decide_eq_true_eq] at p1
      exact p1.1
    have hpl : pp.length ≤ 60 := by omega
    obtain ⟨vx, zx, hmx, hix⟩ := hx2
    have hlx := hix.length
    have hm4 : (xa, tupO vx zx) ∈ (Ia, oI) :: (C, oC2) :: (Dc, LCg.lst []) :: (tt ++ (D, W.listOf rs.toArray z) :: (K, oK) :: (L + 1, oC) :: ts) := .tail _ (.tail _ (.tail _ (List.mem_append_right _ (.tail _ (.tail _ (.tail _ hmx))))))
    k_steps
    refine Hold.off ?_
    (rename News h₀ L _ _ => N5)
    (rename Fr h₀ L _ _ => F5)
    refine kup_listOfT (zs := vx) F5 N5 hm4 rfl ?_ (by show vx.length ≤ _; rw [hlx, sizeLine_eq]; omega)
    intro D1 c1 h6 F6 N6 l6
    k_steps
    refine Hold.off ?_
    (rename News h₀ L _ _ => N7)
    (rename Fr h₀ L _ _ => F7)
    refine sorted_tuple F7 N7 (.tail _ hm4) hix (by omega) ?_
    intro D2 vs2 ns2 c2 h8 hi2 hp2 ho2 l8 F8 N8
    have hns : ns2 = pp.reverse := ksm_same (hp2.trans (List.reverse_perm _).symm) ho2 p4
    subst hns
    k_steps
    refine Hold.off ?_
    (rename News h₀ L _ _ => N9)
    (rename Fr h₀ L _ _ => F9)
    refine rev_slice F9 N9 (N9.isList (.head _)) hi2 (by rw [List.length_reverse]; omega) ?_ (by with_unfolding_all rfl)
    intro D3 ws3 h10 hi3 F10 N10
    rw [List.reverse_reverse] at hi3
    k_steps
    refine Hold.off ?_
    (rename News h₀ L _ _ => N11)
    refine ke_ne_ints (ns := pp) (ms := pp) (N11.isList (.tail _ (.tail _ (.head _)))) (N11.isList (.head _)) hix hi3 (by first | omega | (dsimp only [Around.deeper, ktrTop]; omega)) ?_
    rw [decide_eq_true rfl, Bool.not_true]
    have hm10 : (xa, tupO vx zx) ∈ (D3, W.listOf ws3.toArray 0) :: (D2, W.listOf vs2.toArray c2) :: (D1, W.listOf vx.toArray c1) :: (Ia, oI) :: (C, oC2) :: (Dc, LCg.lst []) :: (tt ++ (D, W.listOf rs.toArray z) :: (K, oK) :: (L + 1, oC) :: ts) := .tail _ (.tail _ (.tail _ hm4))
    have hp0 : 0 < pp.length := List.length_pos_iff.mpr p2
    k_steps
    refine Hold.off ?_
    (rename News h₀ L _ _ => N12)
    refine item_tuple_ints (N12.isTup hm10) hix (by decide) (by omega) (by decide) ?_ (by with_unfolding_all rfl)
    intro t0
    rw [show (0 : Int).toNat = 0 from rfl]
    generalize pp.getD 0 0 = p00 at *
    k_steps
    · exact absurd (by assumption) p3
    · refine Hold.off ?_
      (rename News h₀ L _ _ => N13)
      (rename Fr h₀ L _ _ => F13)
      refine LCg.CompEnd.intro F13 N13 _ (fun n hn => ?_) off4 (.inr ⟨_, List.mem_append_right _ (.head _), rfl, z, rfl⟩) ⟨rfl, rfl⟩
      exact .tail _ (.tail _ (.tail _ hn))
  case fin =>
    rintro ys nl ⟨rfl, rfl⟩ Dc h4 tk4 F4 N4 -
    k_steps
    refine Hold.off ?_
    (rename News h₀ L _ _ => N5)
    refine ne_nil (N5.isList (.tail _ (.head _))) (N5.isList (.head _)) (by first | omega | (dsimp only [Around.deeper, ktrTop]; omega)) ?_
    rw [show (!([] : List Value).isEmpty) = false from rfl]
    k_steps
    (rename News h₀ L _ _ => N6)
    exact ret _ _ (by assumption) (fun n hn => N6 n (.tail _ (.tail _ hn)))

end Mine
-- part X6
namespace Mine
set_option Elab.async false
set_option maxRecDepth 100000
set_option maxHeartbeats 8000000
local macro_rules | `(tactic| walk_at "call ref") => `(tactic| (refine Hold.on ?_))
local macro_rules | `(tactic| k_all) => `(tactic| first | assumption | (refine' Tail.ne ?ta ?tb; (case ta => assumption); (case tb => (try dsimp only); omega)) | fail "k_all")
local macro_rules | `(tactic| walk_at "m nodup") => `(tactic| repeat' (first | exact nd_nil | exact all_nil | refine nd_cons ?_ ?_ | refine all_cons ?_ ?_ | k_ne))
local macro_rules | `(tactic| walk_at "m apart") => `(tactic| repeat' (first | exact Apart.nil | refine Apart.cons ?_ ?_ | k_all))
local macro_rules | `(tactic| walk_at "m sub") => `(tactic| repeat' (first | exact sub_nil | exact sub_self | (refine' sub_cons ?ta ?_; (case ta => k_mem)) | refine sub_tail ?_ | fail "m sub"))
local macro_rules | `(tactic| walk_at "m lt") => `(tactic| repeat' (first | refine List.forall_mem_cons.mpr ⟨?_, ?_⟩ | (refine' Tail.lt ?ta ?tb; (case ta => assumption); (case tb => (try dsimp only); omega)) | (refine ltA ?_; (try dsimp only); omega) | fail "m lt"))
local macro_rules | `(tactic| walk_at "m enterC") => `(tactic| k_dflt (refine' code_defC ?k1 ?k2 ?k3 ?k4 ?k5 ?kA ?kF ?kK ?k6 ?k7 ?k8 ?k9 ?kB ?kD ?_ ?c2 ?c3 ?c4; (case kA => exact rfl); (case kF => exact rfl); (case kK => assumption); (case k1 => k_asm); (case k2 => k_asm); (case k3 => k_asm); (case k4 => k_asm); (case k5 => k_asm); (case k6 => k_is); (case k7 => k_is); (case k8 => ktr_room); (case k9 => first | exact BindsTo.of_eq rfl | (refine' kp_binds ?kx ?ke; (case kx => k_in); (case ke => exact fun _ => rfl)) | fail "m enter: no rule for these arguments"); (case kB => exact rfl); (case kD => decide +kernel); (case c2 => exact rfl); (case c3 => exact rfl); (case c4 => exact rfl); k_whole))
local macro_rules | `(tactic| walk_at "m enterL") => `(tactic| k_dflt (refine' code_defL ?k1 ?k2 ?k3 ?k4 ?k5 ?kA ?kF ?kK ?k6 ?k7 ?k8 ?k9 ?kB ?_ ?c2 ?c3 ?c4 ?c5; (case kA => exact rfl); (case kF => exact rfl); (case kK => assumption); (case k1 => k_asm); (case k2 => k_asm); (case k3 => k_asm); (case k4 => k_asm); (case k5 => k_asm); (case k6 => k_is); (case k7 => k_is); (case k8 => ktr_room); (case k9 => first | exact BindsTo.of_eq rfl | (refine' kp_binds ?kx ?ke; (case kx => k_in); (case ke => exact fun _ => rfl)) | fail "m enter: no rule for these arguments"); (case c5 => decide); (case kB => exact locs rfl); (case c2 => exact rfl); (case c3 => exact rfl); (case c4 => exact rfl); k_whole))
local macro_rules | `(tactic| walk_at "m enterN") => `(tactic| k_dflt (refine' code_nestL ?k1 ?k2 ?k3 ?k4 ?k5 ?kA ?kF ?kK ?k6 ?k7 ?k8 ?k9 ?kB ?_ ?c2 ?c3 ?c4 ?c5; (case kA => exact rfl); (case kF => exact rfl); (case kK => assumption); (case k1 => k_asm); (case k2 => k_asm); (case k3 => k_asm); (case k4 => k_asm); (case k5 => k_asm); (case k6 => k_mem); (case k7 => exact codeRec_news (by k_asm) (by k_mem) (by assumption) (by assumption)); (case k8 => ktr_room); (case k9 => exact BindsTo.of_eq rfl); (case c5 => decide); (case kB => exact locs rfl); (case c2 => exact rfl); (case c3 => exact rfl); (case c4 => exact rfl); k_whole))
local macro_rules | `(tactic| walk_at "m mem") => `(tactic| with_reducible (first | exact List.mem_cons_self | (refine' List.mem_cons_of_mem _ ?_; walk_at "m mem") | (refine' List.mem_append_right _ ?_; walk_at "m mem") | fail "m mem"))
local macro_rules | `(tactic| k_mem) => `(tactic| walk_at "m mem")
local macro_rules | `(tactic| walk_at "call builtin:len") => `(tactic| (refine Hold.on ?_))
local macro_rules | `(tactic| walk_at "call builtin:sorted") => `(tactic| (refine Hold.on ?_))
local macro_rules | `(tactic| walk_at "call type:list") => `(tactic| (refine Hold.on ?_))
local macro_rules | `(tactic| walk_at "eval ListComp") => `(tactic| (refine Hold.on ?_))
local macro_rules | `(tactic| walk_at "CompSrcT") => `(tactic| (refine Hold.on ?_))
local macro_rules | `(tactic| walk_at "CompEnd") => `(tactic| (refine Hold.on ?_))
local macro_rules | `(tactic| walk_at "subscriptTail") => `(tactic| (refine Hold.on ?_))
local macro_rules | `(tactic| walk_at "compareOp NotEq ref ref") => `(tactic| (refine Hold.on ?_))
local macro_rules | `(tactic| walk_at "pyIter ref") => `(tactic| (refine Hold.on ?_))
local macro_rules | `(tactic| walk_at "UnrPost") => `(tactic| (refine Hold.on ?_))
local macro_rules | `(tactic| walk_at "UnrEnd") => `(tactic| (refine Hold.on ?_))
local macro_rules | `(tactic| walk_at "compareOp In ref ref") => `(tactic| (refine Hold.on ?_))

theorem win_of {known : Kn} {p : List Int} (h : okWin known p = true) : ∃ b, getF known p = some b ∧ (∀ a ∈ bitesF p, ∃ c, getF known a = some c) ∧ b = (bitesF p).any fun a => decide (getF known a = some false) := by
  unfold okWin at h
  split at h
  · cases h
  · rename_i b hb
    simp only [Bool.and_eq_true, List.all_eq_true, beq_iff_eq] at h
    exact ⟨b, hb, fun a ha => Option.isSome_iff_exists.mp (h.1 a ha), h.2⟩
theorem pos_bound {p : List Int} (h : okP p = true) (i : Nat) : 0 ≤ p.getD i 0 ∧ p.getD i 0 ≤ 100 := by
  rcases Nat.lt_or_ge i p.length with hi | hi
  · exact ok_at h hi
  · rw [List.getD_eq_getElem?_getD, List.getElem?_eq_none hi]
    decide
theorem law6 (w : World) (r q : Nat) (tr tq tw : Tok) (hr : 1 ≤ r ∧ r ≤ 3) (hq : 1 ≤ q ∧ q ≤ 4) (order : List (List Int)) (known : Kn) (fct : Facts r q order known)
    {prog p : Program} {loose : List Str} {mean : ExcName → Option Value} {mg mb : Str → Option Value} {dp un : Nat} {gd : Option (List Code)} {fa : Addr} {ccd : Value} {outer : List Env} {A₀ : Around} {base h₀ : Heap} {L : Addr} {u : Str → Option Value} {s : Shared}
    {Q : Flow → Shared → Prop} {E : Value → Shared → Prop} {tt : List (Addr × Obj)} {oC oK : Obj} {D K : Addr} {ts : List (Addr × Obj)} {rs : List Value} {z : Nat}
    (B : Below A₀ base outer h₀) (X : (hd.heap_39 w.params).In h₀) (T : Top p loose mean mg mb h₀) (hd1 : dp + 300 < recursionLimit) (hu : un + 2400 < cLine) (hoC : oC.data = .cell (some (.ref K)))
    (F : Fr h₀ L s.heap (kstB u [(Str.ofString "ways", .int (waysF r q r) tw), (Str.ofString "rows", .int (r : Int) tr), (Str.ofString "squares", .int (q : Int) tq), (Str.ofString "order", .ref D)])) (N : News h₀ L s.heap (tt ++ (D, W.listOf rs.toArray z) :: (K, oK) :: (L + 1, oC) :: ts)) (hR : RefsAre ts rs order)
    (hKn : KnownIs prog w ts oK known) (hE : PassesOwn (model prog w) (lawA dp un gd L fa ccd outer) (lawEnv L fa ccd) E)
    (ret : ∀ u h' tk', Fr h₀ L h' (kstB u [(Str.ofString "ways", .int (waysF r q r) tw), (Str.ofString "rows", .int (r : Int) tr), (Str.ofString "squares", .int (q : Int) tq), (Str.ofString "order", .ref D)]) → News h₀ L h' (tt ++ (D, W.listOf rs.toArray z) :: (K, oK) :: (L + 1, oC) :: ts) → Q .next { s with heap := h', toks := tk' }) :
    wpAny (model prog w) (lawA dp un gd L fa ccd outer) (exec st6.1 (lawEnv L fa ccd)) Q E s := by
  dsimp only [st6, lawEnv, lawA, lawScope] at hE ⊢
  have hvl := hR.length
  have hol := fct.olen
  (with_unfolding_all refine' For_invVF F ?k1 ?k2 ?_)
  (case k1 => exact rfl)
  (case k2 => exact rfl)
  k_steps
  refine Hold.off ?_
  (rename Fr h₀ L _ _ => F1)
  (rename News h₀ L _ _ => N1)
  refine list_inv (vs := rs) (ax := D) (lo := W.listOf rs.toArray z) (by rfl) F1 N1 (List.mem_append_right _ (.head _)) rfl rfl
    (fun I i m nl => nl = (tt ++ (D, W.listOf rs.toArray z) :: (K, oK) :: (L + 1, oC) :: ts) ∧ (∀ n ∈ (tt ++ (D, W.listOf rs.toArray z) :: (K, oK) :: (L + 1, oC) :: ts), n.1 < I) ∧ (m (Str.ofString "ways") = some (.int (waysF r q r) tw) ∧ m (Str.ofString "rows") = some (.int (r : Int) tr) ∧ m (Str.ofString "squares") = some (.int (q : Int) tq) ∧ m (Str.ofString "order") = some (.ref D)))
    (fun I hI => ⟨rfl, hI, rfl, rfl, rfl, rfl⟩) ?keep ?turn ?done
  case keep =>
    rintro I i m nl ⟨rfl, -⟩
    exact List.mem_append_right _ (.head _)
  case done =>
    rintro I m5 nl5 h5 tk5 ⟨rfl, -, m1, m2, m3, m4⟩ F5 N5
    refine ret m5 h5 tk5 ?_ N5
    rw [kst_self]
    · exact F5
    · intro n hn
      simp only [List.mem_cons, List.not_mem_nil, or_false] at hn
      rcases hn with rfl | rfl | rfl | rfl
      · exact m1
      · exact m2
      · exact m3
      · exact m4
  case turn =>
    rintro I i v it hit hv m5 nl5 h5 tk5 ⟨rfl, hI, m1, m2, m3, m4⟩ F5 N5
    have hin : i < order.length := by
      rcases Nat.lt_or_ge i rs.length with h | h
      · omega
      · rw [List.getElem?_eq_none h] at hv; cases hv
    obtain ⟨xa, hx1, hx2⟩ := hR.get i hin
    rw [hx1] at hv
    obtain rfl := Option.some.inj hv
    have hpm : order.getD i [] ∈ order := by
      rw [List.getD_eq_getElem?_getD, List.getElem?_eq_getElem hin]
      exact List.getElem_mem hin
    obtain ⟨p1, p2, -, -⟩ := fct.rows _ hpm
    have hwn := fct.wins _ hpm
    have htw := fct.two _ hpm
    generalize order.getD i [] = pp at *
    have em := kst_self (m := m5) (ps := [(Str.ofString "ways", .int (waysF r q r) tw), (Str.ofString "rows", .int (r : Int) tr), (Str.ofString "squares", .int (q : Int) tq), (Str.ofString "order", .ref D)]) (by
      intro n hn
      simp only [List.mem_cons, List.not_mem_nil, or_false] at hn
      rcases hn with rfl | rfl | rfl | rfl
      · exact m1
      · exact m2
      · exact m3
      · exact m4)
    rw [← em] at F5
    clear em m1 m2 m3 m4 ret
    replace F5 : Fr h₀ L h5 _ := F5
    replace N5 : News h₀ L h5 _ := N5
    obtain ⟨vx, zx, hmx, hix⟩ := hx2
    have hlx := hix.length
    have hP : PosAt ts xa pp := ⟨vx, zx, hmx, hix⟩
    have hts : ∀ n ∈ ts, n ∈ (tt ++ (D, W.listOf rs.toArray z) :: (K, oK) :: (L + 1, oC) :: ts) := fun n hn => List.mem_append_right _ (.tail _ (.tail _ (.tail _ hn)))
    k_steps
    refine Hold.off ?_
    (rename News h₀ L _ _ => N6)
    refine' bites w xa vx pp zx hix p1 _ _ _ _ _ _ _ _ _ _ _ _ _ _ _ _ _ _ _ _ ((I, it) :: (tt ++ (D, W.listOf rs.toArray z) :: (K, oK) :: (L + 1, oC) :: ts)) _ _ _ (.tail _ (hts _ hmx)) ?sB ?sF ?sX ?sN ?sT ?sK ?sP ?sU ?sR
    case sB => k_asm
    case sF => k_asm
    case sX => k_asm
    case sT => k_asm
    case sN => exact N6
    case sK => exact rfl
    case sP => first | omega | (dsimp only [Around.deeper, ktrTop]; omega)
    case sU => first | omega | (dsimp only [Around.deeper, ktrTop]; omega)
    case sR =>
    intro Bl rsB zB tsB h7 tk7 hfB hRB F7 N7
    (try dsimp only)
    k_steps
    refine Hold.off ?_
    obtain ⟨bw, hbw, hbs, hbe⟩ := win_of hwn
    have hBig : ∀ n ∈ (tt ++ (D, W.listOf rs.toArray z) :: (K, oK) :: (L + 1, oC) :: ts), n ∈ (Bl, W.listOf rsB.toArray zB) :: (tsB ++ (I, it) :: (tt ++ (D, W.listOf rs.toArray z) :: (K, oK) :: (L + 1, oC) :: ts)) := fun n hn => .tail _ (List.mem_append_right _ (.tail _ hn))
    (rename News h₀ L _ _ => N8)
    refine kd_get (hKn.mono fun n hn => hBig n (hts n hn)) N8 (hBig _ (List.mem_append_right _ (.tail _ (.head _)))) (hP.mono fun n hn => hBig n (hts n hn)) hbw (by first | omega | (dsimp only [Around.deeper, ktrTop]; omega)) ?_ (by with_unfolding_all rfl)
    intro tk9
    k_steps
    refine Hold.off ?_
    (rename Fr h₀ L _ _ => F9)
    refine LCt.ListComp_T F9 (by with_unfolding_all rfl) (by decide) (by rfl) (by decide) (by rfl) ?_
    k_steps
    refine Hold.off ?_
    (rename News h₀ L _ _ => N10)
    (rename Fr h₀ L _ _ => F10)
    refine LCt.CompSrcT.ledger (by rfl) F10 N10 (.head _) (by rw [List.size_toArray, hRB.length]; exact Nat.le_trans (bites_len p1) (by decide)) ?_
    intro g₂
    refine crt_inv (fun j ys nl => nl = (Bl, W.listOf rsB.toArray zB) :: (tsB ++ (I, it) :: (tt ++ (D, W.listOf rs.toArray z) :: (K, oK) :: (L + 1, oC) :: ts)) ∧ (!ys.isEmpty) = ((bitesF pp).take j).any (fun a => decide (getF known a = some false))) ?turn2 ⟨rfl, rfl⟩ ?fin2
    case turn2 =>
      rintro j ys nl v Ia oI C oC2 Dc m₂ h11 tk11 E' hjn ⟨rfl, hys⟩ hv2 hC hx F11 N11 off11 hne11
      rw [List.size_toArray, hRB.length] at hjn
      obtain ⟨xb, hy1, hy2⟩ := hRB.get j hjn
      have hv3 : rsB[j]? = some v := by simpa using hv2
      rw [hy1] at hv3
      obtain rfl := Option.some.inj hv3
      have hqj : (bitesF pp)[j]? = some ((bitesF pp).getD j []) := by
        rw [List.getD_eq_getElem?_getD, List.getElem?_eq_getElem hjn]; rfl
      generalize (bitesF pp).getD j [] = qq at *
      obtain ⟨cw, hcw⟩ := hbs qq (List.mem_of_getElem? hqj)
      k_steps
      refine Hold.off ?_
      (rename News h₀ L _ _ => N12)
      refine kd_get (hKn.mono fun n hn => .tail _ (.tail _ (.tail _ (hBig n (hts n hn))))) N12 (.tail _ (.tail _ (.tail _ (hBig _ (List.mem_append_right _ (.tail _ (.head _))))))) (hy2.mono fun n hn => .tail _ (.tail _ (.tail _ (.tail _ (List.mem_append_left _ hn))))) hcw (by first | omega | (dsimp only [Around.deeper, ktrTop]; omega)) ?_ (by with_unfolding_all rfl)
      intro tk13
      have hS : LCg.SrcAt h₀ Bl rsB.toArray ((Bl, W.listOf rsB.toArray zB) :: (tsB ++ (I, it) :: (tt ++ (D, W.listOf rs.toArray z) :: (K, oK) :: (L + 1, oC) :: ts))) := .inr ⟨_, .head _, rfl, zB, rfl⟩
      cases cw with
      | true =>
        k_steps
        refine Hold.off ?_
        (rename News h₀ L _ _ => N14)
        (rename Fr h₀ L _ _ => F14)
        refine LCg.CompEnd.intro F14 N14 _ (fun n hn => hn) off11 hS ⟨rfl, ?_⟩
        rw [List.take_succ, hqj, List.any_append, hys]
        simp [hcw]
      | false =>
        k_steps
        refine Hold.off ?_
        (rename News h₀ L _ _ => N14)
        (rename Fr h₀ L _ _ => F14)
        refine LCg.CompEnd.intro F14 N14 _ (fun n hn => hn) off11 hS ⟨rfl, ?_⟩
        rw [List.take_succ, hqj, List.any_append]
        simp [hcw]
    case fin2 =>
      rintro ys nl ⟨rfl, hys⟩ Dc h11 tk11 F11 N11 -
      rw [List.size_toArray, hRB.length, List.take_length, ← hbe] at hys
      k_steps
      refine Hold.off ?_
      (rename News h₀ L _ _ => N12)
      refine ne_nil (N12.isList (.tail _ (.head _))) (N12.isList (.head _)) (by first | omega | (dsimp only [Around.deeper, ktrTop]; omega)) ?_
      rw [hys]
      k_steps
      · exact absurd (show (bw != bw) = true by assumption) (by simp)
      refine Hold.off ?_
      (rename News h₀ L _ _ => N13)
      (rename Fr h₀ L _ _ => F13)
      replace N13 : News h₀ L _ ((I, it) :: (tt ++ (D, W.listOf rs.toArray z) :: (K, oK) :: (L + 1, oC) :: ts)) := fun n hn => N13 n (.tail _ (.tail _ (.tail _ (List.mem_append_right _ hn))))
      have hpl : pp.length ≤ 60 := by
        unfold okP at p1
        simp only [Bool.and_eq_true, decide_eq_true_eq] at p1
        omega
      refine tslice_from 2 F13 N13 (.tail _ (hts _ hmx)) (by omega) ?_ (by with_unfolding_all rfl)
      rintro D2 z2 ext2 h14 - hd2 F14 N14
      replace N14 := news_cons N14 hd2
      clear N13 F13 hd2
      k_steps
      refine Hold.off ?_
      (rename News h₀ L _ _ => N15)
      refine in_two (pa := []) (pb := [0]) (px := pp.drop 2) N15 (N15.isList (.head _)) ⟨[], _, .tail _ (.tail _ (.head _)), .nil⟩ ⟨[_], _, .tail _ (.head _), .cons _ _ .nil⟩ ⟨_, _, .tail _ (.tail _ (.tail _ (.head _))), hix.drop 2⟩ (by first | omega | (dsimp only [Around.deeper, ktrTop]; omega)) ?_
      have fin : ∀ (h' : Heap) (tk' : Nat) (m' : Str → Option Value) (nl' : List (Addr × Obj)), Fr h₀ L h' m' → News h₀ L h' nl' → (∀ n ∈ (I, it) :: (tt ++ (D, W.listOf rs.toArray z) :: (K, oK) :: (L + 1, oC) :: ts), n ∈ nl') → (m' (Str.ofString "ways") = some (.int (waysF r q r) tw) ∧ m' (Str.ofString "rows") = some (.int (r : Int) tr) ∧ m' (Str.ofString "squares") = some (.int (q : Int) tq) ∧ m' (Str.ofString "order") = some (.ref D)) →
          UnrPost h₀ L { s with heap := h5, toks := tk5 } I it (fun m nl => nl = (tt ++ (D, W.listOf rs.toArray z) :: (K, oK) :: (L + 1, oC) :: ts) ∧ (∀ n ∈ (tt ++ (D, W.listOf rs.toArray z) :: (K, oK) :: (L + 1, oC) :: ts), n.1 < I) ∧ (m (Str.ofString "ways") = some (.int (waysF r q r) tw) ∧ m (Str.ofString "rows") = some (.int (r : Int) tr) ∧ m (Str.ofString "squares") = some (.int (q : Int) tq) ∧ m (Str.ofString "order") = some (.ref D))) Q .next { s with heap := h', toks := tk' } := fun h' tk' m' nl' F' N' hs hm => ⟨h', tk', m', (tt ++ (D, W.listOf rs.toArray z) :: (K, oK) :: (L + 1, oC) :: ts), rfl, F', fun n hn => N' n (hs n hn), fun n hn => Nat.ne_of_lt (hI n hn), rfl, hI, hm⟩
      have hkeep : ∀ (a b c d : Addr × Obj), ∀ n ∈ (I, it) :: (tt ++ (D, W.listOf rs.toArray z) :: (K, oK) :: (L + 1, oC) :: ts), n ∈ a :: b :: c :: d :: (I, it) :: (tt ++ (D, W.listOf rs.toArray z) :: (K, oK) :: (L + 1, oC) :: ts) := fun a b c d n hn => .tail _ (.tail _ (.tail _ (.tail _ hn)))
      unfold okTwo at htw
      rw [hbw] at htw
      cases hc1 : (decide (([] : List Int) = pp.drop 2) || decide ([0] = pp.drop 2)) with
      | false =>
        k_steps
        refine Hold.off ?_
        (rename News h₀ L _ _ => N16)
        exact fin _ _ _ _ (by assumption) N16 (hkeep _ _ _ _) ⟨rfl, rfl, rfl, rfl⟩
      | true =>
        have hc2 : (decide (pp.drop 2 = []) || decide (pp.drop 2 = [0])) = true := by
          rw [← hc1]
          congr 1
          · exact decide_eq_decide.mpr ⟨Eq.symm, Eq.symm⟩
          · exact decide_eq_decide.mpr ⟨Eq.symm, Eq.symm⟩
        rw [hc2, Bool.true_and] at htw
        k_steps
        refine Hold.off ?_
        (rename News h₀ L _ _ => N16)
        refine kun_lenT (k := (pp.length : Int)) (N16.isTup (hkeep _ _ _ _ _ (.tail _ (hts _ hmx)))) (by simp [hlx]) (by omega) ?_
        (try dsimp only)
        k_steps
        · refine Hold.off ?_
          have hlen : pp.length > 1 := by omega
          rw [decide_eq_true hlen, Bool.true_and] at htw
          have hbv : (bw == decide (pp.getD 0 0 = pp.getD 1 0 + 1)) = false := by
            have : ¬ (some bw = some (decide (pp.getD 0 0 = pp.getD 1 0 + 1))) := by
              intro e
              rw [decide_eq_true e] at htw
              cases htw
            exact beq_false_of_ne fun e => this (by rw [e])
          (rename News h₀ L _ _ => N17)
          refine kd_get (hKn.mono fun n hn => hkeep _ _ _ _ _ (.tail _ (hts n hn))) N17 (hkeep _ _ _ _ _ (.tail _ (List.mem_append_right _ (.tail _ (.head _))))) (hP.mono fun n hn => hkeep _ _ _ _ _ (.tail _ (hts n hn))) hbw (by first | omega | (dsimp only [Around.deeper, ktrTop]; omega)) ?_ (by with_unfolding_all rfl)
          intro tk18
          k_steps
          refine Hold.off ?_
          (rename News h₀ L _ _ => N19)
          refine item_tuple_ints (N19.isTup (hkeep _ _ _ _ _ (.tail _ (hts _ hmx)))) hix (by decide) (by omega) (by decide) ?_ (by with_unfolding_all rfl)
          intro t0
          rw [show (0 : Int).toNat = 0 from rfl]
          k_steps
          refine Hold.off ?_
          (rename News h₀ L _ _ => N20)
          refine item_tuple_ints (N20.isTup (hkeep _ _ _ _ _ (.tail _ (hts _ hmx)))) hix (by decide) (by omega) (by decide) ?_ (by with_unfolding_all rfl)
          intro t1
          rw [show (1 : Int).toNat = 1 from rfl]
          have hb0 := pos_bound p1 0
          have hb1 := pos_bound p1 1
          generalize pp.getD 0 0 = e0 at *
          generalize pp.getD 1 0 = e1 at *
          k_steps
          refine Hold.off ?_
          (rename News h₀ L _ _ => N21)
          exact fin _ _ _ _ (by assumption) N21 (hkeep _ _ _ _) ⟨rfl, rfl, rfl, rfl⟩
        · refine Hold.off ?_
          (rename News h₀ L _ _ => N17)
          exact fin _ _ _ _ (by assumption) N17 (hkeep _ _ _ _) ⟨rfl, rfl, rfl, rfl⟩

end Mine
-- part X7
namespace Mine
set_option Elab.async false
set_option maxRecDepth 100000
set_option maxHeartbeats 8000000
local macro_rules | `(tactic| walk_at "call ref") => `(tactic| (refine Hold.on ?_))
local macro_rules | `(tactic| k_all) => `(tactic| first | assumption | (refine' Tail.ne ?ta ?tb; (case ta => assumption); (case tb => (try dsimp only); omega)) | fail "k_all")
local macro_rules | `(tactic| walk_at "m nodup") => `(tactic| repeat' (first | exact nd_nil | exact all_nil | refine nd_cons ?_ ?_ | refine all_cons ?_ ?_ | k_ne))
local macro_rules | `(tactic| walk_at "m apart") => `(tactic| repeat' (first | exact Apart.nil | refine Apart.cons ?_ ?_ | k_all))
local macro_rules | `(tactic| walk_at "m sub") => `(tactic| repeat' (first | exact sub_nil | exact sub_self | (refine' sub_cons ?ta ?_; (case ta => k_mem)) | refine sub_tail ?_ | fail "m sub"))
local macro_rules | `(tactic| walk_at "m lt") => `(tactic| repeat' (first | refine List.forall_mem_cons.mpr ⟨?_, ?_⟩ | (refine' Tail.lt ?ta ?tb; (case ta => assumption); (case tb => (try dsimp only); omega)) | (refine ltA ?_; (try dsimp only); omega) | fail "m lt"))
local macro_rules | `(tactic| walk_at "m enterC") => `(tactic| k_dflt (refine' code_defC ?k1 ?k2 ?k3 ?k4 ?k5 ?kA ?kF ?kK ?k6 ?k7 ?k8 ?k9 ?kB ?kD ?_ ?c2 ?c3 ?c4; (case kA => exact rfl); (case kF => exact rfl); (case kK => assumption); (case k1 => k_asm); (case k2 => k_asm); (case k3 => k_asm); (case k4 => k_asm); (case k5 => k_asm); (case k6 => k_is); (case k7 => k_is); (case k8 => ktr_room); (case k9 => first | exact BindsTo.of_eq rfl | (refine' kp_binds ?kx ?ke; (case kx => k_in); (case ke => exact fun _ => rfl)) | fail "m enter: no rule for these arguments"); (case kB => exact rfl); (case kD => decide +kernel); (case c2 => exact rfl); (case c3 => exact rfl); (case c4 => exact rfl); k_whole))
local macro_rules | `(tactic| walk_at "m enterL") => `(tactic| k_dflt (refine' code_defL ?k1 ?k2 ?k3 ?k4 ?k5 ?kA ?kF ?kK ?k6 ?k7 ?k8 ?k9 ?kB ?_ ?c2 ?c3 ?c4 ?c5; (case kA => exact rfl); (case kF => exact rfl); (case kK => assumption); (case k1 => k_asm); (case k2 => k_asm); (case k3 => k_asm); (case k4 => k_asm); (case k5 => k_asm); (case k6 => k_is); (case k7 => k_is); (case k8 => ktr_room); (case k9 => first | exact BindsTo.of_eq rfl | (refine' kp_binds ?kx ?ke; (case kx => k_in); (case ke => exact fun _ => rfl)) | fail "m enter: no rule for these arguments"); (case c5 => decide); (case kB => exact locs rfl); (case c2 => exact rfl); (case c3 => exact rfl); (case c4 => exact rfl); k_whole))
local macro_rules | `(tactic| walk_at "m enterN") => `(tactic| k_dflt (refine' code_nestL ?k1 ?k2 ?k3 ?k4 ?k5 ?kA ?kF ?kK ?k6 ?k7 ?k8 ?k9 ?kB ?_ ?c2 ?c3 ?c4 ?c5; (case kA => exact rfl); (case kF => exact rfl); (case kK => assumption); (case k1 => k_asm); (case k2 => k_asm); (case k3 => k_asm); (case k4 => k_asm); (case k5 => k_asm); (case k6 => k_mem); (case k7 => exact codeRec_news (by k_asm) (by k_mem) (by assumption) (by assumption)); (case k8 => ktr_room); (case k9 => exact BindsTo.of_eq rfl); (case c5 => decide); (case kB => exact locs rfl); (case c2 => exact rfl); (case c3 => exact rfl); (case c4 => exact rfl); k_whole))
local macro_rules | `(tactic| walk_at "m mem") => `(tactic| with_reducible (first | exact List.mem_cons_self | (refine' List.mem_cons_of_mem _ ?_; walk_at "m mem") | (refine' List.mem_append_right _ ?_; walk_at "m mem") | fail "m mem"))
local macro_rules | `(tactic| k_mem) => `(tactic| walk_at "m mem")
local macro_rules | `(tactic| walk_at "call builtin:len") => `(tactic| (refine Hold.on ?_))
local macro_rules | `(tactic| walk_at "call builtin:sorted") => `(tactic| (refine Hold.on ?_))
local macro_rules | `(tactic| walk_at "call type:list") => `(tactic| (refine Hold.on ?_))
local macro_rules | `(tactic| walk_at "eval ListComp") => `(tactic| (refine Hold.on ?_))
local macro_rules | `(tactic| walk_at "CompSrcT") => `(tactic| (refine Hold.on ?_))
local macro_rules | `(tactic| walk_at "CompEnd") => `(tactic| (refine Hold.on ?_))
local macro_rules | `(tactic| walk_at "subscriptTail") => `(tactic| (refine Hold.on ?_))
local macro_rules | `(tactic| walk_at "compareOp NotEq ref ref") => `(tactic| (refine Hold.on ?_))
local macro_rules | `(tactic| walk_at "binaryOp Mult ref int") => `(tactic| (refine Hold.on ?_))
local macro_rules | `(tactic| walk_at "binaryOp Add ref ref") => `(tactic| (refine Hold.on ?_))

theorem law7 (w : World) (r q : Nat) (tr tq tw : Tok) (hr : 1 ≤ r ∧ r ≤ 3) (hq : 1 ≤ q ∧ q ≤ 4) (order : List (List Int)) (known : Kn) (fct : Facts r q order known)
    {prog p : Program} {loose : List Str} {mean : ExcName → Option Value} {mg mb : Str → Option Value} {dp un : Nat} {gd : Option (List Code)} {fa : Addr} {ccd : Value} {outer : List Env} {A₀ : Around} {base h₀ : Heap} {L : Addr} {u : Str → Option Value} {s : Shared}
    {Q : Flow → Shared → Prop} {E : Value → Shared → Prop} {tt : List (Addr × Obj)} {oC oK : Obj} {D K : Addr} {ts : List (Addr × Obj)} {rs : List Value} {z : Nat}
    (B : Below A₀ base outer h₀) (X : (hd.heap_39 w.params).In h₀) (T : Top p loose mean mg mb h₀) (hd1 : dp + 300 < recursionLimit) (hu : un + 2400 < cLine) (hoC : oC.data = .cell (some (.ref K)))
    (F : Fr h₀ L s.heap (kstB u [(Str.ofString "ways", .int (waysF r q r) tw), (Str.ofString "rows", .int (r : Int) tr), (Str.ofString "squares", .int (q : Int) tq), (Str.ofString "order", .ref D)])) (N : News h₀ L s.heap (tt ++ (D, W.listOf rs.toArray z) :: (K, oK) :: (L + 1, oC) :: ts)) (hR : RefsAre ts rs order)
    (hKn : KnownIs prog w ts oK known)
    (ret : ∀ h' tk', Fr h₀ L h' (kstB u [(Str.ofString "ways", .int (waysF r q r) tw), (Str.ofString "rows", .int (r : Int) tr), (Str.ofString "squares", .int (q : Int) tq), (Str.ofString "order", .ref D)]) → News h₀ L h' (tt ++ (D, W.listOf rs.toArray z) :: (K, oK) :: (L + 1, oC) :: ts) → Q .next { s with heap := h', toks := tk' }) :
    wpAny (model prog w) (lawA dp un gd L fa ccd outer) (exec st7.1 (lawEnv L fa ccd)) Q E s := by
  dsimp only [st7, lawEnv, lawA, lawScope]
  have hsq := fct.square
  have hr1 : (1 : Int) ≤ (r : Int) ∧ (r : Int) ≤ 100 := by omega
  have hq1 : (1 : Int) ≤ (q : Int) ∧ (q : Int) ≤ 100 := by omega
  have hr2 : r ≤ 100 := by omega
  have hts : ∀ n ∈ ts, n ∈ (tt ++ (D, W.listOf rs.toArray z) :: (K, oK) :: (L + 1, oC) :: ts) := fun n hn => List.mem_append_right _ (.tail _ (.tail _ (.tail _ hn)))
  clear hr hq
  k_steps
  · refine Hold.off ?_
    have hrq : r = q := by omega
    have hr3 : r > 1 := by omega
    subst hrq
    unfold okSquare at hsq
    rw [decide_eq_true rfl, decide_eq_true hr3] at hsq
    simp only [Bool.and_self, Bool.not_true, Bool.false_or, decide_eq_true_eq] at hsq
    (rename News h₀ L _ _ => N1)
    (rename Fr h₀ L _ _ => F1)
    refine tup_mul2 (n := r - 1) F1 N1 (.head _) (by omega) (by omega) (by omega) ?_
    intro D2 z2 h2 F2 N2
    k_steps
    refine Hold.off ?_
    (rename News h₀ L _ _ => N3)
    (rename Fr h₀ L _ _ => F3)
    refine kde_addT F3 N3 (N3.isTup (.tail _ (.tail _ (.head _)))) (N3.isTup (.head _)) (by simp) (by simp; omega) (by simp; omega) rfl ?_
    intro D4 h4 F4 N4 l4
    k_steps
    refine Hold.off ?_
    (rename News h₀ L _ _ => N5)
    have hbig : ∀ (a b c d : Addr × Obj), ∀ n ∈ (tt ++ (D, W.listOf rs.toArray z) :: (K, oK) :: (L + 1, oC) :: ts), n ∈ a :: b :: c :: d :: (tt ++ (D, W.listOf rs.toArray z) :: (K, oK) :: (L + 1, oC) :: ts) := fun a b c d n hn => .tail _ (.tail _ (.tail _ (.tail _ hn)))
    refine kd_get (hKn.mono fun n hn => hbig _ _ _ _ _ (hts n hn)) N5 (hbig _ _ _ _ _ (List.mem_append_right _ (.tail _ (.head _)))) ⟨_, _, .head _, ?_⟩ hsq (by first | omega | (dsimp only [Around.deeper, ktrTop]; omega)) ?_ (by with_unfolding_all rfl)
    · exact IntsAre.append (.cons _ _ .nil) (ints_rep (r - 1) 1 _)
    · intro tk6
      k_steps
      (rename News h₀ L _ _ => N7)
      exact ret _ _ (by assumption) fun n hn => N7 n (hbig _ _ _ _ n hn)
  · exact ret _ _ (by assumption) (by assumption)
  · exact ret s.heap s.toks (by assumption) (by assumption)

end Mine
-- part J2
namespace Mine
set_option Elab.async false
set_option maxRecDepth 100000
set_option maxHeartbeats 8000000
local macro_rules | `(tactic| walk_at "call ref") => `(tactic| (refine Hold.on ?_))
local macro_rules | `(tactic| k_all) => `(tactic| first | assumption | (refine' Tail.ne ?ta ?tb; (case ta => assumption); (case tb => (try dsimp only); omega)) | fail "k_all")
local macro_rules | `(tactic| walk_at "m nodup") => `(tactic| repeat' (first | exact nd_nil | exact all_nil | refine nd_cons ?_ ?_ | refine all_cons ?_ ?_ | k_ne))
local macro_rules | `(tactic| walk_at "m apart") => `(tactic| repeat' (first | exact Apart.nil | refine Apart.cons ?_ ?_ | k_all))
local macro_rules | `(tactic| walk_at "m sub") => `(tactic| repeat' (first | exact sub_nil | exact sub_self | (refine' sub_cons ?ta ?_; (case ta => k_mem)) | refine sub_tail ?_ | fail "m sub"))
local macro_rules | `(tactic| walk_at "m lt") => `(tactic| repeat' (first | refine List.forall_mem_cons.mpr ⟨?_, ?_⟩ | (refine' Tail.lt ?ta ?tb; (case ta => assumption); (case tb => (try dsimp only); omega)) | (refine ltA ?_; (try dsimp only); omega) | fail "m lt"))
local macro_rules | `(tactic| walk_at "m enterC") => `(tactic| k_dflt (refine' code_defC ?k1 ?k2 ?k3 ?k4 ?k5 ?kA ?kF ?kK ?k6 ?k7 ?k8 ?k9 ?kB ?kD ?_ ?c2 ?c3 ?c4; (case kA => exact rfl); (case kF => exact rfl); (case kK => assumption); (case k1 => k_asm); (case k2 => k_asm); (case k3 => k_asm); (case k4 => k_asm); (case k5 => k_asm); (case k6 => k_is); (case k7 => k_is); (case k8 => ktr_room); (case k9 => first | exact BindsTo.of_eq rfl | (refine' kp_binds ?kx ?ke; (case kx => k_in); (case ke => exact fun _ => rfl)) | fail "m enter: no rule for these arguments"); (case kB => exact rfl); (case kD => decide +kernel); (case c2 => exact rfl); (case c3 => exact rfl); (case c4 => exact rfl); k_whole))
local macro_rules | `(tactic| walk_at "m enterL") => `(tactic| k_dflt (refine' code_defL ?k1 ?k2 ?k3 ?k4 ?k5 ?kA ?kF ?kK ?k6 ?k7 ?k8 ?k9 ?kB ?_ ?c2 ?c3 ?c4 ?c5; (case kA => exact rfl); (case kF => exact rfl); (case kK => assumption); (case k1 => k_asm); (case k2 => k_asm); (case k3 => k_asm); (case k4 => k_asm); (case k5 => k_asm); (case k6 => k_is); (case k7 => k_is); (case k8 => ktr_room); (case k9 => first | exact BindsTo.of_eq rfl | (refine' kp_binds ?kx ?ke; (case kx => k_in); (case ke => exact fun _ => rfl)) | fail "m enter: no rule for these arguments"); (case c5 => decide); (case kB => exact locs rfl); (case c2 => exact rfl); (case c3 => exact rfl); (case c4 => exact rfl); k_whole))
local macro_rules | `(tactic| walk_at "m enterN") => `(tactic| k_dflt (refine' code_nestL ?k1 ?k2 ?k3 ?k4 ?k5 ?kA ?kF ?kK ?k6 ?k7 ?k8 ?k9 ?kB ?_ ?c2 ?c3 ?c4 ?c5; (case kA => exact rfl); (case kF => exact rfl); (case kK => assumption); (case k1 => k_asm); (case k2 => k_asm); (case k3 => k_asm); (case k4 => k_asm); (case k5 => k_asm); (case k6 => k_mem); (case k7 => exact codeRec_news (by k_asm) (by k_mem) (by assumption) (by assumption)); (case k8 => ktr_room); (case k9 => exact BindsTo.of_eq rfl); (case c5 => decide); (case kB => exact locs rfl); (case c2 => exact rfl); (case c3 => exact rfl); (case c4 => exact rfl); k_whole))

theorem law3 (w : World) (r q : Nat) (tr tq : Tok)
    {prog p : Program} {loose : List Str} {mean : ExcName → Option Value} {mg mb : Str → Option Value} {dp un : Nat} {gd : Option (List Code)} {fa : Addr} {ccd : Value} {outer : List Env} {A₀ : Around} {base h₀ : Heap} {L : Addr} {u : Str → Option Value} {s : Shared}
    {Q : Flow → Shared → Prop} {E : Value → Shared → Prop} {nl : List (Addr × Obj)} {D : Addr}
    (B : Below A₀ base outer h₀) (X : (hd.heap_39 w.params).In h₀) (T : Top p loose mean mg mb h₀) (hd1 : dp + 300 < recursionLimit) (hu : un + 2400 < cLine)
    (F : Fr h₀ L s.heap (kstB u [(Str.ofString "rows", .int (r : Int) tr), (Str.ofString "squares", .int (q : Int) tq), (Str.ofString "order", .ref D)])) (N : News h₀ L s.heap nl)
    (ret : ∀ tw h' tk', Fr h₀ L h' (kstB u [(Str.ofString "ways", .int 1 tw), (Str.ofString "rows", .int (r : Int) tr), (Str.ofString "squares", .int (q : Int) tq), (Str.ofString "order", .ref D)]) → News h₀ L h' nl → Q .next { s with heap := h', toks := tk' }) :
    wpAny (model prog w) (lawA dp un gd L fa ccd outer) (exec st3.1 (lawEnv L fa ccd)) Q E s := by
  dsimp only [st3, lawEnv, lawA, lawScope]
  k_steps
  (rename News h₀ L _ _ => N1)
  (rename Fr h₀ L _ _ => F1)
  exact ret _ _ _ F1 N1
theorem law8 (w : World)
    {prog p : Program} {loose : List Str} {mean : ExcName → Option Value} {mg mb : Str → Option Value} {dp un : Nat} {gd : Option (List Code)} {fa : Addr} {ccd : Value} {outer : List Env} {A₀ : Around} {base h₀ : Heap} {L : Addr}  {s : Shared}
    {Q : Flow → Shared → Prop} {E : Value → Shared → Prop} {m : Str → Option Value} {nl : List (Addr × Obj)}
    (B : Below A₀ base outer h₀) (X : (hd.heap_39 w.params).In h₀) (T : Top p loose mean mg mb h₀) (hd1 : dp + 300 < recursionLimit) (hu : un + 2400 < cLine)
    (F : Fr h₀ L s.heap m) (N : News h₀ L s.heap nl) (ret : ∀ h' tk', Fr h₀ L h' m → News h₀ L h' nl → Q (.ret (.bool true)) { s with heap := h', toks := tk' }) :
    wpAny (model prog w) (lawA dp un gd L fa ccd outer) (exec st8.1 (lawEnv L fa ccd)) Q E s := by
  dsimp only [st8, lawEnv, lawA, lawScope]
  k_steps
  exact ret s.heap _ F N
theorem law_rest (w : World) (r q : Nat) (tr tq : Tok) (hr : 1 ≤ r ∧ r ≤ 3) (hq : 1 ≤ q ∧ q ≤ 4)
    {prog p : Program} {loose : List Str} {mean : ExcName → Option Value} {mg mb : Str → Option Value} {dp un : Nat} {gd : Option (List Code)} {fa : Addr} {ccd : Value} {outer : List Env} {A₀ : Around} {base h₀ : Heap} {L : Addr} {u : Str → Option Value} {s : Shared}
    {Q : Flow → Shared → Prop} {E : Value → Shared → Prop} {tt : List (Addr × Obj)} {oC oK : Obj} {D K : Addr} {z : Nat}
    (B : Below A₀ base outer h₀) (X : (hd.heap_39 w.params).In h₀) (T : Top p loose mean mg mb h₀) (hd1 : dp + 300 < recursionLimit) (hu : un + 2400 < cLine) (hoC : oC.data = .cell (some (.ref K)))
    (hE : PassesOwn (model prog w) (lawA dp un gd L fa ccd outer) (lawEnv L fa ccd) E) (hkn : ∀ nl, KnownIs prog w nl oK []) (lo : (K == sysModules) = false) (htt : ∀ n ∈ tt, n.1 < L) (hLD : L + 1 < D) (hDK : D < K) (hTT : TT tt) (hnd : (tt.map (·.1)).Nodup)
    (F : Fr h₀ L s.heap (kstB u [(Str.ofString "rows", .int (r : Int) tr), (Str.ofString "squares", .int (q : Int) tq), (Str.ofString "order", .ref D)])) (N : News h₀ L s.heap ((K, oK) :: (D, W.listOf #[] z) :: (L + 1, oC) :: tt))
    (ret : ∀ h' tk' m' tt', TT tt' → Fr h₀ L h' m' → News h₀ L h' tt' → Q (.ret (.bool true)) { s with heap := h', toks := tk' }) :
    wpAny (model prog w) (lawA dp un gd L fa ccd outer) (exec st2.1 (lawEnv L fa ccd)) (fun f s' => match f with | .next => wpAny (model prog w) (lawA dp un gd L fa ccd outer) (execs [st3.1, st4.1, st5.1, st6.1, st7.1, st8.1] (lawEnv L fa ccd)) Q E s' | f => Q f s') E s := by
  obtain ⟨order, known, hwin, fct⟩ := law_facts r q hr hq
  refine law2 w r q tr tq hr hq order known hwin fct B X T hd1 hu hoC hkn lo htt hLD hDK F N fun rs z2 o2 ts h2 tk2 hR hK hts hnt F2 N2 => ?_
  have hL : ∀ n ∈ tt, n.1 < L + 1 := fun n hn => Nat.lt_trans (htt n hn) (Nat.lt_succ_self L)
  have G2 : Ok ((D, W.listOf rs.toArray z2) :: (K, o2) :: (L + 1, oC) :: ts) tt := by
    refine ⟨hTT, hnd, fun b hb n hn => ?_⟩
    obtain ⟨t, ht, rfl⟩ := List.mem_map.mp hb
    have h1 := hL t ht
    rcases List.mem_cons.mp hn with rfl | hn
    · exact Ne.symm (Nat.ne_of_lt (Nat.lt_trans h1 hLD))
    rcases List.mem_cons.mp hn with rfl | hn
    · exact Ne.symm (Nat.ne_of_lt (Nat.lt_trans (Nat.lt_trans h1 hLD) hDK))
    rcases List.mem_cons.mp hn with rfl | hn
    · exact Ne.symm (Nat.ne_of_lt h1)
    · exact Ne.symm (Nat.ne_of_lt (Nat.lt_trans (Nat.lt_trans h1 hLD) (hts n hn).1))
  have N2' : News h₀ L h2 (tt ++ (D, W.listOf rs.toArray z2) :: (K, o2) :: (L + 1, oC) :: ts) := by
    intro n hn
    refine N2 n ?_
    simp only [List.mem_cons, List.mem_append] at hn ⊢
    rcases hn with h | h | h | h | h
    · exact .inr (.inr (.inr (.inr h)))
    · exact .inl h
    · exact .inr (.inl h)
    · exact .inr (.inr (.inr (.inl h)))
    · exact .inr (.inr (.inl h))
  refine wpAny_execs_cons (law3 w r q tr tq B X T hd1 hu F2 N2' fun tw h3 tk3 F3 N3 => ?_)
  refine wpAny_execs_cons (law4 w r q tr tq tw hr hq order known fct B X T hd1 hu F3 N3 G2 (fun u4 tt4 tw4 h4 tk4 G4 F4 N4 => ?_) hE)
  refine wpAny_execs_cons (law5 w r q tr tq tw4 hr hq order known fct B X T hd1 hu hoC F4 N4 hR fun h5 tk5 F5 N5 => ?_)
  refine wpAny_execs_cons (law6 w r q tr tq tw4 hr hq order known fct B X T hd1 hu hoC F5 N5 hR hK hE fun u6 h6 tk6 F6 N6 => ?_)
  refine wpAny_execs_cons (law7 w r q tr tq tw4 hr hq order known fct B X T hd1 hu hoC F6 N6 hR hK fun h7 tk7 F7 N7 => ?_)
  refine wpAny_execs_cons (law8 w B X T hd1 hu F7 N7 fun h8 tk8 F8 N8 => ?_)
  exact ret _ _ _ tt4 G4.1 F8 fun n hn => N8 n (List.mem_append_left _ hn)
theorem tt_grown {h₀ h : Heap} {L : Addr} {tt : List (Addr × Obj)} (t : TT tt) (N : News h₀ L h tt) : GrownAll [(59, 55), (52, 48)] h := by
  obtain ⟨t1, t2, h1, h2, rfl⟩ := t
  refine ⟨?_, ?_, trivial⟩
  · cases h2 with
    | cold => exact GrownAt.of N (List.mem_append_right _ (.head _))
    | warm c oc vs t e1 e2 => exact GrownAt.of N (List.mem_append_right _ (.head _))
  · cases h1 with
    | cold => exact GrownAt.of N (List.mem_append_left _ (.head _))
    | warm c oc vs t e1 e2 => exact GrownAt.of N (List.mem_append_left _ (.head _))

end Mine
-- part W2
namespace Mine
set_option Elab.async false
set_option maxRecDepth 100000
set_option maxHeartbeats 8000000
local macro_rules | `(tactic| walk_at "call ref") => `(tactic| (refine Hold.on ?_))
local macro_rules | `(tactic| k_all) => `(tactic| first | assumption | (refine' Tail.ne ?ta ?tb; (case ta => assumption); (case tb => (try dsimp only); omega)) | fail "k_all")
local macro_rules | `(tactic| walk_at "m nodup") => `(tactic| repeat' (first | exact nd_nil | exact all_nil | refine nd_cons ?_ ?_ | refine all_cons ?_ ?_ | k_ne))
local macro_rules | `(tactic| walk_at "m apart") => `(tactic| repeat' (first | exact Apart.nil | refine Apart.cons ?_ ?_ | k_all))
local macro_rules | `(tactic| walk_at "m sub") => `(tactic| repeat' (first | exact sub_nil | exact sub_self | (refine' sub_cons ?ta ?_; (case ta => k_mem)) | refine sub_tail ?_ | fail "m sub"))
local macro_rules | `(tactic| walk_at "m lt") => `(tactic| repeat' (first | refine List.forall_mem_cons.mpr ⟨?_, ?_⟩ | (refine' Tail.lt ?ta ?tb; (case ta => assumption); (case tb => (try dsimp only); omega)) | (refine ltA ?_; (try dsimp only); omega) | fail "m lt"))
local macro_rules | `(tactic| walk_at "m enterC") => `(tactic| k_dflt (refine' code_defC ?k1 ?k2 ?k3 ?k4 ?k5 ?kA ?kF ?kK ?k6 ?k7 ?k8 ?k9 ?kB ?kD ?_ ?c2 ?c3 ?c4; (case kA => exact rfl); (case kF => exact rfl); (case kK => assumption); (case k1 => k_asm); (case k2 => k_asm); (case k3 => k_asm); (case k4 => k_asm); (case k5 => k_asm); (case k6 => k_is); (case k7 => k_is); (case k8 => ktr_room); (case k9 => first | exact BindsTo.of_eq rfl | (refine' kp_binds ?kx ?ke; (case kx => k_in); (case ke => exact fun _ => rfl)) | fail "m enter: no rule for these arguments"); (case kB => exact rfl); (case kD => decide +kernel); (case c2 => exact rfl); (case c3 => exact rfl); (case c4 => exact rfl); k_whole))
local macro_rules | `(tactic| walk_at "m enterL") => `(tactic| k_dflt (refine' code_defL ?k1 ?k2 ?k3 ?k4 ?k5 ?kA ?kF ?kK ?k6 ?k7 ?k8 ?k9 ?kB ?_ ?c2 ?c3 ?c4 ?c5; (case kA => exact rfl); (case kF => exact rfl); (case kK => assumption); (case k1 => k_asm); (case k2 => k_asm); (case k3 => k_asm); (case k4 => k_asm); (case k5 => k_asm); (case k6 => k_is); (case k7 => k_is); (case k8 => ktr_room); (case k9 => first | exact BindsTo.of_eq rfl | (refine' kp_binds ?kx ?ke; (case kx => k_in); (case ke => exact fun _ => rfl)) | fail "m enter: no rule for these arguments"); (case c5 => decide); (case kB => exact locs rfl); (case c2 => exact rfl); (case c3 => exact rfl); (case c4 => exact rfl); k_whole))
local macro_rules | `(tactic| walk_at "m enterN") => `(tactic| k_dflt (refine' code_nestL ?k1 ?k2 ?k3 ?k4 ?k5 ?kA ?kF ?kK ?k6 ?k7 ?k8 ?k9 ?kB ?_ ?c2 ?c3 ?c4 ?c5; (case kA => exact rfl); (case kF => exact rfl); (case kK => assumption); (case k1 => k_asm); (case k2 => k_asm); (case k3 => k_asm); (case k4 => k_asm); (case k5 => k_asm); (case k6 => k_mem); (case k7 => exact codeRec_news (by k_asm) (by k_mem) (by assumption) (by assumption)); (case k8 => ktr_room); (case k9 => exact BindsTo.of_eq rfl); (case c5 => decide); (case kB => exact locs rfl); (case c2 => exact rfl); (case c3 => exact rfl); (case c4 => exact rfl); k_whole))
local macro_rules | `(tactic| walk_at "exec If") => `(tactic| (refine Hold.on ?_))
theorem sub_news {h₀ h : Heap} {L : Addr} {l nl : List (Addr × Obj)} (N : News h₀ L h nl) (hs : ∀ q ∈ l, q ∈ nl) : News h₀ L h l := fun p hp => N p (hs p hp)
theorem known_new {prog : Program} {w : World} {o : Obj} (h : Obj.IsDictOf (intKind prog w) o []) (nl : List (Addr × Obj)) : KnownIs prog w nl o [] := by
  obtain ⟨es, ep, h1, h2, h3, h4, h5⟩ := h
  refine ⟨es, ep, [], h1, h2, ?_, (fun _ h => nomatch h), .nil, rfl⟩
  cases hl : es.toList with
  | nil => rfl
  | cons a r => rw [hl] at h4; cases h4
theorem head_ints {h₀ h : Heap} {L D : Addr} {u : Str → Option Value} {x y : Int} {tr tq : Tok}
    (F : Fr h₀ L h (fun z => if z = Str.ofString "order" then some (.ref D) else if z = Str.ofString "rows" then some (.int (1 + x.fmod 3) tr) else if z = Str.ofString "squares" then some (.int (1 + y.fmod 4) tq) else u z)) :
    ∃ (r q : Nat) (v : Str → Option Value), (1 ≤ r ∧ r ≤ 3) ∧ (1 ≤ q ∧ q ≤ 4) ∧ Fr h₀ L h (kstB v [(Str.ofString "rows", .int (r : Int) tr), (Str.ofString "squares", .int (q : Int) tq), (Str.ofString "order", .ref D)]) := by
  have h1 := Int.fmod_nonneg_of_pos x (show (0 : Int) < 3 by decide)
  have h2 := Int.fmod_lt_of_pos x (show (0 : Int) < 3 by decide)
  have h3 := Int.fmod_nonneg_of_pos y (show (0 : Int) < 4 by decide)
  have h4 := Int.fmod_lt_of_pos y (show (0 : Int) < 4 by decide)
  refine ⟨(1 + x.fmod 3).toNat, (1 + y.fmod 4).toNat, (fun z => if z = Str.ofString "order" then some (.ref D) else if z = Str.ofString "rows" then some (.int (1 + x.fmod 3) tr) else if z = Str.ofString "squares" then some (.int (1 + y.fmod 4) tq) else u z), by omega, by omega, ?_⟩
  rw [kst_self (m := (fun z => if z = Str.ofString "order" then some (.ref D) else if z = Str.ofString "rows" then some (.int (1 + x.fmod 3) tr) else if z = Str.ofString "squares" then some (.int (1 + y.fmod 4) tq) else u z))]
  · exact F
  · intro n hn
    rw [Int.toNat_of_nonneg (by omega), Int.toNat_of_nonneg (by omega)] at hn
    simp only [List.mem_cons, List.not_mem_nil, or_false] at hn
    rcases hn with rfl | rfl | rfl <;> rfl
theorem lawx : PySem.Challenge.rw_go0002_02.Holds := hd (by
  k_go0
  all_goals (try k_fold)
  k_steps
  refine Hold.off ?_
  rename_i D _ lD K _ oK lo _ _ hi _ lK _ _ _ _ _ _ oC F9 N9 dC
  (rename 55 < _ ∧ 48 < _ => l0)
  obtain ⟨r, q, v, hr, hq, F10⟩ := head_ints F9
  have hTT : TT [(48, tabObj #[]), (55, tabObj #[])] := ⟨[(48, tabObj #[])], [(55, tabObj #[])], .cold, .cold, rfl⟩
  refine' law_rest _ r q _ _ hr hq (tt := [(48, tabObj #[]), (55, tabObj #[])]) (z := 0) ?sB ?sX ?sT ?sP ?sU dC ?hE (known_new hi) lo ?htt ?hLD lK.1 hTT ?hnd F10 ?sN ?sR
  (case sB => assumption)
  (case sX => assumption)
  (case sT => assumption)
  (case hE => passes_own)
  (case sP => decide)
  (case sU => decide)
  case htt =>
    intro n hn
    simp only [List.mem_cons, List.not_mem_nil, or_false] at hn
    rcases hn with rfl | rfl
    · exact l0.2
    · exact l0.1
  case hLD => exact lD.2.2.2.2.2.1
  case hnd => simp
  (case sN => (refine sub_news N9 ?_; walk_at "m sub"))
  case sR =>
  intro h' tk' m' tt' htt F' N'
  refine And.intro ?_ (tt_grown htt N')
  k_steps)
end Mine
theorem PySem.Challenge.cw_go0002_02_holds : PySem.Challenge.rw_go0002_02.Holds :=
  Mine.lawx
