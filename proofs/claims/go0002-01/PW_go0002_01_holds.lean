import PyProof.Rows.All
import Wide.All
import OpenK.AllK
import Wide.FinOn
import PySem.Challenge.RW_go0002_01
open PySem PySem.W PySem.Spec PySem.Calls PyProof.Rows
-- part H1
namespace Mine
set_option Elab.async false
set_option maxRecDepth 100000
set_option maxHeartbeats 8000000
open_top hd for PySem.Challenge.rw_go0002_01
end Mine
-- part Base1
namespace Mine
set_option Elab.async false
set_option maxRecDepth 100000
set_option maxHeartbeats 8000000
theorem fill_now : (hd.heap_39, PySem.Challenge.rw_go0002_01) = (hd.heap_39, PySem.Challenge.rw_go0002_01) := by
  k_fill
  rfl
def Apart (as : List Addr) (news : List (Addr × Obj)) : Prop := ∀ b ∈ as, ∀ p ∈ news, p.1 ≠ b
def Tail (L : Addr) (news : List (Addr × Obj)) : Prop := ∀ p ∈ news, p.1 < L
theorem Tail.ne {e d : Addr} {news : List (Addr × Obj)} (h : Tail e news) (hle : @LE.le Nat _ e d) : ∀ p ∈ news, p.1 ≠ d := fun p hp e2 => by
  have h1 := h p hp
  rw [e2] at h1
  exact absurd (Nat.lt_of_lt_of_le h1 hle) (Nat.lt_irrefl _)
/-- what a call needs and gives -/
def Spec (w : World) (f : Addr) (vs : List Value) (dd uu : Nat) (pre : List (Addr × Obj)) (post : Value → List (Addr × Obj) → Prop) : Prop :=
  ∀ (prog p : Program) (loose : List Str) (mean : ExcName → Option Value) (mg mb : Str → Option Value) (dp un : Nat) (gd : Option (List Code)) (cn : Str) (cs : Scope) (a : Addr) (ccd : Value) (cl : List (Str × Addr)) (outer : List Env) (A₀ : Around) (base h₀ : Heap) (L : Addr) (m : Str → Option Value)
    (news : List (Addr × Obj)) (s : Shared) (Q E : Value → Shared → Prop),
    Below A₀ base outer h₀ → Fr h₀ L s.heap m → (hd.heap_39 w.params).In h₀ → News h₀ L s.heap (pre ++ news) → (pre.map (·.1)).Nodup → Apart (pre.map (·.1)) news → Top p loose mean mg mb h₀ → cs.kind = .function → dp + dd < recursionLimit → un + uu < cLine →
    (∀ r post' h' tk', Fr h₀ L h' m → News h₀ L h' (post' ++ news) → (post'.map (·.1)).Nodup → (∀ q ∈ post', q.1 ∈ pre.map (·.1) ∨ ∀ p ∈ news, p.1 < q.1) → post r post' → Q r { s with heap := h', toks := tk' }) →
    wpAny (model prog w) (ktrTop dp un gd cn cs L a ccd cl outer) (call (.ref f) vs) Q E s
/-- a goal set aside -/
def Hold (P : Prop) : Prop := P
theorem Hold.on {P : Prop} (h : Hold P) : P := h
theorem Hold.off {P : Prop} (h : P) : Hold P := h
inductive TabSt (P : Addr) (ln col : Int) (q : Str) : List (Addr × Obj) → Prop
  | cold : TabSt P ln col q [(P, tabObj #[])]
  | warm (c : Addr) (oc : Obj) (vs : Array Value) (t : Tok) : oc.data = .fields vs → vs[1]? = some (.str q t) → TabSt P ln col q [(P, tabObj #[rawInt ln, rawInt col, .ref c]), (c, oc)]
section
variable {prog : Program} {w : World} {A A₀ : Around} {s : Shared} {K : Frag} {L : Addr} {h₀ base : Heap} {m mg mb : Str → Option Value} {news : List (Addr × Obj)} {p : Program} {loose : List Str} {mean : ExcName → Option Value}
theorem code_defL {env : Env} {outer : List Env} {R : Result → Shared → Prop} {name qual : Str} {params : Arguments} {body : List Stmt} {scope : Scope} {dV kV doc pm cdv ct oc : Value} {an od : Option Addr} {osl : Array (Option Value)} {f : Addr} {args : Args} {binds : List (Str × Value)}
    (B : Below A₀ base outer h₀) (F : Fr h₀ L s.heap m) (X₀ : K.In h₀) (N : News h₀ L s.heap news) (T : Top p loose mean mg mb h₀) (hA : A.frames = some (env :: outer)) (hf : env.frame = some L) (hke : env.scope.kind = .function)
    (ho : K.lookup f = some ⟨oc, od, .func (fnOf name qual params body scope dV kV doc pm an cdv ct), osl⟩) (hcd : codeIn K cdv qual = true) (hroom : A.depth < recursionLimit)
    (hbind : BindsTo s (fnOf name qual params body scope dV kV doc pm an cdv ct) args binds) (hloc : ∀ y ∈ binds, scope.names.lookup y.1 = some .local)
    (h : ∀ g L' h₁, Fr h₀ L g m → Fr g L' h₁ (fun y => binds.reverse.lookup y) → News g L' h₁ news → Below A base (env :: outer) g → K.In g → Top p loose mean mg mb g → Tail L' news →
      wpAny (model prog w) (A.deeper (envOf qual scope L' f cdv)) (execs body (envOf qual scope L' f cdv))
        (fun fl s' => LeaveK h₀ L m g R (match fl with | .ret v => v | _ => .none) s')
        (fun e s' => wpAny (model prog w) (A.deeper (envOf qual scope L' f cdv)) (leaving (envOf qual scope L' f cdv) e) (fun _ s'' => R (.error e) s'') (fun e' s'' => R (.error e') s'') s')
        { s with heap := h₁, toks := s.toks + binds.length })
    (hco : scope.isCoroutine = false) (hgen : scope.isGenerator = false) (hk : scope.kind = .function)
    (hcell : ∀ x ∈ scope.names, x.2 ≠ .cell) : codeAny (model prog w) A (.call (.ref f) args) R s :=
  callX_plain (cl := []) B F N T.nolimit hA hf hke ((X₀.keeps F.keep) _ _ ho) rfl (codeRec_of (X₀.keeps F.keep) hcd) hroom hbind hloc (fun g L' h₁ FG F' N' B' st l => h g L' h₁ FG F' N' B' (X₀.keeps st) (T.keeps st) l) hcell hco hgen hk
theorem code_nestL {env : Env} {outer : List Env} {R : Result → Shared → Prop} {name qual : Str} {params : Arguments} {body : List Stmt} {scope : Scope} {cl : List (Str × Addr)} {doc pm ctv : Value} {c' : Addr} {f : Addr} {args : Args} {binds : List (Str × Value)}
    (B : Below A₀ base outer h₀) (F : Fr h₀ L s.heap m) (X₀ : K.In h₀) (N : News h₀ L s.heap news) (T : Top p loose mean mg mb h₀) (hA : A.frames = some (env :: outer)) (hf : env.frame = some L) (hke : env.scope.kind = .function)
    (ho : (f, fnMade name qual params body scope cl doc pm c' ctv) ∈ news) (hcd : s.heap.CodeRec (.ref c') qual) (hroom : A.depth < recursionLimit)
    (hbind : BindsTo s (fnX name qual params body scope cl .none .none doc pm none (.ref c') ctv) args binds) (hloc : ∀ y ∈ binds, scope.names.lookup y.1 = some .local)
    (h : ∀ g L' h₁, Fr h₀ L g m → Fr g L' h₁ (fun y => binds.reverse.lookup y) → News g L' h₁ news → Below A base (env :: outer) g → K.In g → Top p loose mean mg mb g → Tail L' news →
      wpAny (model prog w) (A.deeper (envX qual scope L' f (.ref c') cl)) (execs body (envX qual scope L' f (.ref c') cl))
        (fun fl s' => LeaveK h₀ L m g R (match fl with | .ret v => v | _ => .none) s')
        (fun e s' => wpAny (model prog w) (A.deeper (envX qual scope L' f (.ref c') cl)) (leaving (envX qual scope L' f (.ref c') cl) e) (fun _ s'' => R (.error e) s'') (fun e' s'' => R (.error e') s'') s')
        { s with heap := h₁, toks := s.toks + binds.length })
    (hco : scope.isCoroutine = false) (hgen : scope.isGenerator = false) (hk : scope.kind = .function)
    (hcell : ∀ x ∈ scope.names, x.2 ≠ .cell) : codeAny (model prog w) A (.call (.ref f) args) R s :=
  callX_plain (cl := cl) B F N T.nolimit hA hf hke (N _ ho).1 rfl hcd hroom hbind hloc (fun g L' h₁ FG F' N' B' st l => h g L' h₁ FG F' N' B' (X₀.keeps st) (T.keeps st) l) hcell hco hgen hk
theorem mul_one_K {prog : Program} {w : World} {A : Around} {E : Value → Shared → Prop} {s : Shared} {h₀ : Heap} {L : Addr} {m : Str → Option Value} {news : List (Addr × Obj)} {l : Addr} {v : Value} {k : Nat} {x : Int} {u : Tok} {Q : Value → Shared → Prop}
    (F : Fr h₀ L s.heap m) (N : News h₀ L s.heap news) (hm : (l, W.listOf #[v] k) ∈ news) (h0 : 0 ≤ x) (hhi : x ≤ 1000)
    (h : ∀ r h', Fr h₀ L h' m → News h₀ L h' ((r, W.listOf (List.replicate x.toNat v).toArray 0) :: news) → (∀ p ∈ news, p.1 < r) → Q (.ref r) { s with heap := h' }) :
    wpAny (model prog w) A (binaryOp .Mult (.ref l) (.int x u)) Q E s := by
  refine mul_list F N (N.get hm) (by omega) (by omega) (by simp; omega) ?_
  intro h4 F4 N4
  have eL : (List.foldl (fun x1 x2 => x1 ++ x2) (#[] : Array Value) (List.replicate (if (#[v] : Array Value).isEmpty = true then 0 else x.toNat) #[v])) = (List.replicate x.toNat v).toArray := by
    rw [listMul_foldl]
    simp
  rw [eL] at N4
  exact h _ _ F4 N4 fun p hp => Heap.lt_size (N p hp).1
end
end Mine
-- part D1
namespace Mine
set_option maxRecDepth 100000
set_option maxHeartbeats 8000000
def nth : List Stmt → Nat → Stmt
  | [], _ => .Pass ⟨0, 0, 0, 0⟩
  | s :: _, 0 => s
  | _ :: r, n + 1 => nth r n
def bodyOf : Stmt → List Stmt
  | .FunctionDef _ _ b _ _ _ _ _ _ _ => b
  | _ => []
def argsOf : Stmt → Arguments
  | .FunctionDef _ a _ _ _ _ _ _ _ _ => a
  | _ => default
def scopeOf : Stmt → Scope
  | .FunctionDef _ _ _ _ _ _ s _ _ _ => s
  | _ => default
noncomputable def inBody : { b : List Stmt // b = bodyOf (nth (bodyOf (nth PySem.Challenge.pw_go0002_01.main.body 4)) 1) } := by
  refine ⟨?b, ?h⟩
  rotate_left
  (conv => rhs; whnf)
noncomputable def inArgs : { b : Arguments // b = argsOf (nth (bodyOf (nth PySem.Challenge.pw_go0002_01.main.body 4)) 1) } := by
  refine ⟨?b, ?h⟩
  rotate_left
  (conv => rhs; whnf)
noncomputable def inScope : { b : Scope // b = scopeOf (nth (bodyOf (nth PySem.Challenge.pw_go0002_01.main.body 4)) 1) } := by
  refine ⟨?b, ?h⟩
  rotate_left
  (conv => rhs; whnf)


noncomputable def jnBody : { b : List Stmt // b = bodyOf (nth (bodyOf (nth PySem.Challenge.pw_go0002_01.main.body 5)) 0) } := by
  refine ⟨?b, ?h⟩
  rotate_left
  (conv => rhs; whnf)
noncomputable def jnArgs : { b : Arguments // b = argsOf (nth (bodyOf (nth PySem.Challenge.pw_go0002_01.main.body 5)) 0) } := by
  refine ⟨?b, ?h⟩
  rotate_left
  (conv => rhs; whnf)
noncomputable def jnScope : { b : Scope // b = scopeOf (nth (bodyOf (nth PySem.Challenge.pw_go0002_01.main.body 5)) 0) } := by
  refine ⟨?b, ?h⟩
  rotate_left
  (conv => rhs; whnf)
end Mine
-- part D2
namespace Mine
set_option maxRecDepth 100000
set_option maxHeartbeats 8000000
noncomputable def st1 : { b : Stmt // b = nth (bodyOf (nth PySem.Challenge.pw_go0002_01.main.body 15)) 1 } := by
  refine ⟨?b, ?h⟩
  rotate_left
  (conv => rhs; whnf)
noncomputable def st2 : { b : Stmt // b = nth (bodyOf (nth PySem.Challenge.pw_go0002_01.main.body 15)) 2 } := by
  refine ⟨?b, ?h⟩
  rotate_left
  (conv => rhs; whnf)
noncomputable def st3 : { b : Stmt // b = nth (bodyOf (nth PySem.Challenge.pw_go0002_01.main.body 15)) 3 } := by
  refine ⟨?b, ?h⟩
  rotate_left
  (conv => rhs; whnf)
noncomputable def st4 : { b : Stmt // b = nth (bodyOf (nth PySem.Challenge.pw_go0002_01.main.body 15)) 4 } := by
  refine ⟨?b, ?h⟩
  rotate_left
  (conv => rhs; whnf)
noncomputable def st5 : { b : Stmt // b = nth (bodyOf (nth PySem.Challenge.pw_go0002_01.main.body 15)) 5 } := by
  refine ⟨?b, ?h⟩
  rotate_left
  (conv => rhs; whnf)
noncomputable def st6 : { b : Stmt // b = nth (bodyOf (nth PySem.Challenge.pw_go0002_01.main.body 15)) 6 } := by
  refine ⟨?b, ?h⟩
  rotate_left
  (conv => rhs; whnf)
noncomputable def st7 : { b : Stmt // b = nth (bodyOf (nth PySem.Challenge.pw_go0002_01.main.body 15)) 7 } := by
  refine ⟨?b, ?h⟩
  rotate_left
  (conv => rhs; whnf)
noncomputable def st8 : { b : Stmt // b = nth (bodyOf (nth PySem.Challenge.pw_go0002_01.main.body 15)) 8 } := by
  refine ⟨?b, ?h⟩
  rotate_left
  (conv => rhs; whnf)
noncomputable def st9 : { b : Stmt // b = nth (bodyOf (nth PySem.Challenge.pw_go0002_01.main.body 15)) 9 } := by
  refine ⟨?b, ?h⟩
  rotate_left
  (conv => rhs; whnf)
noncomputable def st10 : { b : Stmt // b = nth (bodyOf (nth PySem.Challenge.pw_go0002_01.main.body 15)) 10 } := by
  refine ⟨?b, ?h⟩
  rotate_left
  (conv => rhs; whnf)
noncomputable def st11 : { b : Stmt // b = nth (bodyOf (nth PySem.Challenge.pw_go0002_01.main.body 15)) 11 } := by
  refine ⟨?b, ?h⟩
  rotate_left
  (conv => rhs; whnf)
noncomputable def lawScope : { b : Scope // b = scopeOf (nth PySem.Challenge.pw_go0002_01.main.body 15) } := by
  refine ⟨?b, ?h⟩
  rotate_left
  (conv => rhs; whnf)
end Mine
-- part M1
namespace Mine
theorem land_high (x S : Nat) : x &&& (x / 2 ^ S * 2 ^ S) = x / 2 ^ S * 2 ^ S := by
  rw [← Nat.shiftRight_eq_div_pow, ← Nat.shiftLeft_eq]
  apply Nat.eq_of_testBit_eq
  intro i
  rw [Nat.testBit_and, Nat.testBit_shiftLeft, Nat.testBit_shiftRight]
  by_cases h : S ≤ i
  · simp [h]
  · simp [h]
theorem xor_low (x : Int) (S : Nat) (hx : 0 ≤ x) : Builtin.bitXor x (x.fdiv (2 ^ ((S : Int)).toNat) * 2 ^ ((S : Int)).toNat) = x % 2 ^ S := by
  obtain ⟨n, rfl⟩ := Int.eq_ofNat_of_zero_le hx
  rw [Int.fdiv_eq_ediv_of_nonneg _ (by exact Int.le_of_lt (Int.pow_pos (by decide))), bitXor_and, Int.toNat_natCast]
  have e : ((n : Int) / 2 ^ S * 2 ^ S) = ((n / 2 ^ S * 2 ^ S : Nat) : Int) := by
    simp [Int.natCast_mul, Int.natCast_ediv, Int.natCast_pow]
  rw [e]
  have h2 : Builtin.bitAnd (n : Int) ((n / 2 ^ S * 2 ^ S : Nat) : Int) = ((n / 2 ^ S * 2 ^ S : Nat) : Int) := by
    unfold Builtin.bitAnd
    rw [decide_eq_true (show (0 : Int) ≤ (n : Int) by omega), decide_eq_true (show (0 : Int) ≤ ((n / 2 ^ S * 2 ^ S : Nat) : Int) by omega)]
    show (((n : Int).toNat &&& ((n / 2 ^ S * 2 ^ S : Nat) : Int).toNat : Nat) : Int) = _
    rw [Int.toNat_natCast, Int.toNat_natCast, land_high]
  rw [h2]
  have h3 : ((n : Int) % 2 ^ S) = ((n % 2 ^ S : Nat) : Int) := by simp [Int.natCast_emod, Int.natCast_pow]
  rw [h3]
  have h4 := Nat.div_add_mod n (2 ^ S)
  rw [Nat.mul_comm] at h4
  omega
theorem up_eq (x : Int) (S : Nat) : x.fdiv (2 ^ ((S : Int)).toNat) = x / 2 ^ S := by
  rw [Int.fdiv_eq_ediv_of_nonneg _ (by exact Int.le_of_lt (Int.pow_pos (by decide))), Int.toNat_natCast]
theorem Spec.use {w : World} {f : Addr} {vs : List Value} {dd uu : Nat} {pre : List (Addr × Obj)} {post : Value → List (Addr × Obj) → Prop} (S : Spec w f vs dd uu pre post)
    {prog p : Program} {loose : List Str} {mean : ExcName → Option Value} {mg mb : Str → Option Value} {dp un : Nat} {gd : Option (List Code)} {cn : Str} {cs : Scope} {a : Addr} {ccd : Value} {cl : List (Str × Addr)} {outer : List Env} {A₀ : Around} {base h₀ : Heap} {L : Addr} {m : Str → Option Value}
    {nl : List (Addr × Obj)} (news : List (Addr × Obj)) {s : Shared} {Q E : Value → Shared → Prop}
    (B : Below A₀ base outer h₀) (F : Fr h₀ L s.heap m) (X : (hd.heap_39 w.params).In h₀) (N : News h₀ L s.heap nl) (hs : ∀ q ∈ pre ++ news, q ∈ nl) (hn : (pre.map (·.1)).Nodup) (ha : Apart (pre.map (·.1)) news) (T : Top p loose mean mg mb h₀) (hk : cs.kind = .function) (hd1 : dp + dd < recursionLimit) (hu : un + uu < cLine)
    (ret : ∀ r post' h' tk', Fr h₀ L h' m → News h₀ L h' (post' ++ news) → (post'.map (·.1)).Nodup → (∀ q ∈ post', q.1 ∈ pre.map (·.1) ∨ ∀ p ∈ news, p.1 < q.1) → post r post' → Q r { s with heap := h', toks := tk' }) :
    wpAny (model prog w) (ktrTop dp un gd cn cs L a ccd cl outer) (call (.ref f) vs) Q E s :=
  S prog p loose mean mg mb dp un gd cn cs a ccd cl outer A₀ base h₀ L m news s Q E B F X (fun q hq => N q (hs q hq)) hn ha T hk hd1 hu ret
def digs (n : Nat) (k : Nat) (x : Int) : List Int := if _h : k ≤ 1 then [x] else digs n (k / 2) (x % 2 ^ (k / 2 * n)) ++ digs n (k - k / 2) (x / 2 ^ (k / 2 * n))
termination_by k
decreasing_by all_goals omega
theorem digs_len (n : Nat) : ∀ (k : Nat) (x : Int), 1 ≤ k → (digs n k x).length = k := by
  intro k
  induction k using Nat.strongRecOn with
  | ind k ih =>
    intro x h1
    unfold digs
    by_cases h : k ≤ 1
    · rw [dif_pos h]; simp; omega
    · rw [dif_neg h, List.length_append, ih _ (by omega) _ (by omega), ih _ (by omega) _ (by omega)]; omega
theorem splice {α : Type} (ns a b : List α) (lo j k : Nat) (ha : a.length = j) (hjk : j ≤ k) (hk : lo + k ≤ ns.length) :
    (ns.take lo ++ a ++ ns.drop (lo + j)).take (lo + j) ++ b ++ (ns.take lo ++ a ++ ns.drop (lo + j)).drop (lo + k) = ns.take lo ++ (a ++ b) ++ ns.drop (lo + k) := by
  have hl : (ns.take lo ++ a).length = lo + j := by rw [List.length_append, List.length_take, ha]; omega
  rw [List.take_left' hl, List.drop_append, hl, List.drop_of_length_le (by omega), List.nil_append, List.drop_drop]
  rw [show lo + j + (lo + k - (lo + j)) = lo + k by omega]
  simp [List.append_assoc]
theorem emod_le_self {x b : Int} (hx : 0 ≤ x) (hb : 0 < b) : x % b ≤ x := by
  have h1 := Int.mul_ediv_add_emod x b
  have h2 : 0 ≤ b * (x / b) := Int.mul_nonneg (Int.le_of_lt hb) (Int.ediv_nonneg hx (Int.le_of_lt hb))
  omega
theorem ints_set {vs : List Value} {ns : List Int} (h : IntsAre vs ns) (i : Nat) (hi : i < ns.length) (x : Int) (t : Tok) : IntsAre (vs.set i (.int x t)) (ns.take i ++ [x] ++ ns.drop (i + 1)) := by
  rw [List.set_eq_take_append_cons_drop, if_pos (by rw [h.length]; exact hi), List.append_assoc]
  exact IntsAre.append (h.take i) (.cons x t (h.drop (i + 1)))
theorem Apart.nil {news : List (Addr × Obj)} : Apart [] news := fun _ h => nomatch h
theorem Apart.cons {b : Addr} {as : List Addr} {news : List (Addr × Obj)} (h : ∀ p ∈ news, p.1 ≠ b) (t : Apart as news) : Apart (b :: as) news := fun c hc => by
  rcases List.mem_cons.mp hc with rfl | hc
  · exact h
  · exact t c hc
theorem nd_nil : ([] : List Addr).Nodup := .nil
theorem nd_cons {b : Addr} {as : List Addr} (h : ∀ c ∈ as, c ≠ b) (t : as.Nodup) : (b :: as).Nodup := List.nodup_cons.mpr ⟨fun hm => h b hm rfl, t⟩
theorem all_nil {P : Addr → Prop} : ∀ c ∈ ([] : List Addr), P c := fun _ h => nomatch h
theorem all_cons {P : Addr → Prop} {b : Addr} {as : List Addr} (h : P b) (t : ∀ c ∈ as, P c) : ∀ c ∈ b :: as, P c := fun c hc => by
  rcases List.mem_cons.mp hc with rfl | hc
  · exact h
  · exact t c hc
theorem sub_cons {q : Addr × Obj} {l nl : List (Addr × Obj)} (h : q ∈ nl) (t : ∀ p ∈ l, p ∈ nl) : ∀ p ∈ q :: l, p ∈ nl := List.forall_mem_cons.mpr ⟨h, t⟩
theorem sub_self {l : List (Addr × Obj)} : ∀ p ∈ l, p ∈ l := fun _ h => h
theorem sub_tail {q : Addr × Obj} {l nl : List (Addr × Obj)} (t : ∀ p ∈ l, p ∈ nl) : ∀ p ∈ l, p ∈ q :: nl := fun p hp => .tail _ (t p hp)
theorem sub_nil {nl : List (Addr × Obj)} : ∀ p ∈ ([] : List (Addr × Obj)), p ∈ nl := fun _ h => nomatch h
/-- where the ledger's new part lies -/
def Over (pre news post : List (Addr × Obj)) : Prop := ∀ q ∈ post, q.1 ∈ pre.map (·.1) ∨ ∀ p ∈ news, p.1 < q.1
theorem Over.nil {pre news : List (Addr × Obj)} : Over pre news [] := fun _ h => nomatch h
theorem Over.old {pre news post : List (Addr × Obj)} {b : Addr} {o : Obj} (h : b ∈ pre.map (·.1)) (t : Over pre news post) : Over pre news ((b, o) :: post) := fun q hq => by
  rcases List.mem_cons.mp hq with rfl | hq
  · exact .inl h
  · exact t q hq
theorem Over.new {pre news post : List (Addr × Obj)} {b : Addr} {o : Obj} (h : ∀ p ∈ news, p.1 < b) (t : Over pre news post) : Over pre news ((b, o) :: post) := fun q hq => by
  rcases List.mem_cons.mp hq with rfl | hq
  · exact .inr h
  · exact t q hq
theorem Tail.lt {e d : Addr} {news : List (Addr × Obj)} (h : Tail e news) (hle : @LE.le Nat _ e d) : ∀ p ∈ news, p.1 < d := fun p hp => Nat.lt_of_lt_of_le (h p hp) hle
theorem ltA {a b : Nat} (h : a < b) : @LT.lt Addr _ a b := h
def nd (x : Int) (n : Nat) : Nat := (Builtin.Int.intBits x + n - 1) / n
theorem nd_eq (x : Int) (n : Nat) (hn : 1 ≤ n) : ((Builtin.Int.intBits x : Int) + (n : Int) - 1).fdiv (n : Int) = (nd x n : Int) := by
  rw [Int.fdiv_eq_ediv_of_nonneg _ (by omega)]
  unfold nd
  rw [show (Builtin.Int.intBits x : Int) + (n : Int) - 1 = ((Builtin.Int.intBits x + n - 1 : Nat) : Int) by omega]
  exact (Int.natCast_ediv _ _).symm
theorem nd_zero (n : Nat) (hn : 1 ≤ n) : nd 0 n = 0 := by
  have : Builtin.Int.intBits 0 = 0 := by decide
  unfold nd
  rw [this]
  exact Nat.div_eq_of_lt (by omega)
theorem bits_pos {x : Int} (h : x ≠ 0) : 1 ≤ Builtin.Int.intBits x := by
  unfold Builtin.Int.intBits
  split
  · rename_i hx
    exact absurd (by simpa using hx) h
  · omega
theorem nd_pos {x : Int} {n : Nat} (h : x ≠ 0) (hn : 1 ≤ n) : 1 ≤ nd x n := by
  have := bits_pos h
  unfold nd
  exact (Nat.le_div_iff_mul_le (by omega)).mpr (by omega)
theorem nd_mul (x : Int) (n : Nat) (hx : Builtin.Int.intBits x ≤ 64) (hn : n ≤ 64) : nd x n * n ≤ 128 := by
  unfold nd
  exact Nat.le_trans (Nat.div_mul_le_self _ _) (by omega)
theorem nd_le (x : Int) (n : Nat) (hx : Builtin.Int.intBits x ≤ 64) (hn1 : 1 ≤ n) (hn : n ≤ 64) : nd x n ≤ 128 := by
  have := nd_mul x n hx hn
  have : nd x n ≤ nd x n * n := Nat.le_mul_of_pos_right _ (by omega)
  omega
theorem ints_rep (k : Nat) (x : Int) (t : Tok) : IntsAre (List.replicate k (.int x t)) (List.replicate k x) := by
  induction k with
  | zero => exact .nil
  | succ k ih => exact .cons x t ih
def undig (n : Nat) (ns : List Int) (k lo : Nat) : Int := if _h : k ≤ 1 then ns.getD lo 0 else undig n ns (k - k / 2) (lo + k / 2) * 2 ^ (k / 2 * n) + undig n ns (k / 2) lo
termination_by k
decreasing_by all_goals omega
theorem pow_split (n j k : Nat) (h : j ≤ k) : (2 : Int) ^ (k * n) = 2 ^ ((k - j) * n) * 2 ^ (j * n) := by
  rw [← Int.pow_add, ← Nat.add_mul, Nat.sub_add_cancel h]
theorem undig_bound (n : Nat) (ns : List Int) (hd : ∀ d ∈ ns, 0 ≤ d ∧ d < 2 ^ n) : ∀ (k lo : Nat), 1 ≤ k → 0 ≤ undig n ns k lo ∧ undig n ns k lo < 2 ^ (k * n) := by
  intro k
  induction k using Nat.strongRecOn with
  | ind k ih =>
    intro lo h1
    unfold undig
    by_cases h : k ≤ 1
    · rw [dif_pos h]
      have hk : k = 1 := by omega
      subst hk
      have hp : (0 : Int) < 2 ^ n := Int.pow_pos (by decide)
      rw [List.getD_eq_getElem?_getD, Nat.one_mul]
      cases hq : ns[lo]? with
      | none => exact ⟨Int.le_refl _, hp⟩
      | some d => exact hd d (List.mem_of_getElem? hq)
    · rw [dif_neg h]
      obtain ⟨a1, a2⟩ := ih (k - k / 2) (by omega) (lo + k / 2) (by omega)
      obtain ⟨b1, b2⟩ := ih (k / 2) (by omega) lo (by omega)
      rw [pow_split n (k / 2) k (by omega)]
      have hp : (0 : Int) < 2 ^ (k / 2 * n) := Int.pow_pos (by decide)
      generalize undig n ns (k - k / 2) (lo + k / 2) = A at *
      generalize undig n ns (k / 2) lo = B at *
      generalize (2 : Int) ^ (k / 2 * n) = P at *
      generalize (2 : Int) ^ ((k - k / 2) * n) = R at *
      have h3 : 0 ≤ A * P := Int.mul_nonneg a1 (Int.le_of_lt hp)
      have h4 : (A + 1) * P ≤ R * P := Int.mul_le_mul_of_nonneg_right (by omega) (Int.le_of_lt hp)
      rw [Int.add_mul, Int.one_mul] at h4
      exact ⟨by omega, by omega⟩
theorem two_pow_le {a b : Nat} (h : a ≤ b) : (2 : Int) ^ a ≤ 2 ^ b := by
  have h1 : (2 : Nat) ^ a ≤ 2 ^ b := Nat.pow_le_pow_right (by decide) h
  have h2 := Int.ofNat_le.mpr h1
  rw [Int.natCast_pow, Int.natCast_pow] at h2
  exact h2
theorem bits_le_of {x : Int} {m : Nat} (h0 : 0 ≤ x) (h : x < 2 ^ m) : Builtin.Int.intBits x ≤ m := by
  unfold Builtin.Int.intBits
  split
  · exact Nat.zero_le _
  · rename_i hx
    have hx' : x ≠ 0 := by simpa using hx
    have : x.natAbs < 2 ^ m := by
      have e : ((x.natAbs : Nat) : Int) = x := Int.natAbs_of_nonneg h0
      have h2 : ((x.natAbs : Nat) : Int) < ((2 ^ m : Nat) : Int) := by
        rw [e, Int.natCast_pow]; exact h
      exact Int.ofNat_lt.mp h2
    have := (Nat.log2_lt (by omega)).mpr this
    omega
abbrev tup2 (x y : Int) (t1 t2 : Tok) : Obj := { cls := .type "tuple", data := .seq #[.int x t1, .int y t2] }
theorem divmod_K {prog : Program} {w : World} {A : Around} {E : Value → Shared → Prop} {s : Shared} {a b : Int} {t u : Tok} {Q : Value → Shared → Prop} {h₀ : Heap} {L : Addr} {m : Str → Option Value} {news : List (Addr × Obj)} (F : Fr h₀ L s.heap m) (N : News h₀ L s.heap news) (hb : 0 < b) (hb2 : b < 1073741824)
    (h : ∀ r t1 t2 h' tk, Fr h₀ L h' m → News h₀ L h' ((r, tup2 (a / b) (a % b) t1 t2) :: news) → (∀ p ∈ news, p.1 < r) → Q (.ref r) { s with toks := tk, heap := h' }) :
    wpAny (model prog w) A (call (.builtin "divmod") [.int a t, .int b u]) Q E s := by
  refine divmod_N F N (by omega) (fun h' F' N' => ?_) (Or.inl (PyProof.noPylong_small (by omega)))
  rw [Int.fdiv_eq_ediv_of_nonneg _ (by omega), Int.fmod_eq_emod_of_nonneg _ (by omega)] at N'
  exact h _ _ _ _ _ F' N' fun p hp => Heap.lt_size (N p hp).1
end Mine
-- part V0
namespace Mine
set_option Elab.async false
set_option maxRecDepth 100000
set_option maxHeartbeats 8000000
local macro_rules | `(tactic| walk_at "call ref") => `(tactic| (refine Hold.on ?_))
local macro_rules | `(tactic| k_all) => `(tactic| first | assumption | (refine' Tail.ne ?ta ?tb; (case ta => assumption); (case tb => (try dsimp only); omega)) | fail "k_all")
local macro_rules | `(tactic| walk_at "m nodup") => `(tactic| repeat' (first | exact nd_nil | exact all_nil | refine nd_cons ?_ ?_ | refine all_cons ?_ ?_ | k_ne))
local macro_rules | `(tactic| walk_at "m apart") => `(tactic| repeat' (first | exact Apart.nil | refine Apart.cons ?_ ?_ | k_all))
local macro_rules | `(tactic| walk_at "m sub") => `(tactic| repeat' (first | exact sub_nil | exact sub_self | (refine' sub_cons ?ta ?_; (case ta => k_mem)) | refine sub_tail ?_ | fail "m sub"))
local macro_rules | `(tactic| walk_at "m lt") => `(tactic| repeat' (first | refine List.forall_mem_cons.mpr ⟨?_, ?_⟩ | (refine' Tail.lt ?ta ?tb; (case ta => assumption); (case tb => (try dsimp only); omega)) | (refine ltA ?_; (try dsimp only); omega) | fail "m lt"))
local macro_rules | `(tactic| walk_at "m enterC") => `(tactic| k_dflt (refine' code_defC ?k1 ?k2 ?k3 ?k4 ?k5 ?kA ?kF ?kK ?k6 ?k7 ?k8 ?k9 ?kB ?kD ?_ ?c2 ?c3 ?c4; (case kA => exact rfl); (case kF => exact rfl); (case kK => assumption); (case k1 => k_asm); (case k2 => k_asm); (case k3 => k_asm); (case k4 => k_asm); (case k5 => k_asm); (case k6 => k_is); (case k7 => k_is); (case k8 => ktr_room); (case k9 => first | exact BindsTo.of_eq rfl | (refine' kp_binds ?kx ?ke; (case kx => k_in); (case ke => exact fun _ => rfl)) | fail "m enter: no rule for these arguments"); (case kB => exact rfl); (case kD => decide +kernel); (case c2 => exact rfl); (case c3 => exact rfl); (case c4 => exact rfl); k_whole))
local macro_rules | `(tactic| walk_at "m enterL") => `(tactic| k_dflt (refine' code_defL ?k1 ?k2 ?k3 ?k4 ?k5 ?kA ?kF ?kK ?k6 ?k7 ?k8 ?k9 ?kB ?_ ?c2 ?c3 ?c4 ?c5; (case kA => exact rfl); (case kF => exact rfl); (case kK => assumption); (case k1 => k_asm); (case k2 => k_asm); (case k3 => k_asm); (case k4 => k_asm); (case k5 => k_asm); (case k6 => k_is); (case k7 => k_is); (case k8 => ktr_room); (case k9 => first | exact BindsTo.of_eq rfl | (refine' kp_binds ?kx ?ke; (case kx => k_in); (case ke => exact fun _ => rfl)) | fail "m enter: no rule for these arguments"); (case c5 => decide); (case kB => exact locs rfl); (case c2 => exact rfl); (case c3 => exact rfl); (case c4 => exact rfl); k_whole))
local macro_rules | `(tactic| walk_at "m enterN") => `(tactic| k_dflt (refine' code_nestL ?k1 ?k2 ?k3 ?k4 ?k5 ?kA ?kF ?kK ?k6 ?k7 ?k8 ?k9 ?kB ?_ ?c2 ?c3 ?c4 ?c5; (case kA => exact rfl); (case kF => exact rfl); (case kK => assumption); (case k1 => k_asm); (case k2 => k_asm); (case k3 => k_asm); (case k4 => k_asm); (case k5 => k_asm); (case k6 => k_mem); (case k7 => exact codeRec_news (by k_asm) (by k_mem) (by assumption) (by assumption)); (case k8 => ktr_room); (case k9 => exact BindsTo.of_eq rfl); (case c5 => decide); (case kB => exact locs rfl); (case c2 => exact rfl); (case c3 => exact rfl); (case c4 => exact rfl); k_whole))
noncomputable abbrev lawEnv (L fa : Addr) (ccd : Value) : Env := envOfC (Str.ofString "law") lawScope.1 L fa ccd
noncomputable abbrev lawA (dp un : Nat) (gd : Option (List Code)) (L fa : Addr) (ccd : Value) (outer : List Env) : Around := ktrTop dp un gd (Str.ofString "law") lawScope.1 L fa ccd (cellsFrom (L + 1) lawScope.1.names []) outer
end Mine
-- part Z1
namespace Mine
abbrev q30 : Str := Str.ofString "_int2digits" ++ (".<locals>." : Str) ++ Str.ofString "inner"
abbrev q37 : Str := Str.ofString "_digits2int" ++ (".<locals>." : Str) ++ Str.ofString "inner"
def TT (tt : List (Addr × Obj)) : Prop := ∃ t1 t2, TabSt 30 32 4 q30 t1 ∧ TabSt 37 47 4 q37 t2 ∧ tt = t1 ++ t2
def Ok (rest tt : List (Addr × Obj)) : Prop := TT tt ∧ (tt.map (·.1)).Nodup ∧ Apart (tt.map (·.1)) rest
theorem three_of (ns : List Int) (f : Int → Int) (hf : ∀ k, 1 ≤ f k ∧ f k ≤ 30) : ∃ a b c, (List.take 3 (ns ++ [0, 0, 0])).map f = [a, b, c] ∧ (1 ≤ a ∧ a ≤ 30) ∧ (1 ≤ b ∧ b ≤ 30) ∧ (1 ≤ c ∧ c ≤ 30) := by
  match ns with
  | [] => exact ⟨_, _, _, rfl, hf _, hf _, hf _⟩
  | [x] => exact ⟨_, _, _, rfl, hf _, hf _, hf _⟩
  | [x, y] => exact ⟨_, _, _, rfl, hf _, hf _, hf _⟩
  | x :: y :: z :: r => exact ⟨_, _, _, rfl, hf _, hf _, hf _⟩
theorem ints3 {vs : List Value} {a b c : Int} (h : IntsAre vs [a, b, c]) : ∃ t u v, vs = [.int a t, .int b u, .int c v] := by
  obtain ⟨t, vs1, rfl, h1⟩ := h.cons_inv
  obtain ⟨u, vs2, rfl, h2⟩ := h1.cons_inv
  obtain ⟨v, vs3, rfl, h3⟩ := h2.cons_inv
  cases h3
  exact ⟨t, u, v, rfl⟩
theorem mem_rightA {α : Type} {x : α} {l r : List α} (h : x ∈ r) : x ∈ l ++ r := List.mem_append_right _ h
theorem tt_grown {h₀ h : Heap} {L : Addr} {tt : List (Addr × Obj)} (t : TT tt) (N : News h₀ L h tt) : GrownAll [(41, 37), (34, 30)] h := by
  obtain ⟨t1, t2, h1, h2, rfl⟩ := t
  refine ⟨?_, ?_, trivial⟩
  · cases h2 with
    | cold => exact GrownAt.of N (List.mem_append_right _ (.head _))
    | warm c oc vs t e1 e2 => exact GrownAt.of N (List.mem_append_right _ (.head _))
  · cases h1 with
    | cold => exact GrownAt.of N (List.mem_append_left _ (.head _))
    | warm c oc vs t e1 e2 => exact GrownAt.of N (List.mem_append_left _ (.head _))
def LawRest : Prop := ∀ (w : World) (a b c : Int) (ta tb tc : Tok) (ha : 1 ≤ a ∧ a ≤ 30) (hb : 1 ≤ b ∧ b ≤ 30) (hc : 1 ≤ c ∧ c ≤ 30)
    {prog p : Program} {loose : List Str} {mean : ExcName → Option Value} {mg mb : Str → Option Value} {dp un : Nat} {gd : Option (List Code)} {fa : Addr} {ccd : Value} {outer : List Env} {A₀ : Around} {base h₀ : Heap} {L : Addr} {u : Str → Option Value} {s : Shared}
    {Q : Flow → Shared → Prop} {E : Value → Shared → Prop} {tt : List (Addr × Obj)} {oO oA oB : Obj} {vO : Option Value} (hE : PassesOwn (model prog w) (lawA dp un gd L fa ccd outer) (lawEnv L fa ccd) E)
    (B : Below A₀ base outer h₀) (F : Fr h₀ L s.heap (kstB u [(Str.ofString "c", .int c tc)])) (X : (hd.heap_39 w.params).In h₀) (N : News h₀ L s.heap (tt ++ [(L + 1 + 1 + 1, oO), (L + 1 + 1, oB), (L + 1, oA)])) (G0 : Ok [(L + 1 + 1 + 1, oO), (L + 1 + 1, oB), (L + 1, oA)] tt)
    (T : Top p loose mean mg mb h₀) (hd1 : dp + 200 < recursionLimit) (hu : un + 1600 < cLine) (hoA : oA.data = .cell (some (.int a ta))) (hoB : oB.data = .cell (some (.int b tb))) (hoO : oO.data = .cell vO)
    (ret : ∀ h' tk' m' tt', TT tt' → Fr h₀ L h' m' → News h₀ L h' tt' → Q (.ret (.bool true)) { s with heap := h', toks := tk' }),
    wpAny (model prog w) (lawA dp un gd L fa ccd outer) (exec st1.1 (lawEnv L fa ccd)) (fun f s' => match f with | .next => wpAny (model prog w) (lawA dp un gd L fa ccd outer) (execs [st2.1, st3.1, st4.1, st5.1, st6.1, st7.1, st8.1, st9.1, st10.1, st11.1] (lawEnv L fa ccd)) Q E s' | f => Q f s') E s
end Mine
-- part W1
namespace Mine
set_option Elab.async false
set_option maxRecDepth 100000
set_option maxHeartbeats 8000000
local macro_rules | `(tactic| walk_at "call ref") => `(tactic| (refine Hold.on ?_))
local macro_rules | `(tactic| k_all) => `(tactic| first | assumption | (refine' Tail.ne ?ta ?tb; (case ta => assumption); (case tb => (try dsimp only); omega)) | fail "k_all")
local macro_rules | `(tactic| walk_at "m nodup") => `(tactic| repeat' (first | exact nd_nil | exact all_nil | refine nd_cons ?_ ?_ | refine all_cons ?_ ?_ | k_ne))
local macro_rules | `(tactic| walk_at "m apart") => `(tactic| repeat' (first | exact Apart.nil | refine Apart.cons ?_ ?_ | k_all))
local macro_rules | `(tactic| walk_at "m sub") => `(tactic| repeat' (first | exact sub_nil | exact sub_self | (refine' sub_cons ?ta ?_; (case ta => k_mem)) | refine sub_tail ?_ | fail "m sub"))
local macro_rules | `(tactic| walk_at "m lt") => `(tactic| repeat' (first | refine List.forall_mem_cons.mpr ⟨?_, ?_⟩ | (refine' Tail.lt ?ta ?tb; (case ta => assumption); (case tb => (try dsimp only); omega)) | (refine ltA ?_; (try dsimp only); omega) | fail "m lt"))
local macro_rules | `(tactic| walk_at "m enterC") => `(tactic| k_dflt (refine' code_defC ?k1 ?k2 ?k3 ?k4 ?k5 ?kA ?kF ?kK ?k6 ?k7 ?k8 ?k9 ?kB ?kD ?_ ?c2 ?c3 ?c4; (case kA => exact rfl); (case kF => exact rfl); (case kK => assumption); (case k1 => k_asm); (case k2 => k_asm); (case k3 => k_asm); (case k4 => k_asm); (case k5 => k_asm); (case k6 => k_is); (case k7 => k_is); (case k8 => ktr_room); (case k9 => first | exact BindsTo.of_eq rfl | (refine' kp_binds ?kx ?ke; (case kx => k_in); (case ke => exact fun _ => rfl)) | fail "m enter: no rule for these arguments"); (case kB => exact rfl); (case kD => decide +kernel); (case c2 => exact rfl); (case c3 => exact rfl); (case c4 => exact rfl); k_whole))
local macro_rules | `(tactic| walk_at "m enterL") => `(tactic| k_dflt (refine' code_defL ?k1 ?k2 ?k3 ?k4 ?k5 ?kA ?kF ?kK ?k6 ?k7 ?k8 ?k9 ?kB ?_ ?c2 ?c3 ?c4 ?c5; (case kA => exact rfl); (case kF => exact rfl); (case kK => assumption); (case k1 => k_asm); (case k2 => k_asm); (case k3 => k_asm); (case k4 => k_asm); (case k5 => k_asm); (case k6 => k_is); (case k7 => k_is); (case k8 => ktr_room); (case k9 => first | exact BindsTo.of_eq rfl | (refine' kp_binds ?kx ?ke; (case kx => k_in); (case ke => exact fun _ => rfl)) | fail "m enter: no rule for these arguments"); (case c5 => decide); (case kB => exact locs rfl); (case c2 => exact rfl); (case c3 => exact rfl); (case c4 => exact rfl); k_whole))
local macro_rules | `(tactic| walk_at "m enterN") => `(tactic| k_dflt (refine' code_nestL ?k1 ?k2 ?k3 ?k4 ?k5 ?kA ?kF ?kK ?k6 ?k7 ?k8 ?k9 ?kB ?_ ?c2 ?c3 ?c4 ?c5; (case kA => exact rfl); (case kF => exact rfl); (case kK => assumption); (case k1 => k_asm); (case k2 => k_asm); (case k3 => k_asm); (case k4 => k_asm); (case k5 => k_asm); (case k6 => k_mem); (case k7 => exact codeRec_news (by k_asm) (by k_mem) (by assumption) (by assumption)); (case k8 => ktr_room); (case k9 => exact BindsTo.of_eq rfl); (case c5 => decide); (case kB => exact locs rfl); (case c2 => exact rfl); (case c3 => exact rfl); (case c4 => exact rfl); k_whole))
local macro_rules | `(tactic| walk_at "exec If") => `(tactic| (refine Hold.on ?_))
local macro_rules | `(tactic| walk_at "m mem") => `(tactic| with_reducible (first | exact List.mem_cons_self | (refine' List.mem_cons_of_mem _ ?_; walk_at "m mem") | (refine' mem_rightA ?_; walk_at "m mem") | fail "m mem"))
theorem sub_news {h₀ h : Heap} {L : Addr} {l nl : List (Addr × Obj)} (N : News h₀ L h nl) (hs : ∀ q ∈ l, q ∈ nl) : News h₀ L h l := fun p hp => N p (hs p hp)
local macro_rules | `(tactic| k_mem) => `(tactic| walk_at "m mem")
theorem law1_of (hLR : LawRest) : PySem.Challenge.rw_go0002_01.Holds := hd (by
  k_go0
  all_goals (try k_fold)
  k_steps
  (rename IntsAre _ (List.map _ _) => hI8)
  rename_i hL8 D8 h8 tk8 F8 N8 l8
  obtain ⟨a, b, c, hl, ha, hb, hc⟩ := three_of _ (fun k' => 1 + k'.fmod 30) (fun k => ⟨by have := Int.fmod_nonneg_of_pos k (show (0 : Int) < 30 by decide); omega, by have := Int.fmod_lt_of_pos k (show (0 : Int) < 30 by decide); omega⟩)
  rw [hl] at hI8
  obtain ⟨ta, tb, tc, rfl⟩ := ints3 hI8
  clear hL8 hI8 hl
  k_steps
  refine Hold.off ?_
  rename_i h9a h9b oA dA h9c oB dB h9 F9 N9
  have hTT : TT [(30, tabObj #[]), (37, tabObj #[])] := ⟨[(30, tabObj #[])], [(37, tabObj #[])], .cold, .cold, rfl⟩
  refine' hLR _ a b c ta tb tc ha hb hc (tt := [(30, tabObj #[]), (37, tabObj #[])]) ?hE ?sB ?sF ?sX ?sN ?sG ?sT ?sP ?sU dA dB ?sO ?sR
  (case sF => exact F9)
  (case sB => assumption)
  (case sX => assumption)
  (case sT => assumption)
  (case hE => passes_own)
  (case sN => (refine sub_news N9 ?_; dsimp only [List.cons_append, List.nil_append]; walk_at "m sub"))
  (case sO => assumption)
  (case sP => decide)
  (case sU => decide)
  (case sG => exact ⟨hTT, by simp, by dsimp only [List.map]; walk_at "m apart"⟩)
  case sR =>
  intro h' tk' m' tt' htt F' N'
  refine And.intro ?_ (tt_grown htt N')
  k_steps
  )
end Mine
-- part M2
namespace Mine
def lev (B : Int) : List Int → Int
  | [] => 0
  | d :: r => d + B * lev B r
theorem lev_append (B : Int) : ∀ a b : List Int, lev B (a ++ b) = lev B a + B ^ a.length * lev B b
  | [], b => by simp [lev]
  | d :: r, b => by
    have ih := lev_append B r b
    show d + B * lev B (r ++ b) = d + B * lev B r + B ^ (r.length + 1) * lev B b
    rw [ih, Int.mul_add, Int.pow_succ, Int.mul_comm (B ^ r.length) B, Int.mul_assoc, Int.add_assoc]
theorem digs_val (n : Nat) : ∀ (k : Nat) (x : Int), 1 ≤ k → lev (2 ^ n) (digs n k x) = x := by
  intro k
  induction k using Nat.strongRecOn with
  | ind k ih =>
    intro x h1
    unfold digs
    by_cases h : k ≤ 1
    · rw [dif_pos h]; simp [lev]
    · rw [dif_neg h, lev_append, ih _ (by omega) _ (by omega), ih _ (by omega) _ (by omega), digs_len _ _ _ (by omega), ← Int.pow_mul, Nat.mul_comm n]
      have := Int.mul_ediv_add_emod x (2 ^ (k / 2 * n))
      omega
theorem digs_bound (n : Nat) : ∀ (k : Nat) (x : Int), 1 ≤ k → 0 ≤ x → x < 2 ^ (k * n) → ∀ d ∈ digs n k x, 0 ≤ d ∧ d < 2 ^ n := by
  intro k
  induction k using Nat.strongRecOn with
  | ind k ih =>
    intro x h1 h0 hx d hd
    unfold digs at hd
    by_cases h : k ≤ 1
    · rw [dif_pos h] at hd
      have hk : k = 1 := by omega
      subst hk
      rw [Nat.one_mul] at hx
      rw [List.mem_singleton.mp hd]
      exact ⟨h0, hx⟩
    · rw [dif_neg h] at hd
      have hp : (0 : Int) < 2 ^ (k / 2 * n) := Int.pow_pos (by decide)
      rcases List.mem_append.mp hd with hd | hd
      · exact ih _ (by omega) _ (by omega) (Int.emod_nonneg _ (by omega)) (Int.emod_lt_of_pos _ hp) d hd
      · refine ih _ (by omega) _ (by omega) (Int.ediv_nonneg h0 (by omega)) ?_ d hd
        rw [pow_split n (k / 2) k (by omega)] at hx
        exact Int.ediv_lt_of_lt_mul hp hx
theorem lev_split (B : Int) (l : List Int) (j : Nat) (h : j ≤ l.length) : lev B l = lev B (l.take j) + B ^ j * lev B (l.drop j) := by
  conv => lhs; rw [← List.take_append_drop j l]
  rw [lev_append, List.length_take, Nat.min_eq_left h]
theorem undig_val (n : Nat) (ns : List Int) : ∀ (k lo : Nat), 1 ≤ k → lo + k ≤ ns.length → undig n ns k lo = lev (2 ^ n) ((ns.drop lo).take k) := by
  intro k
  induction k using Nat.strongRecOn with
  | ind k ih =>
    intro lo h1 hl
    unfold undig
    by_cases h : k ≤ 1
    · rw [dif_pos h]
      have hk : k = 1 := by omega
      subst hk
      rw [List.getD_eq_getElem?_getD, List.getElem?_eq_getElem (by omega), List.drop_eq_getElem_cons (by omega), List.take_succ_cons, List.take_zero]
      show ns[lo] = ns[lo] + 2 ^ n * 0
      omega
    · rw [dif_neg h, ih _ (by omega) _ (by omega) (by omega), ih _ (by omega) _ (by omega) (by omega)]
      rw [lev_split (2 ^ n) ((ns.drop lo).take k) (k / 2) (by rw [List.length_take, List.length_drop]; omega)]
      rw [List.take_take, Nat.min_eq_left (by omega), List.drop_take, List.drop_drop, ← Int.pow_mul, Nat.mul_comm n, Int.mul_comm, Int.add_comm]
theorem undig_all (n : Nat) (ns : List Int) (h : ns ≠ []) : undig n ns ns.length 0 = lev (2 ^ n) ns := by
  rw [undig_val n ns ns.length 0 (by have := List.length_pos_iff.mpr h; omega) (by omega)]
  simp
theorem snocInd {α : Type} {P : List α → Prop} (h0 : P []) (hs : ∀ l d, P l → P (l ++ [d])) : ∀ l, P l := by
  have : ∀ l : List α, P l.reverse := by
    intro l
    induction l with
    | nil => exact h0
    | cons d r ih => rw [List.reverse_cons]; exact hs _ _ ih
  intro l
  rw [← List.reverse_reverse l]
  exact this _
def bev (B : Int) (l : List Int) : Int := l.foldl (fun a d => a * B + d) 0
theorem bev_snoc (B : Int) (l : List Int) (d : Int) : bev B (l ++ [d]) = bev B l * B + d := by simp [bev]
theorem bev_rev (B : Int) : ∀ l : List Int, bev B l.reverse = lev B l
  | [] => rfl
  | d :: r => by
    rw [List.reverse_cons, bev_snoc, bev_rev B r]
    show _ = d + B * lev B r
    rw [Int.mul_comm, Int.add_comm]
/-- long division: the rest and the quotient's digits, the first first -/
def ld (y B : Int) (ds : List Int) : Int × List Int := ds.foldl (fun p d => ((p.1 * B + d) % y, p.2 ++ [(p.1 * B + d) / y])) (0, [])
theorem ld_snoc (y B : Int) (ds : List Int) (d : Int) : ld y B (ds ++ [d]) = (((ld y B ds).1 * B + d) % y, (ld y B ds).2 ++ [((ld y B ds).1 * B + d) / y]) := by simp [ld]
theorem ld_len (y B : Int) (ds : List Int) : (ld y B ds).2.length = ds.length := by
  refine snocInd (P := fun ds => (ld y B ds).2.length = ds.length) rfl (fun l d ih => ?_) ds
  rw [ld_snoc]
  simp [ih]
theorem ld_ok (y B : Int) (hy : 0 < y) (hB : 0 < B) : ∀ ds : List Int, (∀ d ∈ ds, 0 ≤ d ∧ d < B) → 0 ≤ (ld y B ds).1 ∧ (ld y B ds).1 < y ∧ (∀ q ∈ (ld y B ds).2, 0 ≤ q ∧ q < B) ∧ bev B ds = bev B (ld y B ds).2 * y + (ld y B ds).1 := by
  refine snocInd (fun _ => ⟨Int.le_refl _, hy, (fun _ h => nomatch h), by simp [ld, bev]⟩) (fun l d ih h => ?_)
  · skip
    obtain ⟨a1, a2, a3, a4⟩ := ih fun x hx => h x (List.mem_append_left _ hx)
    obtain ⟨d1, d2⟩ := h d (by simp)
    rw [ld_snoc]
    generalize (ld y B l).1 = r at *
    have h0 : 0 ≤ r * B := Int.mul_nonneg a1 (Int.le_of_lt hB)
    have hlt : r * B + d < B * y := by
      have : (r + 1) * B ≤ y * B := Int.mul_le_mul_of_nonneg_right (by omega) (Int.le_of_lt hB)
      rw [Int.add_mul, Int.one_mul, Int.mul_comm y B] at this
      omega
    refine ⟨Int.emod_nonneg _ (by omega), Int.emod_lt_of_pos _ hy, ?_, ?_⟩
    · intro q hq
      rcases List.mem_append.mp hq with hq | hq
      · exact a3 q hq
      · rw [List.mem_singleton.mp hq]
        exact ⟨Int.ediv_nonneg (by omega) (Int.le_of_lt hy), Int.ediv_lt_of_lt_mul hy hlt⟩
    · rw [bev_snoc, bev_snoc, a4]
      have := Int.mul_ediv_add_emod (r * B + d) y
      rw [Int.add_mul, Int.add_mul, Int.mul_assoc, Int.mul_assoc, Int.mul_comm y B, Int.mul_comm ((r * B + d) / y) y]
      omega
theorem ld_div (y B x : Int) (hy : 0 < y) (hB : 0 < B) (ds : List Int) (hd : ∀ d ∈ ds, 0 ≤ d ∧ d < B) (hx : bev B ds = x) : bev B (ld y B ds).2 = x / y ∧ (ld y B ds).1 = x % y := by
  obtain ⟨a1, a2, _, a4⟩ := ld_ok y B hy hB ds hd
  rw [hx] at a4
  have h1 := (Int.ediv_emod_unique hy).mpr ⟨show (ld y B ds).1 + y * bev B (ld y B ds).2 = x by rw [a4, Int.mul_comm, Int.add_comm], a1, a2⟩
  exact ⟨h1.1.symm, h1.2.symm⟩
theorem nd_up {x : Int} {n : Nat} (hn : 1 ≤ n) : Builtin.Int.intBits x ≤ nd x n * n := by
  unfold nd
  generalize Builtin.Int.intBits x = b
  have h1 := Nat.div_add_mod (b + n - 1) n
  have h2 := Nat.mod_lt (b + n - 1) (show n > 0 by omega)
  rw [Nat.mul_comm] at h1
  omega
theorem lt_bits {x : Int} (h0 : 0 ≤ x) : x < 2 ^ Builtin.Int.intBits x := by
  unfold Builtin.Int.intBits
  split
  · rename_i h
    have : x = 0 := by simpa using h
    rw [this]; decide
  · have h1 : x.natAbs < 2 ^ (x.natAbs.log2 + 1) := Nat.lt_log2_self
    have e : ((x.natAbs : Nat) : Int) = x := Int.natAbs_of_nonneg h0
    have h2 := Int.ofNat_lt.mpr h1
    rw [e, Int.natCast_pow] at h2
    exact h2
theorem mul_bound {r y B d : Int} (h0 : 0 ≤ r) (h1 : r < y) (h2 : y < 1073741824) (h3 : 0 ≤ d) (h4 : d < B) (h5 : B ≤ 1073741824) : 0 ≤ r * B + d ∧ r * B + d < 2 ^ 64 := by
  have a1 : 0 ≤ r * B := Int.mul_nonneg h0 (by omega)
  have a2 : r * B ≤ r * 1073741824 := Int.mul_le_mul_of_nonneg_left h5 h0
  omega
theorem allLt_tail {d : Addr} {l : List (Addr × Obj)} (h : AllLt d l) : Tail d l := ktn_ltOf h
theorem canon3 (m : Str → Option Value) (a b c : Str) (va : Value) (ha : m a = some va) : m = fun z => if z = a then some va else if z = b then m b else if z = c then m c else m z := by
  funext z
  by_cases h1 : z = a
  · rw [if_pos h1, h1, ha]
  · rw [if_neg h1]
    by_cases h2 : z = b
    · rw [if_pos h2, h2]
    · rw [if_neg h2]
      by_cases h3 : z = c
      · rw [if_pos h3, h3]
      · rw [if_neg h3]
theorem recan3 (m : Str → Option Value) (a b c : Str) (v1 v2 v3 w1 w2 w3 : Option Value) : (fun z => if z = a then v1 else if z = b then v2 else if z = c then v3 else if z = a then w1 else if z = b then w2 else if z = c then w3 else m z) = fun z => if z = a then v1 else if z = b then v2 else if z = c then v3 else m z := by
  funext z
  by_cases h1 : z = a
  · simp [h1]
  · by_cases h2 : z = b
    · simp [h2]
    · by_cases h3 : z = c
      · simp [h3]
      · simp [h1, h2, h3]
theorem take_snoc {α : Type} {l : List α} {i : Nat} {d : α} (h : l[i]? = some d) : l.take (i + 1) = l.take i ++ [d] := by
  rw [List.take_add_one, h]; rfl
theorem newTuple_K {M : Model} {A : Around} {E : Value → Shared → Prop} {s : Shared} {L : Addr} {h₀ : Heap} {m : Str → Option Value} {news : List (Addr × Obj)} {vs : List Value} {Q : Value → Shared → Prop} (F : Fr h₀ L s.heap m) (N : News h₀ L s.heap news) (hsz : vs.length ≤ sizeLine)
    (h : ∀ r h', Fr h₀ L h' m → News h₀ L h' ((r, { cls := .type "tuple", data := .seq vs.toArray }) :: news) → (∀ p ∈ news, p.1 < r) → Q (.ref r) { s with heap := h' }) :
    wpAny M A (newTuple vs) Q E s := newTuple_N F N (fun h' F' N' => h _ h' F' N' fun p hp => Heap.lt_size (N p hp).1) hsz
theorem nd_mul2 (x : Int) (n m : Nat) (hx : Builtin.Int.intBits x ≤ m) : nd x n * n ≤ m + n - 1 := by
  unfold nd
  exact Nat.le_trans (Nat.div_mul_le_self _ _) (by omega)
theorem name_map {P : Prop} {h₀ h : Heap} {L : Addr} {m : Str → Option Value} (F : Fr h₀ L h m) (k : ∀ m₀, m₀ = m → Fr h₀ L h m₀ → P) : P := k m rfl F
end Mine
-- part L1
namespace Mine
section
variable {prog : Program} {w : World} {A : Around} {E : Value → Shared → Prop} {s : Shared} {env : Env} {h₀ : Heap} {x : Str} {body : List Stmt} {Q : Flow → Shared → Prop}
abbrev InvTy := Nat → (Str → Option Value) → List (Addr × Obj) → Prop
theorem unr_mono {L I : Addr} {it : Obj} {s₁ : Shared} {P R : (Str → Option Value) → List (Addr × Obj) → Prop} (h : ∀ m n, P m n → R m n) {f : Flow} {s₂ : Shared} (u : UnrPost h₀ L s₁ I it P Q f s₂) : UnrPost h₀ L s₁ I it R Q f s₂ := by
  cases f with
  | ret v => exact u
  | brk => exact u
  | next => obtain ⟨h', tk, m', n', e, F, N, o, p⟩ := u; exact ⟨h', tk, m', n', e, F, N, o, h _ _ p⟩
  | cont => obtain ⟨h', tk, m', n', e, F, N, o, p⟩ := u; exact ⟨h', tk, m', n', e, F, N, o, h _ _ p⟩
/-- what a turn of a loop must show -/
def Turn (prog : Program) (w : World) (A : Around) (E : Value → Shared → Prop) (h₀ : Heap) (env : Env) (x : Str) (body : List Stmt) (Q : Flow → Shared → Prop) (s : Shared) (I : Addr) (it : Obj) (v : Value) (Inv : InvTy) (i : Nat) : Prop :=
  ∀ m nl h tk, Inv i m nl → Fr h₀ env.locals h (fun y => if y = x then some v else m y) → News h₀ env.locals h ((I, it) :: nl) →
    wpAny (model prog w) A (execs body env) (UnrPost h₀ env.locals { s with heap := h, toks := tk } I it (Inv (i + 1)) Q) E { s with heap := h, toks := tk }
def Done (h₀ : Heap) (env : Env) (Q : Flow → Shared → Prop) (s : Shared) (Inv : InvTy) (n : Nat) : Prop :=
  ∀ m nl h tk, Inv n m nl → Fr h₀ env.locals h m → News h₀ env.locals h nl → Q .next { s with heap := h, toks := tk }
theorem drop_cons {α : Type} {l r : List α} {v : α} {i : Nat} (e : l.drop i = v :: r) : l[i]? = some v ∧ l.drop (i + 1) = r := by
  constructor
  · have := congrArg (fun z => z[0]?) e
    simpa [List.getElem?_drop] using this
  · have := congrArg List.tail e
    simpa [List.tail_drop] using this
theorem list_rest {I : Addr} {lp : Addr × Obj} {vs : List Value} (Inv : InvTy) (hlp : ∀ i m nl, Inv i m nl → lp ∈ nl)
    (turn : ∀ i v (it : Obj), it.cls = .type "list_iterator" → vs[i]? = some v → Turn prog w A E h₀ env x body Q s I it v Inv i) (done : Done h₀ env Q s Inv vs.length) :
    ∀ (r : List Value) (i : Nat) (m : Str → Option Value) (nl : List (Addr × Obj)), vs.drop i = r → i ≤ vs.length → Inv i m nl → ListRest prog w A E h₀ env x body Q s I lp r m nl
  | [], i, m, nl, e, hi, h => by
    have : i = vs.length := by
      have := congrArg List.length e
      simp at this
      omega
    subst this
    exact .zero fun h' tk F N => done m nl h' tk h F N
  | v :: r, i, m, nl, e, hi, h => by
    obtain ⟨e1, e2⟩ := drop_cons e
    have hlt : i < vs.length := by
      rcases Nat.lt_or_ge i vs.length with q | q
      · exact q
      · rw [List.getElem?_eq_none q] at e1; cases e1
    exact .succ fun it h' tk hc F N => wpAny_mono (turn i v it hc e1 m nl h' tk h F N) (fun f s₂ u => unr_mono (fun m' n' p => ⟨hlp _ _ _ p, list_rest Inv hlp turn done r (i + 1) m' n' e2 hlt p⟩) u) fun _ _ q => q
theorem list_inv {ax : Addr} {lo : Obj} {vs : List Value} {n : Nat} {m₀ : Str → Option Value} {news : List (Addr × Obj)}
    (hh : A.handled = none) (F : Fr h₀ env.locals s.heap m₀) (N : News h₀ env.locals s.heap news) (hm : (ax, lo) ∈ news) (hc : lo.cls = .type "list") (hd : lo.data = .seq vs.toArray n)
    (Inv : Addr → InvTy) (h0 : ∀ I : Addr, (∀ p ∈ news, p.1 < I) → Inv I 0 m₀ news) (hlp : ∀ I i m nl, Inv I i m nl → (ax, lo) ∈ nl)
    (turn : ∀ I i v (it : Obj), it.cls = .type "list_iterator" → vs[i]? = some v → Turn prog w A E h₀ env x body Q s I it v (Inv I) i) (done : ∀ I, Done h₀ env Q s (Inv I) vs.length) :
    wpAny (model prog w) A (pyIter (.ref ax)) (fun it s₂ => LoopAtV prog w A h₀ env x body Q E it s₂) E s :=
  iter_listUnr hh F N hm hc hd fun I hI => list_rest (Inv I) (hlp I) (turn I) (done I) vs 0 m₀ news rfl (Nat.zero_le _) (h0 I hI)
theorem rev_rest {I : Addr} {lp : Addr × Obj} {vs : List Value} (Inv : InvTy) (hlp : ∀ i m nl, Inv i m nl → lp ∈ nl)
    (turn : ∀ i v (it : Obj), it.cls = .type "list_reverseiterator" → vs[i]? = some v → Turn prog w A E h₀ env x body Q s I it v Inv i) (done : Done h₀ env Q s Inv vs.length) :
    ∀ (r : List Value) (i : Nat) (m : Str → Option Value) (nl : List (Addr × Obj)), vs.drop i = r → i ≤ vs.length → Inv i m nl → RevRest prog w A E h₀ env x body Q s I lp r m nl
  | [], i, m, nl, e, hi, h => by
    have : i = vs.length := by
      have := congrArg List.length e
      simp at this
      omega
    subst this
    exact .zero fun h' tk F N => done m nl h' tk h F N
  | v :: r, i, m, nl, e, hi, h => by
    obtain ⟨e1, e2⟩ := drop_cons e
    have hlt : i < vs.length := by
      rcases Nat.lt_or_ge i vs.length with q | q
      · exact q
      · rw [List.getElem?_eq_none q] at e1; cases e1
    exact .succ fun it h' tk hc F N => wpAny_mono (turn i v it hc e1 m nl h' tk h F N) (fun f s₂ u => unr_mono (fun m' n' p => ⟨hlp _ _ _ p, rev_rest Inv hlp turn done r (i + 1) m' n' e2 hlt p⟩) u) fun _ _ q => q
theorem offI_of {I : Addr} {it : Obj} : ∀ {l : List (Addr × Obj)}, (∀ p ∈ l, p.1 ≠ I) → OffI I it l
  | [], _ => trivial
  | p :: _, h => ⟨.inl (h p (.head _)), offI_of fun q hq => h q (.tail _ hq)⟩
theorem rev_inv {ax I : Addr} {lo : Obj} {vs : List Value} {n : Nat} {m₀ : Str → Option Value} {news : List (Addr × Obj)}
    (hh : A.handled = none) (F : Fr h₀ env.locals s.heap m₀) (N : News h₀ env.locals s.heap ((I, revObj ax ((vs.length : Int) - 1)) :: news)) (hof : ∀ p ∈ news, p.1 ≠ I) (hm : (ax, lo) ∈ news) (hc : lo.cls = .type "list") (hd : lo.data = .seq vs.toArray n)
    (Inv : InvTy) (h0 : Inv 0 m₀ news) (hlp : ∀ i m nl, Inv i m nl → (ax, lo) ∈ nl)
    (turn : ∀ i v (it : Obj), it.cls = .type "list_reverseiterator" → vs.reverse[i]? = some v → Turn prog w A E h₀ env x body Q s I it v Inv i) (done : Done h₀ env Q s Inv vs.reverse.length) :
    wpAny (model prog w) A (pyIter (.ref I)) (fun it s₂ => LoopAtV prog w A h₀ env x body Q E it s₂) E s :=
  iter_revUnr hh F N (offI_of hof) hm hc hd (rev_rest Inv hlp turn done vs.reverse 0 m₀ news rfl (Nat.zero_le _) h0)
theorem range_rest {I : Addr} {a : Int} {n : Nat} (Inv : InvTy)
    (turn : ∀ i t, i < n → Turn prog w A E h₀ env x body Q s I (itR (a + ((i + 1 : Nat) : Int)) ((n : Int) - ((i + 1 : Nat) : Int))) (.int (a + (i : Int)) t) Inv i) (done : Done h₀ env Q s Inv n) :
    ∀ (k i : Nat) (m : Str → Option Value) (nl : List (Addr × Obj)), i + k = n → Inv i m nl → RangeRest prog w A E h₀ env x body Q s I a n k i m nl
  | 0, i, m, nl, e, h => by
    have : i = n := by omega
    subst this
    exact .zero fun h' tk F N => done m nl h' tk h F N
  | k + 1, i, m, nl, e, h => .succ fun t h' tk F N => wpAny_mono (turn i t (by omega) m nl h' tk h F N) (fun f s₂ u => unr_mono (fun m' n' p => range_rest Inv turn done k (i + 1) m' n' (by omega) p) u) fun _ _ q => q
theorem range_inv {r : Addr} {a₀ b₀ : Int} {t₀ u₀ v₀ : Tok} {n : Nat} {m₀ : Str → Option Value} {news : List (Addr × Obj)}
    (hh : A.handled = none) (hr : IsRange s.heap r a₀ b₀ 1 t₀ u₀ v₀) (hsmall : Builtin.Range.small a₀ b₀ 1 = true) (hn : Builtin.Range.rangeSize a₀ b₀ 1 = (n : Int)) (F : Fr h₀ env.locals s.heap m₀) (N : News h₀ env.locals s.heap news)
    (Inv : Addr → InvTy) (h0 : ∀ I : Addr, (∀ p ∈ news, p.1 < I) → Inv I 0 m₀ news)
    (turn : ∀ I i t, i < n → Turn prog w A E h₀ env x body Q s I (itR (a₀ + ((i + 1 : Nat) : Int)) ((n : Int) - ((i + 1 : Nat) : Int))) (.int (a₀ + (i : Int)) t) (Inv I) i) (done : ∀ I, Done h₀ env Q s (Inv I) n) :
    wpAny (model prog w) A (pyIter (.ref r)) (fun it s₂ => LoopAtV prog w A h₀ env x body Q E it s₂) E s :=
  iter_rangeUnr hh hr hsmall hn F N fun I hI => range_rest (Inv I) (turn I) (done I) n 0 m₀ news (by omega) (h0 I hI)
end
end Mine
-- part I1
namespace Mine
set_option Elab.async false
set_option maxRecDepth 100000
set_option maxHeartbeats 8000000
theorem fill_now3 : (hd.heap_39, PySem.Challenge.rw_go0002_01) = (hd.heap_39, PySem.Challenge.rw_go0002_01) := by
  k_fill
  rfl
local macro_rules | `(tactic| walk_at "call ref") => `(tactic| (refine Hold.on ?_))
local macro_rules | `(tactic| k_all) => `(tactic| first | assumption | (refine' Tail.ne ?ta ?tb; (case ta => assumption); (case tb => (try dsimp only); omega)) | fail "k_all")
noncomputable abbrev inPre (f c ci ca cn l : Addr) (q : Str) (dc pmn ct : Value) (oc o1 o2 o3 : Obj) (vs : List Value) (z : Nat) : List (Addr × Obj) :=
  [(f, fnMade (Str.ofString "inner") q inArgs.1 inBody.1 inScope.1 [(Str.ofString "n", cn), (Str.ofString "inner", ci), (Str.ofString "a_digits", ca)] dc pmn c ct), (c, oc), (ci, o1), (ca, o2), (cn, o3), (l, W.listOf vs.toArray z)]
theorem inner1 (w : World) (n : Nat) (tn : Tok) (hn : 1 ≤ n) (f c ci ca cn l : Addr) (q : Str) (dc pmn ct : Value) (oc o1 o2 o3 : Obj) (cvs : Array Value) (ctk : Tok)
    (hoc : oc.data = .fields cvs) (hcv : cvs[1]? = some (.str q ctk)) (ho1 : o1.data = .cell (some (.ref f))) (ho2 : o2.data = .cell (some (.ref l))) (ho3 : o3.data = .cell (some (.int (n : Int) tn))) :
    ∀ (k : Nat), 1 ≤ k → k * n ≤ 128 → ∀ (x lo hi : Int) (tx tl tr : Tok) (vs : List Value) (ns : List Int) (z : Nat), 0 ≤ x → x < 1073741824 → 0 ≤ lo → hi = lo + k → hi ≤ ns.length → ns.length ≤ 128 → IntsAre vs ns →
      Spec w f [.int x tx, .int lo tl, .int hi tr] k (8 * k) (inPre f c ci ca cn l q dc pmn ct oc o1 o2 o3 vs z)
        (fun r post => r = .none ∧ ∃ vs' z', IntsAre vs' (ns.take lo.toNat ++ digs n k x ++ ns.drop hi.toNat) ∧ post = inPre f c ci ca cn l q dc pmn ct oc o1 o2 o3 vs' z') := by
  intro k
  induction k using Nat.strongRecOn with
  | ind k ih =>
    intro hk1 hkn x lo hi tx tl tr vs ns z hx hx2 hlo hhi hlen hlen2 hvs
    unfold Spec
    intro prog p loose mean mg mb dp un gd cn' cs a ccd cl outer A₀ base h₀ L m news s Q E B F X N hND hAp T hk hd1 hu1 hret
    simp only [inPre, inArgs, inBody, inScope, List.cons_append, List.nil_append] at N
    refine wpAny_call ?_
    k_dflt (refine' code_nestL ?k1 ?k2 ?k3 ?k4 ?k5 ?kA ?kF ?kK ?k6 ?k7 ?k8 ?k9 ?kB ?_ ?c2 ?c3 ?c4 ?c5; (case kA => exact rfl); (case kF => exact rfl); (case kK => assumption); (case k1 => k_asm); (case k2 => k_asm); (case k3 => k_asm); (case k4 => k_asm); (case k5 => k_asm); (case k6 => k_mem); (case k7 => exact codeRec_news (by k_asm) (by k_mem) (by assumption) (by assumption)); (case k8 => ktr_room); (case k9 => exact BindsTo.of_eq rfl); (case c5 => decide); (case kB => exact locs rfl); (case c2 => exact rfl); (case c3 => exact rfl); (case c4 => exact rfl); k_whole; intro g' L' h' FG' F' N' B' X' T' l1; (try dsimp only); (try k_lift B'); (try k_fold))
    have C' := codeHd_of_K (c := 34) (P := 30) X' (by kernel_rfl)
    have hT : Tail L' news := fun p hp => l1 p (by simp [hp])
    have hA : ∀ p ∈ news, p.1 ≠ l := hAp l (by simp [inPre])
    have hND0 := hND
    simp only [inPre, List.map_cons, List.map_nil, List.nodup_cons, List.mem_cons, List.not_mem_nil, or_false, not_or, not_false_eq_true, and_true, List.nodup_nil] at hND
    obtain ⟨⟨e1, e2, e3, e4, e5⟩, ⟨e6, e7, e8, e9⟩, ⟨e10, e11, e12⟩, ⟨e13, e14⟩, e15⟩ := hND
    replace e5 := neN e5
    replace e9 := neN e9
    replace e12 := neN e12
    replace e14 := neN e14
    replace e15 := neN e15
    k_steps
    · have hk2 : k = 1 := by omega
      (rename News h₀ L _ _ => NN)
      subst hk2
      refine hret _ (inPre f c ci ca cn l q dc pmn ct oc o1 o2 o3 (vs.set lo.toNat (Value.int x tx)) z) _ _ (by assumption) NN hND0 (fun q hq => .inl (by simp only [inPre, List.mem_cons, List.not_mem_nil, or_false, List.map_cons, List.map_nil] at hq ⊢; rcases hq with h | h | h | h | h | h <;> simp [h])) ⟨rfl, _, z, ?_, rfl⟩
      have e := ints_set hvs lo.toNat (by omega) x tx
      unfold digs
      rw [dif_pos (Nat.le_refl 1), show hi.toNat = lo.toNat + 1 by omega]
      exact e
    · have hk2 : 2 ≤ k := by omega
      have hmid : (lo + hi).fdiv (2 ^ Int.toNat 1) = lo + (k / 2 : Nat) := by
        rw [Int.fdiv_eq_ediv_of_nonneg _ (by decide)]
        simp
        omega
      simp only [hmid] at *
      refine mul_int ?_ (IntMulOk.of_right (intBits_le_64 (by omega) ?_))
      rotate_left
      · have : n ≤ k * n := Nat.le_mul_of_pos_left _ (by omega)
        omega
      have hsh : (lo + ((k / 2 : Nat) : Int) - lo) * (n : Int) = ((k / 2 * n : Nat) : Int) := by
        rw [show lo + ((k / 2 : Nat) : Int) - lo = ((k / 2 : Nat) : Int) by omega]
        exact (Int.natCast_mul _ _).symm
      simp only [hsh] at *
      have hs128 : k / 2 * n ≤ 128 := Nat.le_trans (Nat.mul_le_mul_right _ (Nat.div_le_self _ _)) hkn
      have hs129 : (k - k / 2) * n ≤ 128 := Nat.le_trans (Nat.mul_le_mul_right _ (Nat.sub_le _ _)) hkn
      have hdig : digs n k x = digs n (k / 2) (x % 2 ^ (k / 2 * n)) ++ digs n (k - k / 2) (x / 2 ^ (k / 2 * n)) := by
        conv => lhs; unfold digs
        rw [dif_neg (by omega)]
      generalize hS : k / 2 * n = S at *
      try dsimp only
      k_steps
      refine Hold.off ?_
      have hpow : (0 : Int) < 2 ^ S := Int.pow_pos (by decide)
      rw [xor_low x S hx]
      have hm0 : 0 ≤ x % 2 ^ S := Int.emod_nonneg _ (by omega)
      have hm1 : x % 2 ^ S ≤ x := emod_le_self hx hpow
      have hd0 : 0 ≤ x / 2 ^ S := Int.ediv_nonneg hx (by omega)
      have hd2 : x / 2 ^ S ≤ x := Int.ediv_le_self _ hx
      simp only [up_eq] at *
      refine' Spec.use (ih (k / 2) (by omega) (by omega) (by omega) (x % 2 ^ S) lo (lo + (k / 2 : Nat)) _ _ _ vs ns z hm0 (by omega) hlo rfl (by omega) hlen2 hvs) news ?B ?F ?X ?N ?hs hND0 hAp ?T ?hk ?hd ?hu ?ret
      case B => k_asm
      case F => k_asm
      case X => k_asm
      case N => k_asm
      case T => k_asm
      case hk => exact rfl
      case hs => exact fun q hq => hq
      case hd => dsimp only [Around.deeper, ktrTop]; omega
      case hu => dsimp only [Around.deeper, ktrTop]; omega
      case ret =>
      rintro r post' h2 tk2 F2 N2 - - ⟨rfl, vs2, z2, hvs2, rfl⟩
      simp only [inPre, inArgs, inBody, inScope, List.cons_append, List.nil_append] at N2
      dsimp only
      k_steps
      refine Hold.off ?_
      have hl2 : (ns.take lo.toNat ++ digs n (k / 2) (x % 2 ^ S) ++ ns.drop (lo + (k / 2 : Nat)).toNat).length = ns.length := by
        rw [List.length_append, List.length_append, List.length_take, List.length_drop, digs_len _ _ _ (by omega)]
        omega
      refine' Spec.use (ih (k - k / 2) (by omega) (by omega) (by omega) (x / 2 ^ S) (lo + (k / 2 : Nat)) hi _ _ _ vs2 _ z2 hd0 (by omega) (by omega) (by omega) (by omega) (by omega) hvs2) news ?B ?F ?X ?N ?hs hND0 hAp ?T ?hk ?hd ?hu ?ret
      case B => k_asm
      case F => k_asm
      case X => k_asm
      case N => k_asm
      case T => k_asm
      case hk => exact rfl
      case hs => exact fun q hq => hq
      case hd => dsimp only [Around.deeper, ktrTop]; omega
      case hu => dsimp only [Around.deeper, ktrTop]; omega
      case ret =>
      rintro r post' h3 tk3 F3 N3 - - ⟨rfl, vs3, z3, hvs3, rfl⟩
      simp only [inPre, inArgs, inBody, inScope, List.cons_append, List.nil_append] at N3
      dsimp only
      k_steps
      (rename News h₀ L _ _ => NN)
      refine hret _ (inPre f c ci ca cn l q dc pmn ct oc o1 o2 o3 vs3 z3) _ _ (by assumption) NN hND0 (fun q hq => .inl (by simp only [inPre, List.mem_cons, List.not_mem_nil, or_false, List.map_cons, List.map_nil] at hq ⊢; rcases hq with h | h | h | h | h | h <;> simp [h])) ⟨rfl, _, z3, ?_, rfl⟩
      rw [hdig]
      have e := splice ns (digs n (k / 2) (x % 2 ^ S)) (digs n (k - k / 2) (x / 2 ^ S)) lo.toNat (k / 2) k (digs_len _ _ _ (by omega)) (by omega) (by omega)
      rw [show (lo + (k / 2 : Nat)).toNat = lo.toNat + k / 2 by omega, show hi.toNat = lo.toNat + k by omega] at hvs3
      rw [e] at hvs3
      rw [show hi.toNat = lo.toNat + k by omega]
      exact hvs3
end Mine
-- part C2
namespace Mine
set_option Elab.async false
set_option maxRecDepth 100000
set_option maxHeartbeats 8000000
theorem fill_now2 : (hd.heap_39, PySem.Challenge.rw_go0002_01) = (hd.heap_39, PySem.Challenge.rw_go0002_01) := by
  k_fill
  rfl
local macro_rules | `(tactic| walk_at "call ref") => `(tactic| (refine Hold.on ?_))
local macro_rules | `(tactic| k_all) => `(tactic| first | assumption | (refine' Tail.ne ?ta ?tb; (case ta => assumption); (case tb => (try dsimp only); omega)) | fail "k_all")
local macro_rules | `(tactic| walk_at "m nodup") => `(tactic| repeat' (first | exact nd_nil | exact all_nil | refine nd_cons ?_ ?_ | refine all_cons ?_ ?_ | k_ne))
local macro_rules | `(tactic| walk_at "m apart") => `(tactic| repeat' (first | exact Apart.nil | refine Apart.cons ?_ ?_ | k_all))
local macro_rules | `(tactic| walk_at "m sub") => `(tactic| repeat' (first | exact sub_nil | exact sub_self | (refine' sub_cons ?ta ?_; (case ta => k_mem)) | refine sub_tail ?_ | fail "m sub"))
local macro_rules | `(tactic| walk_at "m enterC") => `(tactic| k_dflt (refine' code_defC ?k1 ?k2 ?k3 ?k4 ?k5 ?kA ?kF ?kK ?k6 ?k7 ?k8 ?k9 ?kB ?kD ?_ ?c2 ?c3 ?c4; (case kA => exact rfl); (case kF => exact rfl); (case kK => assumption); (case k1 => k_asm); (case k2 => k_asm); (case k3 => k_asm); (case k4 => k_asm); (case k5 => k_asm); (case k6 => k_is); (case k7 => k_is); (case k8 => ktr_room); (case k9 => first | exact BindsTo.of_eq rfl | exact binds_K (by k_in) rfl (by k_is) rfl rfl rfl | fail "k_enter: no rule for these arguments"); (case kB => exact rfl); (case kD => decide +kernel); (case c2 => exact rfl); (case c3 => exact rfl); (case c4 => exact rfl); k_whole))
local macro_rules | `(tactic| walk_at "m lt") => `(tactic| repeat' (first | refine List.forall_mem_cons.mpr ⟨?_, ?_⟩ | (refine' Tail.lt ?ta ?tb; (case ta => assumption); (case tb => (try dsimp only); omega)) | (refine ltA ?_; (try dsimp only); omega) | fail "m lt"))
theorem i2d_cold (w : World) (x : Int) (n : Nat) (tx tn : Tok) (hx : 0 ≤ x) (hx2 : x < 1073741824) (hn : 1 ≤ n) (hn2 : n ≤ 64) : Spec w 35 [.int x tx, .int n tn] 140 1100 [(30, tabObj #[])]
    (fun r post => ∃ a vs z tl, r = .ref a ∧ IntsAre vs (if x = 0 then [] else digs n (nd x n) x) ∧ TabSt 30 32 4 (Str.ofString "_int2digits" ++ (".<locals>." : Str) ++ Str.ofString "inner") tl ∧ post = (a, W.listOf vs.toArray z) :: tl) := by
  unfold Spec
  intro prog p loose mean mg mb dp un gd cn cs a ccd cl outer A₀ base h₀ L m news s Q E B F X N hND hAp T hk hd1 hu1 hret
  simp only [List.cons_append, List.nil_append] at N
  have hb := intBits_le_64 (k := x) (by omega) (by omega)
  have hA30 : ∀ p ∈ news, p.1 ≠ 30 := hAp 30 (by simp)
  have hnd := nd_le x n hb hn hn2
  refine wpAny_call ?_
  walk_at "m enterC"
  intro g' L' h' tk' cells' FG' F' N' Y' B' X' T' l1
  have hT : Tail L' news := fun p hp => l1 p (.tail _ hp)
  k_lt l1
  k_cells Y'
  (try simp only [List.cons_append, List.nil_append] at N')
  (try dsimp only)
  (try k_lift B')
  have C' := codeHd_of_K (c := 34) (P := 30) X' (by kernel_rfl)
  k_steps
  simp only [nd_eq x n hn] at *
  refine mul_one_K (by assumption) (by assumption) (by k_mem) (by omega) (by omega) ?_
  intro r4 h4 F4 N4 l4
  k_lt l4
  (try dsimp only)
  k_steps
  · refine KM.len_K (by assumption) (by k_mem) (n := nd x n) (by simp) (by omega) ?_
    (try dsimp only)
    k_steps
    refine Hold.off ?_
    rename_i oa ob oc3 da db d3 lz hz lzz hw o2 d2c f' c' oc' vs' t' ct' dc' h1' tk1' d1' d2' l5 l6 h2' o1 F9 N9 dd1 hx0
    refine' Spec.use (inner1 w n tn hn f' c' _ _ _ r4 _ _ _ _ oc' o1 o2 oc3 vs' t' d1' d2' dd1 d2c d3 (nd x n) (nd_pos hx0 hn) (nd_mul x n hb hn2) x 0 (nd x n) _ _ _ (List.replicate (nd x n) (Value.int 0 tk')) (List.replicate (nd x n) 0) 0 hx hx2 (by omega) (by simp) (by simp) (by simp; omega) (by simpa using ints_rep (nd x n) 0 tk')) ((30, tabObj #[rawInt 32, rawInt 4, .ref c']) :: news) ?B ?F ?X ?N ?hs ?hnd ?hap ?T ?hk ?hd ?hu ?ret
    case B => k_asm
    case F => k_asm
    case X => k_asm
    case N => k_asm
    case T => k_asm
    case hk => exact rfl
    case hs => walk_at "m sub"
    case hnd => walk_at "m nodup"
    case hap => walk_at "m apart"
    case hd => dsimp only [Around.deeper, ktrTop]; omega
    case hu => dsimp only [Around.deeper, ktrTop]; omega
    case ret =>
    rintro r post' h3 tk3 F3 N3 - - ⟨rfl, vs3, z3, hvs3, rfl⟩
    simp only [inPre, inArgs, inBody, inScope, List.cons_append, List.nil_append] at N3
    dsimp only
    k_steps
    (rename News h₀ L _ _ => NN)
    refine hret _ ((r4, W.listOf vs3.toArray z3) :: [(30, tabObj #[rawInt 32, rawInt 4, .ref c']), (c', oc')]) _ _ (by assumption) (fun q hq => NN q ((by walk_at "m sub" : ∀ p ∈ (r4, W.listOf vs3.toArray z3) :: (30, tabObj #[rawInt 32, rawInt 4, .ref c']) :: (c', oc') :: news, p ∈ _) q hq)) (by walk_at "m nodup") (Over.new (by walk_at "m lt") (Over.old (by simp) (Over.new (by walk_at "m lt") Over.nil))) ⟨_, vs3, z3, _, rfl, ?_, .warm c' oc' vs' t' d1' d2', rfl⟩
    rw [if_neg hx0]
    simpa using hvs3
  · rename_i f' c' oc' vs' t' ct' dc' h1' tk1' d1' d2' l5 l6 h2' o1 F9 N9 dd1 hx0 kF kN Tc kX
    refine hret _ ((r4, W.listOf (List.replicate (nd x n) (Value.int 0 tk')).toArray 0) :: [(30, tabObj #[rawInt 32, rawInt 4, .ref c']), (c', oc')]) _ _ (by assumption) (fun q hq => kN q ((by walk_at "m sub" : ∀ p ∈ (r4, W.listOf (List.replicate (nd x n) (Value.int 0 tk')).toArray 0) :: (30, tabObj #[rawInt 32, rawInt 4, .ref c']) :: (c', oc') :: news, p ∈ _) q hq)) (by walk_at "m nodup") (Over.new (by walk_at "m lt") (Over.old (by simp) (Over.new (by walk_at "m lt") Over.nil))) ⟨_, _, 0, _, rfl, ?_, .warm c' oc' vs' t' d1' d2', rfl⟩
    rw [if_pos hx0, hx0, nd_zero n hn]
    exact .nil
theorem i2d_warm (w : World) (x : Int) (n : Nat) (tx tn : Tok) (hx : 0 ≤ x) (hx2 : x < 1073741824) (hn : 1 ≤ n) (hn2 : n ≤ 64) (c : Addr) (oc : Obj) (cvs : Array Value) (ctk : Tok) (hoc : oc.data = .fields cvs) (hcv : cvs[1]? = some (.str (Str.ofString "_int2digits" ++ (".<locals>." : Str) ++ Str.ofString "inner") ctk)) : Spec w 35 [.int x tx, .int n tn] 140 1100 [(30, tabObj #[rawInt 32, rawInt 4, .ref c]), (c, oc)]
    (fun r post => ∃ a vs z tl, r = .ref a ∧ IntsAre vs (if x = 0 then [] else digs n (nd x n) x) ∧ TabSt 30 32 4 (Str.ofString "_int2digits" ++ (".<locals>." : Str) ++ Str.ofString "inner") tl ∧ post = (a, W.listOf vs.toArray z) :: tl) := by
  unfold Spec
  intro prog p loose mean mg mb dp un gd cn cs a ccd cl outer A₀ base h₀ L m news s Q E B F X N hND hAp T hk hd1 hu1 hret
  simp only [List.cons_append, List.nil_append] at N
  have hb := intBits_le_64 (k := x) (by omega) (by omega)
  have hA30 : ∀ p ∈ news, p.1 ≠ 30 := hAp 30 (by simp)
  have hAc : ∀ p ∈ news, p.1 ≠ c := hAp c (by simp)
  simp only [List.map_cons, List.map_nil, List.nodup_cons, List.mem_cons, List.not_mem_nil, or_false, not_or, not_false_eq_true, and_true, List.nodup_nil] at hND
  replace hND := neN hND
  have hnd := nd_le x n hb hn hn2
  refine wpAny_call ?_
  walk_at "m enterC"
  intro g' L' h' tk' cells' FG' F' N' Y' B' X' T' l1
  have hT : Tail L' news := fun p hp => l1 p (.tail _ (.tail _ hp))
  k_lt l1
  k_cells Y'
  (try simp only [List.cons_append, List.nil_append] at N')
  (try dsimp only)
  (try k_lift B')
  have C' := codeHd_of_K (c := 34) (P := 30) X' (by kernel_rfl)
  k_steps
  simp only [nd_eq x n hn] at *
  refine mul_one_K (by assumption) (by assumption) (by k_mem) (by omega) (by omega) ?_
  intro r4 h4 F4 N4 l4
  k_lt l4
  (try dsimp only)
  k_steps
  · refine KM.len_K (by assumption) (by k_mem) (n := nd x n) (by simp) (by omega) ?_
    (try dsimp only)
    k_steps
    refine Hold.off ?_
    rename_i oa ob oc3 da db d3 lz hz lzz hw o2 d2c f' ct' dc' h1' tk1' l5 h2' o1 F9 N9 dd1 hx0
    refine' Spec.use (inner1 w n tn hn f' c _ _ _ r4 _ _ _ _ oc o1 o2 oc3 cvs ctk hoc hcv dd1 d2c d3 (nd x n) (nd_pos hx0 hn) (nd_mul x n hb hn2) x 0 (nd x n) _ _ _ (List.replicate (nd x n) (Value.int 0 tk')) (List.replicate (nd x n) 0) 0 hx hx2 (by omega) (by simp) (by simp) (by simp; omega) (by simpa using ints_rep (nd x n) 0 tk')) ((30, tabObj #[rawInt 32, rawInt 4, .ref c]) :: news) ?B ?F ?X ?N ?hs ?hnd ?hap ?T ?hk ?hd ?hu ?ret
    case B => k_asm
    case F => k_asm
    case X => k_asm
    case N => k_asm
    case T => k_asm
    case hk => exact rfl
    case hs => walk_at "m sub"
    case hnd => walk_at "m nodup"
    case hap => walk_at "m apart"
    case hd => dsimp only [Around.deeper, ktrTop]; omega
    case hu => dsimp only [Around.deeper, ktrTop]; omega
    case ret =>
    rintro r post' h3 tk3 F3 N3 - - ⟨rfl, vs3, z3, hvs3, rfl⟩
    simp only [inPre, inArgs, inBody, inScope, List.cons_append, List.nil_append] at N3
    dsimp only
    k_steps
    (rename News h₀ L _ _ => NN)
    refine hret _ ((r4, W.listOf vs3.toArray z3) :: [(30, tabObj #[rawInt 32, rawInt 4, .ref c]), (c, oc)]) _ _ (by assumption) (fun q hq => NN q ((by walk_at "m sub" : ∀ p ∈ (r4, W.listOf vs3.toArray z3) :: (30, tabObj #[rawInt 32, rawInt 4, .ref c]) :: (c, oc) :: news, p ∈ _) q hq)) (by walk_at "m nodup") (Over.new (by walk_at "m lt") (Over.old (by simp) (Over.old (by simp) Over.nil))) ⟨_, vs3, z3, _, rfl, ?_, .warm c oc cvs ctk hoc hcv, rfl⟩
    rw [if_neg hx0]
    simpa using hvs3
  · rename_i f' ct' dc' h1' tk1' l5 h2' o1 F9 N9 dd1 hx0 kF kN Tc kX
    refine hret _ ((r4, W.listOf (List.replicate (nd x n) (Value.int 0 tk')).toArray 0) :: [(30, tabObj #[rawInt 32, rawInt 4, .ref c]), (c, oc)]) _ _ (by assumption) (fun q hq => kN q ((by walk_at "m sub" : ∀ p ∈ (r4, W.listOf (List.replicate (nd x n) (Value.int 0 tk')).toArray 0) :: (30, tabObj #[rawInt 32, rawInt 4, .ref c]) :: (c, oc) :: news, p ∈ _) q hq)) (by walk_at "m nodup") (Over.new (by walk_at "m lt") (Over.old (by simp) (Over.old (by simp) Over.nil))) ⟨_, _, 0, _, rfl, ?_, .warm c oc cvs ctk hoc hcv, rfl⟩
    rw [if_pos hx0, hx0, nd_zero n hn]
    exact .nil
theorem i2d (w : World) (x : Int) (n : Nat) (tx tn : Tok) (hx : 0 ≤ x) (hx2 : x < 1073741824) (hn : 1 ≤ n) (hn2 : n ≤ 64) (tl : List (Addr × Obj)) (ht : TabSt 30 32 4 (Str.ofString "_int2digits" ++ (".<locals>." : Str) ++ Str.ofString "inner") tl) : Spec w 35 [.int x tx, .int n tn] 140 1100 tl
    (fun r post => ∃ a vs z tl, r = .ref a ∧ IntsAre vs (if x = 0 then [] else digs n (nd x n) x) ∧ TabSt 30 32 4 (Str.ofString "_int2digits" ++ (".<locals>." : Str) ++ Str.ofString "inner") tl ∧ post = (a, W.listOf vs.toArray z) :: tl) := by
  cases ht with
  | cold => exact i2d_cold w x n tx tn hx hx2 hn hn2
  | warm c oc vs t h1 h2 => exact i2d_warm w x n tx tn hx hx2 hn hn2 c oc vs t h1 h2
end Mine
-- part I2
namespace Mine
set_option Elab.async false
set_option maxRecDepth 100000
set_option maxHeartbeats 8000000
local macro_rules | `(tactic| walk_at "call ref") => `(tactic| (refine Hold.on ?_))
local macro_rules | `(tactic| k_all) => `(tactic| first | assumption | (refine' Tail.ne ?ta ?tb; (case ta => assumption); (case tb => (try dsimp only); omega)) | fail "k_all")
local macro_rules | `(tactic| walk_at "m nodup") => `(tactic| repeat' (first | exact nd_nil | exact all_nil | refine nd_cons ?_ ?_ | refine all_cons ?_ ?_ | k_ne))
local macro_rules | `(tactic| walk_at "m apart") => `(tactic| repeat' (first | exact Apart.nil | refine Apart.cons ?_ ?_ | k_all))
local macro_rules | `(tactic| walk_at "m sub") => `(tactic| repeat' (first | exact sub_nil | exact sub_self | (refine' sub_cons ?ta ?_; (case ta => k_mem)) | refine sub_tail ?_ | fail "m sub"))
local macro_rules | `(tactic| walk_at "m lt") => `(tactic| repeat' (first | refine List.forall_mem_cons.mpr ⟨?_, ?_⟩ | (refine' Tail.lt ?ta ?tb; (case ta => assumption); (case tb => (try dsimp only); omega)) | (refine ltA ?_; (try dsimp only); omega) | fail "m lt"))
local macro_rules | `(tactic| walk_at "m enterC") => `(tactic| k_dflt (refine' code_defC ?k1 ?k2 ?k3 ?k4 ?k5 ?kA ?kF ?kK ?k6 ?k7 ?k8 ?k9 ?kB ?kD ?_ ?c2 ?c3 ?c4; (case kA => exact rfl); (case kF => exact rfl); (case kK => assumption); (case k1 => k_asm); (case k2 => k_asm); (case k3 => k_asm); (case k4 => k_asm); (case k5 => k_asm); (case k6 => k_is); (case k7 => k_is); (case k8 => ktr_room); (case k9 => first | exact BindsTo.of_eq rfl | exact binds_K (by k_in) rfl (by k_is) rfl rfl rfl | fail "k_enter: no rule for these arguments"); (case kB => exact rfl); (case kD => decide +kernel); (case c2 => exact rfl); (case c3 => exact rfl); (case c4 => exact rfl); k_whole))
local macro_rules | `(tactic| walk_at "m enterL") => `(tactic| k_dflt (refine' code_defL ?k1 ?k2 ?k3 ?k4 ?k5 ?kA ?kF ?kK ?k6 ?k7 ?k8 ?k9 ?kB ?_ ?c2 ?c3 ?c4 ?c5; (case kA => exact rfl); (case kF => exact rfl); (case kK => assumption); (case k1 => k_asm); (case k2 => k_asm); (case k3 => k_asm); (case k4 => k_asm); (case k5 => k_asm); (case k6 => k_is); (case k7 => k_is); (case k8 => ktr_room); (case k9 => first | exact BindsTo.of_eq rfl | exact binds_K (by k_in) rfl (by k_is) rfl rfl rfl | fail "k_enter: no rule for these arguments"); (case c5 => decide); (case kB => exact locs rfl); (case c2 => exact rfl); (case c3 => exact rfl); (case c4 => exact rfl); k_whole))
local macro_rules | `(tactic| walk_at "m enterN") => `(tactic| k_dflt (refine' code_nestL ?k1 ?k2 ?k3 ?k4 ?k5 ?kA ?kF ?kK ?k6 ?k7 ?k8 ?k9 ?kB ?_ ?c2 ?c3 ?c4 ?c5; (case kA => exact rfl); (case kF => exact rfl); (case kK => assumption); (case k1 => k_asm); (case k2 => k_asm); (case k3 => k_asm); (case k4 => k_asm); (case k5 => k_asm); (case k6 => k_mem); (case k7 => exact codeRec_news (by k_asm) (by k_mem) (by assumption) (by assumption)); (case k8 => ktr_room); (case k9 => exact BindsTo.of_eq rfl); (case c5 => decide); (case kB => exact locs rfl); (case c2 => exact rfl); (case c3 => exact rfl); (case c4 => exact rfl); k_whole))
noncomputable abbrev jnPre (f c ci ca cn l : Addr) (q : Str) (dc pmn ct : Value) (oc o1 o2 o3 : Obj) (vs : List Value) (z : Nat) : List (Addr × Obj) :=
  [(f, fnMade (Str.ofString "inner") q jnArgs.1 jnBody.1 jnScope.1 [(Str.ofString "n", cn), (Str.ofString "inner", ci), (Str.ofString "digits", ca)] dc pmn c ct), (c, oc), (ci, o1), (ca, o2), (cn, o3), (l, W.listOf vs.toArray z)]
theorem inner2 (w : World) (n : Nat) (tn : Tok) (hn : 1 ≤ n) (f c ci ca cn l : Addr) (q : Str) (dc pmn ct : Value) (oc o1 o2 o3 : Obj) (cvs : Array Value) (ctk : Tok)
    (hoc : oc.data = .fields cvs) (hcv : cvs[1]? = some (.str q ctk)) (ho1 : o1.data = .cell (some (.ref f))) (ho2 : o2.data = .cell (some (.ref l))) (ho3 : o3.data = .cell (some (.int (n : Int) tn)))
    (vs : List Value) (ns : List Int) (z : Nat) (hlen2 : ns.length ≤ 128) (hvs : IntsAre vs ns) (hdg : ∀ d ∈ ns, 0 ≤ d ∧ d < 2 ^ n) :
    ∀ (k : Nat), 1 ≤ k → k * n ≤ 62 → ∀ (lo hi : Int) (tl tr : Tok), 0 ≤ lo → hi = lo + k → hi ≤ ns.length →
      Spec w f [.int lo tl, .int hi tr] k (8 * k) (jnPre f c ci ca cn l q dc pmn ct oc o1 o2 o3 vs z)
        (fun r post => ∃ t, r = .int (undig n ns k lo.toNat) t ∧ post = jnPre f c ci ca cn l q dc pmn ct oc o1 o2 o3 vs z) := by
  intro k
  induction k using Nat.strongRecOn with
  | ind k ih =>
    intro hk1 hkn lo hi tl tr hlo hhi hlen
    unfold Spec
    intro prog p loose mean mg mb dp un gd cn' cs a ccd cl outer A₀ base h₀ L m news s Q E B F X N hND hAp T hk hd1 hu1 hret
    simp only [jnPre, jnArgs, jnBody, jnScope, List.cons_append, List.nil_append] at N
    refine wpAny_call ?_
    walk_at "m enterN"
    intro g' L' h' FG' F' N' B' X' T' l1
    (try dsimp only)
    (try k_lift B')
    k_fold
    have C' := codeHd_of_K (c := 34) (P := 30) X' (by kernel_rfl)
    have hT : Tail L' news := fun p hp => l1 p (by simp [hp])
    have hA : ∀ p ∈ news, p.1 ≠ l := hAp l (by simp [jnPre])
    have hND0 := hND
    simp only [jnPre, List.map_cons, List.map_nil, List.nodup_cons, List.mem_cons, List.not_mem_nil, or_false, not_or, not_false_eq_true, and_true, List.nodup_nil] at hND
    obtain ⟨⟨e1, e2, e3, e4, e5⟩, ⟨e6, e7, e8, e9⟩, ⟨e10, e11, e12⟩, ⟨e13, e14⟩, e15⟩ := hND
    replace e5 := neN e5
    replace e9 := neN e9
    replace e12 := neN e12
    replace e14 := neN e14
    replace e15 := neN e15
    k_steps
    · have hk2 : k = 1 := by omega
      (rename News h₀ L _ _ => NN)
      subst hk2
      have e : ns.getD lo.toNat 0 = undig n ns 1 lo.toNat := by
        unfold undig
        rw [dif_pos (Nat.le_refl 1)]
      rw [e]
      refine hret _ (jnPre f c ci ca cn l q dc pmn ct oc o1 o2 o3 vs z) _ _ (by assumption) NN hND0 (fun q hq => .inl (by simp only [jnPre, List.mem_cons, List.not_mem_nil, or_false, List.map_cons, List.map_nil] at hq ⊢; rcases hq with h | h | h | h | h | h <;> simp [h])) ⟨_, rfl, rfl⟩
    · have hk2 : 2 ≤ k := by omega
      have hmid : (lo + hi).fdiv (2 ^ Int.toNat 1) = lo + (k / 2 : Nat) := by
        rw [Int.fdiv_eq_ediv_of_nonneg _ (by decide)]
        simp
        omega
      simp only [hmid] at *
      refine mul_int ?_ (IntMulOk.of_right (intBits_le_64 (by omega) ?_))
      rotate_left
      · have : n ≤ k * n := Nat.le_mul_of_pos_left _ (by omega)
        omega
      have hsh : (lo + ((k / 2 : Nat) : Int) - lo) * (n : Int) = ((k / 2 * n : Nat) : Int) := by
        rw [show lo + ((k / 2 : Nat) : Int) - lo = ((k / 2 : Nat) : Int) by omega]
        exact (Int.natCast_mul _ _).symm
      simp only [hsh] at *
      have hs128 : k / 2 * n ≤ 62 := Nat.le_trans (Nat.mul_le_mul_right _ (Nat.div_le_self _ _)) hkn
      have hs129 : (k - k / 2) * n ≤ 62 := Nat.le_trans (Nat.mul_le_mul_right _ (Nat.sub_le _ _)) hkn
      have hdig : undig n ns k lo.toNat = undig n ns (k - k / 2) (lo + (k / 2 : Nat)).toNat * 2 ^ (k / 2 * n) + undig n ns (k / 2) lo.toNat := by
        conv => lhs; unfold undig
        rw [dif_neg (by omega), show (lo + (k / 2 : Nat)).toNat = lo.toNat + k / 2 by omega]
      have hbd := undig_bound n ns hdg (k - k / 2) (lo + (k / 2 : Nat)).toNat (by omega)
      have hbd2 : (2 : Int) ^ ((k - k / 2) * n) ≤ 2 ^ 62 := two_pow_le hs129
      generalize hS : k / 2 * n = S at *
      try dsimp only
      k_steps
      refine Hold.off ?_
      refine' Spec.use (ih (k - k / 2) (by omega) (by omega) (by omega) (lo + (k / 2 : Nat)) hi _ _ (by omega) (by omega) hlen) news ?B ?F ?X ?N ?hs hND0 hAp ?T ?hk ?hd ?hu ?ret
      case B => k_asm
      case F => k_asm
      case X => k_asm
      case N => k_asm
      case T => k_asm
      case hk => exact rfl
      case hs => exact fun q hq => hq
      case hd => dsimp only [Around.deeper, ktrTop]; omega
      case hu => dsimp only [Around.deeper, ktrTop]; omega
      case ret =>
      rintro r post' h2 tk2 F2 N2 - - ⟨t2, rfl, rfl⟩
      simp only [jnPre, jnArgs, jnBody, jnScope, List.cons_append, List.nil_append] at N2
      have hVn : (undig n ns (k - k / 2) (lo + (k / 2 : Nat)).toNat).natAbs < 2 ^ 64 := by omega
      dsimp only
      k_steps
      refine Hold.off ?_
      refine' Spec.use (ih (k / 2) (by omega) (by omega) (by omega) lo (lo + (k / 2 : Nat)) _ _ (by omega) rfl (by omega)) news ?B ?F ?X ?N ?hs hND0 hAp ?T ?hk ?hd ?hu ?ret
      case B => k_asm
      case F => k_asm
      case X => k_asm
      case N => k_asm
      case T => k_asm
      case hk => exact rfl
      case hs => exact fun q hq => hq
      case hd => dsimp only [Around.deeper, ktrTop]; omega
      case hu => dsimp only [Around.deeper, ktrTop]; omega
      case ret =>
      rintro r post' h3 tk3 F3 N3 - - ⟨t3, rfl, rfl⟩
      simp only [jnPre, jnArgs, jnBody, jnScope, List.cons_append, List.nil_append] at N3
      dsimp only
      k_steps
      (rename News h₀ L _ _ => NN)
      simp only [Int.toNat_natCast, ← hdig]
      refine hret _ (jnPre f c ci ca cn l q dc pmn ct oc o1 o2 o3 vs z) _ _ (by assumption) NN hND0 (fun q hq => .inl (by simp only [jnPre, List.mem_cons, List.not_mem_nil, or_false, List.map_cons, List.map_nil] at hq ⊢; rcases hq with h | h | h | h | h | h <;> simp [h])) ⟨_, rfl, rfl⟩
end Mine
-- part C3
namespace Mine
set_option Elab.async false
set_option maxRecDepth 100000
set_option maxHeartbeats 8000000
local macro_rules | `(tactic| walk_at "call ref") => `(tactic| (refine Hold.on ?_))
local macro_rules | `(tactic| k_all) => `(tactic| first | assumption | (refine' Tail.ne ?ta ?tb; (case ta => assumption); (case tb => (try dsimp only); omega)) | fail "k_all")
local macro_rules | `(tactic| walk_at "m nodup") => `(tactic| repeat' (first | exact nd_nil | exact all_nil | refine nd_cons ?_ ?_ | refine all_cons ?_ ?_ | k_ne))
local macro_rules | `(tactic| walk_at "m apart") => `(tactic| repeat' (first | exact Apart.nil | refine Apart.cons ?_ ?_ | k_all))
local macro_rules | `(tactic| walk_at "m sub") => `(tactic| repeat' (first | exact sub_nil | exact sub_self | (refine' sub_cons ?ta ?_; (case ta => k_mem)) | refine sub_tail ?_ | fail "m sub"))
local macro_rules | `(tactic| walk_at "m lt") => `(tactic| repeat' (first | refine List.forall_mem_cons.mpr ⟨?_, ?_⟩ | (refine' Tail.lt ?ta ?tb; (case ta => assumption); (case tb => (try dsimp only); omega)) | (refine ltA ?_; (try dsimp only); omega) | fail "m lt"))
local macro_rules | `(tactic| walk_at "m enterC") => `(tactic| k_dflt (refine' code_defC ?k1 ?k2 ?k3 ?k4 ?k5 ?kA ?kF ?kK ?k6 ?k7 ?k8 ?k9 ?kB ?kD ?_ ?c2 ?c3 ?c4; (case kA => exact rfl); (case kF => exact rfl); (case kK => assumption); (case k1 => k_asm); (case k2 => k_asm); (case k3 => k_asm); (case k4 => k_asm); (case k5 => k_asm); (case k6 => k_is); (case k7 => k_is); (case k8 => ktr_room); (case k9 => first | exact BindsTo.of_eq rfl | exact binds_K (by k_in) rfl (by k_is) rfl rfl rfl | fail "k_enter: no rule for these arguments"); (case kB => exact rfl); (case kD => decide +kernel); (case c2 => exact rfl); (case c3 => exact rfl); (case c4 => exact rfl); k_whole))
local macro_rules | `(tactic| walk_at "m enterL") => `(tactic| k_dflt (refine' code_defL ?k1 ?k2 ?k3 ?k4 ?k5 ?kA ?kF ?kK ?k6 ?k7 ?k8 ?k9 ?kB ?_ ?c2 ?c3 ?c4 ?c5; (case kA => exact rfl); (case kF => exact rfl); (case kK => assumption); (case k1 => k_asm); (case k2 => k_asm); (case k3 => k_asm); (case k4 => k_asm); (case k5 => k_asm); (case k6 => k_is); (case k7 => k_is); (case k8 => ktr_room); (case k9 => first | exact BindsTo.of_eq rfl | exact binds_K (by k_in) rfl (by k_is) rfl rfl rfl | fail "k_enter: no rule for these arguments"); (case c5 => decide); (case kB => exact locs rfl); (case c2 => exact rfl); (case c3 => exact rfl); (case c4 => exact rfl); k_whole))
local macro_rules | `(tactic| walk_at "m enterN") => `(tactic| k_dflt (refine' code_nestL ?k1 ?k2 ?k3 ?k4 ?k5 ?kA ?kF ?kK ?k6 ?k7 ?k8 ?k9 ?kB ?_ ?c2 ?c3 ?c4 ?c5; (case kA => exact rfl); (case kF => exact rfl); (case kK => assumption); (case k1 => k_asm); (case k2 => k_asm); (case k3 => k_asm); (case k4 => k_asm); (case k5 => k_asm); (case k6 => k_mem); (case k7 => exact codeRec_news (by k_asm) (by k_mem) (by assumption) (by assumption)); (case k8 => ktr_room); (case k9 => exact BindsTo.of_eq rfl); (case c5 => decide); (case kB => exact locs rfl); (case c2 => exact rfl); (case c3 => exact rfl); (case c4 => exact rfl); k_whole))
theorem d2i_cold (w : World) (n : Nat) (tn : Tok) (hn : 1 ≤ n) (l : Addr) (vs : List Value) (ns : List Int) (z : Nat) (hlen2 : ns.length ≤ 128) (hvs : IntsAre vs ns) (hdg : ∀ d ∈ ns, 0 ≤ d ∧ d < 2 ^ n) (hkn : ns.length * n ≤ 62) : Spec w 42 [.ref l, .int n tn] 140 1100 [(37, tabObj #[]), (l, W.listOf vs.toArray z)]
    (fun r post => ∃ t tl, r = .int (if ns = [] then 0 else undig n ns ns.length 0) t ∧ TabSt 37 47 4 (Str.ofString "_digits2int" ++ (".<locals>." : Str) ++ Str.ofString "inner") tl ∧ post = tl ++ [(l, W.listOf vs.toArray z)]) := by
  unfold Spec
  intro prog p loose mean mg mb dp un gd cn cs a ccd cl outer A₀ base h₀ L m news s Q E B F X N hND hAp T hk hd1 hu1 hret
  simp only [List.cons_append, List.nil_append] at N
  have hA37 : ∀ p ∈ news, p.1 ≠ 37 := hAp 37 (by simp)
  have hAl : ∀ p ∈ news, p.1 ≠ l := hAp l (by simp)
  simp only [List.map_cons, List.map_nil, List.nodup_cons, List.mem_cons, List.not_mem_nil, or_false, not_or, not_false_eq_true, and_true, List.nodup_nil] at hND
  replace hND := neN hND
  have hlv := hvs.length
  refine wpAny_call ?_
  walk_at "m enterC"
  intro g' L' h' tk' cells' FG' F' N' Y' B' X' T' l1
  have hT : Tail L' news := fun p hp => l1 p (.tail _ (.tail _ hp))
  k_lt l1
  k_cells Y'
  (try simp only [List.cons_append, List.nil_append] at N')
  (try dsimp only)
  (try k_lift B')
  have C' := codeHd_of_K (c := 41) (P := 37) X' (by kernel_rfl)
  k_steps
  · refine Hold.off ?_
    rename_i oa ob od da db dd f' c' oc' vs' t' ct' dc' h1' tk1' d1' d2' l5 l6 h2' o1 F9 N9 dd1 hx0
    have hne : ns ≠ [] := fun e => by rw [e] at hx0; exact absurd hx0 (Nat.lt_irrefl _)
    refine' Spec.use (inner2 w n tn hn f' c' _ _ _ l _ _ _ _ oc' o1 od ob vs' t' d1' d2' dd1 dd db vs ns z hlen2 hvs hdg ns.length hx0 hkn 0 ns.length _ _ (by omega) (by simp) (by omega)) ((37, tabObj #[rawInt 47, rawInt 4, .ref c']) :: news) ?B ?F ?X ?N ?hs ?hnd ?hap ?T ?hk ?hd ?hu ?ret
    case B => k_asm
    case F => k_asm
    case X => k_asm
    case N => k_asm
    case T => k_asm
    case hk => exact rfl
    case hs => walk_at "m sub"
    case hnd => walk_at "m nodup"
    case hap => walk_at "m apart"
    case hd => dsimp only [Around.deeper, ktrTop]; omega
    case hu => dsimp only [Around.deeper, ktrTop]; omega
    case ret =>
    rintro r post' h3 tk3 F3 N3 - - ⟨t3, rfl, rfl⟩
    simp only [jnPre, jnArgs, jnBody, jnScope, List.cons_append, List.nil_append] at N3
    dsimp only
    k_steps
    (rename News h₀ L _ _ => NN)
    refine hret _ ([(37, tabObj #[rawInt 47, rawInt 4, .ref c']), (c', oc')] ++ [(l, W.listOf vs.toArray z)]) _ _ (by assumption) (fun q hq => NN q ((by walk_at "m sub" : ∀ p ∈ (37, tabObj #[rawInt 47, rawInt 4, .ref c']) :: (c', oc') :: (l, W.listOf vs.toArray z) :: news, p ∈ _) q hq)) (by walk_at "m nodup") (Over.old (by simp) (Over.new (by walk_at "m lt") (Over.old (by simp) Over.nil))) ⟨t3, _, ?_, .warm c' oc' vs' t' d1' d2', rfl⟩
    rw [if_neg hne]
    rfl
  · rename_i f' c' oc' vs' t' ct' dc' h1' tk1' d1' d2' l5 l6 h2' o1 F9 N9 dd1 hx0 kF kN Tc kX
    have hne : ns = [] := List.eq_nil_of_length_eq_zero (by omega)
    refine hret _ ([(37, tabObj #[rawInt 47, rawInt 4, .ref c']), (c', oc')] ++ [(l, W.listOf vs.toArray z)]) _ _ (by assumption) (fun q hq => kN q ((by walk_at "m sub" : ∀ p ∈ (37, tabObj #[rawInt 47, rawInt 4, .ref c']) :: (c', oc') :: (l, W.listOf vs.toArray z) :: news, p ∈ _) q hq)) (by walk_at "m nodup") (Over.old (by simp) (Over.new (by walk_at "m lt") (Over.old (by simp) Over.nil))) ⟨_, _, congrArg (fun v => Value.int v _) (if_pos hne).symm, .warm c' oc' vs' t' d1' d2', rfl⟩
theorem d2i_warm (w : World) (n : Nat) (tn : Tok) (hn : 1 ≤ n) (l : Addr) (vs : List Value) (ns : List Int) (z : Nat) (hlen2 : ns.length ≤ 128) (hvs : IntsAre vs ns) (hdg : ∀ d ∈ ns, 0 ≤ d ∧ d < 2 ^ n) (hkn : ns.length * n ≤ 62) (c : Addr) (oc : Obj) (cvs : Array Value) (ctk : Tok) (hoc : oc.data = .fields cvs) (hcv : cvs[1]? = some (.str (Str.ofString "_digits2int" ++ (".<locals>." : Str) ++ Str.ofString "inner") ctk)) : Spec w 42 [.ref l, .int n tn] 140 1100 [(37, tabObj #[rawInt 47, rawInt 4, .ref c]), (c, oc), (l, W.listOf vs.toArray z)]
    (fun r post => ∃ t tl, r = .int (if ns = [] then 0 else undig n ns ns.length 0) t ∧ TabSt 37 47 4 (Str.ofString "_digits2int" ++ (".<locals>." : Str) ++ Str.ofString "inner") tl ∧ post = tl ++ [(l, W.listOf vs.toArray z)]) := by
  unfold Spec
  intro prog p loose mean mg mb dp un gd cn cs a ccd cl outer A₀ base h₀ L m news s Q E B F X N hND hAp T hk hd1 hu1 hret
  simp only [List.cons_append, List.nil_append] at N
  have hA37 : ∀ p ∈ news, p.1 ≠ 37 := hAp 37 (by simp)
  have hAl : ∀ p ∈ news, p.1 ≠ l := hAp l (by simp)
  simp only [List.map_cons, List.map_nil, List.nodup_cons, List.mem_cons, List.not_mem_nil, or_false, not_or, not_false_eq_true, and_true, List.nodup_nil] at hND
  obtain ⟨⟨e1, e2⟩, e3⟩ := hND
  replace e1 := neN e1
  replace e2 := neN e2
  replace e3 := neN e3
  have hAc : ∀ p ∈ news, p.1 ≠ c := hAp c (by simp)
  have hlv := hvs.length
  refine wpAny_call ?_
  walk_at "m enterC"
  intro g' L' h' tk' cells' FG' F' N' Y' B' X' T' l1
  have hT : Tail L' news := fun p hp => l1 p (.tail _ (.tail _ (.tail _ hp)))
  k_lt l1
  k_cells Y'
  (try simp only [List.cons_append, List.nil_append] at N')
  (try dsimp only)
  (try k_lift B')
  have C' := codeHd_of_K (c := 41) (P := 37) X' (by kernel_rfl)
  k_steps
  · refine Hold.off ?_
    rename_i oa ob od da db dd f' ct' dc' h1' tk1' l5 h2' o1 F9 N9 dd1 hx0
    have hne : ns ≠ [] := fun e => by rw [e] at hx0; exact absurd hx0 (Nat.lt_irrefl _)
    refine' Spec.use (inner2 w n tn hn f' c _ _ _ l _ _ _ _ oc o1 od ob cvs ctk hoc hcv dd1 dd db vs ns z hlen2 hvs hdg ns.length hx0 hkn 0 ns.length _ _ (by omega) (by simp) (by omega)) ((37, tabObj #[rawInt 47, rawInt 4, .ref c]) :: news) ?B ?F ?X ?N ?hs ?hnd ?hap ?T ?hk ?hd ?hu ?ret
    case B => k_asm
    case F => k_asm
    case X => k_asm
    case N => k_asm
    case T => k_asm
    case hk => exact rfl
    case hs => walk_at "m sub"
    case hnd => walk_at "m nodup"
    case hap => walk_at "m apart"
    case hd => dsimp only [Around.deeper, ktrTop]; omega
    case hu => dsimp only [Around.deeper, ktrTop]; omega
    case ret =>
    rintro r post' h3 tk3 F3 N3 - - ⟨t3, rfl, rfl⟩
    simp only [jnPre, jnArgs, jnBody, jnScope, List.cons_append, List.nil_append] at N3
    dsimp only
    k_steps
    (rename News h₀ L _ _ => NN)
    refine hret _ ([(37, tabObj #[rawInt 47, rawInt 4, .ref c]), (c, oc)] ++ [(l, W.listOf vs.toArray z)]) _ _ (by assumption) (fun q hq => NN q ((by walk_at "m sub" : ∀ p ∈ (37, tabObj #[rawInt 47, rawInt 4, .ref c]) :: (c, oc) :: (l, W.listOf vs.toArray z) :: news, p ∈ _) q hq)) (by walk_at "m nodup") (Over.old (by simp) (Over.old (by simp) (Over.old (by simp) Over.nil))) ⟨t3, _, ?_, .warm c oc cvs ctk hoc hcv, rfl⟩
    rw [if_neg hne]
    rfl
  · rename_i f' ct' dc' h1' tk1' l5 h2' o1 F9 N9 dd1 hx0 kF kN Tc kX
    have hne : ns = [] := List.eq_nil_of_length_eq_zero (by omega)
    refine hret _ ([(37, tabObj #[rawInt 47, rawInt 4, .ref c]), (c, oc)] ++ [(l, W.listOf vs.toArray z)]) _ _ (by assumption) (fun q hq => kN q ((by walk_at "m sub" : ∀ p ∈ (37, tabObj #[rawInt 47, rawInt 4, .ref c]) :: (c, oc) :: (l, W.listOf vs.toArray z) :: news, p ∈ _) q hq)) (by walk_at "m nodup") (Over.old (by simp) (Over.old (by simp) (Over.old (by simp) Over.nil))) ⟨_, _, congrArg (fun v => Value.int v _) (if_pos hne).symm, .warm c oc cvs ctk hoc hcv, rfl⟩
theorem d2i (w : World) (n : Nat) (tn : Tok) (hn : 1 ≤ n) (l : Addr) (vs : List Value) (ns : List Int) (z : Nat) (hlen2 : ns.length ≤ 128) (hvs : IntsAre vs ns) (hdg : ∀ d ∈ ns, 0 ≤ d ∧ d < 2 ^ n) (hkn : ns.length * n ≤ 62) (tl : List (Addr × Obj)) (ht : TabSt 37 47 4 (Str.ofString "_digits2int" ++ (".<locals>." : Str) ++ Str.ofString "inner") tl) : Spec w 42 [.ref l, .int n tn] 140 1100 (tl ++ [(l, W.listOf vs.toArray z)])
    (fun r post => ∃ t tl, r = .int (if ns = [] then 0 else undig n ns ns.length 0) t ∧ TabSt 37 47 4 (Str.ofString "_digits2int" ++ (".<locals>." : Str) ++ Str.ofString "inner") tl ∧ post = tl ++ [(l, W.listOf vs.toArray z)]) := by
  cases ht with
  | cold => exact d2i_cold w n tn hn l vs ns z hlen2 hvs hdg hkn
  | warm c oc cvs t h1 h2 => exact d2i_warm w n tn hn l vs ns z hlen2 hvs hdg hkn c oc cvs t h1 h2
end Mine
-- part C1
namespace Mine
set_option Elab.async false
set_option maxRecDepth 100000
set_option maxHeartbeats 8000000
local macro_rules | `(tactic| walk_at "call ref") => `(tactic| (refine Hold.on ?_))
local macro_rules | `(tactic| k_all) => `(tactic| first | assumption | (refine' Tail.ne ?ta ?tb; (case ta => assumption); (case tb => (try dsimp only); omega)) | fail "k_all")
local macro_rules | `(tactic| walk_at "m nodup") => `(tactic| repeat' (first | exact nd_nil | exact all_nil | refine nd_cons ?_ ?_ | refine all_cons ?_ ?_ | k_ne))
local macro_rules | `(tactic| walk_at "m apart") => `(tactic| repeat' (first | exact Apart.nil | refine Apart.cons ?_ ?_ | k_all))
local macro_rules | `(tactic| walk_at "m sub") => `(tactic| repeat' (first | exact sub_nil | exact sub_self | (refine' sub_cons ?ta ?_; (case ta => k_mem)) | refine sub_tail ?_ | fail "m sub"))
local macro_rules | `(tactic| walk_at "m lt") => `(tactic| repeat' (first | refine List.forall_mem_cons.mpr ⟨?_, ?_⟩ | (refine' Tail.lt ?ta ?tb; (case ta => assumption); (case tb => (try dsimp only); omega)) | (refine ltA ?_; (try dsimp only); omega) | fail "m lt"))
local macro_rules | `(tactic| walk_at "m enterC") => `(tactic| k_dflt (refine' code_defC ?k1 ?k2 ?k3 ?k4 ?k5 ?kA ?kF ?kK ?k6 ?k7 ?k8 ?k9 ?kB ?kD ?_ ?c2 ?c3 ?c4; (case kA => exact rfl); (case kF => exact rfl); (case kK => assumption); (case k1 => k_asm); (case k2 => k_asm); (case k3 => k_asm); (case k4 => k_asm); (case k5 => k_asm); (case k6 => k_is); (case k7 => k_is); (case k8 => ktr_room); (case k9 => first | exact BindsTo.of_eq rfl | exact binds_K (by k_in) rfl (by k_is) rfl rfl rfl | fail "k_enter: no rule for these arguments"); (case kB => exact rfl); (case kD => decide +kernel); (case c2 => exact rfl); (case c3 => exact rfl); (case c4 => exact rfl); k_whole))
local macro_rules | `(tactic| walk_at "m enterL") => `(tactic| k_dflt (refine' code_defL ?k1 ?k2 ?k3 ?k4 ?k5 ?kA ?kF ?kK ?k6 ?k7 ?k8 ?k9 ?kB ?_ ?c2 ?c3 ?c4 ?c5; (case kA => exact rfl); (case kF => exact rfl); (case kK => assumption); (case k1 => k_asm); (case k2 => k_asm); (case k3 => k_asm); (case k4 => k_asm); (case k5 => k_asm); (case k6 => k_is); (case k7 => k_is); (case k8 => ktr_room); (case k9 => first | exact BindsTo.of_eq rfl | exact binds_K (by k_in) rfl (by k_is) rfl rfl rfl | fail "k_enter: no rule for these arguments"); (case c5 => decide); (case kB => exact locs rfl); (case c2 => exact rfl); (case c3 => exact rfl); (case c4 => exact rfl); k_whole))
local macro_rules | `(tactic| walk_at "m enterN") => `(tactic| k_dflt (refine' code_nestL ?k1 ?k2 ?k3 ?k4 ?k5 ?kA ?kF ?kK ?k6 ?k7 ?k8 ?k9 ?kB ?_ ?c2 ?c3 ?c4 ?c5; (case kA => exact rfl); (case kF => exact rfl); (case kK => assumption); (case k1 => k_asm); (case k2 => k_asm); (case k3 => k_asm); (case k4 => k_asm); (case k5 => k_asm); (case k6 => k_mem); (case k7 => exact codeRec_news (by k_asm) (by k_mem) (by assumption) (by assumption)); (case k8 => ktr_room); (case k9 => exact BindsTo.of_eq rfl); (case c5 => decide); (case kB => exact locs rfl); (case c2 => exact rfl); (case c3 => exact rfl); (case c4 => exact rfl); k_whole))
local macro_rules | `(tactic| walk_at "call builtin:divmod") => `(tactic| (refine Hold.on ?_))
theorem div2_ok (w : World) (x y n : Int) (tx ty tn : Tok) (hx : 0 ≤ x) (hx2 : x < 2 ^ 64) (hy : 0 < y) (hy2 : y < 1073741824) (hn : 0 ≤ n) : Spec w 21 [.int x tx, .int y ty, .int n tn] 1 8 []
    (fun r post => ∃ a t1 t2, r = .ref a ∧ post = [(a, tup2 (x / y) (x % y) t1 t2)]) := by
  unfold Spec
  intro prog p loose mean mg mb dp un gd cn cs a ccd cl outer A₀ base h₀ L m news s Q E B F X N hND hAp T hk hd1 hu1 hret
  simp only [List.nil_append] at N
  have hb : (Builtin.Int.intBits x : Int) - n ≤ 4000 := by
    have h2 := intBits_le_64 (k := x) (by omega) (by omega)
    omega
  refine wpAny_call ?_
  walk_at "m enterL"
  intro g' L' h' FG' F' N' B' X' T' l1
  (try dsimp only)
  (try k_lift B')
  k_fold
  k_steps
  refine Hold.off ?_
  refine' divmod_K ?kF ?kN hy hy2 ?_
  case kF => assumption
  case kN => assumption
  intro r t1 t2 h1 tk1 F1 N1 l1
  (try dsimp only)
  k_steps
  (rename News h₀ L _ _ => NN)
  exact hret _ [(r, tup2 (x / y) (x % y) t1 t2)] _ _ (by assumption) NN (by walk_at "m nodup") (Over.new l1 Over.nil) ⟨r, t1, t2, rfl, rfl⟩
end Mine
-- part C4
namespace Mine
set_option Elab.async false
set_option maxRecDepth 100000
set_option maxHeartbeats 8000000
local macro_rules | `(tactic| walk_at "call ref") => `(tactic| (refine Hold.on ?_))
local macro_rules | `(tactic| k_all) => `(tactic| first | assumption | (refine' Tail.ne ?ta ?tb; (case ta => assumption); (case tb => (try dsimp only); omega)) | fail "k_all")
local macro_rules | `(tactic| walk_at "m nodup") => `(tactic| repeat' (first | exact nd_nil | exact all_nil | refine nd_cons ?_ ?_ | refine all_cons ?_ ?_ | k_ne))
local macro_rules | `(tactic| walk_at "m apart") => `(tactic| repeat' (first | exact Apart.nil | refine Apart.cons ?_ ?_ | k_all))
local macro_rules | `(tactic| walk_at "m sub") => `(tactic| repeat' (first | exact sub_nil | exact sub_self | (refine' sub_cons ?ta ?_; (case ta => k_mem)) | refine sub_tail ?_ | fail "m sub"))
local macro_rules | `(tactic| walk_at "m lt") => `(tactic| repeat' (first | refine List.forall_mem_cons.mpr ⟨?_, ?_⟩ | (refine' Tail.lt ?ta ?tb; (case ta => assumption); (case tb => (try dsimp only); omega)) | (refine ltA ?_; (try dsimp only); omega) | fail "m lt"))
local macro_rules | `(tactic| walk_at "m enterC") => `(tactic| k_dflt (refine' code_defC ?k1 ?k2 ?k3 ?k4 ?k5 ?kA ?kF ?kK ?k6 ?k7 ?k8 ?k9 ?kB ?kD ?_ ?c2 ?c3 ?c4; (case kA => exact rfl); (case kF => exact rfl); (case kK => assumption); (case k1 => k_asm); (case k2 => k_asm); (case k3 => k_asm); (case k4 => k_asm); (case k5 => k_asm); (case k6 => k_is); (case k7 => k_is); (case k8 => ktr_room); (case k9 => first | exact BindsTo.of_eq rfl | (refine' kp_binds ?kx ?ke; (case kx => k_in); (case ke => exact fun _ => rfl)) | fail "m enter: no rule for these arguments"); (case kB => exact rfl); (case kD => decide +kernel); (case c2 => exact rfl); (case c3 => exact rfl); (case c4 => exact rfl); k_whole))
local macro_rules | `(tactic| walk_at "m enterL") => `(tactic| k_dflt (refine' code_defL ?k1 ?k2 ?k3 ?k4 ?k5 ?kA ?kF ?kK ?k6 ?k7 ?k8 ?k9 ?kB ?_ ?c2 ?c3 ?c4 ?c5; (case kA => exact rfl); (case kF => exact rfl); (case kK => assumption); (case k1 => k_asm); (case k2 => k_asm); (case k3 => k_asm); (case k4 => k_asm); (case k5 => k_asm); (case k6 => k_is); (case k7 => k_is); (case k8 => ktr_room); (case k9 => first | exact BindsTo.of_eq rfl | (refine' kp_binds ?kx ?ke; (case kx => k_in); (case ke => exact fun _ => rfl)) | fail "m enter: no rule for these arguments"); (case c5 => decide); (case kB => exact locs rfl); (case c2 => exact rfl); (case c3 => exact rfl); (case c4 => exact rfl); k_whole))
local macro_rules | `(tactic| walk_at "m enterN") => `(tactic| k_dflt (refine' code_nestL ?k1 ?k2 ?k3 ?k4 ?k5 ?kA ?kF ?kK ?k6 ?k7 ?k8 ?k9 ?kB ?_ ?c2 ?c3 ?c4 ?c5; (case kA => exact rfl); (case kF => exact rfl); (case kK => assumption); (case k1 => k_asm); (case k2 => k_asm); (case k3 => k_asm); (case k4 => k_asm); (case k5 => k_asm); (case k6 => k_mem); (case k7 => exact codeRec_news (by k_asm) (by k_mem) (by assumption) (by assumption)); (case k8 => ktr_room); (case k9 => exact BindsTo.of_eq rfl); (case c5 => decide); (case kB => exact locs rfl); (case c2 => exact rfl); (case c3 => exact rfl); (case c4 => exact rfl); k_whole))
local macro_rules | `(tactic| walk_at "m lt'") => `(tactic| repeat' (first | refine List.forall_mem_cons.mpr ⟨?_, ?_⟩ | (refine' Tail.ne ?ta ?tb; (case ta => assumption); (case tb => (try dsimp only); omega)) | k_ne | fail "m lt'"))
local macro_rules | `(tactic| walk_at "UnrPost") => `(tactic| (refine Hold.on ?_))
local macro_rules | `(tactic| walk_at "UnrEnd") => `(tactic| (refine Hold.on ?_))
local macro_rules | `(tactic| walk_at "newTuple") => `(tactic| (refine Hold.on ?_))
theorem dmpos (w : World) (x y : Int) (tx ty : Tok) (hx : 0 ≤ x) (hx2 : x < 1073741824) (hy : 0 < y) (hy2 : y < 1073741824) (t1 t2 : List (Addr × Obj)) (ht1 : TabSt 30 32 4 q30 t1) (ht2 : TabSt 37 47 4 q37 t2) :
    Spec w 49 [.int x tx, .int y ty] 150 1200 (t1 ++ t2)
    (fun r post => ∃ a u1 u2 t1 t2, r = .ref a ∧ TabSt 30 32 4 q30 t1 ∧ TabSt 37 47 4 q37 t2 ∧ post = (a, tup2 (x / y) (x % y) u1 u2) :: (t1 ++ t2)) := by
  unfold Spec
  intro prog p loose mean mg mb dp un gd cn cs a ccd cl outer A₀ base h₀ L m news s Q E B F X N hND hAp T hk hd1 hu1 hret
  have hb : Builtin.Int.intBits y ≤ 30 := bits_le_of (by omega) (by omega)
  have hb1 := bits_pos (x := y) (by omega)
  refine wpAny_call ?_
  walk_at "m enterL"
  intro g' L' h' FG' F' N' B' X' T' l1
  (try dsimp only)
  (try k_lift B')
  k_fold
  have C' := codeHd_of_K (c := 34) (P := 30) X' (by kernel_rfl)
  k_steps
  have hND' := hND
  rw [List.map_append] at hND'
  refine Hold.off ?_
  refine' Spec.use (i2d w x (Builtin.Int.intBits y) _ _ hx hx2 hb1 (by omega) t1 ht1) (t2 ++ news) ?sB ?sF ?sX ?sN ?sS ?sD ?sA ?sT ?sK ?sP ?sU ?sR
  case sB => k_asm
  case sF => k_asm
  case sX => k_asm
  case sN => k_asm
  case sT => k_asm
  case sK => exact rfl
  case sS => exact fun q hq => by simpa [List.append_assoc] using hq
  case sD => exact (List.nodup_append.mp hND').1
  case sA =>
    intro b hb p hp
    rcases List.mem_append.mp hp with hp | hp
    · exact fun e => (List.nodup_append.mp hND').2.2 b hb p.1 (List.mem_map_of_mem hp) e.symm
    · exact hAp b (by rw [List.map_append]; exact List.mem_append_left _ hb) p hp
  case sP => dsimp only [Around.deeper, ktrTop]; omega
  case sU => dsimp only [Around.deeper, ktrTop]; omega
  case sR =>
  rintro r post' h2 tk2 F2 N2 hnd2 hov2 ⟨da, dvs, dz, t3, rfl, hdv, ht3, rfl⟩
  dsimp only
  rw [List.cons_append] at N2
  k_steps
  (rename Fr _ _ _ _ => FF)
  (rename News _ _ _ _ => NN)
  refine name_map FF fun m₀ hm₀ FF => ?_
  generalize hds : (if x = 0 then [] else digs (Builtin.Int.intBits y) (nd x (Builtin.Int.intBits y)) x) = ds at *
  rename_i qa hF lQ hG DA hI NX lD
  generalize hR : t3 ++ (t2 ++ news) = rest at *
  have hTl : Tail qa rest := allLt_tail lQ.2
  have hB0 : (0 : Int) < 2 ^ (Builtin.Int.intBits y) := Int.pow_pos (by decide)
  have hB1 : (2 : Int) ^ (Builtin.Int.intBits y) ≤ 1073741824 := two_pow_le (b := 30) hb
  have hdb : ∀ d ∈ ds.reverse, 0 ≤ d ∧ d < 2 ^ (Builtin.Int.intBits y) := by
    intro d hd
    rw [← hds] at hd
    rw [List.mem_reverse] at hd
    split at hd
    · cases hd
    · rename_i hx0
      exact digs_bound _ _ x (nd_pos hx0 hb1) hx (Int.lt_of_lt_of_le (lt_bits hx) (two_pow_le (nd_up hb1))) d hd
  have hdr : IntsAre dvs.reverse ds.reverse := IntsAre.reverse hdv
  have hbv : bev (2 ^ (Builtin.Int.intBits y)) ds.reverse = x := by
    rw [bev_rev, ← hds]
    split
    · rename_i hx0; rw [hx0]; rfl
    · rename_i hx0; exact digs_val _ _ x (nd_pos hx0 hb1)
  have hdl : ds.length ≤ 128 ∧ ds.length * Builtin.Int.intBits y ≤ 62 := by
    rw [← hds]
    split
    · simp
    · rename_i hx0
      have h1 := nd_mul2 x (Builtin.Int.intBits y) 30 (bits_le_of hx (by omega))
      have h2 := nd_le x (Builtin.Int.intBits y) (Nat.le_trans (bits_le_of hx (by omega : x < 2 ^ 30)) (by omega)) hb1 (by omega)
      rw [digs_len _ _ _ (nd_pos hx0 hb1)]
      omega
  refine rev_inv (by rfl) FF NN ?off (.tail _ (.head _)) rfl rfl (fun i m nl => ∃ (qvs : List Value) (qz : Nat) (tr : Tok) (u1 u2 : Option Value),
    m = (fun z => if z = Str.ofString "r" then some (.int (ld y (2 ^ (Builtin.Int.intBits y)) (ds.reverse.take i)).1 tr) else if z = Str.ofString "q_digit" then u1 else if z = Str.ofString "a_digit" then u2 else m₀ z) ∧
    IntsAre qvs (ld y (2 ^ (Builtin.Int.intBits y)) (ds.reverse.take i)).2 ∧ nl = (qa, W.listOf qvs.toArray qz) :: (da, W.listOf dvs.toArray dz) :: rest) ?start ?keep ?turn ?done
  case off => walk_at "m lt'"
  case start =>
    obtain ⟨t0, ht0⟩ : ∃ t0, m₀ (Str.ofString "r") = some (.int 0 t0) := by rw [hm₀]; exact ⟨_, rfl⟩
    exact ⟨[], 0, t0, m₀ (Str.ofString "q_digit"), m₀ (Str.ofString "a_digit"), canon3 m₀ _ _ _ _ ht0, .nil, rfl⟩
  case keep =>
    rintro i m nl ⟨qvs, qz, tr, u1, u2, rfl, hq, rfl⟩
    exact .tail _ (.head _)
  case turn =>
    intro i v it hit hv m nl h5 tk5 hI F5 N5
    obtain ⟨qvs, qz, tr, u1, u2, rfl, hq5, rfl⟩ := hI
    obtain ⟨d, td, rfl, hd⟩ := hdr.at i v hv
    clear NN FF NX
    subst hm₀
    dsimp only at F5
    have htk := take_snoc hd
    have hok := ld_ok y _ hy hB0 (ds.reverse.take i) fun q hq => hdb q (List.mem_of_mem_take hq)
    have hdd := hdb d (List.mem_of_getElem? hd)
    have hmb := mul_bound hok.1 hok.2.1 hy2 hdd.1 hdd.2 hB1
    have hsn := ld_snoc y (2 ^ (Builtin.Int.intBits y)) (ds.reverse.take i) d
    rw [← htk] at hsn
    generalize hL : ld y (2 ^ (Builtin.Int.intBits y)) (ds.reverse.take i) = lst at *
    obtain ⟨ho1, ho2, ho3, ho4⟩ := hok
    k_steps
    refine Hold.off ?_
    refine' Spec.use (div2_ok w (lst.1 * 2 ^ (Builtin.Int.intBits y) + d) y (Builtin.Int.intBits y) _ _ _ hmb.1 hmb.2 hy hy2 (by omega)) ((DA, it) :: (qa, W.listOf qvs.toArray qz) :: (da, W.listOf dvs.toArray dz) :: rest) ?sB ?sF ?sX ?sN ?sS ?sD ?sA ?sT ?sK ?sP ?sU ?sR
    case sB => k_asm
    case sF => k_asm
    case sX => k_asm
    case sN => k_asm
    case sT => k_asm
    case sK => exact rfl
    case sS => exact fun q hq => hq
    case sD => exact nd_nil
    case sA => exact Apart.nil
    case sP => dsimp only [Around.deeper, ktrTop]; omega
    case sU => dsimp only [Around.deeper, ktrTop]; omega
    case sR =>
    rintro r post' h6 tk6 F6 N6 - hov ⟨a6, u6, w6, rfl, rfl⟩
    have l6 : ∀ p ∈ (DA, it) :: (qa, W.listOf qvs.toArray qz) :: (da, W.listOf dvs.toArray dz) :: rest, p.1 < a6 := (hov _ (.head _)).resolve_left (by simp)
    k_lt l6
    rw [List.cons_append, List.nil_append] at N6
    dsimp only
    k_steps
    have hql : qvs.length ≤ 128 := by
      rw [hq5.length, ← hL, ld_len, List.length_take]
      have := hdl.1
      rw [List.length_reverse]
      omega
    refine' append_K ?aF ?aN ?aU ?_ ?aZ
    case aF => assumption
    case aN => assumption
    case aU => k_upd
    case aZ => show qvs.toArray.size ≤ sizeLine; rw [List.size_toArray]; exact Nat.le_trans hql (by decide)
    intro h7 F7 N7
    (try dsimp only)
    rw [List.push_toArray] at N7
    k_steps
    refine Hold.off ?_
    refine ⟨h7, _, _, (qa, W.listOf (qvs ++ [Value.int ((lst.1 * 2 ^ (Builtin.Int.intBits y) + d) / y) u6]).toArray (qz + 1)) :: (da, W.listOf dvs.toArray dz) :: rest, rfl, F7, fun p hp => N7 p (.tail _ hp), ?_, ?_⟩
    · walk_at "m lt'"
    · refine ⟨_, _, w6, some (Value.int ((lst.1 * 2 ^ (Builtin.Int.intBits y) + d) / y) u6), some (Value.int d td), ?_, ?_, rfl⟩
      rotate_left
      · rw [hsn]
        exact IntsAre.append hq5 (.cons _ _ .nil)
      · rw [hsn]
        exact recan3 _ _ _ _ _ _ _ _ _ _
  case done =>
    intro m nl h5 tk5 hI F5 N5
    obtain ⟨qvs, qz, tr, u1, u2, rfl, hq5, rfl⟩ := hI
    clear NN FF NX
    subst hm₀
    dsimp only at F5
    have hfull : ds.reverse.take dvs.reverse.length = ds.reverse := by rw [hdr.length, List.take_length]
    rw [hfull] at F5 hq5
    k_steps
    refine reverse_head_ints F5 N5 ?_ hq5 ?_ ?_
    · walk_at "m lt'"
    · intro h6 F6 N6 hq6
      (try dsimp only)
      k_steps
      refine Hold.off ?_
      have hqs : qvs.toArray.toList.reverse = qvs.reverse := rfl
      rw [hqs] at N6 hq6
      have hok := ld_ok y _ hy hB0 ds.reverse hdb
      have hdv2 := ld_div y _ x hy hB0 ds.reverse hdb hbv
      have hll := ld_len y (2 ^ (Builtin.Int.intBits y)) ds.reverse
      have hsep : ∀ b ∈ t2.map (·.1), ∀ p ∈ t3, p.1 ≠ b := by
        intro b hb p hp e
        rcases hov2 p (.tail _ hp) with h | h
        · exact (List.nodup_append.mp hND').2.2 p.1 h b hb e
        · obtain ⟨q, hq, rfl⟩ := List.mem_map.mp hb
          have := h q (List.mem_append_left _ hq)
          rw [e] at this
          exact absurd this (Nat.lt_irrefl _)
      have hql : ∀ p ∈ rest, p.1 < qa := hTl
      rw [← hR] at hql
      generalize hL : ld y (2 ^ (Builtin.Int.intBits y)) ds.reverse = lst at *
      obtain ⟨ho1, ho2, ho3, ho4⟩ := hok
      refine' Spec.use (d2i w (Builtin.Int.intBits y) _ hb1 qa qvs.reverse lst.2.reverse qz ?hln hq6 ?hdg ?hkn t2 ht2) (t3 ++ news) ?sB ?sF ?sX ?sN ?sS ?sD ?sA ?sT ?sK ?sP ?sU ?sR
      case sB => k_asm
      case sF => k_asm
      case sX => k_asm
      case sN => k_asm
      case sT => k_asm
      case sK => exact rfl
      case hln => rw [List.length_reverse, hll, List.length_reverse]; exact hdl.1
      case hdg => exact fun d hd => ho3 d (List.mem_reverse.mp hd)
      case hkn => rw [List.length_reverse, hll, List.length_reverse]; exact hdl.2
      case sS =>
        intro q hq
        rw [← hR]
        simp only [List.mem_append, List.mem_cons, List.not_mem_nil, or_false] at hq ⊢
        rcases hq with (h | h) | h | h
        · exact .inr (.inr (.inr (.inl h)))
        · exact .inl h
        · exact .inr (.inr (.inl h))
        · exact .inr (.inr (.inr (.inr h)))
      case sD =>
        rw [List.map_append]
        refine List.nodup_append.mpr ⟨(List.nodup_append.mp hND').2.1, by walk_at "m nodup", ?_⟩
        intro b hb c hc e
        obtain ⟨q, hq, rfl⟩ := List.mem_map.mp hb
        have h1 := hql q (List.mem_append_right _ (List.mem_append_left _ hq))
        rw [e, List.mem_singleton.mp hc] at h1
        exact absurd h1 (Nat.lt_irrefl _)
      case sA =>
        intro b hb p hp
        rw [List.map_append] at hb
        rcases List.mem_append.mp hb with hb | hb
        · rcases List.mem_append.mp hp with hp | hp
          · exact hsep b hb p hp
          · exact hAp b (by rw [List.map_append]; exact List.mem_append_right _ hb) p hp
        · intro e
          have h1 := hql p (by rcases List.mem_append.mp hp with hp | hp; exact List.mem_append_left _ hp; exact List.mem_append_right _ (List.mem_append_right _ hp))
          rw [e, List.mem_singleton.mp hb] at h1
          exact absurd h1 (Nat.lt_irrefl _)
      case sP => dsimp only [Around.deeper, ktrTop]; omega
      case sU => dsimp only [Around.deeper, ktrTop]; omega
      case sR =>
      rintro r post' h7 tk7 F7 N7 hnd7 hov7 ⟨u7, t4, rfl, ht4, rfl⟩
      have hval : (if lst.2.reverse = [] then (0 : Int) else undig (Builtin.Int.intBits y) lst.2.reverse lst.2.reverse.length 0) = x / y := by
        rw [← hdv2.1]
        split
        · rename_i he
          rw [List.reverse_eq_nil_iff.mp he]; rfl
        · rename_i he
          rw [undig_all _ _ he, ← bev_rev, List.reverse_reverse]
      rw [hval, hdv2.2] at *
      dsimp only
      k_steps
      refine Hold.off ?_
      refine' newTuple_K ?nF ?nN (show 2 ≤ sizeLine by decide) ?_
      case nF => assumption
      case nN => assumption
      intro a8 h8 F8 N8 l8
      (try dsimp only)
      k_steps
      (rename News h₀ L _ _ => NN)
      have hmem : ∀ p, p ∈ t4 ++ [(qa, W.listOf qvs.reverse.toArray qz)] ++ (t3 ++ news) → p.1 < a8 := fun p hp => l8 p hp
      refine hret _ ((a8, tup2 (x / y) (x % y) u7 tr) :: (t3 ++ t4)) _ _ (by assumption) ?_ ?_ ?_ ⟨a8, u7, tr, t3, t4, rfl, ht3, ht4, rfl⟩
      · intro q hq
        refine NN q ?_
        simp only [List.cons_append, List.mem_append, List.mem_cons] at hq ⊢
        rcases hq with h | (h | h) | h
        · exact .inl h
        · exact .inr (.inr (.inl h))
        · exact .inr (.inl (.inl h))
        · exact .inr (.inr (.inr h))
      · refine List.nodup_cons.mpr ⟨?_, ?_⟩
        · intro hm
          obtain ⟨q, hq, e⟩ := List.mem_map.mp hm
          have h1 := hmem q (by rcases List.mem_append.mp hq with h | h; exact List.mem_append_right _ (List.mem_append_left _ h); exact List.mem_append_left _ (List.mem_append_left _ h))
          rw [e] at h1
          exact absurd h1 (Nat.lt_irrefl _)
        · rw [List.map_append]
          refine List.nodup_append.mpr ⟨(List.nodup_cons.mp hnd2).2, ?_, ?_⟩
          · rw [List.map_append] at hnd7
            exact (List.nodup_append.mp hnd7).1
          · intro b hb c hc e
            obtain ⟨p, hp, rfl⟩ := List.mem_map.mp hb
            obtain ⟨q, hq, rfl⟩ := List.mem_map.mp hc
            rcases hov7 q (List.mem_append_left _ hq) with h | h
            · rw [List.map_append] at h
              rcases List.mem_append.mp h with h | h
              · exact hsep _ h p hp e
              · have h1 := hql p (List.mem_append_left _ hp)
                rw [e, List.mem_singleton.mp h] at h1
                exact absurd h1 (Nat.lt_irrefl _)
            · have h1 := h p (List.mem_append_left _ hp)
              rw [e] at h1
              exact absurd h1 (Nat.lt_irrefl _)
      · refine Over.new (fun p hp => hmem p (List.mem_append_right _ (List.mem_append_right _ hp))) ?_
        intro q hq
        rcases List.mem_append.mp hq with hq | hq
        · rcases hov2 q (.tail _ hq) with h | h
          · exact .inl (by rw [List.map_append]; exact List.mem_append_left _ h)
          · exact .inr fun p hp => h p (List.mem_append_right _ hp)
        · rcases hov7 q (List.mem_append_left _ hq) with h | h
          · rw [List.map_append] at h
            rcases List.mem_append.mp h with h | h
            · exact .inl (by rw [List.map_append]; exact List.mem_append_right _ h)
            · refine .inr fun p hp => ?_
              rw [List.mem_singleton.mp h]
              exact hql p (List.mem_append_right _ (List.mem_append_right _ hp))
          · exact .inr fun p hp => h p (List.mem_append_right _ hp)
    · rw [ld_len, List.length_reverse]
      exact Nat.le_trans hdl.1 (by decide)
end Mine
-- part C5
namespace Mine
set_option Elab.async false
set_option maxRecDepth 100000
set_option maxHeartbeats 8000000
local macro_rules | `(tactic| walk_at "call ref") => `(tactic| (refine Hold.on ?_))
local macro_rules | `(tactic| k_all) => `(tactic| first | assumption | (refine' Tail.ne ?ta ?tb; (case ta => assumption); (case tb => (try dsimp only); omega)) | fail "k_all")
local macro_rules | `(tactic| walk_at "m nodup") => `(tactic| repeat' (first | exact nd_nil | exact all_nil | refine nd_cons ?_ ?_ | refine all_cons ?_ ?_ | k_ne))
local macro_rules | `(tactic| walk_at "m apart") => `(tactic| repeat' (first | exact Apart.nil | refine Apart.cons ?_ ?_ | k_all))
local macro_rules | `(tactic| walk_at "m sub") => `(tactic| repeat' (first | exact sub_nil | exact sub_self | (refine' sub_cons ?ta ?_; (case ta => k_mem)) | refine sub_tail ?_ | fail "m sub"))
local macro_rules | `(tactic| walk_at "m lt") => `(tactic| repeat' (first | refine List.forall_mem_cons.mpr ⟨?_, ?_⟩ | (refine' Tail.lt ?ta ?tb; (case ta => assumption); (case tb => (try dsimp only); omega)) | (refine ltA ?_; (try dsimp only); omega) | fail "m lt"))
local macro_rules | `(tactic| walk_at "m enterC") => `(tactic| k_dflt (refine' code_defC ?k1 ?k2 ?k3 ?k4 ?k5 ?kA ?kF ?kK ?k6 ?k7 ?k8 ?k9 ?kB ?kD ?_ ?c2 ?c3 ?c4; (case kA => exact rfl); (case kF => exact rfl); (case kK => assumption); (case k1 => k_asm); (case k2 => k_asm); (case k3 => k_asm); (case k4 => k_asm); (case k5 => k_asm); (case k6 => k_is); (case k7 => k_is); (case k8 => ktr_room); (case k9 => first | exact BindsTo.of_eq rfl | exact binds_K (by k_in) rfl (by k_is) rfl rfl rfl | fail "k_enter: no rule for these arguments"); (case kB => exact rfl); (case kD => decide +kernel); (case c2 => exact rfl); (case c3 => exact rfl); (case c4 => exact rfl); k_whole))
local macro_rules | `(tactic| walk_at "m enterL") => `(tactic| k_dflt (refine' code_defL ?k1 ?k2 ?k3 ?k4 ?k5 ?kA ?kF ?kK ?k6 ?k7 ?k8 ?k9 ?kB ?_ ?c2 ?c3 ?c4 ?c5; (case kA => exact rfl); (case kF => exact rfl); (case kK => assumption); (case k1 => k_asm); (case k2 => k_asm); (case k3 => k_asm); (case k4 => k_asm); (case k5 => k_asm); (case k6 => k_is); (case k7 => k_is); (case k8 => ktr_room); (case k9 => first | exact BindsTo.of_eq rfl | exact binds_K (by k_in) rfl (by k_is) rfl rfl rfl | fail "k_enter: no rule for these arguments"); (case c5 => decide); (case kB => exact locs rfl); (case c2 => exact rfl); (case c3 => exact rfl); (case c4 => exact rfl); k_whole))
local macro_rules | `(tactic| walk_at "m enterN") => `(tactic| k_dflt (refine' code_nestL ?k1 ?k2 ?k3 ?k4 ?k5 ?kA ?kF ?kK ?k6 ?k7 ?k8 ?k9 ?kB ?_ ?c2 ?c3 ?c4 ?c5; (case kA => exact rfl); (case kF => exact rfl); (case kK => assumption); (case k1 => k_asm); (case k2 => k_asm); (case k3 => k_asm); (case k4 => k_asm); (case k5 => k_asm); (case k6 => k_mem); (case k7 => exact codeRec_news (by k_asm) (by k_mem) (by assumption) (by assumption)); (case k8 => ktr_room); (case k9 => exact BindsTo.of_eq rfl); (case c5 => decide); (case kB => exact locs rfl); (case c2 => exact rfl); (case c3 => exact rfl); (case c4 => exact rfl); k_whole))
theorem idm (w : World) (x y : Int) (tx ty : Tok) (hx : 0 ≤ x) (hx2 : x < 1073741824) (hy : 0 < y) (hy2 : y < 1073741824) (tt : List (Addr × Obj)) (ht : TT tt) :
    Spec w 56 [.int x tx, .int y ty] 151 1208 tt
    (fun r post => ∃ a u1 u2 tt, r = .ref a ∧ TT tt ∧ post = (a, tup2 (x / y) (x % y) u1 u2) :: tt) := by
  obtain ⟨t1, t2, ht1, ht2, rfl⟩ := ht
  unfold Spec
  intro prog p loose mean mg mb dp un gd cn cs a ccd cl outer A₀ base h₀ L m news s Q E B F X N hND hAp T hk hd1 hu1 hret
  have hy0 : y ≠ 0 := by omega
  have hy1 : ¬ y < 0 := by omega
  have hx1 : ¬ x < 0 := by omega
  refine wpAny_call ?_
  walk_at "m enterL"
  intro g' L' h' FG' F' N' B' X' T' l1
  (try dsimp only)
  (try k_lift B')
  k_fold
  k_steps
  · exact absurd (by assumption) hy0
  · refine Hold.off ?_
    refine' Spec.use (dmpos w x y _ _ hx hx2 hy hy2 t1 t2 ht1 ht2) news ?sB ?sF ?sX ?sN ?sS hND hAp ?sT ?sK ?sP ?sU ?sR
    case sB => k_asm
    case sF => k_asm
    case sX => k_asm
    case sN => k_asm
    case sT => k_asm
    case sK => exact rfl
    case sS => exact fun q hq => hq
    case sP => dsimp only [Around.deeper, ktrTop]; omega
    case sU => dsimp only [Around.deeper, ktrTop]; omega
    case sR =>
    rintro r post' h7 tk7 F7 N7 hnd7 hov7 ⟨a7, u1, u2, t3, t4, rfl, ht3, ht4, rfl⟩
    dsimp only
    k_steps
    (rename News h₀ L _ _ => NN)
    exact hret _ _ _ _ (by assumption) NN hnd7 hov7 ⟨a7, u1, u2, t3 ++ t4, rfl, ⟨t3, t4, ht3, ht4, rfl⟩, rfl⟩
end Mine
-- part C6
namespace Mine
set_option Elab.async false
set_option maxRecDepth 100000
set_option maxHeartbeats 8000000
local macro_rules | `(tactic| walk_at "call ref") => `(tactic| (refine Hold.on ?_))
local macro_rules | `(tactic| k_all) => `(tactic| first | assumption | (refine' Tail.ne ?ta ?tb; (case ta => assumption); (case tb => (try dsimp only); omega)) | fail "k_all")
local macro_rules | `(tactic| walk_at "m nodup") => `(tactic| repeat' (first | exact nd_nil | exact all_nil | refine nd_cons ?_ ?_ | refine all_cons ?_ ?_ | k_ne))
local macro_rules | `(tactic| walk_at "m apart") => `(tactic| repeat' (first | exact Apart.nil | refine Apart.cons ?_ ?_ | k_all))
local macro_rules | `(tactic| walk_at "m sub") => `(tactic| repeat' (first | exact sub_nil | exact sub_self | (refine' sub_cons ?ta ?_; (case ta => k_mem)) | refine sub_tail ?_ | fail "m sub"))
local macro_rules | `(tactic| walk_at "m lt") => `(tactic| repeat' (first | refine List.forall_mem_cons.mpr ⟨?_, ?_⟩ | (refine' Tail.lt ?ta ?tb; (case ta => assumption); (case tb => (try dsimp only); omega)) | (refine ltA ?_; (try dsimp only); omega) | fail "m lt"))
local macro_rules | `(tactic| walk_at "m enterC") => `(tactic| k_dflt (refine' code_defC ?k1 ?k2 ?k3 ?k4 ?k5 ?kA ?kF ?kK ?k6 ?k7 ?k8 ?k9 ?kB ?kD ?_ ?c2 ?c3 ?c4; (case kA => exact rfl); (case kF => exact rfl); (case kK => assumption); (case k1 => k_asm); (case k2 => k_asm); (case k3 => k_asm); (case k4 => k_asm); (case k5 => k_asm); (case k6 => k_is); (case k7 => k_is); (case k8 => ktr_room); (case k9 => first | exact BindsTo.of_eq rfl | exact binds_K (by k_in) rfl (by k_is) rfl rfl rfl | fail "k_enter: no rule for these arguments"); (case kB => exact rfl); (case kD => decide +kernel); (case c2 => exact rfl); (case c3 => exact rfl); (case c4 => exact rfl); k_whole))
local macro_rules | `(tactic| walk_at "m enterL") => `(tactic| k_dflt (refine' code_defL ?k1 ?k2 ?k3 ?k4 ?k5 ?kA ?kF ?kK ?k6 ?k7 ?k8 ?k9 ?kB ?_ ?c2 ?c3 ?c4 ?c5; (case kA => exact rfl); (case kF => exact rfl); (case kK => assumption); (case k1 => k_asm); (case k2 => k_asm); (case k3 => k_asm); (case k4 => k_asm); (case k5 => k_asm); (case k6 => k_is); (case k7 => k_is); (case k8 => ktr_room); (case k9 => first | exact BindsTo.of_eq rfl | exact binds_K (by k_in) rfl (by k_is) rfl rfl rfl | fail "k_enter: no rule for these arguments"); (case c5 => decide); (case kB => exact locs rfl); (case c2 => exact rfl); (case c3 => exact rfl); (case c4 => exact rfl); k_whole))
local macro_rules | `(tactic| walk_at "m enterN") => `(tactic| k_dflt (refine' code_nestL ?k1 ?k2 ?k3 ?k4 ?k5 ?kA ?kF ?kK ?k6 ?k7 ?k8 ?k9 ?kB ?_ ?c2 ?c3 ?c4 ?c5; (case kA => exact rfl); (case kF => exact rfl); (case kK => assumption); (case k1 => k_asm); (case k2 => k_asm); (case k3 => k_asm); (case k4 => k_asm); (case k5 => k_asm); (case k6 => k_mem); (case k7 => exact codeRec_news (by k_asm) (by k_mem) (by assumption) (by assumption)); (case k8 => ktr_room); (case k9 => exact BindsTo.of_eq rfl); (case c5 => decide); (case kB => exact locs rfl); (case c2 => exact rfl); (case c3 => exact rfl); (case c4 => exact rfl); k_whole))
def Good (tt0 news tt : List (Addr × Obj)) : Prop := TT tt ∧ (tt.map (·.1)).Nodup ∧ ∀ q ∈ tt, q.1 ∈ tt0.map (·.1) ∨ ∀ p ∈ news, p.1 < q.1
theorem Good.start {tt news : List (Addr × Obj)} (h : TT tt) (hn : (tt.map (·.1)).Nodup) : Good tt news tt := ⟨h, hn, fun _ hq => .inl (List.mem_map_of_mem hq)⟩
theorem Good.apart {tt0 news tt : List (Addr × Obj)} (g : Good tt0 news tt) (h : Apart (tt0.map (·.1)) news) : Apart (tt.map (·.1)) news := fun b hb p hp => by
  obtain ⟨q, hq, rfl⟩ := List.mem_map.mp hb
  rcases g.2.2 q hq with h1 | h1
  · exact h _ h1 p hp
  · exact fun e => absurd (e ▸ h1 p hp) (Nat.lt_irrefl _)
theorem Good.step {tt0 news news' tt tt' : List (Addr × Obj)} (g : Good tt0 news tt) (h : TT tt') (hn : (tt'.map (·.1)).Nodup) (ho : ∀ q ∈ tt', q.1 ∈ tt.map (·.1) ∨ ∀ p ∈ news', p.1 < q.1) (hs : ∀ p ∈ news, p ∈ news') : Good tt0 news tt' :=
  ⟨h, hn, fun q hq => (ho q hq).elim (fun h1 => by
    obtain ⟨q', hq', e⟩ := List.mem_map.mp h1
    rw [← e]
    exact g.2.2 q' hq') fun h1 => .inr fun p hp => h1 p (hs p hp)⟩
def zgcd (x y : Int) : Int := (Nat.gcd x.toNat y.toNat : Nat)
theorem zgcd_step (x y : Int) (hx : 0 ≤ x) (hy : 0 < y) : zgcd x y = zgcd y (x % y) := by
  unfold zgcd
  rw [Int.toNat_emod hx (Int.le_of_lt hy), Nat.gcd_comm, Nat.gcd_rec, Nat.gcd_comm]
theorem zgcd_zero (x : Int) (hx : 0 ≤ x) : zgcd x 0 = x := by
  unfold zgcd
  simp
  omega
local macro_rules | `(tactic| walk_at "exec While Compare cons nil") => `(tactic| (refine Hold.on ?_))
local macro_rules | `(tactic| walk_at "KswPost") => `(tactic| (refine Hold.on ?_))
theorem linto (w : World) (x y : Int) (tx ty : Tok) (hx : 0 ≤ x) (hx2 : x < 1073741824) (hy : 0 ≤ y) (hy2 : y < 1073741824) (tt : List (Addr × Obj)) (ht : TT tt) :
    Spec w 81 [.int x tx, .int y ty] 152 1216 tt
    (fun r post => ∃ t, r = .int (zgcd x y) t ∧ TT post) := by
  unfold Spec
  intro prog p loose mean mg mb dp un gd cn cs a ccd cl outer A₀ base h₀ L m news s Q E B F X N hND hAp T hk hd1 hu1 hret
  refine wpAny_call ?_
  walk_at "m enterL"
  intro g' L' h' FG' F' N' B' X' T' l1
  (try dsimp only)
  (try k_lift B')
  k_fold
  k_steps
  refine Hold.off ?_
  (rename Fr _ _ _ _ => FF)
  (rename News g' L' _ _ => NN)
  refine ksw_while (σ := Int × Int × Tok × Tok × List (Addr × Obj)) (fun c => c.2.2.2.2 ++ news) (fun c => [(Str.ofString "one", .int c.1 c.2.2.1), (Str.ofString "other", .int c.2.1 c.2.2.2.1)])
    (fun c => Good tt news c.2.2.2.2) ["rest"] (fun c => 0 ≤ c.1 ∧ c.1 < 1073741824 ∧ 0 ≤ c.2.1 ∧ c.2.1 < 1073741824 ∧ zgcd c.1 c.2.1 = zgcd x y) (fun c => c.2.1.toNat) (x, y, tx, ty, tt) FF NN (Good.start ht hND) (by intro q hq; simp only [List.mem_cons, List.not_mem_nil, or_false] at hq; rcases hq with rfl | rfl <;> rfl) ⟨hx, hx2, hy, hy2, rfl⟩ ?_
  rintro ⟨a1, b1, ta, tb, t1⟩ u h5 tk5 hg ⟨p1, p2, p3, p4, p5⟩ F5 N5
  dsimp only at hg p1 p2 p3 p4 p5 F5 N5 ⊢
  k_steps
  · have hb0 : 0 < b1 := by omega
    refine Hold.off ?_
    refine' Spec.use (idm w a1 b1 _ _ p1 p2 hb0 p4 t1 hg.1) news ?sB ?sF ?sX ?sN ?sS hg.2.1 (hg.apart hAp) ?sT ?sK ?sP ?sU ?sR
    case sB => k_asm
    case sF => k_asm
    case sX => k_asm
    case sN => k_asm
    case sT => k_asm
    case sK => exact rfl
    case sS => exact fun q hq => hq
    case sP => dsimp only [Around.deeper, ktrTop]; omega
    case sU => dsimp only [Around.deeper, ktrTop]; omega
    case sR =>
    rintro r post' h7 tk7 F7 N7 hnd7 hov7 ⟨a7, u1, u2, t3, rfl, ht3, rfl⟩
    have hm1 := Int.emod_lt_of_pos a1 hb0
    have hm0 := Int.emod_nonneg a1 (show b1 ≠ 0 by omega)
    have hst := zgcd_step a1 b1 p1 hb0
    have hg3 : Good tt news t3 := hg.step ht3 (List.nodup_cons.mp hnd7).2 (fun q hq => hov7 q (.tail _ hq)) fun _ h => h
    rw [List.cons_append] at N7
    dsimp only
    k_steps
    refine Hold.off ?_
    refine ksw_end (b1, a1 % b1, tb, u2, t3) (by assumption) (by assumption) ?e1 hg3 ?e2 ?e3 ⟨p3, p4, hm0, Int.lt_trans hm1 p4, hst.symm.trans p5⟩ ?e4
    case e1 => exact fun q hq => .tail _ (.tail _ hq)
    case e2 =>
      intro q hq
      simp only [List.mem_cons, List.not_mem_nil, or_false] at hq
      rcases hq with rfl | rfl <;> rfl
    case e3 =>
      intro z h1 h2
      have n1 : z ≠ Str.ofString "one" := h1 _ (.head _)
      have n2 : z ≠ Str.ofString "other" := h1 _ (.tail _ (.head _))
      have n3 : z ≠ Str.ofString "rest" := by
        intro e
        subst e
        exact absurd h2 (by decide)
      rw [if_neg n1, if_neg n2, if_neg n3]
      simp only [kstB, if_neg n1, if_neg n2, h2]
      rfl
    case e4 => show (a1 % b1).toNat < b1.toNat; omega
  · have hb0 : b1 = 0 := by omega
    (rename News h₀ L _ _ => NN2)
    have hv : a1 = zgcd x y := by rw [← p5, hb0, zgcd_zero a1 p1]
    rw [hv]
    exact hret _ t1 _ _ (by assumption) NN2 hg.2.1 hg.2.2 ⟨ta, rfl, hg.1⟩
end Mine
-- part C7
namespace Mine
set_option Elab.async false
set_option maxRecDepth 100000
set_option maxHeartbeats 8000000
local macro_rules | `(tactic| walk_at "call ref") => `(tactic| (refine Hold.on ?_))
local macro_rules | `(tactic| k_all) => `(tactic| first | assumption | (refine' Tail.ne ?ta ?tb; (case ta => assumption); (case tb => (try dsimp only); omega)) | fail "k_all")
local macro_rules | `(tactic| walk_at "m nodup") => `(tactic| repeat' (first | exact nd_nil | exact all_nil | refine nd_cons ?_ ?_ | refine all_cons ?_ ?_ | k_ne))
local macro_rules | `(tactic| walk_at "m apart") => `(tactic| repeat' (first | exact Apart.nil | refine Apart.cons ?_ ?_ | k_all))
local macro_rules | `(tactic| walk_at "m sub") => `(tactic| repeat' (first | exact sub_nil | exact sub_self | (refine' sub_cons ?ta ?_; (case ta => k_mem)) | refine sub_tail ?_ | fail "m sub"))
local macro_rules | `(tactic| walk_at "m lt") => `(tactic| repeat' (first | refine List.forall_mem_cons.mpr ⟨?_, ?_⟩ | (refine' Tail.lt ?ta ?tb; (case ta => assumption); (case tb => (try dsimp only); omega)) | (refine ltA ?_; (try dsimp only); omega) | fail "m lt"))
local macro_rules | `(tactic| walk_at "m enterC") => `(tactic| k_dflt (refine' code_defC ?k1 ?k2 ?k3 ?k4 ?k5 ?kA ?kF ?kK ?k6 ?k7 ?k8 ?k9 ?kB ?kD ?_ ?c2 ?c3 ?c4; (case kA => exact rfl); (case kF => exact rfl); (case kK => assumption); (case k1 => k_asm); (case k2 => k_asm); (case k3 => k_asm); (case k4 => k_asm); (case k5 => k_asm); (case k6 => k_is); (case k7 => k_is); (case k8 => ktr_room); (case k9 => first | exact BindsTo.of_eq rfl | exact binds_K (by k_in) rfl (by k_is) rfl rfl rfl | fail "k_enter: no rule for these arguments"); (case kB => exact rfl); (case kD => decide +kernel); (case c2 => exact rfl); (case c3 => exact rfl); (case c4 => exact rfl); k_whole))
local macro_rules | `(tactic| walk_at "m enterL") => `(tactic| k_dflt (refine' code_defL ?k1 ?k2 ?k3 ?k4 ?k5 ?kA ?kF ?kK ?k6 ?k7 ?k8 ?k9 ?kB ?_ ?c2 ?c3 ?c4 ?c5; (case kA => exact rfl); (case kF => exact rfl); (case kK => assumption); (case k1 => k_asm); (case k2 => k_asm); (case k3 => k_asm); (case k4 => k_asm); (case k5 => k_asm); (case k6 => k_is); (case k7 => k_is); (case k8 => ktr_room); (case k9 => first | exact BindsTo.of_eq rfl | exact binds_K (by k_in) rfl (by k_is) rfl rfl rfl | fail "k_enter: no rule for these arguments"); (case c5 => decide); (case kB => exact locs rfl); (case c2 => exact rfl); (case c3 => exact rfl); (case c4 => exact rfl); k_whole))
local macro_rules | `(tactic| walk_at "m enterN") => `(tactic| k_dflt (refine' code_nestL ?k1 ?k2 ?k3 ?k4 ?k5 ?kA ?kF ?kK ?k6 ?k7 ?k8 ?k9 ?kB ?_ ?c2 ?c3 ?c4 ?c5; (case kA => exact rfl); (case kF => exact rfl); (case kK => assumption); (case k1 => k_asm); (case k2 => k_asm); (case k3 => k_asm); (case k4 => k_asm); (case k5 => k_asm); (case k6 => k_mem); (case k7 => exact codeRec_news (by k_asm) (by k_mem) (by assumption) (by assumption)); (case k8 => ktr_room); (case k9 => exact BindsTo.of_eq rfl); (case c5 => decide); (case kB => exact locs rfl); (case c2 => exact rfl); (case c3 => exact rfl); (case c4 => exact rfl); k_whole))
def zlcm (x y : Int) : Int := (Nat.lcm x.toNat y.toNat : Nat)
theorem zlcm_eq (x y : Int) (hx : 0 ≤ x) (hy : 0 ≤ y) : x * y / zgcd x y = zlcm x y := by
  unfold zlcm zgcd Nat.lcm
  obtain ⟨a, rfl⟩ := Int.eq_ofNat_of_zero_le hx
  obtain ⟨b, rfl⟩ := Int.eq_ofNat_of_zero_le hy
  simp [Int.natCast_ediv, Int.natCast_mul]
theorem zgcd_pos (x y : Int) (hx : 0 < x) : 0 < zgcd x y := by
  unfold zgcd
  have := Nat.gcd_pos_of_pos_left y.toNat (show 0 < x.toNat by omega)
  omega
theorem zgcd_le (x y : Int) (hx : 0 < x) : zgcd x y ≤ x := by
  unfold zgcd
  have := Nat.gcd_le_left y.toNat (show 0 < x.toNat by omega)
  omega
theorem lover (w : World) (x y : Int) (tx ty : Tok) (hx : 0 < x) (hx2 : x ≤ 30000) (hy : 0 < y) (hy2 : y ≤ 30000) (tt : List (Addr × Obj)) (ht : TT tt) :
    Spec w 88 [.int x tx, .int y ty] 153 1224 tt
    (fun r post => ∃ t, r = .int (zlcm x y) t ∧ TT post) := by
  unfold Spec
  intro prog p loose mean mg mb dp un gd cn cs a ccd cl outer A₀ base h₀ L m news s Q E B F X N hND hAp T hk hd1 hu1 hret
  refine wpAny_call ?_
  walk_at "m enterL"
  intro g' L' h' FG' F' N' B' X' T' l1
  (try dsimp only)
  (try k_lift B')
  k_fold
  k_steps
  refine Hold.off ?_
  refine' Spec.use (linto w x y _ _ (by omega) (by omega) (by omega) (by omega) tt ht) news ?sB ?sF ?sX ?sN ?sS hND hAp ?sT ?sK ?sP ?sU ?sR
  case sB => k_asm
  case sF => k_asm
  case sX => k_asm
  case sN => k_asm
  case sT => k_asm
  case sK => exact rfl
  case sS => exact fun q hq => hq
  case sP => dsimp only [Around.deeper, ktrTop]; omega
  case sU => dsimp only [Around.deeper, ktrTop]; omega
  case sR =>
  rintro r post' h7 tk7 F7 N7 hnd7 hov7 ⟨u1, rfl, ht3⟩
  have hz := zgcd_pos x y hx
  have hz2 := zgcd_le x y hx
  have hz3 : zgcd x y ≠ 0 := by omega
  have hg3 : Good tt news post' := (Good.start ht hND).step ht3 hnd7 hov7 fun _ h => h
  have hmul0 : 0 ≤ x * y := Int.mul_nonneg (by omega) (by omega)
  have hmul : x * y ≤ 30000 * 30000 := Int.le_trans (Int.mul_le_mul_of_nonneg_right hx2 (by omega)) (Int.mul_le_mul_of_nonneg_left hy2 (by decide))
  have hzl := zlcm_eq x y (by omega) (by omega)
  dsimp only
  k_steps
  · exact absurd (by assumption) hz3
  · refine Hold.off ?_
    refine' Spec.use (idm w (x * y) (zgcd x y) _ _ hmul0 (by omega) hz (by omega) post' hg3.1) news ?sB ?sF ?sX ?sN ?sS hg3.2.1 (hg3.apart hAp) ?sT ?sK ?sP ?sU ?sR
    case sB => k_asm
    case sF => k_asm
    case sX => k_asm
    case sN => k_asm
    case sT => k_asm
    case sK => exact rfl
    case sS => exact fun q hq => hq
    case sP => dsimp only [Around.deeper, ktrTop]; omega
    case sU => dsimp only [Around.deeper, ktrTop]; omega
    case sR =>
    rintro r post8 h8 tk8 F8 N8 hnd8 hov8 ⟨a8, u8, w8, t8, rfl, ht8, rfl⟩
    have hg8 : Good tt news t8 := hg3.step ht8 (List.nodup_cons.mp hnd8).2 (fun q hq => hov8 q (.tail _ hq)) fun _ h => h
    rw [List.cons_append, hzl] at N8
    dsimp only
    k_steps
    (rename News h₀ L _ _ => NN)
    exact hret _ t8 _ _ (by assumption) (fun q hq => NN q (.tail _ hq)) hg8.2.1 hg8.2.2 ⟨_, rfl, hg8.1⟩
end Mine
-- part B1
namespace Mine
set_option Elab.async false
set_option maxRecDepth 100000
set_option maxHeartbeats 8000000
local macro_rules | `(tactic| walk_at "call ref") => `(tactic| (refine Hold.on ?_))
local macro_rules | `(tactic| k_all) => `(tactic| first | assumption | (refine' Tail.ne ?ta ?tb; (case ta => assumption); (case tb => (try dsimp only); omega)) | fail "k_all")
local macro_rules | `(tactic| walk_at "m nodup") => `(tactic| repeat' (first | exact nd_nil | exact all_nil | refine nd_cons ?_ ?_ | refine all_cons ?_ ?_ | k_ne))
local macro_rules | `(tactic| walk_at "m apart") => `(tactic| repeat' (first | exact Apart.nil | refine Apart.cons ?_ ?_ | k_all))
local macro_rules | `(tactic| walk_at "m sub") => `(tactic| repeat' (first | exact sub_nil | exact sub_self | (refine' sub_cons ?ta ?_; (case ta => k_mem)) | refine sub_tail ?_ | fail "m sub"))
local macro_rules | `(tactic| walk_at "m lt") => `(tactic| repeat' (first | refine List.forall_mem_cons.mpr ⟨?_, ?_⟩ | (refine' Tail.lt ?ta ?tb; (case ta => assumption); (case tb => (try dsimp only); omega)) | (refine ltA ?_; (try dsimp only); omega) | fail "m lt"))
local macro_rules | `(tactic| walk_at "m enterC") => `(tactic| k_dflt (refine' code_defC ?k1 ?k2 ?k3 ?k4 ?k5 ?kA ?kF ?kK ?k6 ?k7 ?k8 ?k9 ?kB ?kD ?_ ?c2 ?c3 ?c4; (case kA => exact rfl); (case kF => exact rfl); (case kK => assumption); (case k1 => k_asm); (case k2 => k_asm); (case k3 => k_asm); (case k4 => k_asm); (case k5 => k_asm); (case k6 => k_is); (case k7 => k_is); (case k8 => ktr_room); (case k9 => first | exact BindsTo.of_eq rfl | (refine' kp_binds ?kx ?ke; (case kx => k_in); (case ke => exact fun _ => rfl)) | fail "m enter: no rule for these arguments"); (case kB => exact rfl); (case kD => decide +kernel); (case c2 => exact rfl); (case c3 => exact rfl); (case c4 => exact rfl); k_whole))
local macro_rules | `(tactic| walk_at "m enterL") => `(tactic| k_dflt (refine' code_defL ?k1 ?k2 ?k3 ?k4 ?k5 ?kA ?kF ?kK ?k6 ?k7 ?k8 ?k9 ?kB ?_ ?c2 ?c3 ?c4 ?c5; (case kA => exact rfl); (case kF => exact rfl); (case kK => assumption); (case k1 => k_asm); (case k2 => k_asm); (case k3 => k_asm); (case k4 => k_asm); (case k5 => k_asm); (case k6 => k_is); (case k7 => k_is); (case k8 => ktr_room); (case k9 => first | exact BindsTo.of_eq rfl | (refine' kp_binds ?kx ?ke; (case kx => k_in); (case ke => exact fun _ => rfl)) | fail "m enter: no rule for these arguments"); (case c5 => decide); (case kB => exact locs rfl); (case c2 => exact rfl); (case c3 => exact rfl); (case c4 => exact rfl); k_whole))
local macro_rules | `(tactic| walk_at "m enterN") => `(tactic| k_dflt (refine' code_nestL ?k1 ?k2 ?k3 ?k4 ?k5 ?kA ?kF ?kK ?k6 ?k7 ?k8 ?k9 ?kB ?_ ?c2 ?c3 ?c4 ?c5; (case kA => exact rfl); (case kF => exact rfl); (case kK => assumption); (case k1 => k_asm); (case k2 => k_asm); (case k3 => k_asm); (case k4 => k_asm); (case k5 => k_asm); (case k6 => k_mem); (case k7 => exact codeRec_news (by k_asm) (by k_mem) (by assumption) (by assumption)); (case k8 => ktr_room); (case k9 => exact BindsTo.of_eq rfl); (case c5 => decide); (case kB => exact locs rfl); (case c2 => exact rfl); (case c3 => exact rfl); (case c4 => exact rfl); k_whole))
/-- what bisect_left gives -/
def BisP (ns : List Int) (x : Int) (p : Nat) : Prop := p ≤ ns.length ∧ (∀ (i : Nat) (d : Int), i < p → ns[i]? = some d → d < x) ∧ ∀ (i : Nat) (d : Int), p ≤ i → ns[i]? = some d → x ≤ d
def UpTo (ns : List Int) : Prop := ∀ (i j : Nat) (a b : Int), i ≤ j → ns[i]? = some a → ns[j]? = some b → a ≤ b
local macro_rules | `(tactic| walk_at "exec While Compare cons nil") => `(tactic| (refine Hold.on ?_))
local macro_rules | `(tactic| walk_at "KswPost") => `(tactic| (refine Hold.on ?_))
theorem bis2 (w : World) (l : Addr) (x : Int) (tx : Tok) (vs : List Value) (ns : List Int) (z : Nat) (hvs : IntsAre vs ns) (hup : UpTo ns) (hlen : ns.length ≤ 1000) :
    Spec w 74 [.ref l, .int x tx] 1 8 [(l, W.listOf vs.toArray z)]
    (fun r post => ∃ p t, r = .int (p : Nat) t ∧ BisP ns x p ∧ post = [(l, W.listOf vs.toArray z)]) := by
  unfold Spec
  intro prog p loose mean mg mb dp un gd cn cs a ccd cl outer A₀ base h₀ L m news s Q E B F X N hND hAp T hk hd1 hu1 hret
  rw [List.cons_append, List.nil_append] at N
  refine wpAny_call ?_
  walk_at "m enterL"
  intro g' L' h' FG' F' N' B' X' T' l1
  (try dsimp only)
  (try k_lift B')
  k_fold
  k_steps
  refine Hold.off ?_
  (rename Fr _ _ _ _ => FF)
  (rename News g' L' _ _ => NN)
  refine ksw_while (σ := Int × Int × Tok × Tok) (fun c => (l, W.listOf vs.toArray z) :: news) (fun c => [(Str.ofString "lo", .int c.1 c.2.2.1), (Str.ofString "hi", .int c.2.1 c.2.2.2)])
    (fun c => True) ["mid"] (fun c => 0 ≤ c.1 ∧ c.1 ≤ c.2.1 ∧ c.2.1 ≤ ns.length ∧ (∀ (i : Nat) (d : Int), i < c.1.toNat → ns[i]? = some d → d < x) ∧ ∀ (i : Nat) (d : Int), c.2.1.toNat ≤ i → ns[i]? = some d → x ≤ d) (fun c => (c.2.1 - c.1).toNat) (0, ns.length, _, _) FF NN trivial (by intro q hq; simp only [List.mem_cons, List.not_mem_nil, or_false] at hq; rcases hq with rfl | rfl <;> rfl)
    ⟨by omega, by simp, by simp, (fun i d h _ => absurd h (Nat.not_lt_zero _)), fun i d h e => absurd (List.getElem?_eq_none (by simpa using h)) (by rw [e]; nofun)⟩ ?_
  rintro ⟨a1, b1, ta, tb⟩ u h5 tk5 - ⟨p1, p2, p3, p4, p5⟩ F5 N5
  dsimp only at p1 p2 p3 p4 p5 F5 N5 ⊢
  clear FF NN
  k_steps
  · refine Hold.off ?_
    rename_i hab _ _ hcmp _ _ _ _
    have hmid : a1 ≤ (a1 + b1).fdiv 2 ∧ (a1 + b1).fdiv 2 < b1 := by
      rw [Int.fdiv_eq_ediv_of_nonneg _ (by decide)]
      omega
    generalize (a1 + b1).fdiv 2 = md at *
    have hget : ns[md.toNat]? = some (ns.getD md.toNat 0) := by
      rw [List.getD_eq_getElem?_getD, List.getElem?_eq_getElem (by omega)]
      rfl
    refine' ksw_end (md + 1, b1, _, tb) ?e0 ?e1 (fun q hq => hq) trivial ?e2 ?e3 ⟨by dsimp only; omega, by dsimp only; omega, p3, (fun i d hi e => by
      have := hup i md.toNat d _ (by dsimp only at hi; omega) e hget
      omega), p5⟩ ?e4
    case e0 => assumption
    case e1 => assumption
    case e2 =>
      intro q hq
      simp only [List.mem_cons, List.not_mem_nil, or_false] at hq
      rcases hq with rfl | rfl <;> rfl
    case e3 =>
      intro z h1 h2
      have n1 : z ≠ Str.ofString "lo" := h1 _ (.head _)
      have n2 : z ≠ Str.ofString "hi" := h1 _ (.tail _ (.head _))
      have n3 : z ≠ Str.ofString "mid" := by
        intro e
        subst e
        exact absurd h2 (by decide)
      rw [if_neg n1, if_neg n3]
      simp only [kstB, if_neg n1, if_neg n2, h2]
      rfl
    case e4 => dsimp only; omega
  · refine Hold.off ?_
    rename_i hab _ _ hcmp _ _ _ _
    have hmid : a1 ≤ (a1 + b1).fdiv 2 ∧ (a1 + b1).fdiv 2 < b1 := by
      rw [Int.fdiv_eq_ediv_of_nonneg _ (by decide)]
      omega
    generalize (a1 + b1).fdiv 2 = md at *
    have hget : ns[md.toNat]? = some (ns.getD md.toNat 0) := by
      rw [List.getD_eq_getElem?_getD, List.getElem?_eq_getElem (by omega)]
      rfl
    refine' ksw_end (a1, md, ta, _) ?e0 ?e1 (fun q hq => hq) trivial ?e2 ?e3 ⟨p1, by dsimp only; omega, by dsimp only; omega, p4, (fun i d hi e => by
      have := hup md.toNat i _ d hi hget e
      omega)⟩ ?e4
    case e0 => assumption
    case e1 => assumption
    case e2 =>
      intro q hq
      simp only [List.mem_cons, List.not_mem_nil, or_false] at hq
      rcases hq with rfl | rfl <;> rfl
    case e3 =>
      intro z h1 h2
      have n1 : z ≠ Str.ofString "lo" := h1 _ (.head _)
      have n2 : z ≠ Str.ofString "hi" := h1 _ (.tail _ (.head _))
      have n3 : z ≠ Str.ofString "mid" := by
        intro e
        subst e
        exact absurd h2 (by decide)
      rw [if_neg n2, if_neg n3]
      simp only [kstB, if_neg n1, if_neg n2, h2]
      rfl
    case e4 => dsimp only; omega
  · (rename News h₀ L _ _ => NN)
    have e : a1 = ((a1.toNat : Nat) : Int) := by omega
    rw [e]
    refine hret _ [(l, W.listOf vs.toArray z)] _ _ (by assumption) NN (by walk_at "m nodup") (Over.old (by simp) Over.nil) ⟨a1.toNat, ta, rfl, ⟨by omega, p4, fun i d hi => p5 i d (by omega)⟩, rfl⟩
theorem bis4 (w : World) (l : Addr) (x : Int) (tx t0 : Tok) (vs : List Value) (ns : List Int) (z : Nat) (hvs : IntsAre vs ns) (hup : UpTo ns) (hlen : ns.length ≤ 1000) :
    Spec w 74 [.ref l, .int x tx, .int 0 t0, .none] 1 8 [(l, W.listOf vs.toArray z)]
    (fun r post => ∃ p t, r = .int (p : Nat) t ∧ BisP ns x p ∧ post = [(l, W.listOf vs.toArray z)]) := by
  unfold Spec
  intro prog p loose mean mg mb dp un gd cn cs a ccd cl outer A₀ base h₀ L m news s Q E B F X N hND hAp T hk hd1 hu1 hret
  rw [List.cons_append, List.nil_append] at N
  refine wpAny_call ?_
  walk_at "m enterL"
  intro g' L' h' FG' F' N' B' X' T' l1
  (try dsimp only)
  (try k_lift B')
  k_fold
  k_steps
  refine Hold.off ?_
  (rename Fr _ _ _ _ => FF)
  (rename News g' L' _ _ => NN)
  refine ksw_while (σ := Int × Int × Tok × Tok) (fun c => (l, W.listOf vs.toArray z) :: news) (fun c => [(Str.ofString "lo", .int c.1 c.2.2.1), (Str.ofString "hi", .int c.2.1 c.2.2.2)])
    (fun c => True) ["mid"] (fun c => 0 ≤ c.1 ∧ c.1 ≤ c.2.1 ∧ c.2.1 ≤ ns.length ∧ (∀ (i : Nat) (d : Int), i < c.1.toNat → ns[i]? = some d → d < x) ∧ ∀ (i : Nat) (d : Int), c.2.1.toNat ≤ i → ns[i]? = some d → x ≤ d) (fun c => (c.2.1 - c.1).toNat) (0, ns.length, _, _) FF NN trivial (by intro q hq; simp only [List.mem_cons, List.not_mem_nil, or_false] at hq; rcases hq with rfl | rfl <;> rfl)
    ⟨by omega, by simp, by simp, (fun i d h _ => absurd h (Nat.not_lt_zero _)), fun i d h e => absurd (List.getElem?_eq_none (by simpa using h)) (by rw [e]; nofun)⟩ ?_
  rintro ⟨a1, b1, ta, tb⟩ u h5 tk5 - ⟨p1, p2, p3, p4, p5⟩ F5 N5
  dsimp only at p1 p2 p3 p4 p5 F5 N5 ⊢
  clear FF NN
  k_steps
  · refine Hold.off ?_
    rename_i hab _ _ hcmp _ _ _ _
    have hmid : a1 ≤ (a1 + b1).fdiv 2 ∧ (a1 + b1).fdiv 2 < b1 := by
      rw [Int.fdiv_eq_ediv_of_nonneg _ (by decide)]
      omega
    generalize (a1 + b1).fdiv 2 = md at *
    have hget : ns[md.toNat]? = some (ns.getD md.toNat 0) := by
      rw [List.getD_eq_getElem?_getD, List.getElem?_eq_getElem (by omega)]
      rfl
    refine' ksw_end (md + 1, b1, _, tb) ?e0 ?e1 (fun q hq => hq) trivial ?e2 ?e3 ⟨by dsimp only; omega, by dsimp only; omega, p3, (fun i d hi e => by
      have := hup i md.toNat d _ (by dsimp only at hi; omega) e hget
      omega), p5⟩ ?e4
    case e0 => assumption
    case e1 => assumption
    case e2 =>
      intro q hq
      simp only [List.mem_cons, List.not_mem_nil, or_false] at hq
      rcases hq with rfl | rfl <;> rfl
    case e3 =>
      intro z h1 h2
      have n1 : z ≠ Str.ofString "lo" := h1 _ (.head _)
      have n2 : z ≠ Str.ofString "hi" := h1 _ (.tail _ (.head _))
      have n3 : z ≠ Str.ofString "mid" := by
        intro e
        subst e
        exact absurd h2 (by decide)
      rw [if_neg n1, if_neg n3]
      simp only [kstB, if_neg n1, if_neg n2, h2]
      rfl
    case e4 => dsimp only; omega
  · refine Hold.off ?_
    rename_i hab _ _ hcmp _ _ _ _
    have hmid : a1 ≤ (a1 + b1).fdiv 2 ∧ (a1 + b1).fdiv 2 < b1 := by
      rw [Int.fdiv_eq_ediv_of_nonneg _ (by decide)]
      omega
    generalize (a1 + b1).fdiv 2 = md at *
    have hget : ns[md.toNat]? = some (ns.getD md.toNat 0) := by
      rw [List.getD_eq_getElem?_getD, List.getElem?_eq_getElem (by omega)]
      rfl
    refine' ksw_end (a1, md, ta, _) ?e0 ?e1 (fun q hq => hq) trivial ?e2 ?e3 ⟨p1, by dsimp only; omega, by dsimp only; omega, p4, (fun i d hi e => by
      have := hup md.toNat i _ d hi hget e
      omega)⟩ ?e4
    case e0 => assumption
    case e1 => assumption
    case e2 =>
      intro q hq
      simp only [List.mem_cons, List.not_mem_nil, or_false] at hq
      rcases hq with rfl | rfl <;> rfl
    case e3 =>
      intro z h1 h2
      have n1 : z ≠ Str.ofString "lo" := h1 _ (.head _)
      have n2 : z ≠ Str.ofString "hi" := h1 _ (.tail _ (.head _))
      have n3 : z ≠ Str.ofString "mid" := by
        intro e
        subst e
        exact absurd h2 (by decide)
      rw [if_neg n2, if_neg n3]
      simp only [kstB, if_neg n1, if_neg n2, h2]
      rfl
    case e4 => dsimp only; omega
  · (rename News h₀ L _ _ => NN)
    have e : a1 = ((a1.toNat : Nat) : Int) := by omega
    rw [e]
    refine hret _ [(l, W.listOf vs.toArray z)] _ _ (by assumption) NN (by walk_at "m nodup") (Over.old (by simp) Over.nil) ⟨a1.toNat, ta, rfl, ⟨by omega, p4, fun i d hi => p5 i d (by omega)⟩, rfl⟩
end Mine
-- part B2
namespace Mine
set_option Elab.async false
set_option maxRecDepth 100000
set_option maxHeartbeats 8000000
local macro_rules | `(tactic| walk_at "call ref") => `(tactic| (refine Hold.on ?_))
local macro_rules | `(tactic| k_all) => `(tactic| first | assumption | (refine' Tail.ne ?ta ?tb; (case ta => assumption); (case tb => (try dsimp only); omega)) | fail "k_all")
local macro_rules | `(tactic| walk_at "m nodup") => `(tactic| repeat' (first | exact nd_nil | exact all_nil | refine nd_cons ?_ ?_ | refine all_cons ?_ ?_ | k_ne))
local macro_rules | `(tactic| walk_at "m apart") => `(tactic| repeat' (first | exact Apart.nil | refine Apart.cons ?_ ?_ | k_all))
local macro_rules | `(tactic| walk_at "m sub") => `(tactic| repeat' (first | exact sub_nil | exact sub_self | (refine' sub_cons ?ta ?_; (case ta => k_mem)) | refine sub_tail ?_ | fail "m sub"))
local macro_rules | `(tactic| walk_at "m lt") => `(tactic| repeat' (first | refine List.forall_mem_cons.mpr ⟨?_, ?_⟩ | (refine' Tail.lt ?ta ?tb; (case ta => assumption); (case tb => (try dsimp only); omega)) | (refine ltA ?_; (try dsimp only); omega) | fail "m lt"))
local macro_rules | `(tactic| walk_at "m enterC") => `(tactic| k_dflt (refine' code_defC ?k1 ?k2 ?k3 ?k4 ?k5 ?kA ?kF ?kK ?k6 ?k7 ?k8 ?k9 ?kB ?kD ?_ ?c2 ?c3 ?c4; (case kA => exact rfl); (case kF => exact rfl); (case kK => assumption); (case k1 => k_asm); (case k2 => k_asm); (case k3 => k_asm); (case k4 => k_asm); (case k5 => k_asm); (case k6 => k_is); (case k7 => k_is); (case k8 => ktr_room); (case k9 => first | exact BindsTo.of_eq rfl | (refine' kp_binds ?kx ?ke; (case kx => k_in); (case ke => exact fun _ => rfl)) | fail "m enter: no rule for these arguments"); (case kB => exact rfl); (case kD => decide +kernel); (case c2 => exact rfl); (case c3 => exact rfl); (case c4 => exact rfl); k_whole))
local macro_rules | `(tactic| walk_at "m enterL") => `(tactic| k_dflt (refine' code_defL ?k1 ?k2 ?k3 ?k4 ?k5 ?kA ?kF ?kK ?k6 ?k7 ?k8 ?k9 ?kB ?_ ?c2 ?c3 ?c4 ?c5; (case kA => exact rfl); (case kF => exact rfl); (case kK => assumption); (case k1 => k_asm); (case k2 => k_asm); (case k3 => k_asm); (case k4 => k_asm); (case k5 => k_asm); (case k6 => k_is); (case k7 => k_is); (case k8 => ktr_room); (case k9 => first | exact BindsTo.of_eq rfl | (refine' kp_binds ?kx ?ke; (case kx => k_in); (case ke => exact fun _ => rfl)) | fail "m enter: no rule for these arguments"); (case c5 => decide); (case kB => exact locs rfl); (case c2 => exact rfl); (case c3 => exact rfl); (case c4 => exact rfl); k_whole))
local macro_rules | `(tactic| walk_at "m enterN") => `(tactic| k_dflt (refine' code_nestL ?k1 ?k2 ?k3 ?k4 ?k5 ?kA ?kF ?kK ?k6 ?k7 ?k8 ?k9 ?kB ?_ ?c2 ?c3 ?c4 ?c5; (case kA => exact rfl); (case kF => exact rfl); (case kK => assumption); (case k1 => k_asm); (case k2 => k_asm); (case k3 => k_asm); (case k4 => k_asm); (case k5 => k_asm); (case k6 => k_mem); (case k7 => exact codeRec_news (by k_asm) (by k_mem) (by assumption) (by assumption)); (case k8 => ktr_room); (case k9 => exact BindsTo.of_eq rfl); (case c5 => decide); (case kB => exact locs rfl); (case c2 => exact rfl); (case c3 => exact rfl); (case c4 => exact rfl); k_whole))
theorem ins_arr (vs : List Value) (k : Nat) (y : Value) (hk : k ≤ vs.length) : ((vs.toArray.extract 0 k).push y ++ vs.toArray.extract k) = (vs.take k ++ y :: vs.drop k).toArray := by
  apply Array.ext'
  simp [List.take_of_length_le]
theorem insert_head_K {prog : Program} {w : World} {A : Around} {E : Value → Shared → Prop} {s : Shared} {h₀ : Heap} {L : Addr} {m : Str → Option Value} {D : Addr} {vs : List Value} {n k : Nat} {x : Int} {u : Tok} {y : Value} {rest : List (Addr × Obj)} {Q : Value → Shared → Prop}
    (F : Fr h₀ L s.heap m) (N : News h₀ L s.heap ((D, W.listOf vs.toArray n) :: rest)) (hap : ∀ p ∈ rest, p.1 ≠ D) (hx : x = (k : Nat)) (hk : k ≤ vs.length) (hl : vs.length ≤ 1000)
    (h : ∀ h', Fr h₀ L h' m → News h₀ L h' ((D, W.listOf (vs.take k ++ y :: vs.drop k).toArray (n + 1)) :: rest) → Q .none { s with heap := h' }) :
    wpAny (model prog w) A (call (.builtin "list.insert") [.ref D, .int x u, y]) Q E s := by
  have ho := N.get (.head _)
  have hsz : vs.toArray.size ≤ sizeLine := by
    show vs.length ≤ 2 ^ 24
    omega
  have hfit : ¬ (!Builtin.List.listFitsIndex x) = true := by
    have : Builtin.List.listFitsIndex x = true := by
      unfold Builtin.List.listFitsIndex
      simp only [Bool.and_eq_true, decide_eq_true_eq]
      omega
    rw [this]
    simp
  have e : Obj.mapSeq (fun xs => have j := if x < 0 then (x + (xs.size : Int)).toNat else min x.toNat xs.size; (xs.extract 0 j).push y ++ xs.extract j) (W.listOf vs.toArray n) = W.listOf (vs.take k ++ y :: vs.drop k).toArray (n + 1) := by
    have hj : (if x < 0 then (x + (vs.toArray.size : Int)).toNat else min x.toNat vs.toArray.size) = k := by
      rw [if_neg (by omega), hx, Int.toNat_natCast, List.size_toArray, Nat.min_eq_left hk]
    have hs : ((vs.take k ++ y :: vs.drop k).toArray.size == vs.toArray.size) = false := by
      simp
      omega
    unfold Obj.mapSeq
    simp only [hj, ins_arr vs k y hk, hs]
    rfl
  refine call_meets PySem.F.slot_list_insert ⟨_, ho, rfl⟩ PySem.F.entry_list_insert (PySem.F.args_list_insert_3 _ _ _) (AutoSeq1.list_insert_list_int_val_1 D vs.toArray n x u y hfit hsz) ⟨ho, ?_⟩
  refine h _ (F.change (Heap.SameBut.update ..) (N _ (.head _)).2.1 (N _ (.head _)).2.2) (N.setHead hap (Heap.SameBut.update ..) ?_)
  rw [Heap.get?_update_self _ ho (by rw [e]; rfl), e]
local macro_rules | `(tactic| walk_at "call builtin:list.insert") => `(tactic| (refine Hold.on ?_))
theorem insort (w : World) (l : Addr) (x : Int) (tx : Tok) (vs : List Value) (ns : List Int) (z : Nat) (hvs : IntsAre vs ns) (hup : UpTo ns) (hlen : ns.length ≤ 1000) :
    Spec w 65 [.ref l, .int x tx] 2 16 [(l, W.listOf vs.toArray z)]
    (fun r post => ∃ p vs' z', BisP ns x p ∧ IntsAre vs' (ns.take p ++ x :: ns.drop p) ∧ r = .none ∧ post = [(l, W.listOf vs'.toArray z')]) := by
  unfold Spec
  intro prog p loose mean mg mb dp un gd cn cs a ccd cl outer A₀ base h₀ L m news s Q E B F X N hND hAp T hk hd1 hu1 hret
  rw [List.cons_append, List.nil_append] at N
  refine wpAny_call ?_
  walk_at "m enterL"
  intro g' L' h' FG' F' N' B' X' T' l1
  (try dsimp only)
  (try k_lift B')
  k_fold
  k_steps
  refine Hold.off ?_
  refine' Spec.use (bis4 w l x _ _ vs ns z hvs hup hlen) news ?sB ?sF ?sX ?sN ?sS (by walk_at "m nodup") hAp ?sT ?sK ?sP ?sU ?sR
  case sB => k_asm
  case sF => k_asm
  case sX => k_asm
  case sN => k_asm
  case sT => k_asm
  case sK => exact rfl
  case sS => exact fun q hq => hq
  case sP => dsimp only [Around.deeper, ktrTop]; omega
  case sU => dsimp only [Around.deeper, ktrTop]; omega
  case sR =>
  rintro r post' h7 tk7 F7 N7 hnd7 hov7 ⟨p7, u1, rfl, hp7, rfl⟩
  rw [List.cons_append, List.nil_append] at N7
  dsimp only
  k_steps
  refine Hold.off ?_
  refine' insert_head_K ?nF ?nN (hAp l (by simp)) rfl (by rw [hvs.length]; exact hp7.1) (by rw [hvs.length]; exact hlen) ?_
  case nF => assumption
  case nN => assumption
  intro h8 F8 N8
  (try dsimp only)
  k_steps
  (rename News h₀ L _ _ => NN)
  exact hret _ [(l, W.listOf (vs.take p7 ++ Value.int x tx :: vs.drop p7).toArray (z + 1))] _ _ (by assumption) NN (by walk_at "m nodup") (Over.old (by simp) Over.nil) ⟨p7, _, _, hp7, IntsAre.append (hvs.take p7) (.cons x tx (hvs.drop p7)), rfl, rfl⟩
theorem bis_mem {ns : List Int} {x : Int} {p : Nat} (h : BisP ns x p) (hup : UpTo ns) : decide (x ∈ ns) = (decide (p < ns.length) && (ns.getD p 0 == x)) := by
  obtain ⟨h1, h2, h3⟩ := h
  by_cases hp : p < ns.length
  · have hget : ns[p]? = some (ns.getD p 0) := by
      rw [List.getD_eq_getElem?_getD, List.getElem?_eq_getElem hp]
      rfl
    rw [decide_eq_true hp, Bool.true_and]
    by_cases he : ns.getD p 0 = x
    · rw [he] at hget ⊢
      rw [decide_eq_true (List.mem_of_getElem? hget)]
      simp
    · have : x ∉ ns := fun hm => by
        obtain ⟨i, hi⟩ := List.mem_iff_getElem?.mp hm
        rcases Nat.lt_or_ge i p with q | q
        · exact absurd (h2 i x q hi) (Int.lt_irrefl _)
        · have a1 := h3 p _ (Nat.le_refl _) hget
          have a2 := hup p i _ x q hget hi
          exact he (by omega)
      rw [decide_eq_false this]
      simpa using he
  · rw [decide_eq_false hp, Bool.false_and]
    refine decide_eq_false fun hm => ?_
    obtain ⟨i, hi⟩ := List.mem_iff_getElem?.mp hm
    have hil : i < ns.length := by
      rcases Nat.lt_or_ge i ns.length with q | q
      · exact q
      · rw [List.getElem?_eq_none q] at hi; cases hi
    exact absurd (h2 i x (by omega) hi) (Int.lt_irrefl _)
theorem lhas (w : World) (l : Addr) (x : Int) (tx : Tok) (vs : List Value) (ns : List Int) (z : Nat) (hvs : IntsAre vs ns) (hup : UpTo ns) (hlen : ns.length ≤ 1000) :
    Spec w 95 [.ref l, .int x tx] 2 16 [(l, W.listOf vs.toArray z)]
    (fun r post => r = .bool (decide (x ∈ ns)) ∧ post = [(l, W.listOf vs.toArray z)]) := by
  unfold Spec
  intro prog p loose mean mg mb dp un gd cn cs a ccd cl outer A₀ base h₀ L m news s Q E B F X N hND hAp T hk hd1 hu1 hret
  rw [List.cons_append, List.nil_append] at N
  refine wpAny_call ?_
  walk_at "m enterL"
  intro g' L' h' FG' F' N' B' X' T' l1
  (try dsimp only)
  (try k_lift B')
  k_fold
  k_steps
  refine Hold.off ?_
  refine' Spec.use (bis2 w l x _ vs ns z hvs hup hlen) news ?sB ?sF ?sX ?sN ?sS (by walk_at "m nodup") hAp ?sT ?sK ?sP ?sU ?sR
  case sB => k_asm
  case sF => k_asm
  case sX => k_asm
  case sN => k_asm
  case sT => k_asm
  case sK => exact rfl
  case sS => exact fun q hq => hq
  case sP => dsimp only [Around.deeper, ktrTop]; omega
  case sU => dsimp only [Around.deeper, ktrTop]; omega
  case sR =>
  rintro r post' h7 tk7 F7 N7 hnd7 hov7 ⟨p7, u1, rfl, hp7, rfl⟩
  rw [List.cons_append, List.nil_append] at N7
  have hp0 := hp7.1
  dsimp only
  k_steps
  · (rename News h₀ L _ _ => NN)
    have e : (ns.getD ((p7 : Nat) : Int).toNat 0 == x) = decide (x ∈ ns) := by
      rw [bis_mem hp7 hup, decide_eq_true (by omega), Bool.true_and, Int.toNat_natCast]
    rw [e]
    exact hret _ [(l, W.listOf vs.toArray z)] _ _ (by assumption) NN (by walk_at "m nodup") (Over.old (by simp) Over.nil) ⟨rfl, rfl⟩
  · (rename News h₀ L _ _ => NN)
    have hlt : ¬ ((p7 : Nat) : Int) < (ns.length : Int) := by first | assumption | omega
    have e : decide (((p7 : Nat) : Int) < (ns.length : Int)) = decide (x ∈ ns) := by
      rw [bis_mem hp7 hup, decide_eq_false hlt, decide_eq_false (by omega), Bool.false_and]
    rw [e]
    exact hret _ [(l, W.listOf vs.toArray z)] _ _ (by assumption) NN (by walk_at "m nodup") (Over.old (by simp) Over.nil) ⟨rfl, rfl⟩
end Mine
-- part U1
namespace Mine
set_option Elab.async false
set_option maxRecDepth 100000
set_option maxHeartbeats 8000000
local macro_rules | `(tactic| walk_at "call ref") => `(tactic| (refine Hold.on ?_))
local macro_rules | `(tactic| k_all) => `(tactic| first | assumption | (refine' Tail.ne ?ta ?tb; (case ta => assumption); (case tb => (try dsimp only); omega)) | fail "k_all")
local macro_rules | `(tactic| walk_at "m nodup") => `(tactic| repeat' (first | exact nd_nil | exact all_nil | refine nd_cons ?_ ?_ | refine all_cons ?_ ?_ | k_ne))
local macro_rules | `(tactic| walk_at "m apart") => `(tactic| repeat' (first | exact Apart.nil | refine Apart.cons ?_ ?_ | k_all))
local macro_rules | `(tactic| walk_at "m sub") => `(tactic| repeat' (first | exact sub_nil | exact sub_self | (refine' sub_cons ?ta ?_; (case ta => k_mem)) | refine sub_tail ?_ | fail "m sub"))
local macro_rules | `(tactic| walk_at "m lt") => `(tactic| repeat' (first | refine List.forall_mem_cons.mpr ⟨?_, ?_⟩ | (refine' Tail.lt ?ta ?tb; (case ta => assumption); (case tb => (try dsimp only); omega)) | (refine ltA ?_; (try dsimp only); omega) | fail "m lt"))
local macro_rules | `(tactic| walk_at "m enterC") => `(tactic| k_dflt (refine' code_defC ?k1 ?k2 ?k3 ?k4 ?k5 ?kA ?kF ?kK ?k6 ?k7 ?k8 ?k9 ?kB ?kD ?_ ?c2 ?c3 ?c4; (case kA => exact rfl); (case kF => exact rfl); (case kK => assumption); (case k1 => k_asm); (case k2 => k_asm); (case k3 => k_asm); (case k4 => k_asm); (case k5 => k_asm); (case k6 => k_is); (case k7 => k_is); (case k8 => ktr_room); (case k9 => first | exact BindsTo.of_eq rfl | (refine' kp_binds ?kx ?ke; (case kx => k_in); (case ke => exact fun _ => rfl)) | fail "m enter: no rule for these arguments"); (case kB => exact rfl); (case kD => decide +kernel); (case c2 => exact rfl); (case c3 => exact rfl); (case c4 => exact rfl); k_whole))
local macro_rules | `(tactic| walk_at "m enterL") => `(tactic| k_dflt (refine' code_defL ?k1 ?k2 ?k3 ?k4 ?k5 ?kA ?kF ?kK ?k6 ?k7 ?k8 ?k9 ?kB ?_ ?c2 ?c3 ?c4 ?c5; (case kA => exact rfl); (case kF => exact rfl); (case kK => assumption); (case k1 => k_asm); (case k2 => k_asm); (case k3 => k_asm); (case k4 => k_asm); (case k5 => k_asm); (case k6 => k_is); (case k7 => k_is); (case k8 => ktr_room); (case k9 => first | exact BindsTo.of_eq rfl | (refine' kp_binds ?kx ?ke; (case kx => k_in); (case ke => exact fun _ => rfl)) | fail "m enter: no rule for these arguments"); (case c5 => decide); (case kB => exact locs rfl); (case c2 => exact rfl); (case c3 => exact rfl); (case c4 => exact rfl); k_whole))
local macro_rules | `(tactic| walk_at "m enterN") => `(tactic| k_dflt (refine' code_nestL ?k1 ?k2 ?k3 ?k4 ?k5 ?kA ?kF ?kK ?k6 ?k7 ?k8 ?k9 ?kB ?_ ?c2 ?c3 ?c4 ?c5; (case kA => exact rfl); (case kF => exact rfl); (case kK => assumption); (case k1 => k_asm); (case k2 => k_asm); (case k3 => k_asm); (case k4 => k_asm); (case k5 => k_asm); (case k6 => k_mem); (case k7 => exact codeRec_news (by k_asm) (by k_mem) (by assumption) (by assumption)); (case k8 => ktr_room); (case k9 => exact BindsTo.of_eq rfl); (case c5 => decide); (case kB => exact locs rfl); (case c2 => exact rfl); (case c3 => exact rfl); (case c4 => exact rfl); k_whole))
section
variable {w : World} {prog p : Program} {loose : List Str} {mean : ExcName → Option Value} {mg mb : Str → Option Value} {dp un : Nat} {gd : Option (List Code)} {cn : Str} {cs : Scope} {a : Addr} {ccd : Value} {cl : List (Str × Addr)} {outer : List Env} {A₀ : Around} {base h₀ : Heap} {L : Addr} {m : Str → Option Value}
    {nl : List (Addr × Obj)} {s : Shared} {Q E : Value → Shared → Prop} {x y : Int} {tx ty : Tok} {tt0 rest tt : List (Addr × Obj)}
theorem use_into (G : Good tt0 rest tt) (hA : Apart (tt0.map (·.1)) rest) (B : Below A₀ base outer h₀) (F : Fr h₀ L s.heap m) (X : (hd.heap_39 w.params).In h₀) (N : News h₀ L s.heap nl) (hs : ∀ q ∈ tt ++ rest, q ∈ nl) (T : Top p loose mean mg mb h₀) (hk : cs.kind = .function) (hd1 : dp + 152 < recursionLimit) (hu : un + 1216 < cLine)
    (hx : 0 ≤ x ∧ x ≤ 30000 ∧ 0 ≤ y ∧ y ≤ 30000) (ret : ∀ t tt' h' tk', Good tt0 rest tt' → Fr h₀ L h' m → News h₀ L h' (tt' ++ rest) → Q (.int (zgcd x y) t) { s with heap := h', toks := tk' }) :
    wpAny (model prog w) (ktrTop dp un gd cn cs L a ccd cl outer) (call (.ref 81) [.int x tx, .int y ty]) Q E s := by
  refine Spec.use (linto w x y tx ty hx.1 (by omega) hx.2.2.1 (by omega) tt G.1) rest B F X N hs G.2.1 (G.apart hA) T hk hd1 hu ?_
  rintro r post' h' tk' F' N' hn ho ⟨t, rfl, ht⟩
  exact ret t post' h' tk' (G.step ht hn ho fun _ h => h) F' N'
theorem use_over (G : Good tt0 rest tt) (hA : Apart (tt0.map (·.1)) rest) (B : Below A₀ base outer h₀) (F : Fr h₀ L s.heap m) (X : (hd.heap_39 w.params).In h₀) (N : News h₀ L s.heap nl) (hs : ∀ q ∈ tt ++ rest, q ∈ nl) (T : Top p loose mean mg mb h₀) (hk : cs.kind = .function) (hd1 : dp + 153 < recursionLimit) (hu : un + 1224 < cLine)
    (hx : 0 < x ∧ x ≤ 30000 ∧ 0 < y ∧ y ≤ 30000) (ret : ∀ t tt' h' tk', Good tt0 rest tt' → Fr h₀ L h' m → News h₀ L h' (tt' ++ rest) → Q (.int (zlcm x y) t) { s with heap := h', toks := tk' }) :
    wpAny (model prog w) (ktrTop dp un gd cn cs L a ccd cl outer) (call (.ref 88) [.int x tx, .int y ty]) Q E s := by
  refine Spec.use (lover w x y tx ty hx.1 hx.2.1 hx.2.2.1 hx.2.2.2 tt G.1) rest B F X N hs G.2.1 (G.apart hA) T hk hd1 hu ?_
  rintro r post' h' tk' F' N' hn ho ⟨t, rfl, ht⟩
  exact ret t post' h' tk' (G.step ht hn ho fun _ h => h) F' N'
theorem use_idm (G : Good tt0 rest tt) (hA : Apart (tt0.map (·.1)) rest) (B : Below A₀ base outer h₀) (F : Fr h₀ L s.heap m) (X : (hd.heap_39 w.params).In h₀) (N : News h₀ L s.heap nl) (hs : ∀ q ∈ tt ++ rest, q ∈ nl) (T : Top p loose mean mg mb h₀) (hk : cs.kind = .function) (hd1 : dp + 151 < recursionLimit) (hu : un + 1208 < cLine)
    (hx : 0 ≤ x ∧ x < 1073741824 ∧ 0 < y ∧ y < 1073741824) (ret : ∀ r t1 t2 tt' h' tk', Good tt0 rest tt' → Fr h₀ L h' m → News h₀ L h' ((r, tup2 (x / y) (x % y) t1 t2) :: (tt' ++ rest)) → Q (.ref r) { s with heap := h', toks := tk' }) :
    wpAny (model prog w) (ktrTop dp un gd cn cs L a ccd cl outer) (call (.ref 56) [.int x tx, .int y ty]) Q E s := by
  refine Spec.use (idm w x y tx ty hx.1 hx.2.1 hx.2.2.1 hx.2.2.2 tt G.1) rest B F X N hs G.2.1 (G.apart hA) T hk hd1 hu ?_
  rintro r post' h' tk' F' N' hn ho ⟨a', t1, t2, tt', rfl, ht, rfl⟩
  exact ret a' t1 t2 tt' h' tk' (G.step ht (List.nodup_cons.mp hn).2 (fun q hq => ho q (.tail _ hq)) fun _ h => h) F' N'
end
end Mine
-- part R1
namespace Mine
set_option Elab.async false
set_option maxRecDepth 100000
set_option maxHeartbeats 8000000
local macro_rules | `(tactic| walk_at "call ref") => `(tactic| (refine Hold.on ?_))
local macro_rules | `(tactic| k_all) => `(tactic| first | assumption | (refine' Tail.ne ?ta ?tb; (case ta => assumption); (case tb => (try dsimp only); omega)) | fail "k_all")
local macro_rules | `(tactic| walk_at "m nodup") => `(tactic| repeat' (first | exact nd_nil | exact all_nil | refine nd_cons ?_ ?_ | refine all_cons ?_ ?_ | k_ne))
local macro_rules | `(tactic| walk_at "m apart") => `(tactic| repeat' (first | exact Apart.nil | refine Apart.cons ?_ ?_ | k_all))
local macro_rules | `(tactic| walk_at "m sub") => `(tactic| repeat' (first | exact sub_nil | exact sub_self | (refine' sub_cons ?ta ?_; (case ta => k_mem)) | refine sub_tail ?_ | fail "m sub"))
local macro_rules | `(tactic| walk_at "m lt") => `(tactic| repeat' (first | refine List.forall_mem_cons.mpr ⟨?_, ?_⟩ | (refine' Tail.lt ?ta ?tb; (case ta => assumption); (case tb => (try dsimp only); omega)) | (refine ltA ?_; (try dsimp only); omega) | fail "m lt"))
local macro_rules | `(tactic| walk_at "m enterC") => `(tactic| k_dflt (refine' code_defC ?k1 ?k2 ?k3 ?k4 ?k5 ?kA ?kF ?kK ?k6 ?k7 ?k8 ?k9 ?kB ?kD ?_ ?c2 ?c3 ?c4; (case kA => exact rfl); (case kF => exact rfl); (case kK => assumption); (case k1 => k_asm); (case k2 => k_asm); (case k3 => k_asm); (case k4 => k_asm); (case k5 => k_asm); (case k6 => k_is); (case k7 => k_is); (case k8 => ktr_room); (case k9 => first | exact BindsTo.of_eq rfl | (refine' kp_binds ?kx ?ke; (case kx => k_in); (case ke => exact fun _ => rfl)) | fail "m enter: no rule for these arguments"); (case kB => exact rfl); (case kD => decide +kernel); (case c2 => exact rfl); (case c3 => exact rfl); (case c4 => exact rfl); k_whole))
local macro_rules | `(tactic| walk_at "m enterL") => `(tactic| k_dflt (refine' code_defL ?k1 ?k2 ?k3 ?k4 ?k5 ?kA ?kF ?kK ?k6 ?k7 ?k8 ?k9 ?kB ?_ ?c2 ?c3 ?c4 ?c5; (case kA => exact rfl); (case kF => exact rfl); (case kK => assumption); (case k1 => k_asm); (case k2 => k_asm); (case k3 => k_asm); (case k4 => k_asm); (case k5 => k_asm); (case k6 => k_is); (case k7 => k_is); (case k8 => ktr_room); (case k9 => first | exact BindsTo.of_eq rfl | (refine' kp_binds ?kx ?ke; (case kx => k_in); (case ke => exact fun _ => rfl)) | fail "m enter: no rule for these arguments"); (case c5 => decide); (case kB => exact locs rfl); (case c2 => exact rfl); (case c3 => exact rfl); (case c4 => exact rfl); k_whole))
local macro_rules | `(tactic| walk_at "m enterN") => `(tactic| k_dflt (refine' code_nestL ?k1 ?k2 ?k3 ?k4 ?k5 ?kA ?kF ?kK ?k6 ?k7 ?k8 ?k9 ?kB ?_ ?c2 ?c3 ?c4 ?c5; (case kA => exact rfl); (case kF => exact rfl); (case kK => assumption); (case k1 => k_asm); (case k2 => k_asm); (case k3 => k_asm); (case k4 => k_asm); (case k5 => k_asm); (case k6 => k_mem); (case k7 => exact codeRec_news (by k_asm) (by k_mem) (by assumption) (by assumption)); (case k8 => ktr_room); (case k9 => exact BindsTo.of_eq rfl); (case c5 => decide); (case kB => exact locs rfl); (case c2 => exact rfl); (case c3 => exact rfl); (case c4 => exact rfl); k_whole))
section
variable {prog : Program} {w : World} {A : Around} {h₀ : Heap} {L : Addr} {m : Str → Option Value} {env : Env} {ct elt : Expr} {x : Str} {scope : Scope} {cl : List (Str × Addr)} {s : Shared} {S : List (Addr × Obj) → Prop} {P : Nat → Value → Prop} {Fin : List Value → List (Addr × Obj) → Prop} {news : List (Addr × Obj)}
/-- comprehension with one test: an invariant over the turns (place, items so far, ledger) -/
theorem crt_inv {n : Nat} (I : Nat → List Value → List (Addr × Obj) → Prop)
    (turn : ∀ i ys news v Ia oI C oC D m₂ h tk (E' : Value → Shared → Prop), i < n → I i ys news → P i v → LCg.NsObj oC m₂ → m₂ x = some v → Fr h₀ L h m → News h₀ L h ((Ia, oI) :: (C, oC) :: (D, LCg.lst ys) :: news) → LCg.Off3 Ia C D news → ((@Ne Nat Ia C) ∧ (@Ne Nat Ia D) ∧ (@Ne Nat C D)) →
      wpAny (model prog w) A (isTrue ct (compEnvC scope cl C env) (eval ct (compEnvC scope cl C env))) (fun ok s' => if ok = true then
        wpAny (model prog w) A (eval elt (compEnvC scope cl C env)) (LCg.CompEnd h₀ L m { s with heap := h, toks := tk } Ia oI C oC D (LCg.lst ys) S (fun y news' => I (i + 1) (ys ++ [y]) news')) E' s'
        else LCg.CompEnd h₀ L m { s with heap := h, toks := tk } Ia oI C oC D (LCg.lst ys) S (fun _ news' => I (i + 1) ys news') Value.none s') E' { s with heap := h, toks := tk })
    (h0 : I 0 [] news) (fin : ∀ ys news, I n ys news → Fin ys news) : LCt.CompRestT prog w A h₀ L m env ct elt x scope cl s S P Fin n 0 [] news := by
  have key : ∀ (j i : Nat) (ys : List Value) (news : List (Addr × Obj)), i + j = n → I i ys news → LCt.CompRestT prog w A h₀ L m env ct elt x scope cl s S P Fin j i ys news := by
    intro j
    induction j with
    | zero =>
      intro i ys news hi hI
      obtain rfl : i = n := by omega
      exact LCt.CompRestT.zero (fin ys news hI)
    | succ j ih =>
      intro i ys news hi hI
      refine LCt.CompRestT.succ ?_
      intro v Ia oI C oC D m₂ h tk E' hv hC hx F N off ne
      refine wpAny_mono (turn i ys news v Ia oI C oC D m₂ h tk E' (by omega) hI hv hC hx F N off ne) (fun b s₂ hq => ?_) fun _ _ e => e
      cases b with
      | true =>
        simp only [if_true] at hq ⊢
        refine wpAny_mono hq (fun y s₃ hr => ?_) fun _ _ e => e
        obtain ⟨h', tk', nw, e, F', N', off', hS, hr⟩ := hr
        exact ⟨h', tk', nw, e, F', N', off', hS, ih (i + 1) _ _ (by omega) hr⟩
      | false =>
        simp only [Bool.false_eq_true, if_false] at hq ⊢
        obtain ⟨h', tk', nw, e, F', N', off', hS, hr⟩ := hq
        exact ⟨h', tk', nw, e, F', N', off', hS, ih (i + 1) _ _ (by omega) hr⟩
  exact key n 0 [] news (by omega) h0
end
theorem off3_app {I C D : Addr} : ∀ {l r : List (Addr × Obj)}, LCg.Off3 I C D l → LCg.Off3 I C D r → LCg.Off3 I C D (l ++ r)
  | [], _, _, h => h
  | _ :: _, _, h, h' => ⟨h.1, off3_app h.2 h'⟩
theorem off3_right {I C D : Addr} : ∀ {l r : List (Addr × Obj)}, LCg.Off3 I C D (l ++ r) → LCg.Off3 I C D r
  | [], _, h => h
  | _ :: _, _, h => off3_right h.2
theorem off3_apart {I C D : Addr} {oI oC oD : Obj} {tt rest : List (Addr × Obj)} (h : Apart (tt.map (·.1)) ((I, oI) :: (C, oC) :: (D, oD) :: rest)) (r : LCg.Off3 I C D rest) : LCg.Off3 I C D (tt ++ rest) :=
  off3_app (LCg.Off3.of fun p hp => ⟨Ne.symm (h p.1 (List.mem_map_of_mem hp) (I, oI) (.head _)), Ne.symm (h p.1 (List.mem_map_of_mem hp) (C, oC) (.tail _ (.head _))), Ne.symm (h p.1 (List.mem_map_of_mem hp) (D, oD) (.tail _ (.tail _ (.head _))))⟩) r
theorem apart_off3 {I C D : Addr} {oI oC oD : Obj} {tt rest : List (Addr × Obj)} (r : LCg.Off3 I C D (tt ++ rest)) (h : Apart (tt.map (·.1)) rest) : Apart (tt.map (·.1)) ((I, oI) :: (C, oC) :: (D, oD) :: rest) := by
  intro b hb p hp
  obtain ⟨q, hq, rfl⟩ := List.mem_map.mp hb
  have z := r.mem q (List.mem_append_left _ hq)
  rcases List.mem_cons.mp hp with rfl | hp
  · exact Ne.symm z.1
  rcases List.mem_cons.mp hp with rfl | hp
  · exact Ne.symm z.2.1
  rcases List.mem_cons.mp hp with rfl | hp
  · exact Ne.symm z.2.2
  exact h _ hb p hp
end Mine
-- part L2
namespace Mine
set_option Elab.async false
set_option maxRecDepth 100000
set_option maxHeartbeats 8000000
local macro_rules | `(tactic| walk_at "call ref") => `(tactic| (refine Hold.on ?_))
local macro_rules | `(tactic| k_all) => `(tactic| first | assumption | (refine' Tail.ne ?ta ?tb; (case ta => assumption); (case tb => (try dsimp only); omega)) | fail "k_all")
local macro_rules | `(tactic| walk_at "m nodup") => `(tactic| repeat' (first | exact nd_nil | exact all_nil | refine nd_cons ?_ ?_ | refine all_cons ?_ ?_ | k_ne))
local macro_rules | `(tactic| walk_at "m apart") => `(tactic| repeat' (first | exact Apart.nil | refine Apart.cons ?_ ?_ | k_all))
local macro_rules | `(tactic| walk_at "m sub") => `(tactic| repeat' (first | exact sub_nil | exact sub_self | (refine' sub_cons ?ta ?_; (case ta => k_mem)) | refine sub_tail ?_ | fail "m sub"))
local macro_rules | `(tactic| walk_at "m lt") => `(tactic| repeat' (first | refine List.forall_mem_cons.mpr ⟨?_, ?_⟩ | (refine' Tail.lt ?ta ?tb; (case ta => assumption); (case tb => (try dsimp only); omega)) | (refine ltA ?_; (try dsimp only); omega) | fail "m lt"))
local macro_rules | `(tactic| walk_at "m enterC") => `(tactic| k_dflt (refine' code_defC ?k1 ?k2 ?k3 ?k4 ?k5 ?kA ?kF ?kK ?k6 ?k7 ?k8 ?k9 ?kB ?kD ?_ ?c2 ?c3 ?c4; (case kA => exact rfl); (case kF => exact rfl); (case kK => assumption); (case k1 => k_asm); (case k2 => k_asm); (case k3 => k_asm); (case k4 => k_asm); (case k5 => k_asm); (case k6 => k_is); (case k7 => k_is); (case k8 => ktr_room); (case k9 => first | exact BindsTo.of_eq rfl | (refine' kp_binds ?kx ?ke; (case kx => k_in); (case ke => exact fun _ => rfl)) | fail "m enter: no rule for these arguments"); (case kB => exact rfl); (case kD => decide +kernel); (case c2 => exact rfl); (case c3 => exact rfl); (case c4 => exact rfl); k_whole))
local macro_rules | `(tactic| walk_at "m enterL") => `(tactic| k_dflt (refine' code_defL ?k1 ?k2 ?k3 ?k4 ?k5 ?kA ?kF ?kK ?k6 ?k7 ?k8 ?k9 ?kB ?_ ?c2 ?c3 ?c4 ?c5; (case kA => exact rfl); (case kF => exact rfl); (case kK => assumption); (case k1 => k_asm); (case k2 => k_asm); (case k3 => k_asm); (case k4 => k_asm); (case k5 => k_asm); (case k6 => k_is); (case k7 => k_is); (case k8 => ktr_room); (case k9 => first | exact BindsTo.of_eq rfl | (refine' kp_binds ?kx ?ke; (case kx => k_in); (case ke => exact fun _ => rfl)) | fail "m enter: no rule for these arguments"); (case c5 => decide); (case kB => exact locs rfl); (case c2 => exact rfl); (case c3 => exact rfl); (case c4 => exact rfl); k_whole))
local macro_rules | `(tactic| walk_at "m enterN") => `(tactic| k_dflt (refine' code_nestL ?k1 ?k2 ?k3 ?k4 ?k5 ?kA ?kF ?kK ?k6 ?k7 ?k8 ?k9 ?kB ?_ ?c2 ?c3 ?c4 ?c5; (case kA => exact rfl); (case kF => exact rfl); (case kK => assumption); (case k1 => k_asm); (case k2 => k_asm); (case k3 => k_asm); (case k4 => k_asm); (case k5 => k_asm); (case k6 => k_mem); (case k7 => exact codeRec_news (by k_asm) (by k_mem) (by assumption) (by assumption)); (case k8 => ktr_room); (case k9 => exact BindsTo.of_eq rfl); (case c5 => decide); (case kB => exact locs rfl); (case c2 => exact rfl); (case c3 => exact rfl); (case c4 => exact rfl); k_whole))
section
variable {prog : Program} {w : World} {A : Around} {E : Value → Shared → Prop} {s : Shared} {env : Env} {h₀ : Heap} {x : Str} {body : List Stmt} {Q : Flow → Shared → Prop}
/-- a for over a range of step -1, by an invariant over turns -/
theorem down_inv {r : Addr} {a₀ b₀ : Int} {t₀ u₀ v₀ : Tok} {n : Nat} {m₀ : Str → Option Value} {news : List (Addr × Obj)}
    (hh : A.handled = none) (hr : IsRange s.heap r a₀ b₀ (-1) t₀ u₀ v₀) (hsmall : Builtin.Range.small a₀ b₀ (-1) = true) (hn : Builtin.Range.rangeSize a₀ b₀ (-1) = (n : Int)) (F : Fr h₀ env.locals s.heap m₀) (N : News h₀ env.locals s.heap news)
    (Inv : Addr → InvTy) (h0 : ∀ I : Addr, (∀ p ∈ news, p.1 < I) → Inv I 0 m₀ news)
    (turn : ∀ I i t it, i < n → Turn prog w A E h₀ env x body Q s I it (.int (a₀ - (i : Int)) t) (Inv I) i) (done : ∀ I, Done h₀ env Q s (Inv I) n) :
    wpAny (model prog w) A (pyIter (.ref r)) (fun it s₂ => LoopAtV prog w A h₀ env x body Q E it s₂) E s := by
  refine wpAny_pyIter_range hr hsmall ?_
  generalize hI : s.heap.objs.size = I
  have hlt : ∀ p ∈ news, p.1 < I := fun p hp => hI ▸ Heap.lt_size (N p hp).1
  have hnew : h₀.get? I = none := hI ▸ next_is_new F
  have hLI : env.locals < I := hI ▸ F.ns.lt
  have W : Walks prog w A I [I] [I] n (fun i v => i < n ∧ ∃ t, v = .int (a₀ + i * (-1)) t)
      (fun i h => IsRangeIter h I (a₀ + (i : Nat) * (-1)) ((n : Int) - (i : Nat)) (-1)) := (Walks.range hh I a₀ (-1) n).bound
  have one : ∀ b ∈ [I], b = I := fun b hb => List.mem_singleton.mp hb
  refine ⟨_, _, _, n, _, _, m₀, news, fun i m nl => Inv I i m nl, rfl, W, ?_, ?_, ?_, (by show IsRangeIter _ _ _ _ _; rw [hn]; subst hI; simpa using Heap.get?_push_size _ rfl), F.push _, (fun p hp => ⟨Heap.get?_push_of_some _ (N p hp).1, (N p hp).2⟩), h0 I hlt, ?_, ?_⟩
  · intro hm
    exact absurd (one _ hm ▸ hLI) (Nat.lt_irrefl _)
  · intro b hb
    rw [one b hb]
    exact hnew
  · intro p hp hq
    exact absurd (one _ hq ▸ hlt p hp) (Nat.lt_irrefl _)
  · rintro i v m₁ news₁ s₁ own ⟨hh', tk', rfl⟩ hin ⟨_, t, rfl⟩ hJ hoff hown hget hall hst F₁ N₁
    obtain ⟨ob, hob⟩ : ∃ ob, hh'.get? I = some ob := ⟨_, hst⟩
    have hmem := hall I (List.mem_singleton.mpr rfl) hnew _ hob
    have e1 : a₀ + (i : Int) * (-1) = a₀ - (i : Int) := by omega
    rw [e1] at F₁
    have N₂ : News h₀ env.locals hh' ((I, ob) :: news₁) := fun p hp => by
      rcases List.mem_cons.mp hp with rfl | hp
      · exact N₁ _ (List.mem_append_left _ hmem)
      · exact N₁ _ (List.mem_append_right _ hp)
    refine wpAny_mono (turn I i t ob hin m₁ news₁ hh' tk' hJ F₁ N₂) (fun f s₂ u => ?_) fun _ _ e => e
    have fin : UnrEnd h₀ env.locals { s with heap := hh', toks := tk' } I ob (Inv I (i + 1)) s₂ → LoopStepU h₀ env.locals [I] own (fun m nl => Inv I (i + 1) m nl) { s with heap := hh', toks := tk' } .next s₂ := by
      rintro ⟨h', tk, m', nl', e, F', N', ho, r⟩
      refine ⟨rfl, h', tk, m', nl', e, F', fun p hp => ?_, fun p hp hq => ho p hp (one _ hq), r⟩
      rcases List.mem_append.mp hp with hp | hp
      · have h1 : p.1 = I := one _ (hown p hp)
        have h2 := hget p hp
        rw [h1, hob] at h2
        have h3 : p = (I, ob) := Prod.ext h1 (Option.some.inj h2).symm
        rw [h3]
        exact N' _ (.head _)
      · exact N' _ (.tail _ hp)
    cases f with
    | ret v => exact .ret u
    | brk => exact .brk u
    | next => exact .next (fin u)
    | cont => exact .cont (fin u)
  · rintro h' tk m' nl' F' N' _ hJ
    exact done I m' nl' h' tk hJ F' N'
end
end Mine
-- part U2
namespace Mine
set_option Elab.async false
set_option maxRecDepth 100000
set_option maxHeartbeats 8000000
local macro_rules | `(tactic| walk_at "call ref") => `(tactic| (refine Hold.on ?_))
local macro_rules | `(tactic| k_all) => `(tactic| first | assumption | (refine' Tail.ne ?ta ?tb; (case ta => assumption); (case tb => (try dsimp only); omega)) | fail "k_all")
local macro_rules | `(tactic| walk_at "m nodup") => `(tactic| repeat' (first | exact nd_nil | exact all_nil | refine nd_cons ?_ ?_ | refine all_cons ?_ ?_ | k_ne))
local macro_rules | `(tactic| walk_at "m apart") => `(tactic| repeat' (first | exact Apart.nil | refine Apart.cons ?_ ?_ | k_all))
local macro_rules | `(tactic| walk_at "m sub") => `(tactic| repeat' (first | exact sub_nil | exact sub_self | (refine' sub_cons ?ta ?_; (case ta => k_mem)) | refine sub_tail ?_ | fail "m sub"))
local macro_rules | `(tactic| walk_at "m lt") => `(tactic| repeat' (first | refine List.forall_mem_cons.mpr ⟨?_, ?_⟩ | (refine' Tail.lt ?ta ?tb; (case ta => assumption); (case tb => (try dsimp only); omega)) | (refine ltA ?_; (try dsimp only); omega) | fail "m lt"))
local macro_rules | `(tactic| walk_at "m enterC") => `(tactic| k_dflt (refine' code_defC ?k1 ?k2 ?k3 ?k4 ?k5 ?kA ?kF ?kK ?k6 ?k7 ?k8 ?k9 ?kB ?kD ?_ ?c2 ?c3 ?c4; (case kA => exact rfl); (case kF => exact rfl); (case kK => assumption); (case k1 => k_asm); (case k2 => k_asm); (case k3 => k_asm); (case k4 => k_asm); (case k5 => k_asm); (case k6 => k_is); (case k7 => k_is); (case k8 => ktr_room); (case k9 => first | exact BindsTo.of_eq rfl | (refine' kp_binds ?kx ?ke; (case kx => k_in); (case ke => exact fun _ => rfl)) | fail "m enter: no rule for these arguments"); (case kB => exact rfl); (case kD => decide +kernel); (case c2 => exact rfl); (case c3 => exact rfl); (case c4 => exact rfl); k_whole))
local macro_rules | `(tactic| walk_at "m enterL") => `(tactic| k_dflt (refine' code_defL ?k1 ?k2 ?k3 ?k4 ?k5 ?kA ?kF ?kK ?k6 ?k7 ?k8 ?k9 ?kB ?_ ?c2 ?c3 ?c4 ?c5; (case kA => exact rfl); (case kF => exact rfl); (case kK => assumption); (case k1 => k_asm); (case k2 => k_asm); (case k3 => k_asm); (case k4 => k_asm); (case k5 => k_asm); (case k6 => k_is); (case k7 => k_is); (case k8 => ktr_room); (case k9 => first | exact BindsTo.of_eq rfl | (refine' kp_binds ?kx ?ke; (case kx => k_in); (case ke => exact fun _ => rfl)) | fail "m enter: no rule for these arguments"); (case c5 => decide); (case kB => exact locs rfl); (case c2 => exact rfl); (case c3 => exact rfl); (case c4 => exact rfl); k_whole))
local macro_rules | `(tactic| walk_at "m enterN") => `(tactic| k_dflt (refine' code_nestL ?k1 ?k2 ?k3 ?k4 ?k5 ?kA ?kF ?kK ?k6 ?k7 ?k8 ?k9 ?kB ?_ ?c2 ?c3 ?c4 ?c5; (case kA => exact rfl); (case kF => exact rfl); (case kK => assumption); (case k1 => k_asm); (case k2 => k_asm); (case k3 => k_asm); (case k4 => k_asm); (case k5 => k_asm); (case k6 => k_mem); (case k7 => exact codeRec_news (by k_asm) (by k_mem) (by assumption) (by assumption)); (case k8 => ktr_room); (case k9 => exact BindsTo.of_eq rfl); (case c5 => decide); (case kB => exact locs rfl); (case c2 => exact rfl); (case c3 => exact rfl); (case c4 => exact rfl); k_whole))
theorem Ok.good {rest tt : List (Addr × Obj)} (k : Ok rest tt) : Good tt rest tt := Good.start k.1 k.2.1
theorem Ok.of {rest tt0 tt : List (Addr × Obj)} (g : Good tt0 rest tt) (h : Apart (tt0.map (·.1)) rest) : Ok rest tt := ⟨g.1, g.2.1, g.apart h⟩
theorem Ok.sub {rest rest' tt : List (Addr × Obj)} (k : Ok rest tt) (h : ∀ p ∈ rest', ∃ q ∈ rest, q.1 = p.1) : Ok rest' tt := ⟨k.1, k.2.1, fun b hb p hp => by
  obtain ⟨q, hq, e⟩ := h p hp
  rw [← e]
  exact k.2.2 b hb q hq⟩
theorem Ok.sub' {rest rest' tt : List (Addr × Obj)} (k : Ok rest tt) (h : ∀ p ∈ rest', p.1 ∈ rest.map (·.1)) : Ok rest' tt := k.sub fun p hp => by
  obtain ⟨q, hq, e⟩ := List.mem_map.mp (h p hp)
  exact ⟨q, hq, e⟩
theorem Ok.cons {rest tt : List (Addr × Obj)} {p : Addr × Obj} (k : Ok rest tt) (h : ∀ q ∈ tt, q.1 ≠ p.1) : Ok (p :: rest) tt := ⟨k.1, k.2.1, fun b hb q hq => by
  obtain ⟨z, hz, rfl⟩ := List.mem_map.mp hb
  rcases List.mem_cons.mp hq with rfl | hq
  · exact Ne.symm (h z hz)
  · exact k.2.2 _ hb q hq⟩
theorem Ok.ne {rest tt : List (Addr × Obj)} (k : Ok rest tt) {p : Addr × Obj} (hp : p ∈ rest) : ∀ q ∈ tt, q.1 ≠ p.1 := fun q hq e => k.2.2 q.1 (List.mem_map_of_mem hq) p hp e.symm
theorem allLt_ne {d : Addr} {l : List (Addr × Obj)} (h : AllLt d l) : ∀ q ∈ l, q.1 ≠ d := by
  induction l with
  | nil => intro q hq; cases hq
  | cons x r ih =>
    intro q hq
    rcases List.mem_cons.mp hq with rfl | hq
    · exact Nat.ne_of_lt h.1
    · exact ih h.2 q hq
section
variable {w : World} {prog p : Program} {loose : List Str} {mean : ExcName → Option Value} {mg mb : Str → Option Value} {dp un : Nat} {gd : Option (List Code)} {cn : Str} {cs : Scope} {a : Addr} {ccd : Value} {cl : List (Str × Addr)} {outer : List Env} {A₀ : Around} {base h₀ : Heap} {L : Addr} {m : Str → Option Value}
    {nl : List (Addr × Obj)} {s : Shared} {Q E : Value → Shared → Prop} {x y : Int} {tx ty : Tok} {rest tt : List (Addr × Obj)}
theorem ok_into (G : Ok rest tt) (B : Below A₀ base outer h₀) (F : Fr h₀ L s.heap m) (X : (hd.heap_39 w.params).In h₀) (N : News h₀ L s.heap nl) (hs : ∀ q ∈ tt ++ rest, q ∈ nl) (T : Top p loose mean mg mb h₀) (hk : cs.kind = .function) (hd1 : dp + 152 < recursionLimit) (hu : un + 1216 < cLine)
    (hx : 0 ≤ x ∧ x ≤ 30000 ∧ 0 ≤ y ∧ y ≤ 30000) (ret : ∀ t tt' h' tk', Ok rest tt' → Fr h₀ L h' m → News h₀ L h' (tt' ++ rest) → Q (.int (zgcd x y) t) { s with heap := h', toks := tk' }) :
    wpAny (model prog w) (ktrTop dp un gd cn cs L a ccd cl outer) (call (.ref 81) [.int x tx, .int y ty]) Q E s :=
  use_into G.good G.2.2 B F X N hs T hk hd1 hu hx fun t tt' h' tk' g F N => ret t tt' h' tk' (Ok.of g G.2.2) F N
theorem ok_over (G : Ok rest tt) (B : Below A₀ base outer h₀) (F : Fr h₀ L s.heap m) (X : (hd.heap_39 w.params).In h₀) (N : News h₀ L s.heap nl) (hs : ∀ q ∈ tt ++ rest, q ∈ nl) (T : Top p loose mean mg mb h₀) (hk : cs.kind = .function) (hd1 : dp + 153 < recursionLimit) (hu : un + 1224 < cLine)
    (hx : 0 < x ∧ x ≤ 30000 ∧ 0 < y ∧ y ≤ 30000) (ret : ∀ t tt' h' tk', Ok rest tt' → Fr h₀ L h' m → News h₀ L h' (tt' ++ rest) → Q (.int (zlcm x y) t) { s with heap := h', toks := tk' }) :
    wpAny (model prog w) (ktrTop dp un gd cn cs L a ccd cl outer) (call (.ref 88) [.int x tx, .int y ty]) Q E s :=
  use_over G.good G.2.2 B F X N hs T hk hd1 hu hx fun t tt' h' tk' g F N => ret t tt' h' tk' (Ok.of g G.2.2) F N
theorem ok_idm (G : Ok rest tt) (B : Below A₀ base outer h₀) (F : Fr h₀ L s.heap m) (X : (hd.heap_39 w.params).In h₀) (N : News h₀ L s.heap nl) (hs : ∀ q ∈ tt ++ rest, q ∈ nl) (T : Top p loose mean mg mb h₀) (hk : cs.kind = .function) (hd1 : dp + 151 < recursionLimit) (hu : un + 1208 < cLine)
    (hx : 0 ≤ x ∧ x < 1073741824 ∧ 0 < y ∧ y < 1073741824) (ret : ∀ r t1 t2 tt' h' tk', Ok rest tt' → Fr h₀ L h' m → News h₀ L h' ((r, tup2 (x / y) (x % y) t1 t2) :: (tt' ++ rest)) → Q (.ref r) { s with heap := h', toks := tk' }) :
    wpAny (model prog w) (ktrTop dp un gd cn cs L a ccd cl outer) (call (.ref 56) [.int x tx, .int y ty]) Q E s :=
  use_idm G.good G.2.2 B F X N hs T hk hd1 hu hx fun r t1 t2 tt' h' tk' g F N => ret r t1 t2 tt' h' tk' (Ok.of g G.2.2) F N
theorem nd1 {D : Addr} {o : Obj} : (([(D, o)] : List (Addr × Obj)).map (·.1)).Nodup := by simp
theorem apart1 {D : Addr} {o : Obj} {news : List (Addr × Obj)} (h : ∀ p ∈ news, p.1 ≠ D) : Apart (([(D, o)] : List (Addr × Obj)).map (·.1)) news := fun b hb p hp => by
  obtain rfl : b = D := by simpa using hb
  exact h p hp
theorem ok_has {D : Addr} {vs : List Value} {ns : List Int} {z : Nat} (hvs : IntsAre vs ns) (hup : UpTo ns) (hlen : ns.length ≤ 1000) (news : List (Addr × Obj)) (hD : ∀ p ∈ news, p.1 ≠ D) (B : Below A₀ base outer h₀) (F : Fr h₀ L s.heap m) (X : (hd.heap_39 w.params).In h₀) (N : News h₀ L s.heap nl) (hs : ∀ q ∈ (D, W.listOf vs.toArray z) :: news, q ∈ nl) (T : Top p loose mean mg mb h₀) (hk : cs.kind = .function) (hd1 : dp + 2 < recursionLimit) (hu : un + 16 < cLine)
    (ret : ∀ h' tk', Fr h₀ L h' m → News h₀ L h' ((D, W.listOf vs.toArray z) :: news) → Q (.bool (decide (x ∈ ns))) { s with heap := h', toks := tk' }) :
    wpAny (model prog w) (ktrTop dp un gd cn cs L a ccd cl outer) (call (.ref 95) [.ref D, .int x tx]) Q E s := by
  refine Spec.use (lhas w D x tx vs ns z hvs hup hlen) news B F X N hs nd1 (apart1 hD) T hk hd1 hu ?_
  rintro r post' h' tk' F' N' - - ⟨rfl, rfl⟩
  exact ret h' tk' F' N'
theorem ok_ins {D : Addr} {vs : List Value} {ns : List Int} {z : Nat} (hvs : IntsAre vs ns) (hup : UpTo ns) (hlen : ns.length ≤ 1000) (news : List (Addr × Obj)) (hD : ∀ p ∈ news, p.1 ≠ D) (B : Below A₀ base outer h₀) (F : Fr h₀ L s.heap m) (X : (hd.heap_39 w.params).In h₀) (N : News h₀ L s.heap nl) (hs : ∀ q ∈ (D, W.listOf vs.toArray z) :: news, q ∈ nl) (T : Top p loose mean mg mb h₀) (hk : cs.kind = .function) (hd1 : dp + 2 < recursionLimit) (hu : un + 16 < cLine)
    (ret : ∀ q vs' z' h' tk', BisP ns x q → IntsAre vs' (ns.take q ++ x :: ns.drop q) → Fr h₀ L h' m → News h₀ L h' ((D, W.listOf vs'.toArray z') :: news) → Q .none { s with heap := h', toks := tk' }) :
    wpAny (model prog w) (ktrTop dp un gd cn cs L a ccd cl outer) (call (.ref 65) [.ref D, .int x tx]) Q E s := by
  refine Spec.use (insort w D x tx vs ns z hvs hup hlen) news B F X N hs nd1 (apart1 hD) T hk hd1 hu ?_
  rintro r post' h' tk' F' N' - - ⟨q, vs', z', h1, h2, rfl, rfl⟩
  exact ret q vs' z' h' tk' h1 h2 F' N'
end
def dvs (a : Int) : Nat → List Int
  | 0 => []
  | i + 1 => if a % (a - (i : Int)) = 0 then (a - (i : Int)) :: dvs a i else dvs a i
theorem dvs_gt (a : Int) : ∀ (i : Nat) (x : Int), x ∈ dvs a i → a - (i : Int) < x
  | 0, _, h => nomatch h
  | i + 1, x, h => by
    unfold dvs at h
    split at h
    · rcases List.mem_cons.mp h with rfl | h
      · omega
      · have := dvs_gt a i x h
        omega
    · have := dvs_gt a i x h
      omega
theorem dvs_sorted (a : Int) : ∀ i : Nat, (dvs a i).Pairwise (· ≤ ·)
  | 0 => .nil
  | i + 1 => by
    unfold dvs
    split
    · exact .cons (fun x h => by have := dvs_gt a i x h; omega) (dvs_sorted a i)
    · exact dvs_sorted a i
theorem dvs_len (a : Int) : ∀ i : Nat, (dvs a i).length ≤ i
  | 0 => Nat.le_refl _
  | i + 1 => by
    have := dvs_len a i
    unfold dvs
    split
    · simp only [List.length_cons]; omega
    · omega
theorem upTo_of {ns : List Int} (h : ns.Pairwise (· ≤ ·)) : UpTo ns := by
  intro i j a b hij ha hb
  obtain ⟨hi, rfl⟩ := List.getElem?_eq_some_iff.mp ha
  obtain ⟨hj, rfl⟩ := List.getElem?_eq_some_iff.mp hb
  rcases Nat.lt_or_eq_of_le hij with h1 | rfl
  · exact List.pairwise_iff_getElem.mp h i j hi hj h1
  · exact Int.le_refl _
theorem bis_zero {ns : List Int} {x : Int} {q : Nat} (h : BisP ns x q) (hx : ∀ y ∈ ns, x < y) : q = 0 := by
  rcases Nat.eq_zero_or_pos q with h0 | h0
  · exact h0
  · have hl : 0 < ns.length := Nat.lt_of_lt_of_le h0 h.1
    have := h.2.1 0 ns[0] h0 (List.getElem?_eq_getElem hl)
    have := hx ns[0] (List.getElem_mem hl)
    omega
theorem swap_mem {α : Type} {l r : List α} {p : α} (h : p ∈ l ++ r) : p ∈ r ++ l := (List.mem_append.mp h).elim (List.mem_append_right _) (List.mem_append_left _)
theorem mid_mem {α : Type} {l r : List α} {x p : α} (h : p ∈ l ++ x :: r) : p ∈ x :: (l ++ r) := by
  rcases List.mem_append.mp h with h | h
  · exact .tail _ (List.mem_append_left _ h)
  · rcases List.mem_cons.mp h with rfl | h
    · exact .head _
    · exact .tail _ (List.mem_append_right _ h)
theorem mid_mem' {α : Type} {l r : List α} {x p : α} (h : p ∈ x :: (l ++ r)) : p ∈ l ++ x :: r := by
  rcases List.mem_cons.mp h with rfl | h
  · exact List.mem_append_right _ (.head _)
  · rcases List.mem_append.mp h with h | h
    · exact List.mem_append_left _ h
    · exact List.mem_append_right _ (.tail _ h)
theorem neD {tt r : List (Addr × Obj)} {D : Addr} (h1 : ∀ q ∈ tt, q.1 ≠ D) (h2 : ∀ q ∈ r, q.1 ≠ D) : ∀ q ∈ tt ++ r, q.1 ≠ D := fun q hq => (List.mem_append.mp hq).elim (h1 q) (h2 q)
theorem pull_mem {α : Type} {l r r' : List α} {x p : α} (hx : x ∈ r') (hr : ∀ q ∈ r, q ∈ r') (h : p ∈ x :: (l ++ r)) : p ∈ l ++ r' := by
  rcases List.mem_cons.mp h with rfl | h
  · exact List.mem_append_right _ hx
  · rcases List.mem_append.mp h with h | h
    · exact List.mem_append_left _ h
    · exact List.mem_append_right _ (hr _ h)
theorem two_map {m : Str → Option Value} {x n : Str} {w v : Value} (hm : m n = some v) : (fun y => if y = x then some w else m y) = kstB m [(x, w), (n, v)] := by
  funext z
  simp only [kstB]
  split
  · rfl
  · split
    · rename_i h; rw [h, hm]
    · rfl
theorem push_mem {α : Type} {l r r' : List α} {x p : α} (hr : ∀ q ∈ r', q ∈ x :: r) (h : p ∈ l ++ r') : p ∈ x :: (l ++ r) := by
  rcases List.mem_append.mp h with h | h
  · exact .tail _ (List.mem_append_left _ h)
  · rcases List.mem_cons.mp (hr _ h) with rfl | h
    · exact .head _
    · exact .tail _ (List.mem_append_right _ h)
end Mine
-- part N1
namespace Mine
set_option Elab.async false
set_option maxRecDepth 100000
set_option maxHeartbeats 8000000
local macro_rules | `(tactic| walk_at "call ref") => `(tactic| (refine Hold.on ?_))
local macro_rules | `(tactic| k_all) => `(tactic| first | assumption | (refine' Tail.ne ?ta ?tb; (case ta => assumption); (case tb => (try dsimp only); omega)) | fail "k_all")
local macro_rules | `(tactic| walk_at "m nodup") => `(tactic| repeat' (first | exact nd_nil | exact all_nil | refine nd_cons ?_ ?_ | refine all_cons ?_ ?_ | k_ne))
local macro_rules | `(tactic| walk_at "m apart") => `(tactic| repeat' (first | exact Apart.nil | refine Apart.cons ?_ ?_ | k_all))
local macro_rules | `(tactic| walk_at "m sub") => `(tactic| repeat' (first | exact sub_nil | exact sub_self | (refine' sub_cons ?ta ?_; (case ta => k_mem)) | refine sub_tail ?_ | fail "m sub"))
local macro_rules | `(tactic| walk_at "m lt") => `(tactic| repeat' (first | refine List.forall_mem_cons.mpr ⟨?_, ?_⟩ | (refine' Tail.lt ?ta ?tb; (case ta => assumption); (case tb => (try dsimp only); omega)) | (refine ltA ?_; (try dsimp only); omega) | fail "m lt"))
local macro_rules | `(tactic| walk_at "m enterC") => `(tactic| k_dflt (refine' code_defC ?k1 ?k2 ?k3 ?k4 ?k5 ?kA ?kF ?kK ?k6 ?k7 ?k8 ?k9 ?kB ?kD ?_ ?c2 ?c3 ?c4; (case kA => exact rfl); (case kF => exact rfl); (case kK => assumption); (case k1 => k_asm); (case k2 => k_asm); (case k3 => k_asm); (case k4 => k_asm); (case k5 => k_asm); (case k6 => k_is); (case k7 => k_is); (case k8 => ktr_room); (case k9 => first | exact BindsTo.of_eq rfl | (refine' kp_binds ?kx ?ke; (case kx => k_in); (case ke => exact fun _ => rfl)) | fail "m enter: no rule for these arguments"); (case kB => exact rfl); (case kD => decide +kernel); (case c2 => exact rfl); (case c3 => exact rfl); (case c4 => exact rfl); k_whole))
local macro_rules | `(tactic| walk_at "m enterL") => `(tactic| k_dflt (refine' code_defL ?k1 ?k2 ?k3 ?k4 ?k5 ?kA ?kF ?kK ?k6 ?k7 ?k8 ?k9 ?kB ?_ ?c2 ?c3 ?c4 ?c5; (case kA => exact rfl); (case kF => exact rfl); (case kK => assumption); (case k1 => k_asm); (case k2 => k_asm); (case k3 => k_asm); (case k4 => k_asm); (case k5 => k_asm); (case k6 => k_is); (case k7 => k_is); (case k8 => ktr_room); (case k9 => first | exact BindsTo.of_eq rfl | (refine' kp_binds ?kx ?ke; (case kx => k_in); (case ke => exact fun _ => rfl)) | fail "m enter: no rule for these arguments"); (case c5 => decide); (case kB => exact locs rfl); (case c2 => exact rfl); (case c3 => exact rfl); (case c4 => exact rfl); k_whole))
local macro_rules | `(tactic| walk_at "m enterN") => `(tactic| k_dflt (refine' code_nestL ?k1 ?k2 ?k3 ?k4 ?k5 ?kA ?kF ?kK ?k6 ?k7 ?k8 ?k9 ?kB ?_ ?c2 ?c3 ?c4 ?c5; (case kA => exact rfl); (case kF => exact rfl); (case kK => assumption); (case k1 => k_asm); (case k2 => k_asm); (case k3 => k_asm); (case k4 => k_asm); (case k5 => k_asm); (case k6 => k_mem); (case k7 => exact codeRec_news (by k_asm) (by k_mem) (by assumption) (by assumption)); (case k8 => ktr_room); (case k9 => exact BindsTo.of_eq rfl); (case c5 => decide); (case kB => exact locs rfl); (case c2 => exact rfl); (case c3 => exact rfl); (case c4 => exact rfl); k_whole))
theorem up30 {P : Int → Prop} (h : ∀ i : Fin 30, P ((i.val : Int) + 1)) (a : Int) (ha : 1 ≤ a ∧ a ≤ 30) : P a := by
  have := h ⟨a.toNat - 1, by omega⟩
  rwa [show (((a.toNat - 1 : Nat) : Int) + 1) = a by omega] at this
def cdivs (a b : Int) : List Int := (rangeKs 1 30).foldl (fun l k => if a.fmod k = b.fmod k ∧ b.fmod k = 0 then l ++ [k] else l) []
theorem comp_max : ∀ (a : Int), (1 ≤ a ∧ a ≤ 30) → ∀ (b : Int), (1 ≤ b ∧ b ≤ 30) → 0 < (cdivs a b).length ∧ zgcd a b ∈ cdivs a b ∧ ∀ x ∈ cdivs a b, x ≤ zgcd a b :=
  up30 fun i b hb => up30 (P := fun b => 0 < (cdivs ((i.val : Int) + 1) b).length ∧ zgcd ((i.val : Int) + 1) b ∈ cdivs ((i.val : Int) + 1) b ∧ ∀ x ∈ cdivs ((i.val : Int) + 1) b, x ≤ zgcd ((i.val : Int) + 1) b)
    (by revert i; decide +kernel) b hb
theorem zmul : ∀ (a : Int), (1 ≤ a ∧ a ≤ 30) → ∀ (b : Int), (1 ≤ b ∧ b ≤ 30) → zgcd a b * zlcm a b = a * b ∧ 1 ≤ zgcd a b ∧ zgcd a b ≤ 30 ∧ 1 ≤ zlcm a b ∧ zlcm a b ≤ 900 ∧ zgcd a b ≤ a ∧ zgcd a b ≤ b ∧ zgcd a (zlcm a b) = a ∧ zlcm a (zgcd a b) = a :=
  up30 fun i b hb => up30 (P := fun b => zgcd ((i.val : Int) + 1) b * zlcm ((i.val : Int) + 1) b = ((i.val : Int) + 1) * b ∧ 1 ≤ zgcd ((i.val : Int) + 1) b ∧ zgcd ((i.val : Int) + 1) b ≤ 30 ∧ 1 ≤ zlcm ((i.val : Int) + 1) b ∧ zlcm ((i.val : Int) + 1) b ≤ 900 ∧ zgcd ((i.val : Int) + 1) b ≤ ((i.val : Int) + 1) ∧ zgcd ((i.val : Int) + 1) b ≤ b ∧ zgcd ((i.val : Int) + 1) (zlcm ((i.val : Int) + 1) b) = ((i.val : Int) + 1) ∧ zlcm ((i.val : Int) + 1) (zgcd ((i.val : Int) + 1) b) = ((i.val : Int) + 1))
    (by revert i; decide +kernel) b hb
abbrev P3 (a b c : Int) : Prop := zgcd a (zlcm b c) = zlcm (zgcd a b) (zgcd a c) ∧ zlcm a (zgcd b c) = zgcd (zlcm a b) (zlcm a c) ∧ zlcm (zlcm (zgcd a b) (zgcd b c)) (zgcd c a) = zgcd (zgcd (zlcm a b) (zlcm b c)) (zlcm c a)
    ∧ zlcm (zlcm (zgcd a b) (zgcd b c)) (zgcd c a) ≤ 30000 ∧ zlcm (zgcd a b) (zgcd b c) ≤ 30000 ∧ 0 < zlcm (zgcd a b) (zgcd b c) ∧ 0 < zgcd (zlcm a b) (zlcm b c) ∧ zgcd (zlcm a b) (zlcm b c) ≤ 900
theorem dist1 (a b c : Nat) (ha : 0 < a) : Nat.gcd a (Nat.lcm b c) = Nat.lcm (Nat.gcd a b) (Nat.gcd a c) := by
  apply Nat.dvd_antisymm
  · have hg : 0 < Nat.gcd a (Nat.gcd b c) := Nat.gcd_pos_of_pos_left _ ha
    refine Nat.dvd_of_mul_dvd_mul_right hg ?_
    have e1 : Nat.lcm (Nat.gcd a b) (Nat.gcd a c) * Nat.gcd a (Nat.gcd b c) = Nat.gcd a b * Nat.gcd a c := by
      rw [← Nat.gcd_mul_lcm (Nat.gcd a b) (Nat.gcd a c), Nat.mul_comm]
      congr 1
      apply Nat.dvd_antisymm
      · exact Nat.dvd_gcd (Nat.dvd_gcd (Nat.gcd_dvd_left _ _) (Nat.dvd_trans (Nat.gcd_dvd_right _ _) (Nat.gcd_dvd_left _ _))) (Nat.dvd_gcd (Nat.gcd_dvd_left _ _) (Nat.dvd_trans (Nat.gcd_dvd_right _ _) (Nat.gcd_dvd_right _ _)))
      · exact Nat.dvd_gcd (Nat.dvd_trans (Nat.gcd_dvd_left _ _) (Nat.gcd_dvd_left _ _)) (Nat.dvd_gcd (Nat.dvd_trans (Nat.gcd_dvd_left _ _) (Nat.gcd_dvd_right _ _)) (Nat.dvd_trans (Nat.gcd_dvd_right _ _) (Nat.gcd_dvd_right _ _)))
    rw [e1]
    have hl : Nat.gcd a (Nat.lcm b c) ∣ a := Nat.gcd_dvd_left _ _
    have hl2 : Nat.gcd a (Nat.lcm b c) ∣ Nat.lcm b c := Nat.gcd_dvd_right _ _
    have h1 : Nat.gcd a (Nat.gcd b c) ∣ a := Nat.gcd_dvd_left _ _
    have h2 : Nat.gcd a (Nat.gcd b c) ∣ Nat.gcd b c := Nat.gcd_dvd_right _ _
    have hb : Nat.gcd a (Nat.gcd b c) ∣ b := Nat.dvd_trans h2 (Nat.gcd_dvd_left _ _)
    have hc : Nat.gcd a (Nat.gcd b c) ∣ c := Nat.dvd_trans h2 (Nat.gcd_dvd_right _ _)
    have hbc : Nat.gcd a (Nat.lcm b c) * Nat.gcd a (Nat.gcd b c) ∣ b * c := by
      rw [← Nat.gcd_mul_lcm b c, Nat.mul_comm (Nat.gcd b c)]
      exact Nat.mul_dvd_mul hl2 h2
    have t : ∀ z, Nat.gcd a (Nat.lcm b c) * Nat.gcd a (Nat.gcd b c) ∣ a * z → Nat.gcd a (Nat.lcm b c) * Nat.gcd a (Nat.gcd b c) ∣ b * z → Nat.gcd a (Nat.lcm b c) * Nat.gcd a (Nat.gcd b c) ∣ Nat.gcd a b * z := fun z h h' => by
      rw [← Nat.gcd_mul_right a z b]
      exact Nat.dvd_gcd h h'
    rw [← Nat.gcd_mul_left (Nat.gcd a b) a c]
    refine Nat.dvd_gcd (t a (Nat.mul_dvd_mul hl h1) ?_) (t c (Nat.mul_dvd_mul hl hc) hbc)
    rw [Nat.mul_comm b a]
    exact Nat.mul_dvd_mul hl hb
  · refine Nat.lcm_dvd (Nat.dvd_gcd (Nat.gcd_dvd_left _ _) (Nat.dvd_trans (Nat.gcd_dvd_right _ _) (Nat.dvd_lcm_left _ _))) (Nat.dvd_gcd (Nat.gcd_dvd_left _ _) (Nat.dvd_trans (Nat.gcd_dvd_right _ _) (Nat.dvd_lcm_right _ _)))
theorem lcm_abs (a c : Nat) : Nat.lcm a (Nat.gcd c a) = a := Nat.dvd_antisymm (Nat.lcm_dvd (Nat.dvd_refl _) (Nat.gcd_dvd_right _ _)) (Nat.dvd_lcm_left _ _)
theorem gcd_abs (a b : Nat) : Nat.gcd (Nat.lcm a b) a = a := Nat.dvd_antisymm (Nat.gcd_dvd_right _ _) (Nat.dvd_gcd (Nat.dvd_lcm_left _ _) (Nat.dvd_refl _))
theorem dist2 (a b c : Nat) (ha : 0 < a) (hb : 0 < b) (hc : 0 < c) : Nat.lcm a (Nat.gcd b c) = Nat.gcd (Nat.lcm a b) (Nat.lcm a c) := by
  rw [dist1 (Nat.lcm a b) a c (Nat.lcm_pos ha hb), gcd_abs, Nat.gcd_comm (Nat.lcm a b) c, dist1 c a b hc, ← Nat.lcm_assoc, lcm_abs, Nat.gcd_comm c b]
theorem med (a b c : Nat) (ha : 0 < a) (hb : 0 < b) (hc : 0 < c) :
    Nat.lcm (Nat.lcm (Nat.gcd a b) (Nat.gcd b c)) (Nat.gcd c a) = Nat.gcd (Nat.gcd (Nat.lcm a b) (Nat.lcm b c)) (Nat.lcm c a) := by
  have h1 : Nat.gcd (Nat.lcm a b) (Nat.lcm b c) = Nat.lcm b (Nat.gcd c a) := by
    rw [Nat.lcm_comm a b, ← dist2 b a c hb ha hc, Nat.gcd_comm a c]
  have h2 : Nat.lcm (Nat.gcd a b) (Nat.gcd b c) = Nat.gcd b (Nat.lcm c a) := by
    rw [dist1 b c a hb, Nat.gcd_comm a b, Nat.lcm_comm]
  rw [h1, h2, Nat.gcd_comm (Nat.lcm b (Nat.gcd c a)), dist1 (Nat.lcm c a) b (Nat.gcd c a) (Nat.lcm_pos hc ha), Nat.gcd_comm (Nat.lcm c a) b]
  congr 1
  exact Nat.dvd_antisymm (Nat.dvd_gcd (Nat.dvd_trans (Nat.gcd_dvd_left _ _) (Nat.dvd_lcm_left _ _)) (Nat.dvd_refl _)) (Nat.gcd_dvd_right _ _)
theorem lcm_le {m n M N : Nat} (hm : 0 < m ∧ m ≤ M) (hn : 0 < n ∧ n ≤ N) : 0 < Nat.lcm m n ∧ Nat.lcm m n ≤ M * N :=
  ⟨Nat.lcm_pos hm.1 hn.1, Nat.le_trans (Nat.le_of_dvd (Nat.mul_pos hm.1 hn.1) (Nat.lcm_dvd (Nat.dvd_mul_right _ _) (Nat.dvd_mul_left _ _))) (Nat.mul_le_mul hm.2 hn.2)⟩
theorem gcd_le' {m n M : Nat} (hm : 0 < m ∧ m ≤ M) : 0 < Nat.gcd m n ∧ Nat.gcd m n ≤ M :=
  ⟨Nat.gcd_pos_of_pos_left _ hm.1, Nat.le_trans (Nat.le_of_dvd hm.1 (Nat.gcd_dvd_left _ _)) hm.2⟩
theorem three30 : ∀ (a : Int), (1 ≤ a ∧ a ≤ 30) → ∀ (b : Int), (1 ≤ b ∧ b ≤ 30) → ∀ (c : Int), (1 ≤ c ∧ c ≤ 30) → P3 a b c := by
  intro a ha b hb c hc
  obtain ⟨x, rfl⟩ : ∃ x : Nat, a = x := ⟨a.toNat, by omega⟩
  obtain ⟨y, rfl⟩ : ∃ y : Nat, b = y := ⟨b.toNat, by omega⟩
  obtain ⟨z, rfl⟩ : ∃ z : Nat, c = z := ⟨c.toNat, by omega⟩
  have hx : 0 < x ∧ x ≤ 30 := by omega
  have hy : 0 < y ∧ y ≤ 30 := by omega
  have hz : 0 < z ∧ z ≤ 30 := by omega
  have g1 := gcd_le' (n := y) hx
  have g2 := gcd_le' (n := z) hy
  have g3 := gcd_le' (n := x) hz
  have l1 := lcm_le g1 g2
  have l2 := lcm_le l1 g3
  have l3 := lcm_le hx hy
  have g4 := gcd_le' (n := Nat.lcm y z) l3
  have e1 := dist1 x y z hx.1
  have e2 := dist2 x y z hx.1 hy.1 hz.1
  have e3 := med x y z hx.1 hy.1 hz.1
  unfold P3 zgcd zlcm
  simp only [Int.toNat_natCast]
  refine ⟨by rw [e1], by rw [e2], by rw [e3], ?_, ?_, ?_, ?_, ?_⟩ <;> omega
end Mine
-- part N2
namespace Mine
set_option Elab.async false
set_option maxRecDepth 100000
set_option maxHeartbeats 8000000
local macro_rules | `(tactic| walk_at "call ref") => `(tactic| (refine Hold.on ?_))
local macro_rules | `(tactic| k_all) => `(tactic| first | assumption | (refine' Tail.ne ?ta ?tb; (case ta => assumption); (case tb => (try dsimp only); omega)) | fail "k_all")
local macro_rules | `(tactic| walk_at "m nodup") => `(tactic| repeat' (first | exact nd_nil | exact all_nil | refine nd_cons ?_ ?_ | refine all_cons ?_ ?_ | k_ne))
local macro_rules | `(tactic| walk_at "m apart") => `(tactic| repeat' (first | exact Apart.nil | refine Apart.cons ?_ ?_ | k_all))
local macro_rules | `(tactic| walk_at "m sub") => `(tactic| repeat' (first | exact sub_nil | exact sub_self | (refine' sub_cons ?ta ?_; (case ta => k_mem)) | refine sub_tail ?_ | fail "m sub"))
local macro_rules | `(tactic| walk_at "m lt") => `(tactic| repeat' (first | refine List.forall_mem_cons.mpr ⟨?_, ?_⟩ | (refine' Tail.lt ?ta ?tb; (case ta => assumption); (case tb => (try dsimp only); omega)) | (refine ltA ?_; (try dsimp only); omega) | fail "m lt"))
local macro_rules | `(tactic| walk_at "m enterC") => `(tactic| k_dflt (refine' code_defC ?k1 ?k2 ?k3 ?k4 ?k5 ?kA ?kF ?kK ?k6 ?k7 ?k8 ?k9 ?kB ?kD ?_ ?c2 ?c3 ?c4; (case kA => exact rfl); (case kF => exact rfl); (case kK => assumption); (case k1 => k_asm); (case k2 => k_asm); (case k3 => k_asm); (case k4 => k_asm); (case k5 => k_asm); (case k6 => k_is); (case k7 => k_is); (case k8 => ktr_room); (case k9 => first | exact BindsTo.of_eq rfl | (refine' kp_binds ?kx ?ke; (case kx => k_in); (case ke => exact fun _ => rfl)) | fail "m enter: no rule for these arguments"); (case kB => exact rfl); (case kD => decide +kernel); (case c2 => exact rfl); (case c3 => exact rfl); (case c4 => exact rfl); k_whole))
local macro_rules | `(tactic| walk_at "m enterL") => `(tactic| k_dflt (refine' code_defL ?k1 ?k2 ?k3 ?k4 ?k5 ?kA ?kF ?kK ?k6 ?k7 ?k8 ?k9 ?kB ?_ ?c2 ?c3 ?c4 ?c5; (case kA => exact rfl); (case kF => exact rfl); (case kK => assumption); (case k1 => k_asm); (case k2 => k_asm); (case k3 => k_asm); (case k4 => k_asm); (case k5 => k_asm); (case k6 => k_is); (case k7 => k_is); (case k8 => ktr_room); (case k9 => first | exact BindsTo.of_eq rfl | (refine' kp_binds ?kx ?ke; (case kx => k_in); (case ke => exact fun _ => rfl)) | fail "m enter: no rule for these arguments"); (case c5 => decide); (case kB => exact locs rfl); (case c2 => exact rfl); (case c3 => exact rfl); (case c4 => exact rfl); k_whole))
local macro_rules | `(tactic| walk_at "m enterN") => `(tactic| k_dflt (refine' code_nestL ?k1 ?k2 ?k3 ?k4 ?k5 ?kA ?kF ?kK ?k6 ?k7 ?k8 ?k9 ?kB ?_ ?c2 ?c3 ?c4 ?c5; (case kA => exact rfl); (case kF => exact rfl); (case kK => assumption); (case k1 => k_asm); (case k2 => k_asm); (case k3 => k_asm); (case k4 => k_asm); (case k5 => k_asm); (case k6 => k_mem); (case k7 => exact codeRec_news (by k_asm) (by k_mem) (by assumption) (by assumption)); (case k8 => ktr_room); (case k9 => exact BindsTo.of_eq rfl); (case c5 => decide); (case kB => exact locs rfl); (case c2 => exact rfl); (case c3 => exact rfl); (case c4 => exact rfl); k_whole))
theorem dvs_last : ∀ (a : Int), (1 ≤ a ∧ a ≤ 30) → (dvs a a.toNat).drop ((dvs a a.toNat).length - 1) = [a] :=
  up30 (P := fun a => (dvs a a.toNat).drop ((dvs a a.toNat).length - 1) = [a]) (by decide +kernel)
/-- what the double loop asks of two divisors -/
abbrev DD (a x y : Int) : Prop := zgcd x y ∈ dvs a a.toNat ∧ zlcm x y ∈ dvs a a.toNat ∧ zgcd (a / x) (a / y) = a / zlcm x y ∧ 1 ≤ zlcm x y ∧ zlcm x y ≤ 30
theorem dd30 : ∀ (a : Int), (1 ≤ a ∧ a ≤ 30) → ∀ x ∈ dvs a a.toNat, 1 ≤ x ∧ x ≤ 30 ∧ 1 ≤ a / x ∧ a / x ≤ 30 ∧ (a / x) ∈ dvs a a.toNat ∧ ∀ y ∈ dvs a a.toNat, DD a x y :=
  up30 (P := fun a => ∀ x ∈ dvs a a.toNat, 1 ≤ x ∧ x ≤ 30 ∧ 1 ≤ a / x ∧ a / x ≤ 30 ∧ (a / x) ∈ dvs a a.toNat ∧ ∀ y ∈ dvs a a.toNat, DD a x y) (by decide +kernel)
/-- the complements of x in a -/
def cmpl (a x : Int) : List Int := (dvs a a.toNat).filter (fun y => decide (zgcd x y = 1) && decide (zlcm x y = a))
def toldL (a : Int) : List Int := (dvs a a.toNat).filter (fun x => decide ((cmpl a x).length = 1))
def sqL (a : Int) : List Int := (rangeKs 2 4).foldl (fun l k => if a.fmod (k * k) = 0 then l ++ [k] else l) []
theorem told30 : ∀ (a : Int), (1 ≤ a ∧ a ≤ 30) → decide (toldL a = dvs a a.toNat) = decide (sqL a = []) :=
  up30 (P := fun a => decide (toldL a = dvs a a.toNat) = decide (sqL a = [])) (by decide +kernel)
end Mine
-- part R2
namespace Mine
set_option Elab.async false
set_option maxRecDepth 100000
set_option maxHeartbeats 8000000
local macro_rules | `(tactic| walk_at "call ref") => `(tactic| (refine Hold.on ?_))
local macro_rules | `(tactic| k_all) => `(tactic| first | assumption | (refine' Tail.ne ?ta ?tb; (case ta => assumption); (case tb => (try dsimp only); omega)) | fail "k_all")
local macro_rules | `(tactic| walk_at "m nodup") => `(tactic| repeat' (first | exact nd_nil | exact all_nil | refine nd_cons ?_ ?_ | refine all_cons ?_ ?_ | k_ne))
local macro_rules | `(tactic| walk_at "m apart") => `(tactic| repeat' (first | exact Apart.nil | refine Apart.cons ?_ ?_ | k_all))
local macro_rules | `(tactic| walk_at "m sub") => `(tactic| repeat' (first | exact sub_nil | exact sub_self | (refine' sub_cons ?ta ?_; (case ta => k_mem)) | refine sub_tail ?_ | fail "m sub"))
local macro_rules | `(tactic| walk_at "m lt") => `(tactic| repeat' (first | refine List.forall_mem_cons.mpr ⟨?_, ?_⟩ | (refine' Tail.lt ?ta ?tb; (case ta => assumption); (case tb => (try dsimp only); omega)) | (refine ltA ?_; (try dsimp only); omega) | fail "m lt"))
local macro_rules | `(tactic| walk_at "m enterC") => `(tactic| k_dflt (refine' code_defC ?k1 ?k2 ?k3 ?k4 ?k5 ?kA ?kF ?kK ?k6 ?k7 ?k8 ?k9 ?kB ?kD ?_ ?c2 ?c3 ?c4; (case kA => exact rfl); (case kF => exact rfl); (case kK => assumption); (case k1 => k_asm); (case k2 => k_asm); (case k3 => k_asm); (case k4 => k_asm); (case k5 => k_asm); (case k6 => k_is); (case k7 => k_is); (case k8 => ktr_room); (case k9 => first | exact BindsTo.of_eq rfl | (refine' kp_binds ?kx ?ke; (case kx => k_in); (case ke => exact fun _ => rfl)) | fail "m enter: no rule for these arguments"); (case kB => exact rfl); (case kD => decide +kernel); (case c2 => exact rfl); (case c3 => exact rfl); (case c4 => exact rfl); k_whole))
local macro_rules | `(tactic| walk_at "m enterL") => `(tactic| k_dflt (refine' code_defL ?k1 ?k2 ?k3 ?k4 ?k5 ?kA ?kF ?kK ?k6 ?k7 ?k8 ?k9 ?kB ?_ ?c2 ?c3 ?c4 ?c5; (case kA => exact rfl); (case kF => exact rfl); (case kK => assumption); (case k1 => k_asm); (case k2 => k_asm); (case k3 => k_asm); (case k4 => k_asm); (case k5 => k_asm); (case k6 => k_is); (case k7 => k_is); (case k8 => ktr_room); (case k9 => first | exact BindsTo.of_eq rfl | (refine' kp_binds ?kx ?ke; (case kx => k_in); (case ke => exact fun _ => rfl)) | fail "m enter: no rule for these arguments"); (case c5 => decide); (case kB => exact locs rfl); (case c2 => exact rfl); (case c3 => exact rfl); (case c4 => exact rfl); k_whole))
local macro_rules | `(tactic| walk_at "m enterN") => `(tactic| k_dflt (refine' code_nestL ?k1 ?k2 ?k3 ?k4 ?k5 ?kA ?kF ?kK ?k6 ?k7 ?k8 ?k9 ?kB ?_ ?c2 ?c3 ?c4 ?c5; (case kA => exact rfl); (case kF => exact rfl); (case kK => assumption); (case k1 => k_asm); (case k2 => k_asm); (case k3 => k_asm); (case k4 => k_asm); (case k5 => k_asm); (case k6 => k_mem); (case k7 => exact codeRec_news (by k_asm) (by k_mem) (by assumption) (by assumption)); (case k8 => ktr_room); (case k9 => exact BindsTo.of_eq rfl); (case c5 => decide); (case kB => exact locs rfl); (case c2 => exact rfl); (case c3 => exact rfl); (case c4 => exact rfl); k_whole))
section
variable {prog : Program} {w : World} {A : Around} {E : Value → Shared → Prop} {s : Shared} {h₀ : Heap} {L : Addr} {m : Str → Option Value} {env : Env}
def CellEnd (h₀ : Heap) (L : Addr) (m : Str → Option Value) (s₁ : Shared) (top : List (Addr × Obj)) (lp : Addr × Obj) (rest : Value → List (Addr × Obj) → Prop) (y : Value) (s₂ : Shared) : Prop :=
  ∃ h' tk news', s₂ = { s₁ with heap := h', toks := tk } ∧ Fr h₀ L h' m ∧ News h₀ L h' (top ++ news') ∧ (∀ p ∈ news', ∀ q ∈ top, p.1 ≠ q.1) ∧ lp ∈ news' ∧ rest y news'
/-- a list comprehension with one test, whose loop name is a cell, over a list of the ledger, its value stored in a local name -/
theorem assign_comp_cell {ct elt iter : Expr} {x y : Str} {px py : Pos} {scope : Scope} {cl : List (Str × Addr)} {pos spos : Pos} {Q : Flow → Shared → Prop} {ax : Addr} {lo : Obj} {its : List Value} {k : Nat} {news : List (Addr × Obj)}
    (hh : A.handled = none) (F : Fr h₀ L s.heap m) (N : News h₀ L s.heap news) (hm : (ax, lo) ∈ news) (hlc : lo.cls = .type "list") (hld : lo.data = .seq its.toArray k) (hsz : its.length ≤ sizeLine) (hLe : env.locals = L)
    (hsw : swapsWith (.ListComp elt [⟨.Name x px, iter, [ct], 0⟩] scope pos) (some (.Name y py)) spos.line env = pure true)
    (hclos : closureFor scope env = pure cl) (hcells : ∀ a, cellsFrom a scope.names cl = (x, a) :: cl) (hpush : ∀ h : Heap, pushCells h scope.names = h.push { cls := .type "cell", data := .cell none }) (hkind : scope.kind = .function)
    (hnames : ∀ z ∈ scope.names, z.2 = .local → scope.names.lookup z.1 = some .local) (hx : ∀ cl' C, (compEnvC scope cl' C env).kindOf x = some .cell)
    (hy : env.kindOf y = some .local) (hp : (env.scope.kind == .class || (env.scope.kind == .module && env.locals != env.globals)) = false)
    (hit : ∀ Q' : Value → Shared → Prop, Q' (.ref ax) s → wpAny (model prog w) A (eval iter env) Q' E s)
    (Inv : Nat → List Value → List (Addr × Obj) → Prop) (h0 : Inv 0 [] news)
    (turn : ∀ i ys news v I oI C oC c oc D h tk (E' : Value → Shared → Prop), i < its.length → Inv i ys news → its[i]? = some v → oc.data = .cell (some v) → @LT.lt Nat _ I D → @LT.lt Nat _ D C → @LT.lt Nat _ C c → Fr h₀ L h m → News h₀ L h ((I, oI) :: (C, oC) :: (c, oc) :: (D, LCg.lst ys) :: news) →
      (∀ p ∈ news, p.1 ≠ I ∧ p.1 ≠ C ∧ p.1 ≠ c ∧ p.1 ≠ D) →
      wpAny (model prog w) A (isTrue ct (compEnvC scope ((x, c) :: cl) C env) (eval ct (compEnvC scope ((x, c) :: cl) C env))) (fun ok s' => if ok = true then
        wpAny (model prog w) A (eval elt (compEnvC scope ((x, c) :: cl) C env)) (CellEnd h₀ L m { s with heap := h, toks := tk } [(I, oI), (C, oC), (c, oc), (D, LCg.lst ys)] (ax, lo) (fun z news' => Inv (i + 1) (ys ++ [z]) news')) E' s'
        else CellEnd h₀ L m { s with heap := h, toks := tk } [(I, oI), (C, oC), (c, oc), (D, LCg.lst ys)] (ax, lo) (fun _ news' => Inv (i + 1) ys news') Value.none s') E' { s with heap := h, toks := tk })
    (done : ∀ D ys news h tk, Inv its.length ys news → Fr h₀ L h (fun z => if z = y then some (.ref D) else m z) → News h₀ L h ((D, LCg.lst ys) :: news) → Q .next { s with heap := h, toks := tk })
    (hs : ∀ x, foldedSetIterable iter env x = pure x := by intro _; rfl) :
    wpAny (model prog w) A (exec (.Assign [.Name y py] (.ListComp elt [⟨.Name x px, iter, [ct], 0⟩] scope pos) spos) env) Q E s := by
  subst hLe
  rw [exec_Assign_Name_used _ _ _ _ hsw]
  refine wpAny_bind (wpAny_standAt (wpAny_bind ?_))
  show wpAny _ A (do let _ ← comprehension (.ListComp elt [⟨.Name x px, iter, [ct], 0⟩] scope pos) scope env _ (newList []) false (eval iter env) (some (assign (.Name y py) env))) _ _ s
  refine wpAny_bind (wpAny_mono (wpAny_comprehension_free (use := some (assign (.Name y py) env)) (Q := fun _ s' => Q .next s') rfl hs hclos hkind hnames (hit _ ?_)) (fun _ s' hq => wpAny_pure (wpAny_pure hq)) fun _ _ e => e)
  have isL : ∀ (h : Heap) (nw : List (Addr × Obj)), News h₀ env.locals h nw → (ax, lo) ∈ nw → h.IsList ax its.toArray := fun h nw Nw hin => ⟨lo, (Nw _ hin).1, hlc, k, hld⟩
  have hl := isL _ _ N hm
  refine wpAny_pyIter_list hl ?_
  have hlt : ax < s.heap.objs.size := Heap.lt_size (N _ hm).1
  generalize hI : s.heap.objs.size = I at *
  generalize hH1 : s.heap.push { cls := .type "list_iterator", data := .fields #[.ref ax, .int 0 0] } = H1 at *
  have hs1 : H1.objs.size = I + 1 := by rw [← hH1, Heap.size_push, hI]
  have up1 : ∀ b o, s.heap.get? b = some o → H1.get? b = some o := fun b o e => hH1 ▸ Heap.get?_push_of_some _ e
  have it1 : H1.IsListIter I ax 0 := ⟨_, by rw [← hH1, ← hI]; exact Heap.get?_push_size _ rfl, rfl, rfl⟩
  refine wpAny_newObj_type ?_
  dsimp only
  rw [hs1]
  generalize hH2 : H1.push { cls := .type "list", dict := none, data := .seq ([] : List Value).toArray } = H2
  have hs2 : H2.objs.size = I + 2 := by rw [← hH2, Heap.size_push, hs1]
  have up2 : ∀ b o, H1.get? b = some o → H2.get? b = some o := fun b o e => hH2 ▸ Heap.get?_push_of_some _ e
  have d2 : H2.get? (I + 1) = some (LCg.lst []) := by rw [← hH2, ← hs1]; exact Heap.get?_push_size _ rfl
  simp only [newFunctionEnv, Option.isSome_some, if_true]
  refine wpAny_bind (wpAny_alloc ?_)
  dsimp only
  rw [hs2]
  generalize hH3 : H2.push { cls := .type "dict", data := .dict #[] } = H3
  have hs3 : H3.objs.size = I + 3 := by rw [← hH3, Heap.size_push, hs2]
  have up3 : ∀ b o, H2.get? b = some o → H3.get? b = some o := fun b o e => hH3 ▸ Heap.get?_push_of_some _ e
  have c3 : H3.Ns (I + 2) (fun _ => none) := by rw [← hH3, ← hs2]; exact Heap.Ns.new H2 (.type "dict")
  refine wpAny_bind (wpAny_layCells _ (fun name kind cells => by cases hkc : kind == NameKind.cell <;> simp [hkc]) _ _ _ _ ?_)
  dsimp only
  rw [hs3, hcells, hpush]
  generalize hH4 : H3.push { cls := .type "cell", data := .cell none } = H4
  have up4 : ∀ b o, H3.get? b = some o → H4.get? b = some o := fun b o e => hH4 ▸ Heap.get?_push_of_some _ e
  have k4 : H4.get? (I + 3) = some { cls := .type "cell", data := .cell none } := by rw [← hH4, ← hs3]; exact Heap.get?_push_size _ rfl
  simp only [List.forIn_nil]
  refine wpAny_bind (wpAny_pure (wpAny_pure ?_))
  show codeAny (model prog w) A (.compStart _ 0 (.ref I) (.ref (I + 1)) (compEnvC scope ((x, I + 3) :: cl) (I + 2) env)) _ _
  have hn : its.toArray.size = its.length := List.size_toArray ..
  have fresh : ∀ a, I ≤ a → h₀.get? a = none := fun a ha => by
    cases e : h₀.get? a with
    | none => rfl
    | some o' =>
      have := Heap.lt_size (F.keep a o' e)
      rw [hI] at this
      exact absurd this (Nat.not_lt.mpr ha)
  have hL : env.locals < I := hI ▸ F.ns.lt
  have below : ∀ p ∈ news, p.1 < I := fun p hp => hI ▸ Heap.lt_size (N p hp).1
  have old : ∀ b o, s.heap.get? b = some o → H4.get? b = some o := fun b o e => up4 b o (up3 b o (up2 b o (up1 b o e)))
  have W := Walks.list (prog := prog) (w := w) hh I ax (Nat.ne_of_lt hlt) its.toArray
  have fI : h₀.get? I = none := fresh _ (Nat.le_refl _)
  have fD : h₀.get? (I + 1) = none := fresh _ (by omega)
  have fC : h₀.get? (I + 2) = none := fresh _ (by omega)
  have fc : h₀.get? (I + 3) = none := fresh _ (by omega)
  have nLI : env.locals ≠ I := Nat.ne_of_lt hL
  have nLD : env.locals ≠ I + 1 := Nat.ne_of_lt (Nat.lt_succ_of_lt hL)
  have nLC : env.locals ≠ I + 2 := Nat.ne_of_lt (Nat.lt_succ_of_lt (Nat.lt_succ_of_lt hL))
  have nLc : env.locals ≠ I + 3 := Nat.ne_of_lt (Nat.lt_succ_of_lt (Nat.lt_succ_of_lt (Nat.lt_succ_of_lt hL)))
  have loop : codeAny (model prog w) A (.compLoop (.ListComp elt [⟨.Name x px, iter, [ct], 0⟩] scope pos) 0 (.ref I) (.ref (I + 1)) (compEnvC scope ((x, I + 3) :: cl) (I + 2) env))
      (compPost (model prog w) A E (some (assign (.Name y py) env)) (fun _ s' => Q .next s') (.ref (I + 1)) (I + 2)) { s with heap := H4 } := by
    refine codeAny_compLoop_tests
      (fun k s' => ∃ h' tk i ys m' news' oc vc, s' = { s with heap := h', toks := tk } ∧ i ≤ its.length ∧ k = its.length + 1 - i ∧ ys.length ≤ i ∧ h'.IsListIter I ax i ∧ Fr h₀ env.locals h' m ∧ h'.Ns (I + 2) m' ∧ oc.data = .cell vc ∧
        News h₀ env.locals h' ((I + 3, oc) :: (I + 1, LCg.lst ys) :: news') ∧ (∀ p ∈ news', p.1 ≠ I ∧ p.1 ≠ I + 2 ∧ p.1 ≠ I + 3 ∧ p.1 ≠ I + 1) ∧ (ax, lo) ∈ news' ∧ Inv i ys news') ?_ (its.length + 1)
      ⟨H4, _, 0, [], _, news, { cls := .type "cell", data := .cell none }, none, rfl, Nat.zero_le _, rfl, Nat.le_refl _, it1.at fun o e => up4 _ _ (up3 _ _ (up2 _ _ e)), F.keeps old, c3.keeps up4, rfl, fun p hp => ?_, fun p hp => ?_, hm, h0⟩
    · rintro k s' ⟨h', tk, i, ys, m', news', oc, vc, rfl, hi, rfl, hyl, hit', F', hn', hoc, N', off', hm', hInv⟩
      have hl' := isL h' news' (fun p hp => N' p (.tail _ (.tail _ hp))) hm'
      by_cases hlt' : i < its.length
      · refine W.item i _ _ _ (by rw [hn]; exact hlt') ⟨hit', hl'⟩ fun v h₂ tk₂ hPv hst₂ hk₂ => ?_
        have hk2 : ∀ b o, b ≠ I → h'.get? b = some o → h₂.get? b = some o := fun b o hb e => hk₂ b o (by simpa using hb) e
        have zc := hk2 (I + 3) _ (by omega) (N' (I + 3, oc) (.head _)).1
        refine wpAny_assign_Name (wpAny_storeName_cell (c := I + 3) (by simp [compEnvC, relabel, hkind]) (hx _ _) (by simp [compEnvC]) ⟨oc, zc, hoc⟩ (fun h₃ hc₃ hs₃ => ?_))
        refine wpAny_tests_one ?_
        obtain ⟨oc₃, ec₃, dc₃⟩ := hc₃
        have kp : ∀ b o, b ≠ I + 3 → h₂.get? b = some o → h₃.get? b = some o := fun b o hb e => hs₃.extBut b o hb e
        obtain ⟨oI, eI, r1, r2⟩ := hst₂.1
        have eI₃ := kp I _ (by omega) eI
        obtain ⟨oC, eC, hoC⟩ := LCg.ns_obj (hn'.at' fun o e => kp _ o (by omega) (hk2 _ o (by omega) e))
        have F₃ : Fr h₀ env.locals h₃ m := ⟨F'.ns.at' fun o e => kp _ o nLc (hk2 _ o nLI e), fun b o e => kp b o (fun q => by rw [q, fc] at e; cases e) (hk2 b o (fun q => by rw [q, fI] at e; cases e) (F'.keep b o e)), F'.above⟩
        have N₃ : News h₀ env.locals h₃ ((I, oI) :: (I + 2, oC) :: (I + 3, oc₃) :: (I + 1, LCg.lst ys) :: news') := fun p hp => by
          rcases List.mem_cons.mp hp with rfl | hp
          · exact ⟨eI₃, Ne.symm nLI, fI⟩
          rcases List.mem_cons.mp hp with rfl | hp
          · exact ⟨eC, Ne.symm nLC, fC⟩
          rcases List.mem_cons.mp hp with rfl | hp
          · exact ⟨ec₃, Ne.symm nLc, fc⟩
          rcases List.mem_cons.mp hp with rfl | hp
          · exact ⟨kp _ _ (by dsimp only; omega) (hk2 _ _ (by dsimp only; omega) (N' (I + 1, LCg.lst ys) (.tail _ (.head _))).1), Ne.symm nLD, fD⟩
          · have z := N' p (.tail _ (.tail _ hp))
            exact ⟨kp _ _ (off' p hp).2.2.1 (hk2 _ _ (off' p hp).1 z.1), z.2⟩
        refine wpAny_mono (turn i ys news' v I oI (I + 2) oC (I + 3) oc₃ (I + 1) h₃ _ _ hlt' hInv (by simpa using hPv) dc₃ (Nat.lt_succ_self _) (Nat.lt_succ_self _) (Nat.lt_succ_self _) F₃ N₃ off') (fun ok s₄ h₄ => ?_) fun _ _ e => e
        have offB : ∀ (n2 : List (Addr × Obj)), (∀ p ∈ n2, ∀ q ∈ [(I, oI), (I + 2, oC), (I + 3, oc₃), (I + 1, LCg.lst ys)], p.1 ≠ q.1) → ∀ p ∈ n2, p.1 ≠ I ∧ p.1 ≠ I + 2 ∧ p.1 ≠ I + 3 ∧ p.1 ≠ I + 1 := fun n2 h p hp =>
          ⟨h p hp _ (.head _), h p hp _ (.tail _ (.head _)), h p hp _ (.tail _ (.tail _ (.head _))), h p hp _ (.tail _ (.tail _ (.tail _ (.head _))))⟩
        cases ok with
        | true =>
          simp only [if_true] at h₄ ⊢
          refine wpAny_mono h₄ (fun z s₅ h₅ => ?_) fun _ _ e => e
          obtain ⟨h₆, tk₆, n₆, rfl, F₆, N₆, off₆, hm₆, I₆⟩ := h₅
          have o6 := offB n₆ off₆
          have zI := (N₆ (I, oI) (.head _)).1
          have zC := (N₆ (I + 2, oC) (.tail _ (.head _))).1
          have zc6 := (N₆ (I + 3, oc₃) (.tail _ (.tail _ (.head _)))).1
          have zD := (N₆ (I + 1, LCg.lst ys) (.tail _ (.tail _ (.tail _ (.head _))))).1
          have Nn : News h₀ env.locals h₆ n₆ := fun p hp => N₆ p (List.mem_append_right _ hp)
          refine append_at (hsz := by show ys.toArray.size ≤ sizeLine; rw [List.size_toArray]; omega) zD fun h₇ hs₇ hD₇ => ?_
          have k7 : ∀ b o, b ≠ I + 1 → h₆.get? b = some o → h₇.get? b = some o := fun b o hb e => hs₇.extBut b o hb e
          refine ⟨its.length + 1 - (i + 1), by omega, h₇, tk₆, i + 1, ys ++ [z], _, n₆, oc₃, _, rfl, hlt', rfl, by rw [List.length_append, List.length_singleton]; omega, ⟨oI, k7 I _ (by omega) zI, r1, r2⟩,
            ⟨F₆.ns.at' fun o e => k7 _ o nLD e, fun b o e => k7 b o (fun q => by rw [q, fD] at e; cases e) (F₆.keep b o e), F₆.above⟩, (hoC.ns zC).at' fun o e => k7 _ o (by omega) e, dc₃, fun p hp => ?_, o6, hm₆, I₆⟩
          rcases List.mem_cons.mp hp with rfl | hp
          · exact ⟨k7 _ _ (by dsimp only; omega) zc6, Ne.symm nLc, fc⟩
          rcases List.mem_cons.mp hp with rfl | hp
          · exact ⟨hD₇.trans (congrArg some (LCg.lst_snoc ys z)), Ne.symm nLD, fD⟩
          · exact ⟨k7 _ _ (o6 p hp).2.2.2 (Nn p hp).1, (Nn p hp).2⟩
        | false =>
          simp only [Bool.false_eq_true, if_false] at h₄ ⊢
          obtain ⟨h₆, tk₆, n₆, rfl, F₆, N₆, off₆, hm₆, I₆⟩ := h₄
          have zI := (N₆ (I, oI) (.head _)).1
          have zC := (N₆ (I + 2, oC) (.tail _ (.head _))).1
          exact ⟨its.length + 1 - (i + 1), by omega, h₆, tk₆, i + 1, ys, _, n₆, oc₃, _, rfl, hlt', rfl, by omega, ⟨oI, zI, r1, r2⟩, F₆, hoC.ns zC, dc₃, fun p hp => N₆ p (.tail _ (.tail _ hp)), offB n₆ off₆, hm₆, I₆⟩
      · obtain rfl : i = its.length := Nat.le_antisymm hi (Nat.not_lt.mp hlt')
        refine W.done _ _ _ ⟨by rw [hn]; exact hit', hl'⟩ fun h₂ tk₂ hk₂ => ?_
        have hk2 : ∀ b o, b ≠ I → h'.get? b = some o → h₂.get? b = some o := fun b o hb e => hk₂ b o (by simpa using hb) e
        have F₂ : Fr h₀ env.locals h₂ m := ⟨F'.ns.at' fun o e => hk2 _ o nLI e, fun b o e => hk2 b o (fun q => by rw [q, fI] at e; cases e) (F'.keep b o e), F'.above⟩
        show wpAny _ A (assign (.Name y py) env (.ref (I + 1))) _ _ _
        refine wpAny_assign_Name (wpAny_storeName_local hy F₂.ns (fun h₃ hn₃ hs₃ => ?_) hp)
        have kp : ∀ b o, b ≠ env.locals → h₂.get? b = some o → h₃.get? b = some o := fun b o hb e => hs₃.extBut b o hb e
        refine ⟨m', hn'.at' fun o e => kp _ o (Ne.symm nLC) (hk2 _ o (by omega) e), fun h'' hs'' => ?_⟩
        have k4' : ∀ b o, b ≠ I + 2 → h₃.get? b = some o → h''.get? b = some o := fun b o hb e => hs''.extBut b o hb e
        have hL0 : h₀.get? env.locals = none := Heap.get?_none_of_le F'.above
        refine done (I + 1) ys news' h'' _ hInv ⟨hn₃.at' fun o e => k4' _ o nLC e, fun b o e => k4' b o (fun q => by rw [q, fC] at e; cases e) (kp b o (fun q => by rw [q, hL0] at e; cases e) (F₂.keep b o e)), F'.above⟩ fun p hp => ?_
        have z := N' p (.tail _ hp)
        have zI : p.1 ≠ I ∧ p.1 ≠ I + 2 := by
          rcases List.mem_cons.mp hp with rfl | hp
          · exact ⟨by k_ne, by k_ne⟩
          · exact ⟨(off' p hp).1, (off' p hp).2.1⟩
        exact ⟨k4' _ _ zI.2 (kp _ _ z.2.1 (hk2 _ _ zI.1 z.1)), z.2⟩
    · rcases List.mem_cons.mp hp with rfl | hp
      · exact ⟨k4, Ne.symm nLc, fc⟩
      rcases List.mem_cons.mp hp with rfl | hp
      · exact ⟨up4 _ _ (up3 _ _ d2), Ne.symm nLD, fD⟩
      · exact ⟨old _ _ (N p hp).1, (N p hp).2⟩
    · have := ltN (below p hp)
      exact ⟨Nat.ne_of_lt this, Nat.ne_of_lt (by omega), Nat.ne_of_lt (by omega), Nat.ne_of_lt (by omega)⟩
  exact codeAny_compStart_list loop (W.self 0 _ _ _ ⟨it1.at fun o e => up4 _ _ (up3 _ _ (up2 _ _ e)), isL _ _ (N.grown old) hm⟩ loop)
end
end Mine
-- part V1
namespace Mine
set_option Elab.async false
set_option maxRecDepth 100000
set_option maxHeartbeats 8000000
local macro_rules | `(tactic| walk_at "call ref") => `(tactic| (refine Hold.on ?_))
local macro_rules | `(tactic| k_all) => `(tactic| first | assumption | (refine' Tail.ne ?ta ?tb; (case ta => assumption); (case tb => (try dsimp only); omega)) | fail "k_all")
local macro_rules | `(tactic| walk_at "m nodup") => `(tactic| repeat' (first | exact nd_nil | exact all_nil | refine nd_cons ?_ ?_ | refine all_cons ?_ ?_ | k_ne))
local macro_rules | `(tactic| walk_at "m apart") => `(tactic| repeat' (first | exact Apart.nil | refine Apart.cons ?_ ?_ | k_all))
local macro_rules | `(tactic| walk_at "m sub") => `(tactic| repeat' (first | exact sub_nil | exact sub_self | (refine' sub_cons ?ta ?_; (case ta => k_mem)) | refine sub_tail ?_ | fail "m sub"))
local macro_rules | `(tactic| walk_at "m lt") => `(tactic| repeat' (first | refine List.forall_mem_cons.mpr ⟨?_, ?_⟩ | (refine' Tail.lt ?ta ?tb; (case ta => assumption); (case tb => (try dsimp only); omega)) | (refine ltA ?_; (try dsimp only); omega) | fail "m lt"))
local macro_rules | `(tactic| walk_at "m enterC") => `(tactic| k_dflt (refine' code_defC ?k1 ?k2 ?k3 ?k4 ?k5 ?kA ?kF ?kK ?k6 ?k7 ?k8 ?k9 ?kB ?kD ?_ ?c2 ?c3 ?c4; (case kA => exact rfl); (case kF => exact rfl); (case kK => assumption); (case k1 => k_asm); (case k2 => k_asm); (case k3 => k_asm); (case k4 => k_asm); (case k5 => k_asm); (case k6 => k_is); (case k7 => k_is); (case k8 => ktr_room); (case k9 => first | exact BindsTo.of_eq rfl | (refine' kp_binds ?kx ?ke; (case kx => k_in); (case ke => exact fun _ => rfl)) | fail "m enter: no rule for these arguments"); (case kB => exact rfl); (case kD => decide +kernel); (case c2 => exact rfl); (case c3 => exact rfl); (case c4 => exact rfl); k_whole))
local macro_rules | `(tactic| walk_at "m enterL") => `(tactic| k_dflt (refine' code_defL ?k1 ?k2 ?k3 ?k4 ?k5 ?kA ?kF ?kK ?k6 ?k7 ?k8 ?k9 ?kB ?_ ?c2 ?c3 ?c4 ?c5; (case kA => exact rfl); (case kF => exact rfl); (case kK => assumption); (case k1 => k_asm); (case k2 => k_asm); (case k3 => k_asm); (case k4 => k_asm); (case k5 => k_asm); (case k6 => k_is); (case k7 => k_is); (case k8 => ktr_room); (case k9 => first | exact BindsTo.of_eq rfl | (refine' kp_binds ?kx ?ke; (case kx => k_in); (case ke => exact fun _ => rfl)) | fail "m enter: no rule for these arguments"); (case c5 => decide); (case kB => exact locs rfl); (case c2 => exact rfl); (case c3 => exact rfl); (case c4 => exact rfl); k_whole))
local macro_rules | `(tactic| walk_at "m enterN") => `(tactic| k_dflt (refine' code_nestL ?k1 ?k2 ?k3 ?k4 ?k5 ?kA ?kF ?kK ?k6 ?k7 ?k8 ?k9 ?kB ?_ ?c2 ?c3 ?c4 ?c5; (case kA => exact rfl); (case kF => exact rfl); (case kK => assumption); (case k1 => k_asm); (case k2 => k_asm); (case k3 => k_asm); (case k4 => k_asm); (case k5 => k_asm); (case k6 => k_mem); (case k7 => exact codeRec_news (by k_asm) (by k_mem) (by assumption) (by assumption)); (case k8 => ktr_room); (case k9 => exact BindsTo.of_eq rfl); (case c5 => decide); (case kB => exact locs rfl); (case c2 => exact rfl); (case c3 => exact rfl); (case c4 => exact rfl); k_whole))
local macro_rules | `(tactic| walk_at "CompSrcT") => `(tactic| (refine Hold.on ?_))
local macro_rules | `(tactic| walk_at "KCiEl") => `(tactic| (refine Hold.on ?_))
local macro_rules | `(tactic| walk_at "KCiNo") => `(tactic| (refine Hold.on ?_))
local macro_rules | `(tactic| walk_at "m mem") => `(tactic| with_reducible (first | exact List.mem_cons_self | (refine' List.mem_cons_of_mem _ ?_; walk_at "m mem") | (refine' mem_rightA ?_; walk_at "m mem") | fail "m mem"))
local macro_rules | `(tactic| k_mem) => `(tactic| walk_at "m mem")
local macro_rules | `(tactic| walk_at "m tail") => `(tactic| (
  (case sB => k_asm); (case sF => k_asm); (case sX => k_asm); (case sN => k_asm); (case sT => k_asm); (case sK => exact rfl); (case sS => walk_at "m sub"); (case sP => first | omega | (dsimp only [Around.deeper, ktrTop]; omega)); (case sU => first | omega | (dsimp only [Around.deeper, ktrTop]; omega))))
theorem if1 (w : World) (a b c : Int) (ta tb tc : Tok) (ha : 1 ≤ a ∧ a ≤ 30) (hb : 1 ≤ b ∧ b ≤ 30) (hc : 1 ≤ c ∧ c ≤ 30)
    {prog p : Program} {loose : List Str} {mean : ExcName → Option Value} {mg mb : Str → Option Value} {dp un : Nat} {gd : Option (List Code)} {fa : Addr} {ccd : Value} {outer : List Env} {A₀ : Around} {base h₀ : Heap} {L : Addr} {u : Str → Option Value} {s : Shared}
    {Q : Flow → Shared → Prop} {E : Value → Shared → Prop} {tt0 tt : List (Addr × Obj)} {oO oA oB : Obj}
    (B : Below A₀ base outer h₀) (F : Fr h₀ L s.heap (kstB u [(Str.ofString "c", .int c tc)])) (X : (hd.heap_39 w.params).In h₀) (N : News h₀ L s.heap (tt ++ [(L + 1 + 1 + 1, oO), (L + 1 + 1, oB), (L + 1, oA)])) (G0 : Good tt0 [(L + 1 + 1 + 1, oO), (L + 1 + 1, oB), (L + 1, oA)] tt) (hA : Apart (tt0.map (·.1)) [(L + 1 + 1 + 1, oO), (L + 1 + 1, oB), (L + 1, oA)])
    (T : Top p loose mean mg mb h₀) (hd1 : dp + 200 < recursionLimit) (hu : un + 1600 < cLine) (hoA : oA.data = .cell (some (.int a ta))) (hoB : oB.data = .cell (some (.int b tb)))
    (ret : ∀ tt' h' tk', Good tt0 [(L + 1 + 1 + 1, oO), (L + 1 + 1, oB), (L + 1, oA)] tt' → Fr h₀ L h' (kstB u [(Str.ofString "c", .int c tc)]) → News h₀ L h' (tt' ++ [(L + 1 + 1 + 1, oO), (L + 1 + 1, oB), (L + 1, oA)]) → Q .next { s with heap := h', toks := tk' }) :
    wpAny (model prog w) (lawA dp un gd L fa ccd outer) (exec st1.1 (lawEnv L fa ccd)) Q E s := by
  have hab := zmul a ha b hb
  have hac := zmul a ha c hc
  have hbc := zmul b hb c hc
  have hba := zmul b hb a ha
  have hca := zmul c hc a ha
  have hp3 := three30 a ha b hb c hc
  dsimp only [P3] at hp3
  dsimp only [st1, lawEnv, lawA, lawScope]
  k_steps
  refine Hold.off ?_
  refine' use_into G0 hA ?sB ?sF ?sX ?sN ?sS ?sT ?sK ?sP ?sU ⟨by omega, by omega, by omega, by omega⟩ ?_
  walk_at "m tail"
  clear G0
  intro t1 tt1 h1 tk1 G1 F1 N1
  (try dsimp only)
  k_steps
  refine Hold.off ?_
  refine' use_over G1 hA ?sB ?sF ?sX ?sN ?sS ?sT ?sK ?sP ?sU ⟨by omega, by omega, by omega, by omega⟩ ?_
  walk_at "m tail"
  clear G1
  intro t2 tt2 h2 tk2 G2 F2 N2
  (try dsimp only)
  k_steps
  · exact absurd (hab.1) (by assumption)
  refine Hold.off ?_
  refine' use_into G2 hA ?sB ?sF ?sX ?sN ?sS ?sT ?sK ?sP ?sU ⟨by omega, by omega, by omega, by omega⟩ ?_
  walk_at "m tail"
  clear G2
  intro t3 tt3 h3 tk3 G3 F3 N3
  (try dsimp only)
  k_steps
  refine Hold.off ?_
  refine LCt.CompSrcT.range (n := 30) (by rfl) (by k_asm) (by k_asm) (by assumption) (by decide) (by rfl) (by decide) ?_
  intro g'
  refine' kci_range (fun l k => if a.fmod k = b.fmod k ∧ b.fmod k = 0 then l ++ [k] else l) (fun k' t' I' oI' C' oC' D' m' ys' l' h' tk' E' hlo' hhi' hI' hC' hx' F' N' off' ne' hMark' => ?_) ?_ ?_
  · try k_fold
    k_steps
    · exact LCg.CompEnd.intro (by k_asm) (by k_asm) _ (fun _ h => h) off' trivial (kci_el (by rw [if_pos ⟨by assumption, by assumption⟩]) rfl rfl)
    · exact LCg.CompEnd.intro (by k_asm) (by k_asm) _ (fun _ h => h) off' trivial (kci_no (by rw [if_neg fun h => by simp_all]) rfl)
    · exact LCg.CompEnd.intro (by k_asm) (by k_asm) _ (fun _ h => h) off' trivial (kci_no (by rw [if_neg fun h => by simp_all]) rfl)
  · try k_fold
    k_steps
    have hcm := comp_max a ha b hb
    refine Hold.off ?_
    rename_i hI _ _ _ _ _ _ _ _
    refine' kso_max (ns := cdivs a b) ?k1 ?k2 ?k3 ?k4 ?k5 ?k6 ?_
    (case k1 => k_asm)
    (case k2 => k_asm)
    (case k3 => kso_list)
    (case k4 => exact hI)
    (case k5 => exact hcm.1)
    (case k6 => exact rfl)
    intro h' M' t' k' F' N' a' b'
    obtain rfl : M' = zgcd a b := Int.le_antisymm (hcm.2.2 _ a') (b' _ hcm.2.1)
    k_steps
    · exact absurd rfl (by assumption)
    · exact ret _ _ _ G3 F' fun p hp => N' p (.tail _ hp)
  · intro l k
    dsimp only
    split <;> simp
theorem if2 (w : World) (a b c : Int) (ta tb tc : Tok) (ha : 1 ≤ a ∧ a ≤ 30) (hb : 1 ≤ b ∧ b ≤ 30) (hc : 1 ≤ c ∧ c ≤ 30)
    {prog p : Program} {loose : List Str} {mean : ExcName → Option Value} {mg mb : Str → Option Value} {dp un : Nat} {gd : Option (List Code)} {fa : Addr} {ccd : Value} {outer : List Env} {A₀ : Around} {base h₀ : Heap} {L : Addr} {u : Str → Option Value} {s : Shared}
    {Q : Flow → Shared → Prop} {E : Value → Shared → Prop} {tt0 tt : List (Addr × Obj)} {oO oA oB : Obj}
    (B : Below A₀ base outer h₀) (F : Fr h₀ L s.heap (kstB u [(Str.ofString "c", .int c tc)])) (X : (hd.heap_39 w.params).In h₀) (N : News h₀ L s.heap (tt ++ [(L + 1 + 1 + 1, oO), (L + 1 + 1, oB), (L + 1, oA)])) (G0 : Good tt0 [(L + 1 + 1 + 1, oO), (L + 1 + 1, oB), (L + 1, oA)] tt) (hA : Apart (tt0.map (·.1)) [(L + 1 + 1 + 1, oO), (L + 1 + 1, oB), (L + 1, oA)])
    (T : Top p loose mean mg mb h₀) (hd1 : dp + 200 < recursionLimit) (hu : un + 1600 < cLine) (hoA : oA.data = .cell (some (.int a ta))) (hoB : oB.data = .cell (some (.int b tb)))
    (ret : ∀ tt' h' tk', Good tt0 [(L + 1 + 1 + 1, oO), (L + 1 + 1, oB), (L + 1, oA)] tt' → Fr h₀ L h' (kstB u [(Str.ofString "c", .int c tc)]) → News h₀ L h' (tt' ++ [(L + 1 + 1 + 1, oO), (L + 1 + 1, oB), (L + 1, oA)]) → Q .next { s with heap := h', toks := tk' }) :
    wpAny (model prog w) (lawA dp un gd L fa ccd outer) (exec st2.1 (lawEnv L fa ccd)) Q E s := by
  have hab := zmul a ha b hb
  have hac := zmul a ha c hc
  have hbc := zmul b hb c hc
  have hba := zmul b hb a ha
  have hca := zmul c hc a ha
  have hp3 := three30 a ha b hb c hc
  dsimp only [P3] at hp3
  dsimp only [st2, lawEnv, lawA, lawScope]
  k_steps
  refine Hold.off ?_
  refine' use_over G0 hA ?sB ?sF ?sX ?sN ?sS ?sT ?sK ?sP ?sU ⟨by omega, by omega, by omega, by omega⟩ ?_
  walk_at "m tail"
  clear G0
  intro t1 tt1 h1 tk1 G1 F1 N1
  (try dsimp only)
  k_steps
  refine Hold.off ?_
  refine' use_into G1 hA ?sB ?sF ?sX ?sN ?sS ?sT ?sK ?sP ?sU ⟨by omega, by omega, by omega, by omega⟩ ?_
  walk_at "m tail"
  clear G1
  intro t2 tt2 h2 tk2 G2 F2 N2
  (try dsimp only)
  k_steps
  refine Hold.off ?_
  refine' use_into G2 hA ?sB ?sF ?sX ?sN ?sS ?sT ?sK ?sP ?sU ⟨by omega, by omega, by omega, by omega⟩ ?_
  walk_at "m tail"
  clear G2
  intro t3 tt3 h3 tk3 G3 F3 N3
  (try dsimp only)
  k_steps
  refine Hold.off ?_
  refine' use_into G3 hA ?sB ?sF ?sX ?sN ?sS ?sT ?sK ?sP ?sU ⟨by omega, by omega, by omega, by omega⟩ ?_
  walk_at "m tail"
  clear G3
  intro t4 tt4 h4 tk4 G4 F4 N4
  (try dsimp only)
  k_steps
  refine Hold.off ?_
  refine' use_over G4 hA ?sB ?sF ?sX ?sN ?sS ?sT ?sK ?sP ?sU ⟨by omega, by omega, by omega, by omega⟩ ?_
  walk_at "m tail"
  clear G4
  intro t5 tt5 h5 tk5 G5 F5 N5
  (try dsimp only)
  k_steps
  · exact absurd (hp3.1) (by assumption)
  exact ret _ _ _ G5 F5 N5
theorem if3 (w : World) (a b c : Int) (ta tb tc : Tok) (ha : 1 ≤ a ∧ a ≤ 30) (hb : 1 ≤ b ∧ b ≤ 30) (hc : 1 ≤ c ∧ c ≤ 30)
    {prog p : Program} {loose : List Str} {mean : ExcName → Option Value} {mg mb : Str → Option Value} {dp un : Nat} {gd : Option (List Code)} {fa : Addr} {ccd : Value} {outer : List Env} {A₀ : Around} {base h₀ : Heap} {L : Addr} {u : Str → Option Value} {s : Shared}
    {Q : Flow → Shared → Prop} {E : Value → Shared → Prop} {tt0 tt : List (Addr × Obj)} {oO oA oB : Obj}
    (B : Below A₀ base outer h₀) (F : Fr h₀ L s.heap (kstB u [(Str.ofString "c", .int c tc)])) (X : (hd.heap_39 w.params).In h₀) (N : News h₀ L s.heap (tt ++ [(L + 1 + 1 + 1, oO), (L + 1 + 1, oB), (L + 1, oA)])) (G0 : Good tt0 [(L + 1 + 1 + 1, oO), (L + 1 + 1, oB), (L + 1, oA)] tt) (hA : Apart (tt0.map (·.1)) [(L + 1 + 1 + 1, oO), (L + 1 + 1, oB), (L + 1, oA)])
    (T : Top p loose mean mg mb h₀) (hd1 : dp + 200 < recursionLimit) (hu : un + 1600 < cLine) (hoA : oA.data = .cell (some (.int a ta))) (hoB : oB.data = .cell (some (.int b tb)))
    (ret : ∀ tt' h' tk', Good tt0 [(L + 1 + 1 + 1, oO), (L + 1 + 1, oB), (L + 1, oA)] tt' → Fr h₀ L h' (kstB u [(Str.ofString "c", .int c tc)]) → News h₀ L h' (tt' ++ [(L + 1 + 1 + 1, oO), (L + 1 + 1, oB), (L + 1, oA)]) → Q .next { s with heap := h', toks := tk' }) :
    wpAny (model prog w) (lawA dp un gd L fa ccd outer) (exec st3.1 (lawEnv L fa ccd)) Q E s := by
  have hab := zmul a ha b hb
  have hac := zmul a ha c hc
  have hbc := zmul b hb c hc
  have hba := zmul b hb a ha
  have hca := zmul c hc a ha
  have hp3 := three30 a ha b hb c hc
  dsimp only [P3] at hp3
  dsimp only [st3, lawEnv, lawA, lawScope]
  k_steps
  refine Hold.off ?_
  refine' use_into G0 hA ?sB ?sF ?sX ?sN ?sS ?sT ?sK ?sP ?sU ⟨by omega, by omega, by omega, by omega⟩ ?_
  walk_at "m tail"
  clear G0
  intro t1 tt1 h1 tk1 G1 F1 N1
  (try dsimp only)
  k_steps
  refine Hold.off ?_
  refine' use_over G1 hA ?sB ?sF ?sX ?sN ?sS ?sT ?sK ?sP ?sU ⟨by omega, by omega, by omega, by omega⟩ ?_
  walk_at "m tail"
  clear G1
  intro t2 tt2 h2 tk2 G2 F2 N2
  (try dsimp only)
  k_steps
  refine Hold.off ?_
  refine' use_over G2 hA ?sB ?sF ?sX ?sN ?sS ?sT ?sK ?sP ?sU ⟨by omega, by omega, by omega, by omega⟩ ?_
  walk_at "m tail"
  clear G2
  intro t3 tt3 h3 tk3 G3 F3 N3
  (try dsimp only)
  k_steps
  refine Hold.off ?_
  refine' use_over G3 hA ?sB ?sF ?sX ?sN ?sS ?sT ?sK ?sP ?sU ⟨by omega, by omega, by omega, by omega⟩ ?_
  walk_at "m tail"
  clear G3
  intro t4 tt4 h4 tk4 G4 F4 N4
  (try dsimp only)
  k_steps
  refine Hold.off ?_
  refine' use_into G4 hA ?sB ?sF ?sX ?sN ?sS ?sT ?sK ?sP ?sU ⟨by omega, by omega, by omega, by omega⟩ ?_
  walk_at "m tail"
  clear G4
  intro t5 tt5 h5 tk5 G5 F5 N5
  (try dsimp only)
  k_steps
  · exact absurd (hp3.2.1) (by assumption)
  exact ret _ _ _ G5 F5 N5

end Mine
-- part V2
namespace Mine
set_option Elab.async false
set_option maxRecDepth 100000
set_option maxHeartbeats 8000000
local macro_rules | `(tactic| walk_at "call ref") => `(tactic| (refine Hold.on ?_))
local macro_rules | `(tactic| k_all) => `(tactic| first | assumption | (refine' Tail.ne ?ta ?tb; (case ta => assumption); (case tb => (try dsimp only); omega)) | fail "k_all")
local macro_rules | `(tactic| walk_at "m nodup") => `(tactic| repeat' (first | exact nd_nil | exact all_nil | refine nd_cons ?_ ?_ | refine all_cons ?_ ?_ | k_ne))
local macro_rules | `(tactic| walk_at "m apart") => `(tactic| repeat' (first | exact Apart.nil | refine Apart.cons ?_ ?_ | k_all))
local macro_rules | `(tactic| walk_at "m sub") => `(tactic| repeat' (first | exact sub_nil | exact sub_self | (refine' sub_cons ?ta ?_; (case ta => k_mem)) | refine sub_tail ?_ | fail "m sub"))
local macro_rules | `(tactic| walk_at "m lt") => `(tactic| repeat' (first | refine List.forall_mem_cons.mpr ⟨?_, ?_⟩ | (refine' Tail.lt ?ta ?tb; (case ta => assumption); (case tb => (try dsimp only); omega)) | (refine ltA ?_; (try dsimp only); omega) | fail "m lt"))
local macro_rules | `(tactic| walk_at "m enterC") => `(tactic| k_dflt (refine' code_defC ?k1 ?k2 ?k3 ?k4 ?k5 ?kA ?kF ?kK ?k6 ?k7 ?k8 ?k9 ?kB ?kD ?_ ?c2 ?c3 ?c4; (case kA => exact rfl); (case kF => exact rfl); (case kK => assumption); (case k1 => k_asm); (case k2 => k_asm); (case k3 => k_asm); (case k4 => k_asm); (case k5 => k_asm); (case k6 => k_is); (case k7 => k_is); (case k8 => ktr_room); (case k9 => first | exact BindsTo.of_eq rfl | (refine' kp_binds ?kx ?ke; (case kx => k_in); (case ke => exact fun _ => rfl)) | fail "m enter: no rule for these arguments"); (case kB => exact rfl); (case kD => decide +kernel); (case c2 => exact rfl); (case c3 => exact rfl); (case c4 => exact rfl); k_whole))
local macro_rules | `(tactic| walk_at "m enterL") => `(tactic| k_dflt (refine' code_defL ?k1 ?k2 ?k3 ?k4 ?k5 ?kA ?kF ?kK ?k6 ?k7 ?k8 ?k9 ?kB ?_ ?c2 ?c3 ?c4 ?c5; (case kA => exact rfl); (case kF => exact rfl); (case kK => assumption); (case k1 => k_asm); (case k2 => k_asm); (case k3 => k_asm); (case k4 => k_asm); (case k5 => k_asm); (case k6 => k_is); (case k7 => k_is); (case k8 => ktr_room); (case k9 => first | exact BindsTo.of_eq rfl | (refine' kp_binds ?kx ?ke; (case kx => k_in); (case ke => exact fun _ => rfl)) | fail "m enter: no rule for these arguments"); (case c5 => decide); (case kB => exact locs rfl); (case c2 => exact rfl); (case c3 => exact rfl); (case c4 => exact rfl); k_whole))
local macro_rules | `(tactic| walk_at "m enterN") => `(tactic| k_dflt (refine' code_nestL ?k1 ?k2 ?k3 ?k4 ?k5 ?kA ?kF ?kK ?k6 ?k7 ?k8 ?k9 ?kB ?_ ?c2 ?c3 ?c4 ?c5; (case kA => exact rfl); (case kF => exact rfl); (case kK => assumption); (case k1 => k_asm); (case k2 => k_asm); (case k3 => k_asm); (case k4 => k_asm); (case k5 => k_asm); (case k6 => k_mem); (case k7 => exact codeRec_news (by k_asm) (by k_mem) (by assumption) (by assumption)); (case k8 => ktr_room); (case k9 => exact BindsTo.of_eq rfl); (case c5 => decide); (case kB => exact locs rfl); (case c2 => exact rfl); (case c3 => exact rfl); (case c4 => exact rfl); k_whole))
local macro_rules | `(tactic| walk_at "CompSrcT") => `(tactic| (refine Hold.on ?_))
local macro_rules | `(tactic| walk_at "KCiEl") => `(tactic| (refine Hold.on ?_))
local macro_rules | `(tactic| walk_at "KCiNo") => `(tactic| (refine Hold.on ?_))
local macro_rules | `(tactic| walk_at "m mem") => `(tactic| with_reducible (first | exact List.mem_cons_self | (refine' List.mem_cons_of_mem _ ?_; walk_at "m mem") | (refine' mem_rightA ?_; walk_at "m mem") | fail "m mem"))
local macro_rules | `(tactic| k_mem) => `(tactic| walk_at "m mem")
local macro_rules | `(tactic| walk_at "m tail") => `(tactic| (
  (case sB => k_asm); (case sF => k_asm); (case sX => k_asm); (case sN => k_asm); (case sT => k_asm); (case sK => exact rfl); (case sS => walk_at "m sub"); (case sP => first | omega | (dsimp only [Around.deeper, ktrTop]; omega)); (case sU => first | omega | (dsimp only [Around.deeper, ktrTop]; omega))))
theorem if45 (w : World) (a b c : Int) (ta tb tc : Tok) (ha : 1 ≤ a ∧ a ≤ 30) (hb : 1 ≤ b ∧ b ≤ 30) (hc : 1 ≤ c ∧ c ≤ 30)
    {prog p : Program} {loose : List Str} {mean : ExcName → Option Value} {mg mb : Str → Option Value} {dp un : Nat} {gd : Option (List Code)} {fa : Addr} {ccd : Value} {outer : List Env} {A₀ : Around} {base h₀ : Heap} {L : Addr} {u : Str → Option Value} {s : Shared}
    {Q : Flow → Shared → Prop} {E : Value → Shared → Prop} {tt0 tt : List (Addr × Obj)} {oO oA oB : Obj}
    (B : Below A₀ base outer h₀) (F : Fr h₀ L s.heap (kstB u [(Str.ofString "c", .int c tc)])) (X : (hd.heap_39 w.params).In h₀) (N : News h₀ L s.heap (tt ++ [(L + 1 + 1 + 1, oO), (L + 1 + 1, oB), (L + 1, oA)])) (G0 : Good tt0 [(L + 1 + 1 + 1, oO), (L + 1 + 1, oB), (L + 1, oA)] tt) (hA : Apart (tt0.map (·.1)) [(L + 1 + 1 + 1, oO), (L + 1 + 1, oB), (L + 1, oA)])
    (T : Top p loose mean mg mb h₀) (hd1 : dp + 200 < recursionLimit) (hu : un + 1600 < cLine) (hoA : oA.data = .cell (some (.int a ta))) (hoB : oB.data = .cell (some (.int b tb)))
    {rest : List Stmt} (ret : ∀ tt' h' tk' m', Good tt0 [(L + 1 + 1 + 1, oO), (L + 1 + 1, oB), (L + 1, oA)] tt' → Fr h₀ L h' m' → News h₀ L h' (tt' ++ [(L + 1 + 1 + 1, oO), (L + 1 + 1, oB), (L + 1, oA)]) → wpAny (model prog w) (lawA dp un gd L fa ccd outer) (execs rest (lawEnv L fa ccd)) Q E { s with heap := h', toks := tk' }) :
    wpAny (model prog w) (lawA dp un gd L fa ccd outer) (execs (st4.1 :: st5.1 :: rest) (lawEnv L fa ccd)) Q E s := by
  have hab := zmul a ha b hb
  have hac := zmul a ha c hc
  have hbc := zmul b hb c hc
  have hba := zmul b hb a ha
  have hca := zmul c hc a ha
  have hp3 := three30 a ha b hb c hc
  dsimp only [P3] at hp3
  dsimp only [st4, st5, lawEnv, lawA, lawScope]
  k_steps
  refine Hold.off ?_
  refine' use_into G0 hA ?sB ?sF ?sX ?sN ?sS ?sT ?sK ?sP ?sU ⟨by omega, by omega, by omega, by omega⟩ ?_
  walk_at "m tail"
  clear G0
  intro t1 tt1 h1 tk1 G1 F1 N1
  (try dsimp only)
  k_steps
  refine Hold.off ?_
  refine' use_into G1 hA ?sB ?sF ?sX ?sN ?sS ?sT ?sK ?sP ?sU ⟨by omega, by omega, by omega, by omega⟩ ?_
  walk_at "m tail"
  clear G1
  intro t2 tt2 h2 tk2 G2 F2 N2
  (try dsimp only)
  k_steps
  refine Hold.off ?_
  refine' use_over G2 hA ?sB ?sF ?sX ?sN ?sS ?sT ?sK ?sP ?sU ⟨by omega, by omega, by omega, by omega⟩ ?_
  walk_at "m tail"
  clear G2
  intro t3 tt3 h3 tk3 G3 F3 N3
  (try dsimp only)
  k_steps
  refine Hold.off ?_
  refine' use_into G3 hA ?sB ?sF ?sX ?sN ?sS ?sT ?sK ?sP ?sU ⟨by omega, by omega, by omega, by omega⟩ ?_
  walk_at "m tail"
  clear G3
  intro t4 tt4 h4 tk4 G4 F4 N4
  (try dsimp only)
  k_steps
  refine Hold.off ?_
  refine' use_over G4 hA ?sB ?sF ?sX ?sN ?sS ?sT ?sK ?sP ?sU ⟨by omega, by omega, by omega, by omega⟩ ?_
  walk_at "m tail"
  clear G4
  intro t5 tt5 h5 tk5 G5 F5 N5
  (try dsimp only)
  k_steps
  refine Hold.off ?_
  refine' use_over G5 hA ?sB ?sF ?sX ?sN ?sS ?sT ?sK ?sP ?sU ⟨by omega, by omega, by omega, by omega⟩ ?_
  walk_at "m tail"
  clear G5
  intro t6 tt6 h6 tk6 G6 F6 N6
  (try dsimp only)
  k_steps
  refine Hold.off ?_
  refine' use_over G6 hA ?sB ?sF ?sX ?sN ?sS ?sT ?sK ?sP ?sU ⟨by omega, by omega, by omega, by omega⟩ ?_
  walk_at "m tail"
  clear G6
  intro t7 tt7 h7 tk7 G7 F7 N7
  (try dsimp only)
  k_steps
  refine Hold.off ?_
  refine' use_into G7 hA ?sB ?sF ?sX ?sN ?sS ?sT ?sK ?sP ?sU ⟨by omega, by omega, by omega, by omega⟩ ?_
  walk_at "m tail"
  clear G7
  intro t8 tt8 h8 tk8 G8 F8 N8
  (try dsimp only)
  k_steps
  refine Hold.off ?_
  refine' use_over G8 hA ?sB ?sF ?sX ?sN ?sS ?sT ?sK ?sP ?sU ⟨by omega, by omega, by omega, by omega⟩ ?_
  walk_at "m tail"
  clear G8
  intro t9 tt9 h9 tk9 G9 F9 N9
  (try dsimp only)
  k_steps
  refine Hold.off ?_
  refine' use_into G9 hA ?sB ?sF ?sX ?sN ?sS ?sT ?sK ?sP ?sU ⟨by omega, by omega, by omega, by omega⟩ ?_
  walk_at "m tail"
  clear G9
  intro t10 tt10 h10 tk10 G10 F10 N10
  (try dsimp only)
  k_steps
  · exact absurd (hp3.2.2.1) (by assumption)
  refine Hold.off ?_
  refine' use_over G10 hA ?sB ?sF ?sX ?sN ?sS ?sT ?sK ?sP ?sU ⟨by omega, by omega, by omega, by omega⟩ ?_
  walk_at "m tail"
  clear G10
  intro t11 tt11 h11 tk11 G11 F11 N11
  (try dsimp only)
  k_steps
  refine Hold.off ?_
  refine' use_into G11 hA ?sB ?sF ?sX ?sN ?sS ?sT ?sK ?sP ?sU ⟨by omega, by omega, by omega, by omega⟩ ?_
  walk_at "m tail"
  clear G11
  intro t12 tt12 h12 tk12 G12 F12 N12
  (try dsimp only)
  k_steps
  · exact absurd (hab.2.2.2.2.2.2.2.1) (by assumption)
  refine Hold.off ?_
  refine' use_into G12 hA ?sB ?sF ?sX ?sN ?sS ?sT ?sK ?sP ?sU ⟨by omega, by omega, by omega, by omega⟩ ?_
  walk_at "m tail"
  clear G12
  intro t13 tt13 h13 tk13 G13 F13 N13
  (try dsimp only)
  k_steps
  refine Hold.off ?_
  refine' use_over G13 hA ?sB ?sF ?sX ?sN ?sS ?sT ?sK ?sP ?sU ⟨by omega, by omega, by omega, by omega⟩ ?_
  walk_at "m tail"
  clear G13
  intro t14 tt14 h14 tk14 G14 F14 N14
  (try dsimp only)
  k_steps
  · exact absurd (hab.2.2.2.2.2.2.2.2) (by assumption)
  exact ret _ _ _ _ G14 F14 N14

end Mine
-- part V6
namespace Mine
set_option Elab.async false
set_option maxRecDepth 100000
set_option maxHeartbeats 8000000
local macro_rules | `(tactic| walk_at "call ref") => `(tactic| (refine Hold.on ?_))
local macro_rules | `(tactic| k_all) => `(tactic| first | assumption | (refine' Tail.ne ?ta ?tb; (case ta => assumption); (case tb => (try dsimp only); omega)) | fail "k_all")
local macro_rules | `(tactic| walk_at "m nodup") => `(tactic| repeat' (first | exact nd_nil | exact all_nil | refine nd_cons ?_ ?_ | refine all_cons ?_ ?_ | k_ne))
local macro_rules | `(tactic| walk_at "m apart") => `(tactic| repeat' (first | exact Apart.nil | refine Apart.cons ?_ ?_ | k_all))
local macro_rules | `(tactic| walk_at "m sub") => `(tactic| repeat' (first | exact sub_nil | exact sub_self | (refine' sub_cons ?ta ?_; (case ta => k_mem)) | refine sub_tail ?_ | fail "m sub"))
local macro_rules | `(tactic| walk_at "m lt") => `(tactic| repeat' (first | refine List.forall_mem_cons.mpr ⟨?_, ?_⟩ | (refine' Tail.lt ?ta ?tb; (case ta => assumption); (case tb => (try dsimp only); omega)) | (refine ltA ?_; (try dsimp only); omega) | fail "m lt"))
local macro_rules | `(tactic| walk_at "m enterC") => `(tactic| k_dflt (refine' code_defC ?k1 ?k2 ?k3 ?k4 ?k5 ?kA ?kF ?kK ?k6 ?k7 ?k8 ?k9 ?kB ?kD ?_ ?c2 ?c3 ?c4; (case kA => exact rfl); (case kF => exact rfl); (case kK => assumption); (case k1 => k_asm); (case k2 => k_asm); (case k3 => k_asm); (case k4 => k_asm); (case k5 => k_asm); (case k6 => k_is); (case k7 => k_is); (case k8 => ktr_room); (case k9 => first | exact BindsTo.of_eq rfl | (refine' kp_binds ?kx ?ke; (case kx => k_in); (case ke => exact fun _ => rfl)) | fail "m enter: no rule for these arguments"); (case kB => exact rfl); (case kD => decide +kernel); (case c2 => exact rfl); (case c3 => exact rfl); (case c4 => exact rfl); k_whole))
local macro_rules | `(tactic| walk_at "m enterL") => `(tactic| k_dflt (refine' code_defL ?k1 ?k2 ?k3 ?k4 ?k5 ?kA ?kF ?kK ?k6 ?k7 ?k8 ?k9 ?kB ?_ ?c2 ?c3 ?c4 ?c5; (case kA => exact rfl); (case kF => exact rfl); (case kK => assumption); (case k1 => k_asm); (case k2 => k_asm); (case k3 => k_asm); (case k4 => k_asm); (case k5 => k_asm); (case k6 => k_is); (case k7 => k_is); (case k8 => ktr_room); (case k9 => first | exact BindsTo.of_eq rfl | (refine' kp_binds ?kx ?ke; (case kx => k_in); (case ke => exact fun _ => rfl)) | fail "m enter: no rule for these arguments"); (case c5 => decide); (case kB => exact locs rfl); (case c2 => exact rfl); (case c3 => exact rfl); (case c4 => exact rfl); k_whole))
local macro_rules | `(tactic| walk_at "m enterN") => `(tactic| k_dflt (refine' code_nestL ?k1 ?k2 ?k3 ?k4 ?k5 ?kA ?kF ?kK ?k6 ?k7 ?k8 ?k9 ?kB ?_ ?c2 ?c3 ?c4 ?c5; (case kA => exact rfl); (case kF => exact rfl); (case kK => assumption); (case k1 => k_asm); (case k2 => k_asm); (case k3 => k_asm); (case k4 => k_asm); (case k5 => k_asm); (case k6 => k_mem); (case k7 => exact codeRec_news (by k_asm) (by k_mem) (by assumption) (by assumption)); (case k8 => ktr_room); (case k9 => exact BindsTo.of_eq rfl); (case c5 => decide); (case kB => exact locs rfl); (case c2 => exact rfl); (case c3 => exact rfl); (case c4 => exact rfl); k_whole))
local macro_rules | `(tactic| walk_at "CompSrcT") => `(tactic| (refine Hold.on ?_))
local macro_rules | `(tactic| walk_at "KCiEl") => `(tactic| (refine Hold.on ?_))
local macro_rules | `(tactic| walk_at "KCiNo") => `(tactic| (refine Hold.on ?_))
local macro_rules | `(tactic| walk_at "m mem") => `(tactic| with_reducible (first | exact List.mem_cons_self | (refine' List.mem_cons_of_mem _ ?_; walk_at "m mem") | (refine' mem_rightA ?_; walk_at "m mem") | fail "m mem"))
local macro_rules | `(tactic| k_mem) => `(tactic| walk_at "m mem")
local macro_rules | `(tactic| walk_at "m tail") => `(tactic| (
  (case sB => k_asm); (case sF => k_asm); (case sX => k_asm); (case sN => k_asm); (case sT => k_asm); (case sK => exact rfl); (case sS => walk_at "m sub"); (case sP => first | omega | (dsimp only [Around.deeper, ktrTop]; omega)); (case sU => first | omega | (dsimp only [Around.deeper, ktrTop]; omega))))
local macro_rules | `(tactic| walk_at "compareOp Eq ref ref") => `(tactic| (refine Hold.on ?_))
local macro_rules | `(tactic| walk_at "compareOp NotEq ref ref") => `(tactic| (refine Hold.on ?_))
local macro_rules | `(tactic| walk_at "pyIter ref") => `(tactic| (refine Hold.on ?_))
local macro_rules | `(tactic| walk_at "UnrPost") => `(tactic| (refine Hold.on ?_))
local macro_rules | `(tactic| walk_at "UnrEnd") => `(tactic| (refine Hold.on ?_))
theorem if6 (w : World) 
    {prog p : Program} {loose : List Str} {mean : ExcName → Option Value} {mg mb : Str → Option Value} {dp un : Nat} {gd : Option (List Code)} {fa : Addr} {ccd : Value} {outer : List Env} {A₀ : Around} {base h₀ : Heap} {L : Addr} {u : Str → Option Value} {s : Shared}
    {Q : Flow → Shared → Prop} {E : Value → Shared → Prop} {tt : List (Addr × Obj)} {oO oA oB : Obj} {rest : List Stmt} {vO : Option Value}
    (B : Below A₀ base outer h₀) (F : Fr h₀ L s.heap u) (X : (hd.heap_39 w.params).In h₀) (N0 : News h₀ L s.heap (tt ++ [(L + 1 + 1 + 1, oO), (L + 1 + 1, oB), (L + 1, oA)])) (K : Ok [(L + 1 + 1 + 1, oO), (L + 1 + 1, oB), (L + 1, oA)] tt)
    (T : Top p loose mean mg mb h₀) (hoO : oO.data = .cell vO)
    (ret : ∀ D oO' h' tk', oO'.data = .cell (some (.ref D)) → L + 1 + 1 + 1 < D → Ok [(D, W.listOf ([] : List Value).toArray 0), (L + 1 + 1 + 1, oO'), (L + 1 + 1, oB), (L + 1, oA)] tt → Fr h₀ L h' u → News h₀ L h' (tt ++ [(D, W.listOf ([] : List Value).toArray 0), (L + 1 + 1 + 1, oO'), (L + 1 + 1, oB), (L + 1, oA)]) → wpAny (model prog w) (lawA dp un gd L fa ccd outer) (execs rest (lawEnv L fa ccd)) Q E { s with heap := h', toks := tk' }) :
    wpAny (model prog w) (lawA dp un gd L fa ccd outer) (execs (st6.1 :: rest) (lawEnv L fa ccd)) Q E s := by
  have N : News h₀ L s.heap ((L + 1 + 1 + 1, oO) :: (L + 1 + 1, oB) :: (L + 1, oA) :: tt) := fun p hp => N0 p (swap_mem (l := [(L + 1 + 1 + 1, oO), (L + 1 + 1, oB), (L + 1, oA)]) hp)
  have hne : ∀ p ∈ tt, p.1 ≠ L + 1 + 1 + 1 := K.ne (.head _)
  clear N0
  dsimp only [st6, lawEnv, lawA, lawScope]
  k_steps
  rename_i D h1 lD h2 o' F' N' d'
  refine ret D o' _ _ d' lD.1 ((K.sub' (by simp)).cons (allLt_ne lD.2.2.2)) F' fun p hp => N' p (swap_mem (r := [(D, W.listOf ([] : List Value).toArray 0), (L + 1 + 1 + 1, o'), (L + 1 + 1, oB), (L + 1, oA)]) hp)
theorem if7 (w : World) (a : Int) (ta : Tok) (ha : 1 ≤ a ∧ a ≤ 30)
    {prog p : Program} {loose : List Str} {mean : ExcName → Option Value} {mg mb : Str → Option Value} {dp un : Nat} {gd : Option (List Code)} {fa : Addr} {ccd : Value} {outer : List Env} {A₀ : Around} {base h₀ : Heap} {L D : Addr} {u : Str → Option Value} {s : Shared}
    {Q : Flow → Shared → Prop} {E : Value → Shared → Prop} {tt : List (Addr × Obj)} {oO oA oB : Obj} (hE : PassesOwn (model prog w) (lawA dp un gd L fa ccd outer) (lawEnv L fa ccd) E)
    (B : Below A₀ base outer h₀) (F : Fr h₀ L s.heap u) (X : (hd.heap_39 w.params).In h₀) (N : News h₀ L s.heap (tt ++ [(D, W.listOf ([] : List Value).toArray 0), (L + 1 + 1 + 1, oO), (L + 1 + 1, oB), (L + 1, oA)])) (K : Ok [(D, W.listOf ([] : List Value).toArray 0), (L + 1 + 1 + 1, oO), (L + 1 + 1, oB), (L + 1, oA)] tt)
    (T : Top p loose mean mg mb h₀) (hd1 : dp + 200 < recursionLimit) (hu : un + 1600 < cLine) (hoA : oA.data = .cell (some (.int a ta))) (hoO : oO.data = .cell (some (.ref D))) (hLD : L + 1 + 1 + 1 < D)
    (ret : ∀ tt' vs z h' tk' m', IntsAre vs (dvs a a.toNat) → Ok [(D, W.listOf vs.toArray z), (L + 1 + 1 + 1, oO), (L + 1 + 1, oB), (L + 1, oA)] tt' → Fr h₀ L h' m' → News h₀ L h' (tt' ++ [(D, W.listOf vs.toArray z), (L + 1 + 1 + 1, oO), (L + 1 + 1, oB), (L + 1, oA)]) → Q .next { s with heap := h', toks := tk' }) :
    wpAny (model prog w) (lawA dp un gd L fa ccd outer) (exec st7.1 (lawEnv L fa ccd)) Q E s := by
  dsimp only [st7, lawEnv, lawA, lawScope] at hE ⊢
  (with_unfolding_all refine' For_invVF F ?k1 ?k2 ?_)
  (case k1 => exact rfl)
  (case k2 => exact rfl)
  k_steps
  refine Hold.off ?_
  rename_i h1 tk1 t1 u1 v1 hr F1 N1 hk1
  have lI : ∀ (I : Addr), (∀ p ∈ tt ++ [(D, W.listOf ([] : List Value).toArray 0), (L + 1 + 1 + 1, oO), (L + 1 + 1, oB), (L + 1, oA)], p.1 < I) → D < I ∧ ∀ q ∈ tt, q.1 ≠ I := fun I h => ⟨h (D, W.listOf ([] : List Value).toArray 0) (List.mem_append_right _ (.head _)), fun q hq => Nat.ne_of_lt (h q (List.mem_append_left _ hq))⟩
  refine down_inv (n := a.toNat) (by rfl) hr (small_down (by omega) (by omega) (by decide) (by decide)) (by rw [rangeSize_downNat]; simp) F1 N1
    (fun I i m nl => ∃ tt vs z, nl = tt ++ [(D, W.listOf vs.toArray z), (L + 1 + 1 + 1, oO), (L + 1 + 1, oB), (L + 1, oA)] ∧ Ok [(D, W.listOf vs.toArray z), (L + 1 + 1 + 1, oO), (L + 1 + 1, oB), (L + 1, oA)] tt ∧ IntsAre vs (dvs a i) ∧ D < I ∧ ∀ q ∈ tt, q.1 ≠ I)
    (fun I h => ⟨tt, [], 0, rfl, K, .nil, lI I h⟩) ?turn ?done
  case done =>
    rintro I m nl h5 tk5 ⟨tt5, vs, z, rfl, K5, hv, -, -⟩ F5 N5
    exact ret _ _ _ _ _ _ hv K5 F5 N5
  case turn =>
    rintro I i t it hi m nl h5 tk5 ⟨tt5, vs, z, rfl, K5, hv, hDI, hI⟩ F5 N5
    clear N1 F1 K ret hr hk1 lI
    replace N5 : News h₀ L h5 (tt5 ++ [(I, it), (D, W.listOf vs.toArray z), (L + 1 + 1 + 1, oO), (L + 1 + 1, oB), (L + 1, oA)]) := fun p hp => N5 p (mid_mem hp)
    have G1 : Ok [(I, it), (D, W.listOf vs.toArray z), (L + 1 + 1 + 1, oO), (L + 1 + 1, oB), (L + 1, oA)] tt5 := K5.cons hI
    have hlen := dvs_len a i
    replace hDI := ltN hDI
    replace hLD := ltN hLD
    clear K5
    k_steps
    refine Hold.off ?_
    refine' ok_idm G1 ?sB ?sF ?sX ?sN ?sS ?sT ?sK ?sP ?sU ⟨by omega, by omega, by omega, by omega⟩ ?_
    walk_at "m tail"
    clear G1 N5
    intro r6 u6 w6 tt6 h6 tk6 G6 F6 N6
    (try dsimp only)
    k_steps
    · rename_i hz
      refine Hold.off ?_
      have hnD := G6.ne (.tail _ (.head _))
      refine' ok_ins (z := z) hv (upTo_of (dvs_sorted a i)) (by omega) (tt6 ++ [(I, it), (L + 1 + 1 + 1, oO), (L + 1 + 1, oB), (L + 1, oA)]) ?hD ?sB ?sF ?sX ?sN ?sS ?sT ?sK ?sP ?sU ?_
      case hD =>
        intro p hp
        rcases List.mem_append.mp hp with hp | hp
        · exact hnD p hp
        · simp only [List.mem_cons, List.not_mem_nil, or_false] at hp
          rcases hp with rfl | rfl | rfl | rfl <;> k_ne
      (case sB => k_asm); (case sF => k_asm); (case sX => k_asm); (case sN => k_asm); (case sT => k_asm); (case sK => exact rfl); (case sP => first | omega | (dsimp only [Around.deeper, ktrTop]; omega)); (case sU => first | omega | (dsimp only [Around.deeper, ktrTop]; omega))
      case sS =>
        intro q hq
        refine List.mem_cons_of_mem _ ?_
        rcases List.mem_cons.mp hq with rfl | hq
        · exact List.mem_append_right _ (.tail _ (.head _))
        · rcases List.mem_append.mp hq with hq | hq
          · exact List.mem_append_left _ hq
          · refine List.mem_append_right _ ?_
            rcases List.mem_cons.mp hq with rfl | hq
            · exact .head _
            · exact .tail _ (.tail _ hq)
      intro q vs' z' h7 tk7 hq hv' F7 N7
      (try dsimp only)
      k_steps
      refine Hold.off ?_
      have q0 := bis_zero hq (dvs_gt a i)
      subst q0
      refine ⟨h7, _, _, tt6 ++ [(D, W.listOf vs'.toArray z'), (L + 1 + 1 + 1, oO), (L + 1 + 1, oB), (L + 1, oA)], rfl, F7, fun p hp => N7 p ?_, ?_, tt6, vs', z', rfl, G6.sub' (by simp), ?_, hDI, G6.ne (.head _)⟩
      · rcases List.mem_cons.mp hp with rfl | hp
        · exact .tail _ (List.mem_append_right _ (.head _))
        · rcases List.mem_append.mp hp with hp | hp
          · exact .tail _ (List.mem_append_left _ hp)
          · rcases List.mem_cons.mp hp with rfl | hp
            · exact .head _
            · exact .tail _ (List.mem_append_right _ (.tail _ hp))
      · intro p hp
        rcases List.mem_append.mp hp with hp | hp
        · exact G6.ne (.head _) p hp
        · simp only [List.mem_cons, List.not_mem_nil, or_false] at hp
          rcases hp with rfl | rfl | rfl | rfl <;> k_ne
      · unfold dvs
        rw [if_pos hz]
        exact hv'
    · rename_i hz
      refine Hold.off ?_
      refine ⟨h6, _, _, tt6 ++ [(D, W.listOf vs.toArray z), (L + 1 + 1 + 1, oO), (L + 1 + 1, oB), (L + 1, oA)], rfl, F6, fun p hp => N6 p (.tail _ (mid_mem' hp)), ?_, tt6, vs, z, rfl, G6.sub' (by simp), ?_, hDI, G6.ne (.head _)⟩
      · intro p hp
        rcases List.mem_append.mp hp with hp | hp
        · exact G6.ne (.head _) p hp
        · simp only [List.mem_cons, List.not_mem_nil, or_false] at hp
          rcases hp with rfl | rfl | rfl | rfl <;> k_ne
      · unfold dvs
        rw [if_neg hz]
        exact hv

end Mine
-- part V8
namespace Mine
set_option Elab.async false
set_option maxRecDepth 100000
set_option maxHeartbeats 8000000
local macro_rules | `(tactic| walk_at "call ref") => `(tactic| (refine Hold.on ?_))
local macro_rules | `(tactic| k_all) => `(tactic| first | assumption | (refine' Tail.ne ?ta ?tb; (case ta => assumption); (case tb => (try dsimp only); omega)) | fail "k_all")
local macro_rules | `(tactic| walk_at "m nodup") => `(tactic| repeat' (first | exact nd_nil | exact all_nil | refine nd_cons ?_ ?_ | refine all_cons ?_ ?_ | k_ne))
local macro_rules | `(tactic| walk_at "m apart") => `(tactic| repeat' (first | exact Apart.nil | refine Apart.cons ?_ ?_ | k_all))
local macro_rules | `(tactic| walk_at "m sub") => `(tactic| repeat' (first | exact sub_nil | exact sub_self | (refine' sub_cons ?ta ?_; (case ta => k_mem)) | refine sub_tail ?_ | fail "m sub"))
local macro_rules | `(tactic| walk_at "m lt") => `(tactic| repeat' (first | refine List.forall_mem_cons.mpr ⟨?_, ?_⟩ | (refine' Tail.lt ?ta ?tb; (case ta => assumption); (case tb => (try dsimp only); omega)) | (refine ltA ?_; (try dsimp only); omega) | fail "m lt"))
local macro_rules | `(tactic| walk_at "m enterC") => `(tactic| k_dflt (refine' code_defC ?k1 ?k2 ?k3 ?k4 ?k5 ?kA ?kF ?kK ?k6 ?k7 ?k8 ?k9 ?kB ?kD ?_ ?c2 ?c3 ?c4; (case kA => exact rfl); (case kF => exact rfl); (case kK => assumption); (case k1 => k_asm); (case k2 => k_asm); (case k3 => k_asm); (case k4 => k_asm); (case k5 => k_asm); (case k6 => k_is); (case k7 => k_is); (case k8 => ktr_room); (case k9 => first | exact BindsTo.of_eq rfl | (refine' kp_binds ?kx ?ke; (case kx => k_in); (case ke => exact fun _ => rfl)) | fail "m enter: no rule for these arguments"); (case kB => exact rfl); (case kD => decide +kernel); (case c2 => exact rfl); (case c3 => exact rfl); (case c4 => exact rfl); k_whole))
local macro_rules | `(tactic| walk_at "m enterL") => `(tactic| k_dflt (refine' code_defL ?k1 ?k2 ?k3 ?k4 ?k5 ?kA ?kF ?kK ?k6 ?k7 ?k8 ?k9 ?kB ?_ ?c2 ?c3 ?c4 ?c5; (case kA => exact rfl); (case kF => exact rfl); (case kK => assumption); (case k1 => k_asm); (case k2 => k_asm); (case k3 => k_asm); (case k4 => k_asm); (case k5 => k_asm); (case k6 => k_is); (case k7 => k_is); (case k8 => ktr_room); (case k9 => first | exact BindsTo.of_eq rfl | (refine' kp_binds ?kx ?ke; (case kx => k_in); (case ke => exact fun _ => rfl)) | fail "m enter: no rule for these arguments"); (case c5 => decide); (case kB => exact locs rfl); (case c2 => exact rfl); (case c3 => exact rfl); (case c4 => exact rfl); k_whole))
local macro_rules | `(tactic| walk_at "m enterN") => `(tactic| k_dflt (refine' code_nestL ?k1 ?k2 ?k3 ?k4 ?k5 ?kA ?kF ?kK ?k6 ?k7 ?k8 ?k9 ?kB ?_ ?c2 ?c3 ?c4 ?c5; (case kA => exact rfl); (case kF => exact rfl); (case kK => assumption); (case k1 => k_asm); (case k2 => k_asm); (case k3 => k_asm); (case k4 => k_asm); (case k5 => k_asm); (case k6 => k_mem); (case k7 => exact codeRec_news (by k_asm) (by k_mem) (by assumption) (by assumption)); (case k8 => ktr_room); (case k9 => exact BindsTo.of_eq rfl); (case c5 => decide); (case kB => exact locs rfl); (case c2 => exact rfl); (case c3 => exact rfl); (case c4 => exact rfl); k_whole))
local macro_rules | `(tactic| walk_at "CompSrcT") => `(tactic| (refine Hold.on ?_))
local macro_rules | `(tactic| walk_at "KCiEl") => `(tactic| (refine Hold.on ?_))
local macro_rules | `(tactic| walk_at "KCiNo") => `(tactic| (refine Hold.on ?_))
local macro_rules | `(tactic| walk_at "m mem") => `(tactic| with_reducible (first | exact List.mem_cons_self | (refine' List.mem_cons_of_mem _ ?_; walk_at "m mem") | (refine' mem_rightA ?_; walk_at "m mem") | fail "m mem"))
local macro_rules | `(tactic| k_mem) => `(tactic| walk_at "m mem")
local macro_rules | `(tactic| walk_at "m tail") => `(tactic| (
  (case sB => k_asm); (case sF => k_asm); (case sX => k_asm); (case sN => k_asm); (case sT => k_asm); (case sK => exact rfl); (case sS => walk_at "m sub"); (case sP => first | omega | (dsimp only [Around.deeper, ktrTop]; omega)); (case sU => first | omega | (dsimp only [Around.deeper, ktrTop]; omega))))
local macro_rules | `(tactic| walk_at "compareOp Eq ref ref") => `(tactic| (refine Hold.on ?_))
local macro_rules | `(tactic| walk_at "compareOp NotEq ref ref") => `(tactic| (refine Hold.on ?_))

theorem if8 (w : World) (a : Int) (ta : Tok) (ha : 1 ≤ a ∧ a ≤ 30)
    {prog p : Program} {loose : List Str} {mean : ExcName → Option Value} {mg mb : Str → Option Value} {dp un : Nat} {gd : Option (List Code)} {fa : Addr} {ccd : Value} {outer : List Env} {A₀ : Around} {base h₀ : Heap} {L D : Addr} {u : Str → Option Value} {s : Shared}
    {Q : Flow → Shared → Prop} {E : Value → Shared → Prop} {tt : List (Addr × Obj)} {oO oA oB : Obj} {vs : List Value} {z : Nat} (hvs : IntsAre vs (dvs a a.toNat))
    (B : Below A₀ base outer h₀) (F : Fr h₀ L s.heap u) (X : (hd.heap_39 w.params).In h₀) (N : News h₀ L s.heap (tt ++ [(D, W.listOf vs.toArray z), (L + 1 + 1 + 1, oO), (L + 1 + 1, oB), (L + 1, oA)])) (K : Ok [(D, W.listOf vs.toArray z), (L + 1 + 1 + 1, oO), (L + 1 + 1, oB), (L + 1, oA)] tt)
    (T : Top p loose mean mg mb h₀) (hd1 : dp + 200 < recursionLimit) (hu : un + 1600 < cLine) (hoA : oA.data = .cell (some (.int a ta))) (hoO : oO.data = .cell (some (.ref D))) (hLD : L + 1 + 1 + 1 < D)
    (ret : ∀ h' tk' m', Fr h₀ L h' m' → News h₀ L h' (tt ++ [(D, W.listOf vs.toArray z), (L + 1 + 1 + 1, oO), (L + 1 + 1, oB), (L + 1, oA)]) → Q .next { s with heap := h', toks := tk' }) :
    wpAny (model prog w) (lawA dp un gd L fa ccd outer) (exec st8.1 (lawEnv L fa ccd)) Q E s := by
  dsimp only [st8, lawEnv, lawA, lawScope]
  have hlen := dvs_len a a.toNat
  have hlen2 := hvs.length
  k_steps
  refine' kso_sorted (vs := vs) (ns := dvs a a.toNat) ?k1 ?k2 ?k3 ?k4 ?k5 ?_
  (case k1 => k_asm)
  (case k2 => k_asm)
  (case k3 => exact ⟨_, (N _ (List.mem_append_right _ (.head _))).1, rfl, z, rfl⟩)
  (case k4 => exact hvs)
  (case k5 => omega)
  intro D2 vs2 ns2 c2 h2 F2 N2 l2 hv2 hl2 hp2 ho2 _
  obtain rfl : ns2 = dvs a a.toNat := hp2.eq_of_pairwise (fun x y _ _ h1 h2 => Int.le_antisymm h1 h2) ho2 (dvs_sorted a a.toNat)
  clear hl2 hp2 ho2
  k_steps
  refine Hold.off ?_
  refine' ke_ne_ints (xs := vs) (ys := vs2) (ns := dvs a a.toNat) (ms := dvs a a.toNat) ?e1 ?e2 hvs hv2 ?e3 ?_
  (case e1 => exact ⟨_, (N2 _ (.tail _ (List.mem_append_right _ (.head _)))).1, rfl, z, rfl⟩)
  (case e2 => exact ⟨_, (N2 _ (.head _)).1, rfl, c2, rfl⟩)
  (case e3 => first | omega | (dsimp only [Around.deeper, ktrTop]; omega))
  rw [decide_eq_true rfl, Bool.not_true]
  (try dsimp only)
  k_steps
  refine Hold.off ?_
  rename_i D3 vs3 h3 hv3 hc3 hl3 l3 D4 h4 F4 N4 l4
  rw [dvs_last a ha] at hv3
  refine' ke_ne_ints (xs := vs3) (ys := [Value.int a ta]) (ns := [a]) (ms := [a]) ?e1 ?e2 hv3 (.cons a ta .nil) ?e3 ?_
  (case e1 => exact ⟨_, (N4 _ (.tail _ (.head _))).1, rfl, 0, rfl⟩)
  (case e2 => exact ⟨_, (N4 _ (.head _)).1, rfl, 0, rfl⟩)
  (case e3 => first | omega | (dsimp only [Around.deeper, ktrTop]; omega))
  rw [decide_eq_true rfl, Bool.not_true]
  (try dsimp only)
  k_steps
  exact ret _ _ _ F4 fun p hp => N4 p (.tail _ (.tail _ (.tail _ hp)))

end Mine
-- part V9
namespace Mine
set_option Elab.async false
set_option maxRecDepth 100000
set_option maxHeartbeats 8000000
local macro_rules | `(tactic| walk_at "call ref") => `(tactic| (refine Hold.on ?_))
local macro_rules | `(tactic| k_all) => `(tactic| first | assumption | (refine' Tail.ne ?ta ?tb; (case ta => assumption); (case tb => (try dsimp only); omega)) | fail "k_all")
local macro_rules | `(tactic| walk_at "m nodup") => `(tactic| repeat' (first | exact nd_nil | exact all_nil | refine nd_cons ?_ ?_ | refine all_cons ?_ ?_ | k_ne))
local macro_rules | `(tactic| walk_at "m apart") => `(tactic| repeat' (first | exact Apart.nil | refine Apart.cons ?_ ?_ | k_all))
local macro_rules | `(tactic| walk_at "m sub") => `(tactic| repeat' (first | exact sub_nil | exact sub_self | (refine' sub_cons ?ta ?_; (case ta => k_mem)) | refine sub_tail ?_ | fail "m sub"))
local macro_rules | `(tactic| walk_at "m lt") => `(tactic| repeat' (first | refine List.forall_mem_cons.mpr ⟨?_, ?_⟩ | (refine' Tail.lt ?ta ?tb; (case ta => assumption); (case tb => (try dsimp only); omega)) | (refine ltA ?_; (try dsimp only); omega) | fail "m lt"))
local macro_rules | `(tactic| walk_at "m enterC") => `(tactic| k_dflt (refine' code_defC ?k1 ?k2 ?k3 ?k4 ?k5 ?kA ?kF ?kK ?k6 ?k7 ?k8 ?k9 ?kB ?kD ?_ ?c2 ?c3 ?c4; (case kA => exact rfl); (case kF => exact rfl); (case kK => assumption); (case k1 => k_asm); (case k2 => k_asm); (case k3 => k_asm); (case k4 => k_asm); (case k5 => k_asm); (case k6 => k_is); (case k7 => k_is); (case k8 => ktr_room); (case k9 => first | exact BindsTo.of_eq rfl | (refine' kp_binds ?kx ?ke; (case kx => k_in); (case ke => exact fun _ => rfl)) | fail "m enter: no rule for these arguments"); (case kB => exact rfl); (case kD => decide +kernel); (case c2 => exact rfl); (case c3 => exact rfl); (case c4 => exact rfl); k_whole))
local macro_rules | `(tactic| walk_at "m enterL") => `(tactic| k_dflt (refine' code_defL ?k1 ?k2 ?k3 ?k4 ?k5 ?kA ?kF ?kK ?k6 ?k7 ?k8 ?k9 ?kB ?_ ?c2 ?c3 ?c4 ?c5; (case kA => exact rfl); (case kF => exact rfl); (case kK => assumption); (case k1 => k_asm); (case k2 => k_asm); (case k3 => k_asm); (case k4 => k_asm); (case k5 => k_asm); (case k6 => k_is); (case k7 => k_is); (case k8 => ktr_room); (case k9 => first | exact BindsTo.of_eq rfl | (refine' kp_binds ?kx ?ke; (case kx => k_in); (case ke => exact fun _ => rfl)) | fail "m enter: no rule for these arguments"); (case c5 => decide); (case kB => exact locs rfl); (case c2 => exact rfl); (case c3 => exact rfl); (case c4 => exact rfl); k_whole))
local macro_rules | `(tactic| walk_at "m enterN") => `(tactic| k_dflt (refine' code_nestL ?k1 ?k2 ?k3 ?k4 ?k5 ?kA ?kF ?kK ?k6 ?k7 ?k8 ?k9 ?kB ?_ ?c2 ?c3 ?c4 ?c5; (case kA => exact rfl); (case kF => exact rfl); (case kK => assumption); (case k1 => k_asm); (case k2 => k_asm); (case k3 => k_asm); (case k4 => k_asm); (case k5 => k_asm); (case k6 => k_mem); (case k7 => exact codeRec_news (by k_asm) (by k_mem) (by assumption) (by assumption)); (case k8 => ktr_room); (case k9 => exact BindsTo.of_eq rfl); (case c5 => decide); (case kB => exact locs rfl); (case c2 => exact rfl); (case c3 => exact rfl); (case c4 => exact rfl); k_whole))
local macro_rules | `(tactic| walk_at "CompSrcT") => `(tactic| (refine Hold.on ?_))
local macro_rules | `(tactic| walk_at "KCiEl") => `(tactic| (refine Hold.on ?_))
local macro_rules | `(tactic| walk_at "KCiNo") => `(tactic| (refine Hold.on ?_))
local macro_rules | `(tactic| walk_at "m mem") => `(tactic| with_reducible (first | exact List.mem_cons_self | (refine' List.mem_cons_of_mem _ ?_; walk_at "m mem") | (refine' mem_rightA ?_; walk_at "m mem") | fail "m mem"))
local macro_rules | `(tactic| k_mem) => `(tactic| walk_at "m mem")
local macro_rules | `(tactic| walk_at "m tail") => `(tactic| (
  (case sB => k_asm); (case sF => k_asm); (case sX => k_asm); (case sN => k_asm); (case sT => k_asm); (case sK => exact rfl); (case sS => walk_at "m sub"); (case sP => first | omega | (dsimp only [Around.deeper, ktrTop]; omega)); (case sU => first | omega | (dsimp only [Around.deeper, ktrTop]; omega))))
local macro_rules | `(tactic| walk_at "compareOp Eq ref ref") => `(tactic| (refine Hold.on ?_))
local macro_rules | `(tactic| walk_at "compareOp NotEq ref ref") => `(tactic| (refine Hold.on ?_))
local macro_rules | `(tactic| walk_at "pyIter ref") => `(tactic| (refine Hold.on ?_))
local macro_rules | `(tactic| walk_at "UnrPost") => `(tactic| (refine Hold.on ?_))
local macro_rules | `(tactic| walk_at "UnrEnd") => `(tactic| (refine Hold.on ?_))
theorem if9 (w : World) (a : Int) (ta : Tok) (ha : 1 ≤ a ∧ a ≤ 30)
    {prog p : Program} {loose : List Str} {mean : ExcName → Option Value} {mg mb : Str → Option Value} {dp un : Nat} {gd : Option (List Code)} {fa : Addr} {ccd : Value} {outer : List Env} {A₀ : Around} {base h₀ : Heap} {L D : Addr} {u : Str → Option Value} {s : Shared}
    {Q : Flow → Shared → Prop} {E : Value → Shared → Prop} {tt : List (Addr × Obj)} {oO oA oB : Obj} {vs : List Value} {z : Nat} (hvs : IntsAre vs (dvs a a.toNat))
    (hE : PassesOwn (model prog w) (lawA dp un gd L fa ccd outer) (lawEnv L fa ccd) E)
    (B : Below A₀ base outer h₀) (F : Fr h₀ L s.heap u) (X : (hd.heap_39 w.params).In h₀) (N : News h₀ L s.heap (tt ++ [(D, W.listOf vs.toArray z), (L + 1 + 1 + 1, oO), (L + 1 + 1, oB), (L + 1, oA)])) (K : Ok [(D, W.listOf vs.toArray z), (L + 1 + 1 + 1, oO), (L + 1 + 1, oB), (L + 1, oA)] tt)
    (T : Top p loose mean mg mb h₀) (hd1 : dp + 200 < recursionLimit) (hu : un + 1600 < cLine) (hoA : oA.data = .cell (some (.int a ta))) (hoO : oO.data = .cell (some (.ref D))) (hLD : L + 1 + 1 + 1 < D)
    (ret : ∀ tt' h' tk' m', Ok [(D, W.listOf vs.toArray z), (L + 1 + 1 + 1, oO), (L + 1 + 1, oB), (L + 1, oA)] tt' → Fr h₀ L h' m' → News h₀ L h' (tt' ++ [(D, W.listOf vs.toArray z), (L + 1 + 1 + 1, oO), (L + 1 + 1, oB), (L + 1, oA)]) → Q .next { s with heap := h', toks := tk' }) :
    wpAny (model prog w) (lawA dp un gd L fa ccd outer) (exec st9.1 (lawEnv L fa ccd)) Q E s := by
  dsimp only [st9, lawEnv, lawA, lawScope] at hE ⊢
  have hdd := dd30 a ha
  have hlen := dvs_len a a.toNat
  replace hLD := ltN hLD
  (with_unfolding_all refine' For_invVF F ?k1 ?k2 ?_)
  (case k1 => exact rfl)
  (case k2 => exact rfl)
  k_steps
  refine Hold.off ?_
  refine list_inv (vs := vs) (ax := D) (by rfl) (by k_asm) (by k_asm) (List.mem_append_right _ (.head _)) rfl rfl
    (fun I i m nl => ∃ tt, nl = tt ++ [(D, W.listOf vs.toArray z), (L + 1 + 1 + 1, oO), (L + 1 + 1, oB), (L + 1, oA)] ∧ Ok [(D, W.listOf vs.toArray z), (L + 1 + 1 + 1, oO), (L + 1 + 1, oB), (L + 1, oA)] tt ∧ D < I ∧ ∀ q ∈ tt, q.1 ≠ I)
    (fun I h => ⟨tt, rfl, K, h (D, W.listOf vs.toArray z) (List.mem_append_right _ (.head _)), fun q hq => Nat.ne_of_lt (h q (List.mem_append_left _ hq))⟩) ?keep ?turn ?done
  case keep =>
    rintro I i m nl ⟨tt, rfl, -⟩
    exact List.mem_append_right _ (.head _)
  case done =>
    rintro I m nl h5 tk5 ⟨tt5, rfl, K5, -, -⟩ F5 N5
    exact ret _ _ _ _ K5 F5 N5
  case turn =>
    rintro I i v it hit hv m nl h5 tk5 ⟨tt5, rfl, K5, hDI, hI⟩ F5 N5
    obtain ⟨x, tx, rfl, hx⟩ := hvs.at i v hv
    have hxm := List.mem_of_getElem? hx
    obtain ⟨hx1, hx2, hx3, hx4, hx5, hxy⟩ := hdd x hxm
    replace hDI := ltN hDI
    clear N F K ret
    replace N5 : News h₀ L h5 (tt5 ++ [(I, it), (D, W.listOf vs.toArray z), (L + 1 + 1 + 1, oO), (L + 1 + 1, oB), (L + 1, oA)]) := fun p hp => N5 p (mid_mem hp)
    have G1 : Ok [(I, it), (D, W.listOf vs.toArray z), (L + 1 + 1 + 1, oO), (L + 1 + 1, oB), (L + 1, oA)] tt5 := K5.cons hI
    clear K5
    k_steps
    refine Hold.off ?_
    refine' ok_idm G1 ?sB ?sF ?sX ?sN ?sS ?sT ?sK ?sP ?sU ⟨by omega, by omega, by omega, by omega⟩ ?_
    walk_at "m tail"
    clear G1 N5
    intro r6 u6 w6 tt6 h6 tk6 G6 F6 N6
    (try dsimp only)
    k_steps
    refine Hold.off ?_
    have hnD := G6.ne (.tail _ (.head _))
    refine' ok_has (z := z) hvs (upTo_of (dvs_sorted a a.toNat)) (by omega) (tt6 ++ [(I, it), (L + 1 + 1 + 1, oO), (L + 1 + 1, oB), (L + 1, oA)]) ?hD ?sB ?sF ?sX ?sN ?sS ?sT ?sK ?sP ?sU ?_
    case hD => exact neD hnD (by k_all)
    (case sB => k_asm); (case sF => k_asm); (case sX => k_asm); (case sN => k_asm); (case sT => k_asm); (case sK => exact rfl); (case sP => first | omega | (dsimp only [Around.deeper, ktrTop]; omega)); (case sU => first | omega | (dsimp only [Around.deeper, ktrTop]; omega))
    case sS => exact fun q hq => .tail _ (pull_mem (r' := [(I, it), (D, W.listOf vs.toArray z), (L + 1 + 1 + 1, oO), (L + 1 + 1, oB), (L + 1, oA)]) (by simp) (by simp +contextual) hq)
    intro h7 tk7 F7 N7
    replace N7 : News h₀ L h7 (tt6 ++ [(I, it), (D, W.listOf vs.toArray z), (L + 1 + 1 + 1, oO), (L + 1 + 1, oB), (L + 1, oA)]) := fun p hp => N7 p (push_mem (x := (D, W.listOf vs.toArray z)) (r := [(I, it), (L + 1 + 1 + 1, oO), (L + 1 + 1, oB), (L + 1, oA)]) (by simp +contextual) hp)
    clear N6
    rw [decide_eq_true hx5]
    (try dsimp only)
    k_steps
    refine Hold.off ?_
    refine list_inv (vs := vs) (ax := D) (by rfl) (by k_asm) (by k_asm) (List.mem_append_right _ (.tail _ (.head _))) rfl rfl
      (fun J j m nl => ∃ tt, nl = tt ++ [(I, it), (D, W.listOf vs.toArray z), (L + 1 + 1 + 1, oO), (L + 1 + 1, oB), (L + 1, oA)] ∧ Ok [(I, it), (D, W.listOf vs.toArray z), (L + 1 + 1 + 1, oO), (L + 1 + 1, oB), (L + 1, oA)] tt ∧ I < J ∧ (∀ q ∈ tt, q.1 ≠ J) ∧ m (Str.ofString "one") = some (.int x tx))
      ?start ?keep ?turn ?done
    case start => exact fun J h => ⟨tt6, rfl, G6, h (I, it) (List.mem_append_right _ (.head _)), fun q hq => Nat.ne_of_lt (h q (List.mem_append_left _ hq)), rfl⟩
    case keep =>
      rintro J j m nl ⟨tt, rfl, -⟩
      exact List.mem_append_right _ (.tail _ (.head _))
    case done =>
      rintro J m nl h8 tk8 ⟨tt8, rfl, K8, -, -, -⟩ F8 N8
      clear G6
      k_steps
      refine Hold.off ?_
      refine ⟨h8, _, _, tt8 ++ [(D, W.listOf vs.toArray z), (L + 1 + 1 + 1, oO), (L + 1 + 1, oB), (L + 1, oA)], rfl, by k_asm, fun p hp => N8 p (mid_mem' hp), neD (K8.ne (.head _)) (by k_all), tt8, rfl, K8.sub' (by simp), hDI, K8.ne (.head _)⟩
    case turn =>
      rintro J j v2 it2 hit2 hv2 m2 nl h8 tk8 ⟨tt8, rfl, K8, hIJ, hJ, hone⟩ F8 N8
      (rename IntsAre vs _ => hvs)
      obtain ⟨y, ty, rfl, hy⟩ := hvs.at j v2 hv2
      have hym := List.mem_of_getElem? hy
      obtain ⟨hy1, hy2, hy3, hy4, hy5, -⟩ := hdd y hym
      obtain ⟨hd1', hd2', hd3', hd4', hd5'⟩ := hxy y hym
      replace hIJ := ltN hIJ
      clear G6
      have hfx : a.fdiv x = a / x := Int.fdiv_eq_ediv_of_nonneg _ (by omega)
      have hfy : a.fdiv y = a / y := Int.fdiv_eq_ediv_of_nonneg _ (by omega)
      have hfz : a.fdiv (zlcm x y) = a / zlcm x y := Int.fdiv_eq_ediv_of_nonneg _ (by omega)
      rw [two_map hone] at F8
      replace N8 : News h₀ L h8 (tt8 ++ [(J, it2), (I, it), (D, W.listOf vs.toArray z), (L + 1 + 1 + 1, oO), (L + 1 + 1, oB), (L + 1, oA)]) := fun p hp => N8 p (mid_mem hp)
      have G8 : Ok [(J, it2), (I, it), (D, W.listOf vs.toArray z), (L + 1 + 1 + 1, oO), (L + 1 + 1, oB), (L + 1, oA)] tt8 := K8.cons hJ
      clear K8
      k_steps
      refine Hold.off ?_
      refine' ok_into G8 ?sB ?sF ?sX ?sN ?sS ?sT ?sK ?sP ?sU ⟨by omega, by omega, by omega, by omega⟩ ?_
      walk_at "m tail"
      clear G8
      intro t9 tt9 h9 tk9 G9 F9 N9
      (try dsimp only)
      k_steps
      refine Hold.off ?_
      refine' ok_over G9 ?sB ?sF ?sX ?sN ?sS ?sT ?sK ?sP ?sU ⟨by omega, by omega, by omega, by omega⟩ ?_
      walk_at "m tail"
      clear G9
      intro t10 tt10 h10 tk10 G10 F10 N10
      (try dsimp only)
      k_steps
      refine Hold.off ?_
      have hnD11 := G10.ne (.tail _ (.tail _ (.head _)))
      refine' ok_has (z := z) hvs (upTo_of (dvs_sorted a a.toNat)) (by omega) (tt10 ++ [(J, it2), (I, it), (L + 1 + 1 + 1, oO), (L + 1 + 1, oB), (L + 1, oA)]) ?hD ?sB ?sF ?sX ?sN ?sS ?sT ?sK ?sP ?sU ?_
      case hD => exact neD hnD11 (by k_all)
      (case sB => k_asm); (case sF => k_asm); (case sX => k_asm); (case sN => k_asm); (case sT => k_asm); (case sK => exact rfl); (case sP => first | omega | (dsimp only [Around.deeper, ktrTop]; omega)); (case sU => first | omega | (dsimp only [Around.deeper, ktrTop]; omega))
      case sS => exact fun q hq => .tail _ (pull_mem (r' := [(J, it2), (I, it), (D, W.listOf vs.toArray z), (L + 1 + 1 + 1, oO), (L + 1 + 1, oB), (L + 1, oA)]) (by simp) (by simp +contextual) hq)
      intro h11 tk11 F11 N11
      replace N11 : News h₀ L h11 (tt10 ++ [(J, it2), (I, it), (D, W.listOf vs.toArray z), (L + 1 + 1 + 1, oO), (L + 1 + 1, oB), (L + 1, oA)]) := fun p hp => N11 p (push_mem (x := (D, W.listOf vs.toArray z)) (r := [(J, it2), (I, it), (L + 1 + 1 + 1, oO), (L + 1 + 1, oB), (L + 1, oA)]) (by simp +contextual) hp)
      rw [decide_eq_true hd1']
      (try dsimp only)
      k_steps
      refine Hold.off ?_
      have hnD12 := G10.ne (.tail _ (.tail _ (.head _)))
      refine' ok_has (z := z) hvs (upTo_of (dvs_sorted a a.toNat)) (by omega) (tt10 ++ [(J, it2), (I, it), (L + 1 + 1 + 1, oO), (L + 1 + 1, oB), (L + 1, oA)]) ?hD ?sB ?sF ?sX ?sN ?sS ?sT ?sK ?sP ?sU ?_
      case hD => exact neD hnD12 (by k_all)
      (case sB => k_asm); (case sF => k_asm); (case sX => k_asm); (case sN => k_asm); (case sT => k_asm); (case sK => exact rfl); (case sP => first | omega | (dsimp only [Around.deeper, ktrTop]; omega)); (case sU => first | omega | (dsimp only [Around.deeper, ktrTop]; omega))
      case sS => exact fun q hq => (pull_mem (r' := [(J, it2), (I, it), (D, W.listOf vs.toArray z), (L + 1 + 1 + 1, oO), (L + 1 + 1, oB), (L + 1, oA)]) (by simp) (by simp +contextual) hq)
      intro h12 tk12 F12 N12
      replace N12 : News h₀ L h12 (tt10 ++ [(J, it2), (I, it), (D, W.listOf vs.toArray z), (L + 1 + 1 + 1, oO), (L + 1 + 1, oB), (L + 1, oA)]) := fun p hp => N12 p (push_mem (x := (D, W.listOf vs.toArray z)) (r := [(J, it2), (I, it), (L + 1 + 1 + 1, oO), (L + 1 + 1, oB), (L + 1, oA)]) (by simp +contextual) hp)
      rw [decide_eq_true hd2']
      (try dsimp only)
      k_steps
      refine Hold.off ?_
      rw [hfx, hfy]
      refine' ok_into G10 ?sB ?sF ?sX ?sN ?sS ?sT ?sK ?sP ?sU ⟨by omega, by omega, by omega, by omega⟩ ?_
      walk_at "m tail"
      clear G10
      intro t13 tt13 h13 tk13 G13 F13 N13
      (try dsimp only)
      k_steps
      · exact absurd (hd3'.trans hfz.symm) (by assumption)
      refine Hold.off ?_
      refine ⟨h13, _, _, tt13 ++ [(I, it), (D, W.listOf vs.toArray z), (L + 1 + 1 + 1, oO), (L + 1 + 1, oB), (L + 1, oA)], rfl, by k_asm, fun p hp => N13 p (mid_mem' hp), neD (G13.ne (.head _)) (by k_all), tt13, rfl, G13.sub' (by simp), hIJ, G13.ne (.head _), rfl⟩

end Mine
-- part V10
namespace Mine
set_option Elab.async false
set_option maxRecDepth 100000
set_option maxHeartbeats 8000000
local macro_rules | `(tactic| walk_at "call ref") => `(tactic| (refine Hold.on ?_))
local macro_rules | `(tactic| k_all) => `(tactic| first | assumption | (refine' Tail.ne ?ta ?tb; (case ta => assumption); (case tb => (try dsimp only); omega)) | fail "k_all")
local macro_rules | `(tactic| walk_at "m nodup") => `(tactic| repeat' (first | exact nd_nil | exact all_nil | refine nd_cons ?_ ?_ | refine all_cons ?_ ?_ | k_ne))
local macro_rules | `(tactic| walk_at "m apart") => `(tactic| repeat' (first | exact Apart.nil | refine Apart.cons ?_ ?_ | k_all))
local macro_rules | `(tactic| walk_at "m sub") => `(tactic| repeat' (first | exact sub_nil | exact sub_self | (refine' sub_cons ?ta ?_; (case ta => k_mem)) | refine sub_tail ?_ | fail "m sub"))
local macro_rules | `(tactic| walk_at "m lt") => `(tactic| repeat' (first | refine List.forall_mem_cons.mpr ⟨?_, ?_⟩ | (refine' Tail.lt ?ta ?tb; (case ta => assumption); (case tb => (try dsimp only); omega)) | (refine ltA ?_; (try dsimp only); omega) | fail "m lt"))
local macro_rules | `(tactic| walk_at "m enterC") => `(tactic| k_dflt (refine' code_defC ?k1 ?k2 ?k3 ?k4 ?k5 ?kA ?kF ?kK ?k6 ?k7 ?k8 ?k9 ?kB ?kD ?_ ?c2 ?c3 ?c4; (case kA => exact rfl); (case kF => exact rfl); (case kK => assumption); (case k1 => k_asm); (case k2 => k_asm); (case k3 => k_asm); (case k4 => k_asm); (case k5 => k_asm); (case k6 => k_is); (case k7 => k_is); (case k8 => ktr_room); (case k9 => first | exact BindsTo.of_eq rfl | (refine' kp_binds ?kx ?ke; (case kx => k_in); (case ke => exact fun _ => rfl)) | fail "m enter: no rule for these arguments"); (case kB => exact rfl); (case kD => decide +kernel); (case c2 => exact rfl); (case c3 => exact rfl); (case c4 => exact rfl); k_whole))
local macro_rules | `(tactic| walk_at "m enterL") => `(tactic| k_dflt (refine' code_defL ?k1 ?k2 ?k3 ?k4 ?k5 ?kA ?kF ?kK ?k6 ?k7 ?k8 ?k9 ?kB ?_ ?c2 ?c3 ?c4 ?c5; (case kA => exact rfl); (case kF => exact rfl); (case kK => assumption); (case k1 => k_asm); (case k2 => k_asm); (case k3 => k_asm); (case k4 => k_asm); (case k5 => k_asm); (case k6 => k_is); (case k7 => k_is); (case k8 => ktr_room); (case k9 => first | exact BindsTo.of_eq rfl | (refine' kp_binds ?kx ?ke; (case kx => k_in); (case ke => exact fun _ => rfl)) | fail "m enter: no rule for these arguments"); (case c5 => decide); (case kB => exact locs rfl); (case c2 => exact rfl); (case c3 => exact rfl); (case c4 => exact rfl); k_whole))
local macro_rules | `(tactic| walk_at "m enterN") => `(tactic| k_dflt (refine' code_nestL ?k1 ?k2 ?k3 ?k4 ?k5 ?kA ?kF ?kK ?k6 ?k7 ?k8 ?k9 ?kB ?_ ?c2 ?c3 ?c4 ?c5; (case kA => exact rfl); (case kF => exact rfl); (case kK => assumption); (case k1 => k_asm); (case k2 => k_asm); (case k3 => k_asm); (case k4 => k_asm); (case k5 => k_asm); (case k6 => k_mem); (case k7 => exact codeRec_news (by k_asm) (by k_mem) (by assumption) (by assumption)); (case k8 => ktr_room); (case k9 => exact BindsTo.of_eq rfl); (case c5 => decide); (case kB => exact locs rfl); (case c2 => exact rfl); (case c3 => exact rfl); (case c4 => exact rfl); k_whole))
local macro_rules | `(tactic| walk_at "CompSrcT") => `(tactic| (refine Hold.on ?_))
local macro_rules | `(tactic| walk_at "KCiEl") => `(tactic| (refine Hold.on ?_))
local macro_rules | `(tactic| walk_at "KCiNo") => `(tactic| (refine Hold.on ?_))
local macro_rules | `(tactic| walk_at "m mem") => `(tactic| with_reducible (first | exact List.mem_cons_self | (refine' List.mem_cons_of_mem _ ?_; walk_at "m mem") | (refine' mem_rightA ?_; walk_at "m mem") | fail "m mem"))
local macro_rules | `(tactic| k_mem) => `(tactic| walk_at "m mem")
local macro_rules | `(tactic| walk_at "m tail") => `(tactic| (
  (case sB => k_asm); (case sF => k_asm); (case sX => k_asm); (case sN => k_asm); (case sT => k_asm); (case sK => exact rfl); (case sS => walk_at "m sub"); (case sP => first | omega | (dsimp only [Around.deeper, ktrTop]; omega)); (case sU => first | omega | (dsimp only [Around.deeper, ktrTop]; omega))))
local macro_rules | `(tactic| walk_at "compareOp Eq ref ref") => `(tactic| (refine Hold.on ?_))
local macro_rules | `(tactic| walk_at "compareOp NotEq ref ref") => `(tactic| (refine Hold.on ?_))

local macro_rules | `(tactic| walk_at "CompEnd") => `(tactic| (refine Hold.on ?_))
theorem mid_mem2 {α : Type} {l r : List α} {x p : α} (h : p ∈ l ++ x :: r) : p = x ∨ p ∈ l ++ r := List.mem_cons.mp (mid_mem h)
theorem mid3 {α : Type} {l r : List α} {x y z p : α} (h : p ∈ l ++ x :: y :: z :: r) : p ∈ x :: y :: z :: (l ++ r) := by
  rcases mid_mem2 h with rfl | h
  · exact .head _
  rcases mid_mem2 h with rfl | h
  · exact .tail _ (.head _)
  exact .tail _ (.tail _ (mid_mem h))
theorem mid4 {α : Type} {l r : List α} {x y z t p : α} (h : p ∈ l ++ x :: y :: z :: t :: r) : p ∈ x :: y :: z :: t :: (l ++ r) := by
  rcases mid_mem2 h with rfl | h
  · exact .head _
  exact .tail _ (mid3 h)
theorem mid3' {α : Type} {l r : List α} {x y z p : α} (h : p ∈ x :: y :: z :: (l ++ r)) : p ∈ l ++ x :: y :: z :: r := by
  rcases List.mem_cons.mp h with rfl | h
  · exact mid_mem' (.head _)
  refine mid_mem' (.tail _ ?_)
  rcases List.mem_cons.mp h with rfl | h
  · exact mid_mem' (.head _)
  exact mid_mem' (.tail _ (mid_mem' h))
theorem mid4' {α : Type} {l r : List α} {x y z t p : α} (h : p ∈ x :: y :: z :: t :: (l ++ r)) : p ∈ l ++ x :: y :: z :: t :: r := by
  rcases List.mem_cons.mp h with rfl | h
  · exact mid_mem' (.head _)
  exact mid_mem' (.tail _ (mid3' h))
theorem if10 (w : World) (a : Int) (ta : Tok) (ha : 1 ≤ a ∧ a ≤ 30)
    {prog p : Program} {loose : List Str} {mean : ExcName → Option Value} {mg mb : Str → Option Value} {dp un : Nat} {gd : Option (List Code)} {fa : Addr} {ccd : Value} {outer : List Env} {A₀ : Around} {base h₀ : Heap} {L D : Addr} {u : Str → Option Value} {s : Shared}
    {Q : Flow → Shared → Prop} {E : Value → Shared → Prop} {tt : List (Addr × Obj)} {oO oA oB : Obj} {vs : List Value} {z : Nat} (hvs : IntsAre vs (dvs a a.toNat))
    (B : Below A₀ base outer h₀) (F : Fr h₀ L s.heap u) (X : (hd.heap_39 w.params).In h₀) (N : News h₀ L s.heap (tt ++ [(D, W.listOf vs.toArray z), (L + 1 + 1 + 1, oO), (L + 1 + 1, oB), (L + 1, oA)])) (K : Ok [(D, W.listOf vs.toArray z), (L + 1 + 1 + 1, oO), (L + 1 + 1, oB), (L + 1, oA)] tt)
    (T : Top p loose mean mg mb h₀) (hd1 : dp + 200 < recursionLimit) (hu : un + 1600 < cLine) (hoA : oA.data = .cell (some (.int a ta))) (hoO : oO.data = .cell (some (.ref D))) (hLD : L + 1 + 1 + 1 < D)
    (ret : ∀ D2 ys tt' h' tk', IntsAre ys (toldL a) → Ok [(D, W.listOf vs.toArray z), (L + 1 + 1 + 1, oO), (L + 1 + 1, oB), (L + 1, oA)] tt' → Fr h₀ L h' (fun q => if q = Str.ofString "told" then some (.ref D2) else u q) → News h₀ L h' ((D2, LCg.lst ys) :: (tt' ++ [(D, W.listOf vs.toArray z), (L + 1 + 1 + 1, oO), (L + 1 + 1, oB), (L + 1, oA)])) → Q .next { s with heap := h', toks := tk' }) :
    wpAny (model prog w) (lawA dp un gd L fa ccd outer) (exec st10.1 (lawEnv L fa ccd)) Q E s := by
  dsimp only [st10, lawEnv, lawA, lawScope]
  have hdd := dd30 a ha
  have hlen := dvs_len a a.toNat
  have hlen2 := hvs.length
  replace hLD := ltN hLD
  refine assign_comp_cell (its := vs) (ax := D) (lo := W.listOf vs.toArray z) (k := z) (by rfl) F N (List.mem_append_right _ (.head _)) rfl rfl (by rw [PySem.sizeLine_eq]; omega) (by rfl) (by with_unfolding_all rfl) (by with_unfolding_all rfl) (fun _ => by rfl) (fun _ => by rfl) (by rfl) (by decide) (fun _ _ => by rfl) (by rfl) (by rfl) ?hit
    (fun i ys nl => ∃ tt, nl = tt ++ [(D, W.listOf vs.toArray z), (L + 1 + 1 + 1, oO), (L + 1 + 1, oB), (L + 1, oA)] ∧ Ok [(D, W.listOf vs.toArray z), (L + 1 + 1 + 1, oO), (L + 1 + 1, oB), (L + 1, oA)] tt ∧ IntsAre ys (((dvs a a.toNat).take i).filter (fun x => decide ((cmpl a x).length = 1)))) ⟨tt, rfl, K, .nil⟩ ?turn ?done
  case hit =>
    intro Q' hq
    k_steps
    exact hq
  case done =>
    rintro D2 ys nl h5 tk5 ⟨tt5, rfl, K5, hys⟩ F5 N5
    rw [hlen2, List.take_length] at hys
    exact ret _ _ _ _ _ hys K5 F5 N5
  case turn =>
    rintro i ys nl v I oI C oC c oc D1 h5 tk5 E' hi ⟨tt5, rfl, K5, hys⟩ hv hoc l1 l2 l3 F5 N5 off5
    obtain ⟨x, tx, rfl, hx⟩ := hvs.at i v hv
    have hxm := List.mem_of_getElem? hx
    obtain ⟨hx1, hx2, hx3, hx4, hx5, hxy⟩ := hdd x hxm
    clear N F K ret
    have htx := take_snoc hx
    have offQ : ∀ p ∈ ([(D, W.listOf vs.toArray z), (L + 1 + 1 + 1, oO), (L + 1 + 1, oB), (L + 1, oA)] : List (Addr × Obj)), ∀ q ∈ [(I, oI), (C, oC), (c, oc), (D1, LCg.lst ys)], p.1 ≠ q.1 := by
      intro p hp q hq
      have h4 := off5 p (List.mem_append_right _ hp)
      simp only [List.mem_cons, List.not_mem_nil, or_false] at hq
      rcases hq with rfl | rfl | rfl | rfl
      · exact h4.1
      · exact h4.2.1
      · exact h4.2.2.1
      · exact h4.2.2.2
    k_steps
    refine Hold.off ?_
    have offT : ∀ q ∈ tt5, q.1 ≠ I ∧ q.1 ≠ C ∧ q.1 ≠ c ∧ q.1 ≠ D1 := fun q hq => off5 q (List.mem_append_left _ hq)
    have K6 : Ok ((I, oI) :: (C, oC) :: (c, oc) :: (D1, LCg.lst ys) :: [(D, W.listOf vs.toArray z), (L + 1 + 1 + 1, oO), (L + 1 + 1, oB), (L + 1, oA)]) tt5 := (((K5.cons fun q hq => (offT q hq).2.2.2).cons fun q hq => (offT q hq).2.2.1).cons fun q hq => (offT q hq).2.1).cons fun q hq => (offT q hq).1
    have N6 : News h₀ L h5 (tt5 ++ (I, oI) :: (C, oC) :: (c, oc) :: (D1, LCg.lst ys) :: [(D, W.listOf vs.toArray z), (L + 1 + 1 + 1, oO), (L + 1 + 1, oB), (L + 1, oA)]) := fun p hp => N5 p (mid4 hp)
    refine LCt.CompSrcT.ledger (ax := D) (its := vs.toArray) (k := z) (by rfl) (by k_asm) N6 (List.mem_append_right _ (.tail _ (.tail _ (.tail _ (.tail _ (.head _)))))) (by rw [PySem.sizeLine_eq, List.size_toArray]; omega) ?_
    intro g
    refine crt_inv (n := vs.toArray.size) (fun j ys2 nl => ∃ tt, nl = tt ++ (I, oI) :: (C, oC) :: (c, oc) :: (D1, LCg.lst ys) :: [(D, W.listOf vs.toArray z), (L + 1 + 1 + 1, oO), (L + 1 + 1, oB), (L + 1, oA)] ∧ Ok ((I, oI) :: (C, oC) :: (c, oc) :: (D1, LCg.lst ys) :: [(D, W.listOf vs.toArray z), (L + 1 + 1 + 1, oO), (L + 1 + 1, oB), (L + 1, oA)]) tt ∧ IntsAre ys2 (((dvs a a.toNat).take j).filter (fun y => decide (zgcd x y = 1) && decide (zlcm x y = a)))) ?turn2 ⟨tt5, rfl, K6, .nil⟩ ?fin2
    case turn2 =>
      rintro j ys2 nl v2 Ia oJ C2 oC2 D2 m2 h6 tk6 E2 hj ⟨tt6, rfl, K7, hys2⟩ hv2 hC2 hx2 F6 N7 off6 ne6
      (rename IntsAre vs _ => hvs)
      obtain ⟨y, ty, rfl, hy⟩ := hvs.at j v2 (by simpa using hv2)
      have hym := List.mem_of_getElem? hy
      obtain ⟨hy1, hy2, hy3, hy4, hy5, -⟩ := hdd y hym
      obtain ⟨hd1', hd2', hd3', hd4', hd5'⟩ := hxy y hym
      have K8 : Ok ((Ia, oJ) :: (C2, oC2) :: (D2, LCg.lst ys2) :: (I, oI) :: (C, oC) :: (c, oc) :: (D1, LCg.lst ys) :: [(D, W.listOf vs.toArray z), (L + 1 + 1 + 1, oO), (L + 1 + 1, oB), (L + 1, oA)]) tt6 := ⟨K7.1, K7.2.1, apart_off3 off6 K7.2.2⟩
      have N8 : News h₀ L h6 (tt6 ++ (Ia, oJ) :: (C2, oC2) :: (D2, LCg.lst ys2) :: (I, oI) :: (C, oC) :: (c, oc) :: (D1, LCg.lst ys) :: [(D, W.listOf vs.toArray z), (L + 1 + 1 + 1, oO), (L + 1 + 1, oB), (L + 1, oA)]) := fun p hp => N7 p (mid3 hp)
      have offR := off3_right off6
      have htk := take_snoc hy
      clear N7 N6 K6 K7 N5 off6
      k_steps
      refine Hold.off ?_
      refine' ok_into K8 ?sB ?sF ?sX ?sN ?sS ?sT ?sK ?sP ?sU ⟨by omega, by omega, by omega, by omega⟩ ?_
      walk_at "m tail"
      clear K8
      intro t9 tt9 h9 tk9 K9 F9 N9
      (try dsimp only)
      k_steps
      · refine Hold.off ?_
        refine' ok_over K9 ?sB ?sF ?sX ?sN ?sS ?sT ?sK ?sP ?sU ⟨by omega, by omega, by omega, by omega⟩ ?_
        walk_at "m tail"
        clear K9
        intro t10 tt10 h10 tk10 K10 F10 N10
        (try dsimp only)
        k_steps
        · refine Hold.off ?_
          refine LCg.CompEnd.intro F10 N10 (tt10 ++ (I, oI) :: (C, oC) :: (c, oc) :: (D1, LCg.lst ys) :: [(D, W.listOf vs.toArray z), (L + 1 + 1 + 1, oO), (L + 1 + 1, oB), (L + 1, oA)]) (fun p hp => mid3' hp) (off3_apart K10.2.2 offR) (.inr ⟨_, List.mem_append_right _ (.tail _ (.tail _ (.tail _ (.tail _ (.head _))))), rfl, z, rfl⟩) ⟨tt10, rfl, K10.sub' fun p hp => List.mem_map_of_mem (.tail _ (.tail _ (.tail _ hp))), ?_⟩
          rw [htk, List.filter_append, List.filter_cons_of_pos (by simp only [Bool.and_eq_true, decide_eq_true_eq]; exact ⟨by assumption, by assumption⟩)]
          exact IntsAre.append hys2 (.cons y ty .nil)
        · refine Hold.off ?_
          refine LCg.CompEnd.intro F10 N10 (tt10 ++ (I, oI) :: (C, oC) :: (c, oc) :: (D1, LCg.lst ys) :: [(D, W.listOf vs.toArray z), (L + 1 + 1 + 1, oO), (L + 1 + 1, oB), (L + 1, oA)]) (fun p hp => mid3' hp) (off3_apart K10.2.2 offR) (.inr ⟨_, List.mem_append_right _ (.tail _ (.tail _ (.tail _ (.tail _ (.head _))))), rfl, z, rfl⟩) ⟨tt10, rfl, K10.sub' fun p hp => List.mem_map_of_mem (.tail _ (.tail _ (.tail _ hp))), ?_⟩
          rw [htk, List.filter_append, List.filter_cons_of_neg (by simp only [Bool.and_eq_true, decide_eq_true_eq]; exact fun h => absurd h.2 (by assumption)), List.filter_nil, List.append_nil]
          exact hys2
      · refine Hold.off ?_
        refine LCg.CompEnd.intro F9 N9 (tt9 ++ (I, oI) :: (C, oC) :: (c, oc) :: (D1, LCg.lst ys) :: [(D, W.listOf vs.toArray z), (L + 1 + 1 + 1, oO), (L + 1 + 1, oB), (L + 1, oA)]) (fun p hp => mid3' hp) (off3_apart K9.2.2 offR) (.inr ⟨_, List.mem_append_right _ (.tail _ (.tail _ (.tail _ (.tail _ (.head _))))), rfl, z, rfl⟩) ⟨tt9, rfl, K9.sub' fun p hp => List.mem_map_of_mem (.tail _ (.tail _ (.tail _ hp))), ?_⟩
        rw [htk, List.filter_append, List.filter_cons_of_neg (by simp only [Bool.and_eq_true, decide_eq_true_eq]; exact fun h => absurd h.1 (by assumption)), List.filter_nil, List.append_nil]
        exact hys2
    case fin2 =>
      rintro ys2 nl ⟨tt6, rfl, K7, hys2⟩
      rw [List.size_toArray, hlen2, List.take_length] at hys2
      clear N5 N6 K6
      k_steps
      (rename News h₀ L _ ((_, LCg.lst _) :: _) => N7)
      have hl7 := List.length_filter_le (fun y => decide (zgcd x y = 1) && decide (zlcm x y = a)) (dvs a a.toNat)
      refine KM.len_K N7 (.head _) (n := (cmpl a x).length) (by rw [List.size_toArray]; exact hys2.length) (by unfold cmpl; omega) ?_
      k_steps
      · refine ⟨_, _, tt6 ++ [(D, W.listOf vs.toArray z), (L + 1 + 1 + 1, oO), (L + 1 + 1, oB), (L + 1, oA)], rfl, by k_asm, fun p hp => N7 p (.tail _ (mid4' hp)), fun p hp q hq => (List.mem_append.mp hp).elim (fun hp => K7.ne (List.mem_append_left _ hq : q ∈ [(I, oI), (C, oC), (c, oc), (D1, LCg.lst ys)] ++ [(D, W.listOf vs.toArray z), (L + 1 + 1 + 1, oO), (L + 1 + 1, oB), (L + 1, oA)]) p hp) (fun hp => offQ p hp q hq), List.mem_append_right _ (.head _), tt6, rfl, K7.sub' fun p hp => List.mem_map_of_mem (.tail _ (.tail _ (.tail _ (.tail _ hp)))), ?_⟩
        rw [htx, List.filter_append, List.filter_cons_of_pos (by rw [decide_eq_true_eq]; omega)]
        exact IntsAre.append hys (.cons x tx .nil)
      · refine ⟨_, _, tt6 ++ [(D, W.listOf vs.toArray z), (L + 1 + 1 + 1, oO), (L + 1 + 1, oB), (L + 1, oA)], rfl, by k_asm, fun p hp => N7 p (.tail _ (mid4' hp)), fun p hp q hq => (List.mem_append.mp hp).elim (fun hp => K7.ne (List.mem_append_left _ hq : q ∈ [(I, oI), (C, oC), (c, oc), (D1, LCg.lst ys)] ++ [(D, W.listOf vs.toArray z), (L + 1 + 1 + 1, oO), (L + 1 + 1, oB), (L + 1, oA)]) p hp) (fun hp => offQ p hp q hq), List.mem_append_right _ (.head _), tt6, rfl, K7.sub' fun p hp => List.mem_map_of_mem (.tail _ (.tail _ (.tail _ (.tail _ hp)))), ?_⟩
        rw [htx, List.filter_append, List.filter_cons_of_neg (by rw [decide_eq_true_eq]; omega), List.filter_nil, List.append_nil]
        exact hys

end Mine
-- part V11
namespace Mine
set_option Elab.async false
set_option maxRecDepth 100000
set_option maxHeartbeats 8000000
local macro_rules | `(tactic| walk_at "call ref") => `(tactic| (refine Hold.on ?_))
local macro_rules | `(tactic| k_all) => `(tactic| first | assumption | (refine' Tail.ne ?ta ?tb; (case ta => assumption); (case tb => (try dsimp only); omega)) | fail "k_all")
local macro_rules | `(tactic| walk_at "m nodup") => `(tactic| repeat' (first | exact nd_nil | exact all_nil | refine nd_cons ?_ ?_ | refine all_cons ?_ ?_ | k_ne))
local macro_rules | `(tactic| walk_at "m apart") => `(tactic| repeat' (first | exact Apart.nil | refine Apart.cons ?_ ?_ | k_all))
local macro_rules | `(tactic| walk_at "m sub") => `(tactic| repeat' (first | exact sub_nil | exact sub_self | (refine' sub_cons ?ta ?_; (case ta => k_mem)) | refine sub_tail ?_ | fail "m sub"))
local macro_rules | `(tactic| walk_at "m lt") => `(tactic| repeat' (first | refine List.forall_mem_cons.mpr ⟨?_, ?_⟩ | (refine' Tail.lt ?ta ?tb; (case ta => assumption); (case tb => (try dsimp only); omega)) | (refine ltA ?_; (try dsimp only); omega) | fail "m lt"))
local macro_rules | `(tactic| walk_at "m enterC") => `(tactic| k_dflt (refine' code_defC ?k1 ?k2 ?k3 ?k4 ?k5 ?kA ?kF ?kK ?k6 ?k7 ?k8 ?k9 ?kB ?kD ?_ ?c2 ?c3 ?c4; (case kA => exact rfl); (case kF => exact rfl); (case kK => assumption); (case k1 => k_asm); (case k2 => k_asm); (case k3 => k_asm); (case k4 => k_asm); (case k5 => k_asm); (case k6 => k_is); (case k7 => k_is); (case k8 => ktr_room); (case k9 => first | exact BindsTo.of_eq rfl | (refine' kp_binds ?kx ?ke; (case kx => k_in); (case ke => exact fun _ => rfl)) | fail "m enter: no rule for these arguments"); (case kB => exact rfl); (case kD => decide +kernel); (case c2 => exact rfl); (case c3 => exact rfl); (case c4 => exact rfl); k_whole))
local macro_rules | `(tactic| walk_at "m enterL") => `(tactic| k_dflt (refine' code_defL ?k1 ?k2 ?k3 ?k4 ?k5 ?kA ?kF ?kK ?k6 ?k7 ?k8 ?k9 ?kB ?_ ?c2 ?c3 ?c4 ?c5; (case kA => exact rfl); (case kF => exact rfl); (case kK => assumption); (case k1 => k_asm); (case k2 => k_asm); (case k3 => k_asm); (case k4 => k_asm); (case k5 => k_asm); (case k6 => k_is); (case k7 => k_is); (case k8 => ktr_room); (case k9 => first | exact BindsTo.of_eq rfl | (refine' kp_binds ?kx ?ke; (case kx => k_in); (case ke => exact fun _ => rfl)) | fail "m enter: no rule for these arguments"); (case c5 => decide); (case kB => exact locs rfl); (case c2 => exact rfl); (case c3 => exact rfl); (case c4 => exact rfl); k_whole))
local macro_rules | `(tactic| walk_at "m enterN") => `(tactic| k_dflt (refine' code_nestL ?k1 ?k2 ?k3 ?k4 ?k5 ?kA ?kF ?kK ?k6 ?k7 ?k8 ?k9 ?kB ?_ ?c2 ?c3 ?c4 ?c5; (case kA => exact rfl); (case kF => exact rfl); (case kK => assumption); (case k1 => k_asm); (case k2 => k_asm); (case k3 => k_asm); (case k4 => k_asm); (case k5 => k_asm); (case k6 => k_mem); (case k7 => exact codeRec_news (by k_asm) (by k_mem) (by assumption) (by assumption)); (case k8 => ktr_room); (case k9 => exact BindsTo.of_eq rfl); (case c5 => decide); (case kB => exact locs rfl); (case c2 => exact rfl); (case c3 => exact rfl); (case c4 => exact rfl); k_whole))
local macro_rules | `(tactic| walk_at "CompSrcT") => `(tactic| (refine Hold.on ?_))
local macro_rules | `(tactic| walk_at "KCiEl") => `(tactic| (refine Hold.on ?_))
local macro_rules | `(tactic| walk_at "KCiNo") => `(tactic| (refine Hold.on ?_))
local macro_rules | `(tactic| walk_at "m mem") => `(tactic| with_reducible (first | exact List.mem_cons_self | (refine' List.mem_cons_of_mem _ ?_; walk_at "m mem") | (refine' mem_rightA ?_; walk_at "m mem") | fail "m mem"))
local macro_rules | `(tactic| k_mem) => `(tactic| walk_at "m mem")
local macro_rules | `(tactic| walk_at "m tail") => `(tactic| (
  (case sB => k_asm); (case sF => k_asm); (case sX => k_asm); (case sN => k_asm); (case sT => k_asm); (case sK => exact rfl); (case sS => walk_at "m sub"); (case sP => first | omega | (dsimp only [Around.deeper, ktrTop]; omega)); (case sU => first | omega | (dsimp only [Around.deeper, ktrTop]; omega))))
local macro_rules | `(tactic| walk_at "compareOp Eq ref ref") => `(tactic| (refine Hold.on ?_))
local macro_rules | `(tactic| walk_at "compareOp NotEq ref ref") => `(tactic| (refine Hold.on ?_))

theorem if11 (w : World) (a : Int) (ta : Tok) (ha : 1 ≤ a ∧ a ≤ 30)
    {prog p : Program} {loose : List Str} {mean : ExcName → Option Value} {mg mb : Str → Option Value} {dp un : Nat} {gd : Option (List Code)} {fa : Addr} {ccd : Value} {outer : List Env} {A₀ : Around} {base h₀ : Heap} {L D D2 : Addr} {ys : List Value} {u : Str → Option Value} {s : Shared}
    {Q : Flow → Shared → Prop} {E : Value → Shared → Prop} {tt : List (Addr × Obj)} {oO oA oB : Obj} {vs : List Value} {z : Nat} (hvs : IntsAre vs (dvs a a.toNat))
    (B : Below A₀ base outer h₀) (F : Fr h₀ L s.heap (fun q => if q = Str.ofString "told" then some (.ref D2) else u q)) (X : (hd.heap_39 w.params).In h₀) (N : News h₀ L s.heap ((D2, LCg.lst ys) :: (tt ++ [(D, W.listOf vs.toArray z), (L + 1 + 1 + 1, oO), (L + 1 + 1, oB), (L + 1, oA)]))) (hys : IntsAre ys (toldL a)) (K : Ok [(D, W.listOf vs.toArray z), (L + 1 + 1 + 1, oO), (L + 1 + 1, oB), (L + 1, oA)] tt)
    (T : Top p loose mean mg mb h₀) (hd1 : dp + 200 < recursionLimit) (hu : un + 1600 < cLine) (hoA : oA.data = .cell (some (.int a ta))) (hoO : oO.data = .cell (some (.ref D))) (hLD : L + 1 + 1 + 1 < D)
    (ret : ∀ h' tk' m', Fr h₀ L h' m' → News h₀ L h' tt → Q (.ret (.bool true)) { s with heap := h', toks := tk' }) :
    wpAny (model prog w) (lawA dp un gd L fa ccd outer) (exec st11.1 (lawEnv L fa ccd)) Q E s := by
  dsimp only [st11, lawEnv, lawA, lawScope]
  have ht := told30 a ha
  k_steps
  refine Hold.off ?_
  refine' ke_eq_ints (xs := ys) (ys := vs) (ns := toldL a) (ms := dvs a a.toNat) ?e1 ?e2 hys hvs ?e3 ?_
  (case e1 => exact ⟨_, (N _ (.head _)).1, rfl, _, rfl⟩)
  (case e2 => exact ⟨_, (N _ (.tail _ (List.mem_append_right _ (.head _)))).1, rfl, z, rfl⟩)
  (case e3 => first | omega | (dsimp only [Around.deeper, ktrTop]; omega))
  rw [ht]
  (try dsimp only)
  k_steps
  refine Hold.off ?_
  refine LCt.CompSrcT.range (n := 4) (by rfl) (by k_asm) (by k_asm) (by assumption) (by decide) (by rfl) (by decide) ?_
  intro g'
  refine' kci_range (fun l k => if a.fmod (k * k) = 0 then l ++ [k] else l) (fun k' t' I' oI' C' oC' D' m' ys' l' h' tk' E' hlo' hhi' hI' hC' hx' F' N' off' ne' hMark' => ?_) ?_ ?_
  · try k_fold
    k_steps
    · exact absurd (by assumption : k' * k' = 0) (Int.ne_of_gt (Int.mul_pos (by omega) (by omega)))
    · exact LCg.CompEnd.intro (by k_asm) (by k_asm) _ (fun _ h => h) off' trivial (kci_el (by rw [if_pos (by assumption)]) rfl rfl)
    · exact LCg.CompEnd.intro (by k_asm) (by k_asm) _ (fun _ h => h) off' trivial (kci_no (by rw [if_neg (by assumption)]) rfl)
  · try k_fold
    k_steps
    refine Hold.off ?_
    rename_i hI9 _ _ D9 h9a tk9 o9 l9 h9 F8 N8 l8
    refine' ke_eq_ints (xs := ys) (ys := []) (ns := sqL a) (ms := []) ?e1 ?e2 hI9 .nil ?e3 ?_
    (case e1 => exact ⟨_, (N8 _ (.tail _ (.head _))).1, rfl, _, rfl⟩)
    (case e2 => exact ⟨_, (N8 _ (.head _)).1, rfl, 0, rfl⟩)
    (case e3 => first | omega | (dsimp only [Around.deeper, ktrTop]; omega))
    generalize decide (sqL a = []) = bb
    cases bb
    · k_steps
      exact ret _ _ _ F8 fun p hp => N8 p (.tail _ (.tail _ (.tail _ (List.mem_append_left _ hp))))
    · k_steps
      exact ret _ _ _ F8 fun p hp => N8 p (.tail _ (.tail _ (.tail _ (List.mem_append_left _ hp))))
  · intro l k
    dsimp only
    split <;> simp

end Mine
-- part J1
namespace Mine
set_option Elab.async false
set_option maxRecDepth 100000
set_option maxHeartbeats 8000000
local macro_rules | `(tactic| walk_at "call ref") => `(tactic| (refine Hold.on ?_))
local macro_rules | `(tactic| k_all) => `(tactic| first | assumption | (refine' Tail.ne ?ta ?tb; (case ta => assumption); (case tb => (try dsimp only); omega)) | fail "k_all")
local macro_rules | `(tactic| walk_at "m nodup") => `(tactic| repeat' (first | exact nd_nil | exact all_nil | refine nd_cons ?_ ?_ | refine all_cons ?_ ?_ | k_ne))
local macro_rules | `(tactic| walk_at "m apart") => `(tactic| repeat' (first | exact Apart.nil | refine Apart.cons ?_ ?_ | k_all))
local macro_rules | `(tactic| walk_at "m sub") => `(tactic| repeat' (first | exact sub_nil | exact sub_self | (refine' sub_cons ?ta ?_; (case ta => k_mem)) | refine sub_tail ?_ | fail "m sub"))
local macro_rules | `(tactic| walk_at "m lt") => `(tactic| repeat' (first | refine List.forall_mem_cons.mpr ⟨?_, ?_⟩ | (refine' Tail.lt ?ta ?tb; (case ta => assumption); (case tb => (try dsimp only); omega)) | (refine ltA ?_; (try dsimp only); omega) | fail "m lt"))
local macro_rules | `(tactic| walk_at "m enterC") => `(tactic| k_dflt (refine' code_defC ?k1 ?k2 ?k3 ?k4 ?k5 ?kA ?kF ?kK ?k6 ?k7 ?k8 ?k9 ?kB ?kD ?_ ?c2 ?c3 ?c4; (case kA => exact rfl); (case kF => exact rfl); (case kK => assumption); (case k1 => k_asm); (case k2 => k_asm); (case k3 => k_asm); (case k4 => k_asm); (case k5 => k_asm); (case k6 => k_is); (case k7 => k_is); (case k8 => ktr_room); (case k9 => first | exact BindsTo.of_eq rfl | (refine' kp_binds ?kx ?ke; (case kx => k_in); (case ke => exact fun _ => rfl)) | fail "m enter: no rule for these arguments"); (case kB => exact rfl); (case kD => decide +kernel); (case c2 => exact rfl); (case c3 => exact rfl); (case c4 => exact rfl); k_whole))
local macro_rules | `(tactic| walk_at "m enterL") => `(tactic| k_dflt (refine' code_defL ?k1 ?k2 ?k3 ?k4 ?k5 ?kA ?kF ?kK ?k6 ?k7 ?k8 ?k9 ?kB ?_ ?c2 ?c3 ?c4 ?c5; (case kA => exact rfl); (case kF => exact rfl); (case kK => assumption); (case k1 => k_asm); (case k2 => k_asm); (case k3 => k_asm); (case k4 => k_asm); (case k5 => k_asm); (case k6 => k_is); (case k7 => k_is); (case k8 => ktr_room); (case k9 => first | exact BindsTo.of_eq rfl | (refine' kp_binds ?kx ?ke; (case kx => k_in); (case ke => exact fun _ => rfl)) | fail "m enter: no rule for these arguments"); (case c5 => decide); (case kB => exact locs rfl); (case c2 => exact rfl); (case c3 => exact rfl); (case c4 => exact rfl); k_whole))
local macro_rules | `(tactic| walk_at "m enterN") => `(tactic| k_dflt (refine' code_nestL ?k1 ?k2 ?k3 ?k4 ?k5 ?kA ?kF ?kK ?k6 ?k7 ?k8 ?k9 ?kB ?_ ?c2 ?c3 ?c4 ?c5; (case kA => exact rfl); (case kF => exact rfl); (case kK => assumption); (case k1 => k_asm); (case k2 => k_asm); (case k3 => k_asm); (case k4 => k_asm); (case k5 => k_asm); (case k6 => k_mem); (case k7 => exact codeRec_news (by k_asm) (by k_mem) (by assumption) (by assumption)); (case k8 => ktr_room); (case k9 => exact BindsTo.of_eq rfl); (case c5 => decide); (case kB => exact locs rfl); (case c2 => exact rfl); (case c3 => exact rfl); (case c4 => exact rfl); k_whole))
theorem law_rest0 (w : World) (a b c : Int) (ta tb tc : Tok) (ha : 1 ≤ a ∧ a ≤ 30) (hb : 1 ≤ b ∧ b ≤ 30) (hc : 1 ≤ c ∧ c ≤ 30)
    {prog p : Program} {loose : List Str} {mean : ExcName → Option Value} {mg mb : Str → Option Value} {dp un : Nat} {gd : Option (List Code)} {fa : Addr} {ccd : Value} {outer : List Env} {A₀ : Around} {base h₀ : Heap} {L : Addr} {u : Str → Option Value} {s : Shared}
    {Q : Flow → Shared → Prop} {E : Value → Shared → Prop} {tt : List (Addr × Obj)} {oO oA oB : Obj} {vO : Option Value} (hE : PassesOwn (model prog w) (lawA dp un gd L fa ccd outer) (lawEnv L fa ccd) E)
    (B : Below A₀ base outer h₀) (F : Fr h₀ L s.heap (kstB u [(Str.ofString "c", .int c tc)])) (X : (hd.heap_39 w.params).In h₀) (N : News h₀ L s.heap (tt ++ [(L + 1 + 1 + 1, oO), (L + 1 + 1, oB), (L + 1, oA)])) (G0 : Ok [(L + 1 + 1 + 1, oO), (L + 1 + 1, oB), (L + 1, oA)] tt)
    (T : Top p loose mean mg mb h₀) (hd1 : dp + 200 < recursionLimit) (hu : un + 1600 < cLine) (hoA : oA.data = .cell (some (.int a ta))) (hoB : oB.data = .cell (some (.int b tb))) (hoO : oO.data = .cell vO)
    (ret : ∀ h' tk' m' tt', TT tt' → Fr h₀ L h' m' → News h₀ L h' tt' → Q (.ret (.bool true)) { s with heap := h', toks := tk' }) :
    wpAny (model prog w) (lawA dp un gd L fa ccd outer) (exec st1.1 (lawEnv L fa ccd)) (fun f s' => match f with | .next => wpAny (model prog w) (lawA dp un gd L fa ccd outer) (execs [st2.1, st3.1, st4.1, st5.1, st6.1, st7.1, st8.1, st9.1, st10.1, st11.1] (lawEnv L fa ccd)) Q E s' | f => Q f s') E s := by
  refine (if1 w a b c ta tb tc ha hb hc B F X N G0.good G0.2.2 T hd1 hu hoA hoB fun tt1 h1 tk1 g1 F1 N1 => ?_)
  refine wpAny_execs_cons (if2 w a b c ta tb tc ha hb hc B F1 X N1 g1 G0.2.2 T hd1 hu hoA hoB fun tt2 h2 tk2 g2 F2 N2 => ?_)
  refine wpAny_execs_cons (if3 w a b c ta tb tc ha hb hc B F2 X N2 g2 G0.2.2 T hd1 hu hoA hoB fun tt3 h3 tk3 g3 F3 N3 => ?_)
  refine if45 w a b c ta tb tc ha hb hc B F3 X N3 g3 G0.2.2 T hd1 hu hoA hoB fun tt4 h4 tk4 m4 g4 F4 N4 => ?_
  refine if6 w B F4 X N4 (Ok.of g4 G0.2.2) T hoO fun D oO' h6 tk6 hD l6 K6 F6 N6 => ?_
  refine wpAny_execs_cons (if7 w a ta ha hE B F6 X N6 K6 T hd1 hu hoA hD l6 fun tt7 vs z h7 tk7 m7 hv K7 F7 N7 => ?_)
  refine wpAny_execs_cons (if8 w a ta ha hv B F7 X N7 K7 T hd1 hu hoA hD l6 fun h8 tk8 m8 F8 N8 => ?_)
  refine wpAny_execs_cons (if9 w a ta ha hv hE B F8 X N8 K7 T hd1 hu hoA hD l6 fun tt9 h9 tk9 m9 K9 F9 N9 => ?_)
  refine wpAny_execs_cons (if10 w a ta ha hv B F9 X N9 K9 T hd1 hu hoA hD l6 fun D2 ys tt10 h10 tk10 hys K10 F10 N10 => ?_)
  exact wpAny_execs_cons (if11 w a ta ha hv B F10 X N10 hys K10 T hd1 hu hoA hD l6 fun h11 tk11 m11 F11 N11 => ret _ _ _ _ K10.1 F11 N11)
theorem law_rest : LawRest := @law_rest0
end Mine
theorem PySem.Challenge.cw_go0002_01_holds : PySem.Challenge.rw_go0002_01.Holds :=
  Mine.law1_of Mine.law_rest
