import PyProof.Rows.All
import Wide.All
import OpenK.AllK
import Wide.FinOn
import Lean
import PySem.Challenge.RW_op0003_01
-- part Hd
section
open PySem PySem.W PyProof.Rows
set_option Elab.async false
set_option maxRecDepth 100000
set_option maxHeartbeats 8000000
namespace Mine
open_top hd for PySem.Challenge.rw_op0003_01
end Mine
end
-- part Base
section
open PySem PySem.W PyProof.Rows PySem.Calls
set_option Elab.async false
set_option maxRecDepth 100000
set_option maxHeartbeats 8000000
set_option linter.all false
namespace Mine
theorem walkOff1 : True := by w_top off; trivial
local macro_rules | `(tactic| walk_at "pad") => `(tactic| skip)
theorem enterP {K : Frag} {prog : Program} {w : World} {A : Around} {s : Shared} {R : Result → Shared → Prop} {name qual : Str} {params : Arguments} {body : List Stmt} {scope : Scope} {dV kV doc pm cdv ct oc : Value} {an od : Option Addr} {osl : Array (Option Value)} {f : Addr} {args : Args} {binds : List (Str × Value)}
    (X : K.In s.heap) (hlim : s.heap.NoLimit)
    (ho : K.lookup f = some ⟨oc, od, .func (fnOf name qual params body scope dV kV doc pm an cdv ct), osl⟩) (hcd : codeIn K cdv qual = true) (hroom : A.depth < recursionLimit)
    (hbind : BindsTo s (fnOf name qual params body scope dV kV doc pm an cdv ct) args binds) (hloc : ∀ y ∈ binds, scope.names.lookup y.1 = some .local)
    (h : ∀ h₁ tk m, (∀ y, m y = binds.reverse.lookup y) → Fr s.heap s.heap.objs.size h₁ m →
      wpAny (model prog w) (A.deeper (envOf qual scope s.heap.objs.size f cdv)) (execs body (envOf qual scope s.heap.objs.size f cdv))
        (fun fl s' => R (.ok (.ret (match fl with | .ret v => v | _ => .none))) s')
        (fun e s' => wpAny (model prog w) (A.deeper (envOf qual scope s.heap.objs.size f cdv)) (leaving (envOf qual scope s.heap.objs.size f cdv) e) (fun _ s'' => R (.error e) s'') (fun e' s'' => R (.error e') s'') s')
        { s with heap := h₁, toks := tk })
    (hco : scope.isCoroutine = false) (hgen : scope.isGenerator = false) (hk : scope.kind = .function)
    (hcell : ∀ x ∈ scope.names, x.2 ≠ .cell) : codeAny (model prog w) A (.call (.ref f) args) R s := by
  refine codeAny_call_def (fd := fnOf name qual params body scope dV kV doc pm an cdv ct) (body := body) (binds := binds) hroom (X _ _ ho) rfl hlim (codeRec_of X hcd) rfl hbind hcell hloc (fun h₁ hns hk₁ => ?_) hco hgen hk
  exact h h₁ _ _ (fun _ => rfl) ⟨hns, hk₁, Nat.le_refl _⟩

section
variable {h₀ h : Heap} {L : Addr} {m : Str → Option Value} {x1 x2 x3 x4 x5 : Str} {v1 v2 v3 v4 v5 : Value}
theorem fr1 (F : Fr h₀ L h m) (h1 : m x1 = some v1) : Fr h₀ L h (fun y => if y = x1 then some v1 else m y) := by
  have e : (fun y => if y = x1 then some v1 else m y) = m := by
    funext y; by_cases q : y = x1
    · subst q; simp [h1]
    · simp [q]
  rw [e]; exact F
theorem fr2 (F : Fr h₀ L h m) (h1 : m x1 = some v1) (h2 : m x2 = some v2) : Fr h₀ L h (fun y => if y = x1 then some v1 else if y = x2 then some v2 else m y) := by
  have e : (fun y => if y = x2 then some v2 else m y) = m := by
    funext y; by_cases q : y = x2
    · subst q; simp [h2]
    · simp [q]
  have F1 := fr1 F h1
  rw [← e] at F1; exact F1
theorem fr3 (F : Fr h₀ L h m) (h1 : m x1 = some v1) (h2 : m x2 = some v2) (h3 : m x3 = some v3) : Fr h₀ L h (fun y => if y = x1 then some v1 else if y = x2 then some v2 else if y = x3 then some v3 else m y) := by
  have e : (fun y => if y = x3 then some v3 else m y) = m := by
    funext y; by_cases q : y = x3
    · subst q; simp [h3]
    · simp [q]
  have F1 := fr2 F h1 h2
  rw [← e] at F1; exact F1
end
section
variable {prog : Program} {w : World} {A : Around} {E : Value → Shared → Prop} {s : Shared} {value slice : PySem.Expr} {b : Array UInt8} {t : Tok} {h₀ : Heap} {L : Addr} {m : PySem.Str → Option Value} {news : List (Addr × Obj)} {l u : Value} {lo hi : Option Int} {Q : Value → Shared → Prop}
theorem sliceB (hF : Fr h₀ L s.heap m) (hN : News h₀ L s.heap news) (hl : IsPart l lo) (hu : IsPart u hi) (hz : b.size ≤ 16777216)
    (h : ∀ h' t' k, Fr h₀ L h' m → News h₀ L h' news → Q (.bytes ((b.toList.drop (lo.elim 0 (clipAt b.size))).take (hi.elim b.size (clipAt b.size) - lo.elim 0 (clipAt b.size))).toArray t') { s with heap := h', toks := k })
    (hs : subscripted slice false (.bytes b t) (.ref s.heap.objs.size) = operate [.ref s.heap.objs.size, .bytes b t] (getItem (.bytes b t) (.ref s.heap.objs.size)) := by with_unfolding_all rfl)
    (ht : ∀ r, letTemporaryGo value (.bytes b t) r = pure () := by intro _; with_unfolding_all rfl) :
    wpAny (model prog w) A (subscriptTail value slice (.bytes b t) (.ref s.heap.objs.size)) Q E { s with heap := s.heap.push { cls := .type "slice", data := .fields #[l, u, .none] } } :=
  KBc.slice_K hF hN rfl hl hu (by rw [KBw.ints_length]; exact hz) (fun h' t' k F' N' _ => by rw [KBc.picked_eq]; exact h h' t' k F' N') hs ht
end
section
variable {prog : Program} {w : World} {A : Around} {E : Value → Shared → Prop} {s : Shared}
theorem itemL {value slice : PySem.Expr} {l : Addr} {vs : List Value} {ns : List Int} {k : Int} {u : Tok} {Q : Value → Shared → Prop}
    (hl : s.heap.IsList l vs.toArray) (hi : IntsAre vs ns) (k0 : 0 ≤ k) (k1 : k < (ns.length : Int)) (hsz : ns.length ≤ 65536) (h : ∀ t, Q (.int (ns.getD k.toNat 0) t) s)
    (hs : subscripted slice false (.ref l) (.int k u) = operate [.ref l, .int k u] (getItem (.ref l) (.int k u)) := by with_unfolding_all rfl) :
    wpAny (model prog w) A (subscriptTail value slice (.ref l) (.int k u)) Q E s := by
  have hj : k.toNat < ns.length := by omega
  obtain ⟨t, ht⟩ := hi.get k.toNat (ns.getD k.toNat 0) (by simp [List.getD, hj])
  exact tail_any hl.typeIs slot_list_getitem.lookup (wpAny_getItem_list hl k0 (by omega) (by simpa using ht) (h t)) hs
end
section
variable {prog : Program} {w : World} {A : Around} {E : Value → Shared → Prop} {s : Shared} {env : Env}
def CompSrcL (prog : Program) (w : World) (A : Around) (env : Env) (scope : Scope) (cl : List (Str × Addr)) (x : Str) (elt : Expr) (F : Value → Value → Prop) (Q : Value → Shared → Prop) (xv : Value) (s : Shared) : Prop :=
  ∃ l items, xv = .ref l ∧ s.heap.IsList l items ∧ items.size ≤ sizeLine ∧
    (∀ (C i : Nat) v s₃ m₃ E', s.heap.objs.size ≤ C → items[i]? = some v → s₃.heap.Ns C m₃ → m₃ x = some v → s.heap.StaysIn s₃.heap →
      wpAny (model prog w) A (eval elt (compEnvC scope cl C env)) (fun y s₄ => F v y ∧ Keeps s₃ s₄) E' s₃) ∧
    (∀ D h' tk ys n, s.heap.get? D = none → IsL h' D ys n → Paired F items.toList ys.toList → s.heap.StaysIn h' → Q (.ref D) { s with heap := h', toks := tk })
theorem compL {elt iter : Expr} {x : Str} {px : Pos} {scope : Scope} {cl : List (Str × Addr)} {pos : Pos} {Q : Value → Shared → Prop} (F : Value → Value → Prop)
    (hh : A.handled = none) (hclos : closureFor scope env = pure cl) (hcell : ∀ y ∈ scope.names, y.2 ≠ .cell) (hkind : scope.kind = .function)
    (hnames : ∀ y ∈ scope.names, y.2 = .local → scope.names.lookup y.1 = some .local) (hx : scope.names.lookup x = some .local)
    (h : wpAny (model prog w) A (eval iter env) (CompSrcL prog w A env scope cl x elt F Q) E s)
    (hs : ∀ x, foldedSetIterable iter env x = pure x := by intro _; rfl) :
    wpAny (model prog w) A (eval (.ListComp elt [⟨.Name x px, iter, [], 0⟩] scope pos) env) Q E s := by
  refine wpAny_ListComp_free (fun _ => true) F hclos hcell hkind hnames hx (wpAny_mono h (fun xv s hc => ?_) fun _ _ e => e) hs
  obtain ⟨l, items, rfl, hl, hsz, helt, hQ⟩ := hc
  obtain ⟨ol, hol, _⟩ := id hl
  have hlt : l < s.heap.objs.size := Heap.lt_size hol
  have notI : ∀ b, b < s.heap.objs.size → b ∉ [s.heap.objs.size] := fun b hb hm => absurd ((List.mem_singleton.mp hm) ▸ hb) (Nat.lt_irrefl _)
  refine wpAny_pyIter_list hl ?_
  refine ⟨s.heap.objs.size, [s.heap.objs.size, l], [s.heap.objs.size], items.size, (fun i v => items[i]? = some v), _, rfl, Walks.list hh s.heap.objs.size l (Nat.ne_of_lt hlt) items, hsz,
    ⟨⟨_, Heap.get?_push_size _ rfl, rfl, rfl⟩, hl.push _⟩, ?_, ⟨?_, ?_⟩, ?_⟩
  · intro b hb
    show b < (s.heap.push _).objs.size
    rw [Heap.size_push]
    rcases List.mem_cons.mp hb with rfl | hb
    · exact Nat.lt_succ_self _
    · exact (List.mem_singleton.mp hb) ▸ Nat.lt_succ_of_lt hlt
  · intro C i v s₃ m₃ E' _ hP hn hm hold _
    exact wpAny_tests_nil ⟨rfl, s₃.heap, s₃.toks, rfl, fun _ _ e => e⟩
  · intro C i v s₃ m₃ E' hC hP _ hn hm hold _
    refine helt C i v s₃ m₃ E' ?_ hP hn hm fun b o e => hold b o (notI b (Heap.lt_size e)) (Heap.get?_push_of_some _ e)
    have : (s.heap.push { cls := .type "list_iterator", data := .fields #[.ref l, .int 0 0] }).objs.size ≤ C := hC
    rw [Heap.size_push] at this; exact Nat.le_of_succ_le this
  · intro D h' tk ys vs hnew hlD hpl hlen hP hF hk
    obtain ⟨n, hpl⟩ := hpl
    rw [show (vs.filter fun _ => true) = vs from by simp, list_of_places hlen hP] at hF
    refine hQ D h' tk ys n ?_ hpl hF fun b o e => hk b o (notI b (Heap.lt_size e)) (Heap.get?_push_of_some _ e)
    cases e : s.heap.get? D with
    | none => rfl
    | some o' => rw [Heap.get?_push_of_some _ e] at hnew; cases hnew
end
section
variable {M : Model} {A : Around} {E : Value → Shared → Prop} {s : Shared} {env : Env} {n : Str} {pos : Pos} {v : Value} {c : Addr} {m mg mb : Str → Option Value} {Q : Value → Shared → Prop}
theorem nmL (hn : s.heap.Ns env.locals m) (hv : m n = some v) (h : Q v s) (hk : env.scope.kind = .function := by rfl) (hl : env.kindOf n = some .local := by rfl) (hd : (n == ("__debug__" : Str)) = false := by decide) :
    wpAny M A (eval (.Name n pos) env) Q E s := wpAny_Name (wpAny_loadName_local hk hl hn hv h) hd
theorem nmC (hc : env.cells.lookup n = some c) (hv : s.heap.IsCell c (some v)) (h : Q v s) (hk : env.scope.kind = .function := by rfl) (hl : env.kindOf n = some .cell := by rfl) (hd : (n == ("__debug__" : Str)) = false := by decide) :
    wpAny M A (eval (.Name n pos) env) Q E s := wpAny_Name (wpAny_loadName_cell hk hl hc hv h) hd
theorem nmF (hc : env.cells.lookup n = some c) (hv : s.heap.IsCell c (some v)) (h : Q v s) (hk : env.scope.kind = .function := by rfl) (hl : env.kindOf n = some .free := by rfl) (hd : (n == ("__debug__" : Str)) = false := by decide) (he : (n == ("__classdict__" : Str)) = false := by decide) :
    wpAny M A (eval (.Name n pos) env) Q E s := wpAny_Name (wpAny_loadName_free hk hl hc hv h he) hd
theorem nmG (hg : s.heap.Ns env.globals mg) (hv : mg n = some v) (h : Q v s) (hk : env.scope.kind = .function := by rfl) (hl : env.kindOf n = some .globalImplicit := by rfl) (hd : (n == ("__debug__" : Str)) = false := by decide) :
    wpAny M A (eval (.Name n pos) env) Q E s := Calls.Name_function_global hk hl (Calls.loadGlobal_global hg hv h) hd
theorem nmB (hg : s.heap.Ns env.globals mg) (hm : mg n = none) (hb : s.heap.Ns env.builtins mb) (hv : mb n = some v) (h : Q v s) (hk : env.scope.kind = .function := by rfl) (hl : env.kindOf n = some .globalImplicit := by rfl) (hd : (n == ("__debug__" : Str)) = false := by decide) :
    wpAny M A (eval (.Name n pos) env) Q E s := Calls.Name_function_global hk hl (Calls.loadGlobal_builtin hg hm hb hv h) hd
end
end Mine
end
-- part P1Int2AP
section
open PySem PySem.W PyProof.Rows PySem.Calls
set_option Elab.async false
set_option maxRecDepth 100000
set_option maxHeartbeats 8000000
set_option linter.all false
namespace Mine
theorem walkOff2 : True := by w_top off; trivial
local macro_rules | `(tactic| walk_at "pad") => `(tactic| skip)
local macro_rules | `(tactic| walk_at "pad") => `(tactic| skip)
-- LINES
local macro_rules | `(tactic| walk_at "subscriptTail") => `(tactic| ((with_reducible show wpAny _ _ (subscriptTail _ (Expr.Slice _ _ none _) (Value.bytes _ _) (Value.ref _)) _ _ _); (rename Fr _ _ _ _ => F'); (rename News _ _ _ _ => N'); (refine sliceB (s := ⟨_, _, _, _, _⟩) F' N' (by constructor) (by constructor) ?_ ?_); rotate_left; intro _ _ _ F' N'))
local macro_rules | `(tactic| walk_at "binaryOp Add bytes bytes") => `(tactic| ((refine KBy.add_bytes ?_ ?_); rotate_left; intro _ _))
local macro_rules | `(tactic| walk_at "mine") => `(tactic| repeat' ((fail_if_success (with_reducible show wpAny _ _ (exec (Stmt.While _ _ _ _) _) _ _ _)); (first | walk1 | (dsimp only; walk1) | (dsimp only at *; walk1))))
-- END LINES
def apN (n : Nat) : List UInt8 := if h : n = 0 then [] else apN (n / 16) ++ [UInt8.ofNat (65 + n % 16)]
termination_by n
decreasing_by omega
theorem apN_zero : apN 0 = [] := by unfold apN; simp
theorem apN_pos {n : Nat} (h : n ≠ 0) : apN n = apN (n / 16) ++ [UInt8.ofNat (65 + n % 16)] := by
  rw [apN]; simp [h]
def APs : List UInt8 := [65, 66, 67, 68, 69, 70, 71, 72, 73, 74, 75, 76, 77, 78, 79, 80]

theorem apN_len {j : Nat} : ∀ {n : Nat}, n < 16 ^ j → (apN n).length ≤ j := by
  induction j with
  | zero => intro n h; have : n = 0 := by simpa using h
            subst this; rw [apN_zero]; exact Nat.le_refl _
  | succ j ih =>
    intro n h
    by_cases h0 : n = 0
    · subst h0; rw [apN_zero]; exact Nat.zero_le _
    · rw [apN_pos h0, List.length_append, List.length_singleton]
      have : n / 16 < 16 ^ j := by rw [Nat.div_lt_iff_lt_mul (by decide)]; rw [Nat.pow_succ] at h; exact h
      have := ih this
      omega
theorem div16 (k : Nat) : (k : Int).fdiv 16 = ((k / 16 : Nat) : Int) := by
  rw [Int.fdiv_eq_ediv_of_nonneg _ (by decide)]; rfl
theorem mod16 (k : Nat) : (k : Int).fmod 16 = ((k % 16 : Nat) : Int) := by
  rw [Int.fmod_eq_emod_of_nonneg _ (by decide)]; rfl
theorem cut16 (k : Nat) : List.take ((some ((k : Int).fmod 16 + 1)).elim APs.toArray.size (clipAt APs.toArray.size) - (some ((k : Int).fmod 16)).elim 0 (clipAt APs.toArray.size)) (List.drop ((some ((k : Int).fmod 16)).elim 0 (clipAt APs.toArray.size)) APs.toArray.toList) = [UInt8.ofNat (65 + k % 16)] := by
  rw [mod16]
  have h : k % 16 < 16 := Nat.mod_lt _ (by decide)
  generalize k % 16 = j at h
  have : ∀ j : Fin 16, List.take ((some (((j.val : Nat) : Int) + 1)).elim APs.toArray.size (clipAt APs.toArray.size) - (some ((j.val : Nat) : Int)).elim 0 (clipAt APs.toArray.size)) (List.drop ((some ((j.val : Nat) : Int)).elim 0 (clipAt APs.toArray.size)) APs.toArray.toList) = [UInt8.ofNat (65 + j.val)] := by decide +kernel
  exact this ⟨j, h⟩
theorem int2ap {w : World} {mg mb} {mean} {A : Around} {s : Shared} {Q E : Value → Shared → Prop} {n : Int} {t : Tok}
   (X : (hd.heap_39 w.params).In s.heap) (T : Top hd.view_39 (looseW hd.view_39 []) mean mg mb s.heap)
   (hdp : A.depth + 2 < recursionLimit) (hu : A.units + 10 < cLine) (hh : A.handled = none)
   (hn : n.natAbs < 16 ^ 8)
   (hret : ∀ t h' tk', s.heap.StaysIn h' → Q (.bytes (apN n.natAbs).toArray t) { s with heap := h', toks := tk' }) :
   wpAny (model Challenge.rw_op0003_01.row.prog w) A (call (.ref 28) [.int n t]) Q E s := by
  obtain ⟨hdl, dp, fr, gd, un⟩ := A
  dsimp only at hdp hu hh
  subst hh
  revert X T; k_fill; intro X T
  refine wpAny_call ?_
  refine enterP X T.nolimit (by k_is) (by k_is) (by dsimp only; omega) (BindsTo.of_eq (binds := [(Str.ofString "num", .int n t)]) rfl) (locs rfl) ?_ rfl rfl rfl (by decide)
  intro h₁ tk m hm F
  have F := fr1 (x1 := Str.ofString "num") (v1 := .int n t) F (hm _)
  clear hm
  have N := News.nil (h₀ := s.heap) (L := s.heap.objs.size) (h := h₁)
  walk_at "mine"
  rename Fr _ _ _ _ => F9
  rename News _ _ _ _ => N9
  have e0 : (if n < 0 then -n else n) = ((n.natAbs : Nat) : Int) := by omega
  rw [e0] at F9
  refine While_inv2 (fun k m _ => ∃ (v : List UInt8) (t u a : Tok), m (Str.ofString "num") = some (.int k t) ∧ m (Str.ofString "val") = some (.bytes v.toArray u) ∧ m (Str.ofString "AP") = some (.bytes APs.toArray a) ∧ apN k ++ v = apN n.natAbs) (n₀ := n.natAbs) F9 N9 ?_ ?_
  · exact ⟨[], _, _, _, rfl, rfl, rfl, by simp⟩
  · rintro k m₁ ns₁ h₁ tk₁ F₁ N₁ ⟨v, t, u, a, e1, e2, e3, e4⟩
    have F₂ := fr3 F₁ e1 e2 e3
    clear F₁ F9 N9
    walk_at "mine"
    · rename Fr _ _ _ _ => F7
      rename News _ _ _ _ => N7
      rename ((_ : Int) ≠ 0) => hk
      have hk' : k ≠ 0 := by omega
      simp only [div16, List.append_toArray] at F7
      exact ⟨_, _, _, _, k / 16, rfl, F7, N7, by omega, _, _, _, _, rfl, rfl, rfl, by rw [← e4, apN_pos hk', List.append_assoc]; exact congrArg (fun z => apN (k / 16) ++ (z ++ v)) (cut16 k)⟩
    · rw [cut16]
      have h8 := apN_len hn
      rw [← e4, List.length_append] at h8
      simp only [List.size_toArray, List.length_singleton]
      omega
    · rename ((_ : Int) = 0) => hk
      have hk' : k = 0 := by omega
      subst hk'
      rename Fr _ _ _ _ => F7
      rw [apN_zero, List.nil_append] at e4
      rw [← e4] at hret
      exact hret _ _ _ F7.keep
end Mine
end
-- part P2Word
section
open PySem PySem.W PyProof.Rows PySem.Calls
set_option Elab.async false
set_option maxRecDepth 100000
set_option maxHeartbeats 8000000
set_option linter.all false
namespace Mine
theorem walkOff3 : True := by w_top off; trivial
local macro_rules | `(tactic| walk_at "pad") => `(tactic| skip)
local macro_rules | `(tactic| walk_at "pad") => `(tactic| skip)
local macro_rules | `(tactic| walk_at "pad") => `(tactic| skip)
local macro_rules | `(tactic| walk_at "subscriptTail") => `(tactic| ((with_reducible show wpAny _ _ (subscriptTail _ (Expr.Slice _ _ none _) (Value.bytes _ _) (Value.ref _)) _ _ _); (rename Fr _ _ _ _ => F'); (rename News _ _ _ _ => N'); (refine sliceB (s := ⟨_, _, _, _, _⟩) F' N' (by constructor) (by constructor) ?_ ?_); rotate_left; intro _ _ _ F' N'))
local macro_rules | `(tactic| walk_at "subscriptTail") => `(tactic| ((with_reducible show wpAny _ _ (subscriptTail _ _ (Value.ref _) (Value.int _ _)) _ _ _); (rename Fr _ _ _ _ => F'); (refine itemL (Heap.IsList.at (by assumption) (Fr.keep F' _)) (by assumption) ?_ ?_ ?_ ?_); (rotate_left 3); intro _))
local macro_rules | `(tactic| walk_at "binaryOp Add bytes bytes") => `(tactic| ((refine KBy.add_bytes ?_ ?_); rotate_left; intro _ _))
local macro_rules | `(tactic| walk_at "mine") => `(tactic| repeat' ((fail_if_success (with_reducible show wpAny _ _ (exec (Stmt.While _ _ _ _) _) _ _ _)); (fail_if_success (with_reducible show wpAny _ _ (exec (Stmt.For _ _ _ _ _) _) _ _ _)); (fail_if_success (with_reducible show wpAny _ _ (pyIter _) _ _ _)); (fail_if_success (with_reducible show wpAny _ _ (call (Value.ref _) _) _ _ _)); (first | walk1 | (dsimp only; walk1) | (dsimp only at *; walk1))))

def numOf (head : Int) (letters row : List Int) : Int := row.foldl (fun n p => n * 16 + letters.getD p.toNat 0) head
theorem numOf_snoc (head : Int) (letters row : List Int) (p : Int) : numOf head letters (row ++ [p]) = numOf head letters row * 16 + letters.getD p.toNat 0 := by
  simp [numOf]
def wordB (head : Int) (letters row : List Int) : List UInt8 := apN (numOf head letters row).natAbs
theorem lawWord {w : World} {mg mb} {mean} {A : Around} {s : Shared} {Q E : Value → Shared → Prop} {head : Int} {th : Tok} {r l : Addr} {rs ls : List Value} {row letters : List Int}
   (X : (hd.heap_39 w.params).In s.heap) (T : Top hd.view_39 (looseW hd.view_39 []) mean mg mb s.heap)
   (hdp : A.depth + 3 < recursionLimit) (hu : A.units + 20 < cLine) (hh : A.handled = none)
   (hr : s.heap.IsList r rs.toArray) (hri : IntsAre rs row) (hl : s.heap.IsList l ls.toArray) (hli : IntsAre ls letters)
   (h0 : 0 ≤ head) (h1 : head < 4096) (hne : row ≠ []) (hlen : row.length ≤ 4) (hp : ∀ p ∈ row, 0 ≤ p ∧ p < (letters.length : Int)) (hlt : ∀ x ∈ letters, 0 ≤ x ∧ x < 16) (hll : letters.length ≤ 16)
   (hret : ∀ t h' tk', s.heap.StaysIn h' → Q (.bytes (wordB head letters row).toArray t) { s with heap := h', toks := tk' }) :
   wpAny (model Challenge.rw_op0003_01.row.prog w) A (call (.ref 45) [.int head th, .ref r, .ref l]) Q E s := by
  obtain ⟨hdl, dp, fr, gd, un⟩ := A
  dsimp only at hdp hu hh
  subst hh
  revert X T; k_fill; intro X T
  refine wpAny_call ?_
  refine enterP X T.nolimit (by k_is) (by k_is) (by dsimp only; omega) (BindsTo.of_eq (binds := [(Str.ofString "head", .int head th), (Str.ofString "row", .ref r), (Str.ofString "letters", .ref l)]) rfl) (locs rfl) ?_ rfl rfl rfl (by decide)
  intro h₁ tk m hm F
  have F := fr3 (x1 := Str.ofString "head") (v1 := .int head th) (x2 := Str.ofString "row") (v2 := .ref r) (x3 := Str.ofString "letters") (v3 := .ref l) F (hm _) (hm _) (hm _)
  clear hm
  have N := News.nil (h₀ := s.heap) (L := s.heap.objs.size) (h := h₁)
  walk_at "mine"
  rename Fr _ _ _ _ => F9
  rename News _ _ _ _ => N9
  refine For_invV s.heap rfl rfl ?_
  walk_at "mine"
  refine iter_inv (fun i m => (∃ t, m (Str.ofString "number") = some (.int (numOf head letters (row.take i)) t)) ∧ m (Str.ofString "row") = some (.ref r) ∧ m (Str.ofString "letters") = some (.ref l) ∧ 0 ≤ numOf head letters (row.take i) ∧ numOf head letters (row.take i) < 4096 * 16 ^ i) rfl hr hri F9 N9 ⟨⟨_, rfl⟩, rfl, rfl, by simpa [numOf] using h0, by simpa [numOf] using h1⟩ ?_ ?_
  · rintro i n t m₁ h tk own hn ⟨⟨t', e1⟩, e2, e3, b0, b1⟩ F₁ N₁
    have F₂ := fr3 (x1 := Str.ofString "place") (v1 := .int n t) (x2 := Str.ofString "number") (x3 := Str.ofString "letters") F₁ rfl e1 e3
    clear F₁ F9 N9
    walk_at "mine"
    · rename Fr _ _ _ _ => F7
      rename News _ _ _ _ => N7
      have hi : i < row.length := by
        have := (List.getElem?_eq_some_iff.mp hn).1; exact this
      have e : numOf head letters (row.take (i + 1)) = numOf head letters (row.take i) * 16 + letters.getD n.toNat 0 := by
        rw [List.take_add_one, hn]; exact numOf_snoc ..
      have hl7 := hlt (letters.getD n.toNat 0) (by
        have := hp n (List.mem_of_getElem? hn)
        have hj : n.toNat < letters.length := by omega
        simp only [List.getD, List.getElem?_eq_getElem hj, Option.getD_some]
        exact List.getElem_mem hj)
      exact InvEnd.intro F7 N7 (fun p q => q) ⟨⟨_, by rw [e]; rfl⟩, e2, rfl, by omega, by rw [Int.pow_succ]; omega⟩
    · exact (hp n (List.mem_of_getElem? hn)).1
    · exact (hp n (List.mem_of_getElem? hn)).2
  · rintro m₁ h tk ⟨⟨t', e1⟩, e2, e3, b0, b1⟩ F₁ N₁
    have F₂ := fr2 F₁ e1 e2
    clear F₁ F9 N9
    rw [List.take_length] at F₂ b0 b1 e1
    have b2 : numOf head letters row < 268435456 := by
      have : (16 : Int) ^ row.length ≤ 16 ^ 4 := by
        have : (16 : Nat) ^ row.length ≤ 16 ^ 4 := Nat.pow_le_pow_right (by decide) hlen
        exact_mod_cast this
      omega
    walk_at "mine"
    · rename Fr _ _ _ _ => F7
      refine int2ap (X.keeps F7.keep) (T.keeps F7.keep) (by simp only [Around.deeper]; omega) (by simp only [Around.deeper]; omega) rfl (by omega) fun t h' tk' st => ?_
      have := hret t h' tk' fun b o e => st b o (F7.keep b o e)
      rw [wordB, ← Int.natAbs_neg] at this
      exact this
    · rename Fr _ _ _ _ => F7
      refine int2ap (X.keeps F7.keep) (T.keeps F7.keep) (by simp only [Around.deeper]; omega) (by simp only [Around.deeper]; omega) rfl (by omega) fun t h' tk' st => ?_
      exact hret t h' tk' fun b o e => st b o (F7.keep b o e)
    · have := List.length_pos_iff.mpr hne
      omega
end Mine
end
-- part P3Spell
section
open PySem PySem.W PyProof.Rows PySem.Calls
set_option Elab.async false
set_option maxRecDepth 100000
set_option maxHeartbeats 8000000
set_option linter.all false
namespace Mine
theorem walkOff4 : True := by w_top off; trivial
local macro_rules | `(tactic| walk_at "pad") => `(tactic| skip)
local macro_rules | `(tactic| walk_at "pad") => `(tactic| skip)
local macro_rules | `(tactic| walk_at "pad") => `(tactic| skip)
local macro_rules | `(tactic| walk_at "pad") => `(tactic| skip)
local macro_rules | `(tactic| walk_at "subscriptTail") => `(tactic| ((with_reducible show wpAny _ _ (subscriptTail _ (Expr.Slice _ _ none _) (Value.bytes _ _) (Value.ref _)) _ _ _); (rename Fr _ _ _ _ => F'); (rename News _ _ _ _ => N'); (refine sliceB (s := ⟨_, _, _, _, _⟩) F' N' (by constructor) (by constructor) ?_ ?_); rotate_left; intro _ _ _ F' N'))
local macro_rules | `(tactic| walk_at "subscriptTail") => `(tactic| ((with_reducible show wpAny _ _ (subscriptTail _ _ (Value.ref _) (Value.int _ _)) _ _ _); (rename Fr _ _ _ _ => F'); (refine itemL (Heap.IsList.at (by assumption) (Fr.keep F' _)) (by assumption) ?_ ?_ ?_ ?_); (rotate_left 3); intro _))
local macro_rules | `(tactic| walk_at "binaryOp Add bytes bytes") => `(tactic| ((refine KBy.add_bytes ?_ ?_); rotate_left; intro _ _))
local macro_rules | `(tactic| walk_at "mine") => `(tactic| repeat' ((fail_if_success (with_reducible show wpAny _ _ (exec (Stmt.While _ _ _ _) _) _ _ _)); (fail_if_success (with_reducible show wpAny _ _ (exec (Stmt.For _ _ _ _ _) _) _ _ _)); (fail_if_success (with_reducible show wpAny _ _ (pyIter _) _ _ _)); (fail_if_success (with_reducible show wpAny _ _ (call (Value.ref _) _) _ _ _)); (fail_if_success (with_reducible show wpAny _ _ (eval (Expr.ListComp _ _ _ _) _) _ _ _)); (first | walk1 | (dsimp only; walk1) | (dsimp only at *; walk1))))
section
open Builtin Builtin._codecs
theorem encode2_tree (x : Str) (t u : Tok) : «str.encode» ⟨[.str x t, .str (Str.ofString "ascii") u], []⟩ = (do ret (← encodeRoad "str.encode" (.str x t) x (Str.ofString "ascii") none)) := by kernel_rfl
theorem encodeRoad_ascii (id : String) (self : Value) (x : Str) (errors : Option Str) : encodeRoad id self x (Str.ofString "ascii") errors = (do mkBytes (← encodeNarrow id asciiCodec errors self x)) := by
  first | rfl | (unfold encodeRoad; rfl)
theorem foldl_ascii (l : List Nat) (acc : Array UInt8) : l.foldl (fun acc y => acc ++ (asciiCodec.bytesOf y).toArray) acc = acc ++ (l.map (·.toUInt8)).toArray := by
  induction l generalizing acc with
  | nil => simp
  | cons a l ih => rw [List.foldl_cons, ih]; simp [asciiCodec]
theorem forIn_two {α β : Type} {f : α → β → Sem (ForInStep β)} {b0 b1 : β} (h0 : ∀ x, f x b0 = pure (.yield b1)) (h1 : ∀ x, f x b1 = pure (.done b1)) : ∀ l : List α, l ≠ [] → forIn l b0 f = pure b1
  | [], h => absurd rfl h
  | [a], _ => by rw [List.forIn_cons, h0]; rfl
  | a :: b :: l, _ => by
    rw [List.forIn_cons, h0, pure_bind]
    show forIn (b :: l) b1 f = pure b1
    rw [List.forIn_cons, h1]; rfl
theorem narrow_ascii (id : String) (self : Value) (x : Str) (hx : ∀ c ∈ x.cps, c < 128) (hsz : x.cps.size ≤ 1000) : encodeNarrow id asciiCodec none self x = pure (x.cps.map (·.toUInt8)) := by
  obtain ⟨cs⟩ := x
  dsimp only at hx hsz
  have hbad : (cs.findIdx? asciiCodec.bad) = none := by
    rw [Array.findIdx?_eq_none_iff]
    intro c hc
    have := hx c hc
    simp [asciiCodec]; omega
  by_cases h0 : cs.size = 0
  · have : cs = #[] := by simpa using h0
    subst this; kernel_rfl
  · unfold encodeNarrow
    dsimp only
    rw [Std.Legacy.Range.forIn_eq_forIn_range', forIn_two (b1 := (cs.size, cs.map (·.toUInt8), {}))]
    · rfl
    · intro _
      have h1 : ¬ (0 > sizeLine) := by omega
      have h2 : cs[0]? = some cs[0] := by first | (simp; done) | (simp; omega)
      have h3 : asciiCodec.bad cs[0] = false := by
        have := hx cs[0] (Array.getElem_mem _); simp [asciiCodec]; omega
      simp only [List.size_toArray, List.length_nil, h1, if_false, h2, h3, Bool.not_false, if_true, Array.extract_size, hbad, Option.getD_none, Nat.zero_add]
      have h4 : Array.foldl (fun acc y => acc ++ (asciiCodec.bytesOf y).toArray) #[] cs = cs.map (·.toUInt8) := by
        obtain ⟨l⟩ := cs
        simp only [List.foldl_toArray', foldl_ascii]
        simp
      rw [h4]
    · intro _
      have h1 : ¬ (cs.size > sizeLine) := by rw [sizeLine_eq]; omega
      have h2 : cs[cs.size]? = none := by simp
      simp only [Array.size_map, h1, if_false, h2]
    · simp [Std.Legacy.Range.size, Str.length]; exact fun h => h0 (by simp [h])
theorem meets_encode (x : Str) (t u : Tok) (hx : ∀ c ∈ x.cps, c < 128) (hsz : x.cps.size ≤ 1000) :
    Meets («str.encode» ⟨[.str x t, .str (Str.ofString "ascii") u], []⟩) (fun _ R s => ∀ t' k, R (.ok (.ret (.bytes (x.cps.map (·.toUInt8)) t'))) { s with toks := k }) := by
  refine .of_wp fun prog w A R s h => ?_
  rw [encode2_tree, encodeRoad_ascii, narrow_ascii _ _ _ hx hsz]
  refine wpAny_bind (wpAny_bind (wpAny_pure (wpAny_mkBytes (wpAny_pure ⟨_, rfl, h _ _⟩) ?_)))
  rw [Array.size_map, sizeLine_eq]; omega
theorem call_encode {prog : Program} {w : World} {A : Around} {E Q : Value → Shared → Prop} {s : Shared} {x : Str} {t u : Tok} (hx : ∀ c ∈ x.cps, c < 128) (hsz : x.cps.size ≤ 1000)
    (h : ∀ t' k, Q (.bytes (x.cps.map (·.toUInt8)) t') { s with toks := k }) : wpAny (model prog w) A (call (.builtin "str.encode") [.str x t, .str (Str.ofString "ascii") u]) Q E s :=
  call_meets F.slot_str_encode (typeIs_str _ _ _) F.entry_str_encode (F.args_str_encode_2 _ _) (meets_encode x t u hx hsz) h
end

theorem gm_encode {M : Model} {A : Around} {E : Value → Shared → Prop} {s : Shared} {x : Str} {t : Tok} {pl : Sem Bool} {Q : Value × List Value → Shared → Prop} (h : Q (.builtin "str.encode", [.str x t]) s) : wpAny M A (getMethod (.str x t) (Str.ofString "encode") pl) Q E s := by
  with_reducible exact GM.of (.str x t) (typeIs_str _ _ _) PySem.F.slot_str_encode PySem.F.type_str_encode GM.noRef h
def spellB (ns : List Int) : List UInt8 := ns.map fun v => UInt8.ofNat (65 + v.toNat)
theorem strs_of : ∀ {fs ys : List Value} {ns : List Int}, IntsAre fs ns → Paired (fun v y => ∃ (a : Int) (t u : Tok), v = Value.int a t ∧ y = Value.str ⟨#[65 + a.toNat]⟩ u) fs ys → StrsAre ys (ns.map fun a => ⟨#[65 + a.toNat]⟩)
  | _, _, _, .nil, .nil => .nil
  | _, _, _, .cons n t h, .cons ⟨a, t', u, e1, e2⟩ hp => by
    cases e1; subst e2
    exact .cons _ _ (strs_of h hp)
theorem join_nil (ns : List Int) : Txt.join (Str.ofString "") (ns.map fun a => (⟨#[65 + a.toNat]⟩ : Str)) = ⟨(ns.map fun a => 65 + a.toNat).toArray⟩ := by
  have key : ∀ (l : List Int) (acc : Array Nat), (l.map fun a => (⟨#[65 + a.toNat]⟩ : Str)).foldl (fun acc p => acc ++ (Str.ofString "").cps ++ p.cps) acc = acc ++ (l.map fun a => 65 + a.toNat).toArray := by
    intro l
    induction l with
    | nil => intro acc; simp
    | cons a l ih =>
      intro acc
      rw [List.map_cons, List.foldl_cons, ih, show (Str.ofString "").cps = #[] from by decide +kernel]
      simp
  show Builtin.Str.glued _ _ = _
  unfold Builtin.Str.glued
  cases ns with
  | nil => rfl
  | cons a l =>
    simp only [List.map_cons, List.drop_succ_cons, List.drop_zero, List.headD_cons]
    rw [key]
    simp
theorem lawSpelled {w : World} {mg mb} {mean} {A : Around} {s : Shared} {Q E : Value → Shared → Prop} {f : Addr} {fs : List Value} {ns : List Int}
   (X : (hd.heap_39 w.params).In s.heap) (T : Top hd.view_39 (looseW hd.view_39 []) mean mg mb s.heap)
   (hdp : A.depth + 3 < recursionLimit) (hu : A.units + 20 < cLine) (hh : A.handled = none)
   (hf : s.heap.IsList f fs.toArray) (hfi : IntsAre fs ns)
   (hlen : ns.length ≤ 64) (hb : ∀ x ∈ ns, 0 ≤ x ∧ x < 16)
   (hret : ∀ t h' tk', s.heap.StaysIn h' → Q (.bytes (spellB ns).toArray t) { s with heap := h', toks := tk' }) :
   wpAny (model Challenge.rw_op0003_01.row.prog w) A (call (.ref 50) [.ref f]) Q E s := by
  obtain ⟨hdl, dp, fr, gd, un⟩ := A
  dsimp only at hdp hu hh
  subst hh
  revert X T; k_fill; intro X T
  refine wpAny_call ?_
  refine enterP X T.nolimit (by k_is) (by k_is) (by dsimp only; omega) (BindsTo.of_eq (binds := [(Str.ofString "figures", .ref f)]) rfl) (locs rfl) ?_ rfl rfl rfl (by decide)
  intro h₁ tk m hm F
  have F := fr1 (x1 := Str.ofString "figures") (v1 := .ref f) F (hm _)
  clear hm
  have N := News.nil (h₀ := s.heap) (L := s.heap.objs.size) (h := h₁)
  walk_at "mine"
  refine compL (cl := []) (fun v y => ∃ (a : Int) (t u : Tok), v = .int a t ∧ y = .str ⟨#[65 + a.toNat]⟩ u) rfl (closureFor_none (by decide)) (by decide) rfl (by decide) rfl ?_
  walk_at "mine"
  have hf1 : h₁.IsList f fs.toArray := hf.at fun o e => F.keep _ o e
  refine ⟨f, fs.toArray, rfl, hf1, ?_, ?_, ?_⟩
  · rw [List.size_toArray, hfi.length, sizeLine_eq]; omega
  · intro C i v s₃ m₃ E' hC hv hn hm st
    have hv' : fs[i]? = some v := by simpa using hv
    have hi : i < fs.length := (List.getElem?_eq_some_iff.mp hv').1
    rw [hfi.length] at hi
    obtain ⟨t, ht⟩ := hfi.get i ns[i] (by simp [hi])
    rw [hv'] at ht
    cases ht
    have hb1 := hb ns[i] (List.getElem_mem hi)
    generalize ns[i] = a at hm hb1
    refine Subscript_ (wpAny_Constant_str (nmL hn hm ?_))
    refine tail_any (typeIs_str _ _ _) PySem.F.slot_str_getitem.lookup (P.getItem_str (c := 65 + a.toNat) ?_ ?_ ⟨⟨a, t, _, rfl, rfl⟩, _, _, rfl, fun _ _ e => e⟩) (by with_unfolding_all rfl)
    · simp; omega
    · obtain ⟨j, rfl⟩ := Int.eq_ofNat_of_zero_le hb1.1
      have hj : j < 16 := by omega
      have : ∀ j : Fin 16, (seqIndex? ((j.val : Nat) : Int) (Str.ofString "ABCDEFGHIJKLMNOP").length).bind ((Str.ofString "ABCDEFGHIJKLMNOP").cps[·]?) = some (65 + ((j.val : Nat) : Int).toNat) := by decide +kernel
      exact this ⟨j, hj⟩
  · intro D h' tk' ys n hD hys hP st
    have F2 := Fr.keptAll F st
    have N2 := News.nil (h₀ := s.heap) (L := s.heap.objs.size) (h := h')
    clear F N
    walk_at "mine"
    refine join_listW hys.isList (strs_of hfi hP) (by decide) ?_ ?_
    · simp only [List.map_map, List.length_map]
      have : ∀ l : List Int, (l.map (Str.length ∘ fun a => (⟨#[65 + a.toNat]⟩ : Str))).sum = l.length := by
        intro l
        induction l with
        | nil => rfl
        | cons a l ih => simp only [List.map_cons, List.sum_cons, ih, List.length_cons, Function.comp]; show 1 + _ = _; omega
      rw [this]; omega
    · intro t' k
      rw [join_nil]
      refine gm_encode ?_
      walk_at "mine"
      refine call_encode ?_ ?_ ?_
      · intro c hc
        have hc' : c ∈ ns.map fun a => 65 + a.toNat := by simpa using hc
        obtain ⟨a, ha, rfl⟩ := List.mem_map.mp hc'
        have := hb a ha
        omega
      · simp; omega
      · intro t'' k'
        have e : Array.map (fun c => Nat.toUInt8 c) (ns.map fun a => 65 + a.toNat).toArray = (spellB ns).toArray := by
          simp [spellB]
        have := hret t'' h' k' F2.keep
        rw [← e] at this
        exact this
end Mine
end
-- part Base2
section
open PySem PySem.W PyProof.Rows PySem.Calls
set_option Elab.async false
set_option maxRecDepth 100000
set_option maxHeartbeats 8000000
set_option linter.all false
namespace Mine
theorem walkOff5 : True := by w_top off; trivial
local macro_rules | `(tactic| walk_at "pad") => `(tactic| skip)
local macro_rules | `(tactic| walk_at "pad") => `(tactic| skip)
local macro_rules | `(tactic| walk_at "pad") => `(tactic| skip)
local macro_rules | `(tactic| walk_at "pad") => `(tactic| skip)
local macro_rules | `(tactic| walk_at "pad") => `(tactic| skip)

def rangeL (a : Int) (n : Nat) : List Int := (List.range n).map fun (i : Nat) => a + (i : Int)
theorem rangeL_succ (a : Int) (n : Nat) : rangeL a (n + 1) = rangeL a n ++ [a + (n : Int)] := by
  simp [rangeL, List.range_succ]
theorem rangeL_length (a : Int) (n : Nat) : (rangeL a n).length = n := by simp [rangeL]
theorem ints_of_range {a : Int} : ∀ {n : Nat} {vs : List Value}, vs.length = n → (∀ j v, vs[j]? = some v → ∃ t, v = Value.int (a + (j : Nat) * 1) t) → IntsAre vs (rangeL a n) := by
  intro n
  induction n with
  | zero => intro vs hl _; have : vs = [] := List.length_eq_zero_iff.mp hl; subst this; exact .nil
  | succ n ih =>
    intro vs hl hv
    have hne : vs ≠ [] := by intro e; subst e; simp at hl
    obtain ⟨ws, x, rfl⟩ : ∃ ws x, vs = ws ++ [x] := ⟨vs.dropLast, vs.getLast hne, (List.dropLast_concat_getLast hne).symm⟩
    have hlw : ws.length = n := by simpa using hl
    obtain ⟨t, ht⟩ := hv n x (by rw [← hlw]; simp)
    subst ht
    rw [rangeL_succ]
    have h1 := ih hlw fun j v hj => hv j v (by
      have : j < ws.length := (List.getElem?_eq_some_iff.mp hj).1
      rw [List.getElem?_append_left this]; exact hj)
    have app : ∀ {xs ys : List Value} {ms ns : List Int}, IntsAre xs ms → IntsAre ys ns → IntsAre (xs ++ ys) (ms ++ ns) := by
      intro xs ys ms ns hx hy
      induction hx with
      | nil => exact hy
      | cons n t _ ih => exact .cons n t ih
    rw [Int.mul_one]
    exact app h1 (.cons _ _ .nil)
theorem walksLt {prog : Program} {w : World} {A : Around} {I : Addr} {fp wr : List Addr} {n : Nat} {P : Nat → Value → Prop} {St : Nat → Heap → Prop} (W : Walks prog w A I fp wr n P St) : Walks prog w A I fp wr n (fun i v => i < n ∧ P i v) St :=
  ⟨W.sub, W.frame, fun i s Q E hi st hQ => W.item i s Q E hi st fun v h' tk hp hst hk => hQ v h' tk ⟨hi, hp⟩ hst hk, W.done, W.self⟩
section
variable {prog : Program} {w : World} {A : Around} {E : Value → Shared → Prop} {s : Shared} {env : Env}
/-- a comprehension over a range, its variable local, its elements values -/
def CompSrcR (prog : Program) (w : World) (A : Around) (env : Env) (scope : Scope) (cl : List (Str × Addr)) (x : Str) (ifs : List Expr) (elt : Expr) (p : Value → Bool) (F : Value → Value → Prop) (Q : Value → Shared → Prop) (xv : Value) (s : Shared) : Prop :=
  ∃ (r : Addr) (a b : Int) (n : Nat) (t u v : Tok), xv = .ref r ∧ IsRange s.heap r a b 1 t u v ∧ b = a + n ∧ -1000000 ≤ a ∧ a + n ≤ 1000000 ∧ n ≤ sizeLine ∧
    (∀ (C i : Nat) t s₃ m₃ E', s.heap.objs.size ≤ C → i < n → s₃.heap.Ns C m₃ → m₃ x = some (.int (a + i) t) → s.heap.StaysIn s₃.heap →
      wpAny (model prog w) A (forIn ifs true fun c r => if r = true then do let ok ← isTrue c (compEnvC scope cl C env) (eval c (compEnvC scope cl C env)); pure (ForInStep.yield ok) else pure (ForInStep.yield r))
        (fun ok s₄ => ok = p (.int (a + i) t) ∧ Keeps s₃ s₄) E' s₃) ∧
    (∀ (C i : Nat) t s₃ m₃ E', s.heap.objs.size ≤ C → i < n → s₃.heap.Ns C m₃ → m₃ x = some (.int (a + i) t) → s.heap.StaysIn s₃.heap →
      wpAny (model prog w) A (eval elt (compEnvC scope cl C env)) (fun y s₄ => F (.int (a + i) t) y ∧ Keeps s₃ s₄) E' s₃) ∧
    (∀ D h' tk ys nn vs, s.heap.get? D = none → IsL h' D ys nn → IntsAre vs (rangeL a n) → Paired F (vs.filter p) ys.toList → s.heap.StaysIn h' → Q (.ref D) { s with heap := h', toks := tk })
theorem rangeSize_n (a : Int) (n : Nat) : Builtin.Range.rangeSize a (a + n) 1 = (n : Int) := by
  rw [rangeSize_one]; split <;> omega
theorem compR {elt iter : Expr} {x : Str} {px : Pos} {ifs : List Expr} {scope : Scope} {cl : List (Str × Addr)} {pos : Pos} {Q : Value → Shared → Prop} (p : Value → Bool) (F : Value → Value → Prop)
    (hh : A.handled = none) (hclos : closureFor scope env = pure cl) (hcell : ∀ y ∈ scope.names, y.2 ≠ .cell) (hkind : scope.kind = .function)
    (hnames : ∀ y ∈ scope.names, y.2 = .local → scope.names.lookup y.1 = some .local) (hx : scope.names.lookup x = some .local)
    (h : wpAny (model prog w) A (eval iter env) (CompSrcR prog w A env scope cl x ifs elt p F Q) E s)
    (hs : ∀ x, foldedSetIterable iter env x = pure x := by intro _; rfl) :
    wpAny (model prog w) A (eval (.ListComp elt [⟨.Name x px, iter, ifs, 0⟩] scope pos) env) Q E s := by
  refine wpAny_ListComp_free p F hclos hcell hkind hnames hx (wpAny_mono h (fun xv s hc => ?_) fun _ _ e => e) hs
  obtain ⟨r, a, b, n, t, u, v, rfl, hr, rfl, ha, hb, hsz, htest, helt, hQ⟩ := hc
  have notI : ∀ b, b < s.heap.objs.size → b ∉ [s.heap.objs.size] := fun b hb hm => absurd ((List.mem_singleton.mp hm) ▸ hb) (Nat.lt_irrefl _)
  refine wpAny_pyIter_range hr (small_one (by omega) (by omega) (by omega) (by omega)) ?_
  rw [rangeSize_n]
  have hup : ∀ (s₃ : Shared), (∀ b o, b ∉ [s.heap.objs.size] → (s.heap.push { cls := .type "range_iterator", data := .fields #[rawInt a, rawInt n, rawInt 1] }).get? b = some o → s₃.heap.get? b = some o) → s.heap.StaysIn s₃.heap :=
    fun s₃ hold b o e => hold b o (notI b (Heap.lt_size e)) (Heap.get?_push_of_some _ e)
  have hCs : ∀ C : Nat, (s.heap.push { cls := .type "range_iterator", data := .fields #[rawInt a, rawInt n, rawInt 1] }).objs.size ≤ C → s.heap.objs.size ≤ C := fun C hC => by
    rw [Heap.size_push] at hC; exact Nat.le_of_succ_le hC
  refine ⟨s.heap.objs.size, [s.heap.objs.size], [s.heap.objs.size], n, _, _, rfl, walksLt (Walks.range hh s.heap.objs.size a 1 n), hsz, ?_, ?_, ⟨?_, ?_⟩, ?_⟩
  · have : IsRangeIter (s.heap.push { cls := .type "range_iterator", data := .fields #[rawInt a, rawInt n, rawInt 1] }) s.heap.objs.size a n 1 := Heap.get?_push_size _ rfl
    simpa using this
  · intro b hb
    show b < (s.heap.push _).objs.size
    rw [Heap.size_push]
    exact (List.mem_singleton.mp hb) ▸ Nat.lt_succ_self _
  · intro C i v' s₃ m₃ E' hC hP hn hm hold _
    obtain ⟨hi, t', rfl⟩ := hP
    rw [Int.mul_one] at hm ⊢
    exact htest C i t' s₃ m₃ E' (hCs C hC) hi hn hm (hup s₃ hold)
  · intro C i v' s₃ m₃ E' hC hP _ hn hm hold _
    obtain ⟨hi, t', rfl⟩ := hP
    rw [Int.mul_one] at hm ⊢
    exact helt C i t' s₃ m₃ E' (hCs C hC) hi hn hm (hup s₃ hold)
  · intro D h' tk ys vs hnew hlD hpl hlen hP hF hk
    obtain ⟨nn, hpl⟩ := hpl
    refine hQ D h' tk ys nn vs ?_ hpl (ints_of_range hlen fun j v hj => (hP j v hj).2) hF fun b o e => hk b o (notI b (Heap.lt_size e)) (Heap.get?_push_of_some _ e)
    cases e : s.heap.get? D with
    | none => rfl
    | some o' => rw [Heap.get?_push_of_some _ e] at hnew; cases hnew
/-- a comprehension over a range, its variable a cell, its elements new lists -/
def LL (h₀ : Heap) (I D cc : Addr) (G : Int → Array Value → Prop) (h : Heap) (i : Int) (y : Value) : Prop :=
  ∃ T its, y = .ref T ∧ h₀.get? T = none ∧ T ≠ I ∧ T ≠ D ∧ T ≠ cc ∧ h.PlainList T its ∧ G i its
theorem LL.keep {h₀ : Heap} {I D cc : Addr} {G : Int → Array Value → Prop} {h h' : Heap} {i : Int} {y : Value} (x : LL h₀ I D cc G h i y) (hk : ∀ b o, b ≠ I → b ≠ D → b ≠ cc → h.get? b = some o → h'.get? b = some o) : LL h₀ I D cc G h' i y := by
  obtain ⟨T, its, rfl, h1, h2, h3, h4, h5, h6⟩ := x
  exact ⟨T, its, rfl, h1, h2, h3, h4, h5.at fun o e => hk T o h2 h3 h4 e, h6⟩
def LLs (h₀ : Heap) (G : Int → Array Value → Prop) (h : Heap) (i : Int) (y : Value) : Prop := ∃ T its, y = .ref T ∧ h₀.get? T = none ∧ h.PlainList T its ∧ G i its
def CompSrcRC (prog : Program) (w : World) (A : Around) (env : Env) (scope : Scope) (cl : List (Str × Addr)) (x : Str) (elt : Expr) (G : Int → Array Value → Prop) (Q : Value → Shared → Prop) (xv : Value) (s : Shared) : Prop :=
  ∃ (r : Addr) (a b : Int) (n : Nat) (t u v : Tok), xv = .ref r ∧ IsRange s.heap r a b 1 t u v ∧ b = a + n ∧ -1000000 ≤ a ∧ a + n ≤ 1000000 ∧ n ≤ sizeLine ∧
    (∀ (C cc i : Nat) t s₃ E', i < n → s₃.heap.IsCell cc (some (.int (a + i) t)) → s.heap.StaysIn s₃.heap →
      wpAny (model prog w) A (eval elt (compEnvC scope ((x, cc) :: cl) C env)) (fun y s₄ => (∃ T its, y = .ref T ∧ s₃.heap.get? T = none ∧ s₄.heap.PlainList T its ∧ G (a + i) its) ∧ Keeps s₃ s₄) E' s₃) ∧
    (∀ D h' tk ys nn, s.heap.get? D = none → IsL h' D ys nn → Paired (LLs s.heap G h') (rangeL a n) ys.toList → s.heap.StaysIn h' → Q (.ref D) { s with heap := h', toks := tk })
theorem compRC_loop {elt iter : Expr} {x : Str} {px : Pos} {scope : Scope} {cl : List (Str × Addr)} {pos : Pos} {R : Result → Shared → Prop} {G : Int → Array Value → Prop} {H₀ : Heap} {I D C cc : Addr} {a : Int} {n : Nat} {m : Str → Option Value} {ov₀ : Option Value}
    (hh : A.handled = none) (hkind : scope.kind = .function) (hx : (relabel scope env).names.lookup x = some .cell) (hsz : n ≤ sizeLine)
    (hit : IsRangeIter s.heap I a n 1) (hD : s.heap.PlainList D #[]) (hcc : s.heap.IsCell cc ov₀) (hC : s.heap.Ns C m)
    (nID : I ≠ D) (nIc : I ≠ cc) (nDc : D ≠ cc) (nCI : C ≠ I) (nCD : C ≠ D) (nCc : C ≠ cc)
    (fI : H₀.get? I = none) (fD : H₀.get? D = none) (fc : H₀.get? cc = none) (st : H₀.StaysIn s.heap)
    (helt : ∀ (i : Nat) t s₃ E', i < n → s₃.heap.IsCell cc (some (.int (a + i) t)) → H₀.StaysIn s₃.heap →
      wpAny (model prog w) A (eval elt (compEnvC scope ((x, cc) :: cl) C env)) (fun y s₄ => (∃ T its, y = .ref T ∧ s₃.heap.get? T = none ∧ s₄.heap.PlainList T its ∧ G (a + i) its) ∧ Keeps s₃ s₄) E' s₃)
    (hR : ∀ h' tk ys, h'.PlainList D ys → Paired (LL H₀ I D cc G h') (rangeL a n) ys.toList → H₀.StaysIn h' → h'.Ns C m → R (.ok .next) { s with heap := h', toks := tk }) :
    codeAny (model prog w) A (.compLoop (.ListComp elt [⟨.Name x px, iter, [], 0⟩] scope pos) 0 (.ref I) (.ref D) (compEnvC scope ((x, cc) :: cl) C env)) R s := by
  have W := Walks.range (prog := prog) (w := w) hh I a 1 n
  refine codeAny_compLoop_list (fun k s' => ∃ h' tk ys j ov, s' = { s with heap := h', toks := tk } ∧ IsRangeIter h' I (a + (j : Nat) * 1) ((n : Int) - (j : Nat)) 1 ∧ h'.PlainList D ys ∧ h'.IsCell cc ov ∧ h'.Ns C m ∧
    Paired (LL H₀ I D cc G h') (rangeL a j) ys.toList ∧ j ≤ n ∧ k = n + 1 - j ∧ H₀.StaysIn h') ?_ (n + 1) ⟨s.heap, s.toks, #[], 0, ov₀, rfl, by simpa using hit, hD, hcc, hC, .nil, Nat.zero_le _, rfl, st⟩
  rintro k s' ⟨h', tk, ys, j, ov, rfl, hit', hD', hcc', hC', hP, hj, rfl, st'⟩
  by_cases hlt : j < n
  · refine W.item j _ _ _ hlt hit' fun v h₁ tk₁ hPv hst₁ hk₁ => ?_
    obtain ⟨t, rfl⟩ := hPv
    rw [Int.mul_one]
    have k1 : ∀ b o, b ≠ I → h'.get? b = some o → h₁.get? b = some o := fun b o hb e => hk₁ b o (fun hm => hb (List.mem_singleton.mp hm)) e
    have c1 : h₁.IsCell cc ov := by obtain ⟨o, ho, hd⟩ := hcc'; exact ⟨o, k1 cc o (Ne.symm nIc) ho, hd⟩
    refine wpAny_assign_Name (wpAny_storeName_cell (c := cc) (by exact hkind) (by exact hx) (by simp [compEnvC]) c1 fun h₂ c2 sb₂ => ?_)
    have k2 : ∀ b o, b ≠ cc → h₁.get? b = some o → h₂.get? b = some o := fun b o hb e => sb₂.extBut b o hb e
    have st2 : H₀.StaysIn h₂ := fun b o e => k2 b o (fun q => by rw [q, fc] at e; cases e) (k1 b o (fun q => by rw [q, fI] at e; cases e) (st' b o e))
    have it2 : IsRangeIter h₂ I (a + ((j + 1 : Nat) : Int) * 1) ((n : Int) - ((j + 1 : Nat) : Int)) 1 := k2 I _ nIc hst₁
    have D2 : h₂.PlainList D ys := hD'.at fun o e => k2 D o nDc (k1 D o (Ne.symm nID) e)
    have C2 : h₂.Ns C m := hC'.at' fun o e => k2 C o nCc (k1 C o nCI e)
    refine wpAny_mono (helt j t _ _ hlt c2 st2) (fun y s₄ h₄ => ?_) fun _ _ e => e
    obtain ⟨⟨T, its, rfl, hTn, hT, hG⟩, h₄, tk₄, rfl, k4⟩ := h₄
    have nTI : T ≠ I := ne_of_none_some hTn it2
    have nTD : T ≠ D := by obtain ⟨_, ho⟩ := D2; exact ne_of_none_some hTn ho
    have nTc : T ≠ cc := by obtain ⟨_, ho, _⟩ := c2; exact ne_of_none_some hTn ho
    have hT0 : H₀.get? T = none := by
      cases e : H₀.get? T with
      | none => rfl
      | some o => exact absurd rfl (ne_of_none_some hTn (st2 T o e))
    have hys : ys.size ≤ sizeLine := by
      have e1 := hP.length
      rw [rangeL_length] at e1
      have e4 : ys.toList.length = ys.size := by simp
      omega
    refine wpAny_list_append_plain (hsz := hys) (D2.at fun o e => k4 _ o e) fun h₅ hl₅ sb₅ => ?_
    have k5 : ∀ b o, b ≠ D → h₄.get? b = some o → h₅.get? b = some o := fun b o hb e => sb₅.extBut b o hb e
    refine ⟨n + 1 - (j + 1), by omega, h₅, tk₄, ys.push (.ref T), j + 1, some (.int (a + j) t), rfl, k5 I _ nID (k4 I _ it2), hl₅, ?_, ?_, ?_, hlt, rfl, ?_⟩
    · obtain ⟨o, ho, hd⟩ := c2; exact ⟨o, k5 cc o (Ne.symm nDc) (k4 cc o ho), hd⟩
    · exact (C2.keeps k4).at' fun o e => k5 C o nCD e
    · rw [rangeL_succ]
      have hP5 := hP.mono (F' := LL H₀ I D cc G h₅) fun i y hy => hy.keep fun b o hbI hbD hbc e => k5 b o hbD (k4 b o (k2 b o hbc (k1 b o hbI e)))
      simpa using Paired.snoc hP5 ⟨T, its, rfl, hT0, nTI, nTD, nTc, hT.at fun o e => k5 T o nTD e, hG⟩
    · exact fun b o e => k5 b o (fun q => by rw [q, fD] at e; cases e) (k4 b o (st2 b o e))
  · have hin : j = n := by omega
    subst hin
    refine W.done _ _ _ hit' fun h₁ tk₁ hk₁ => ?_
    have k1 : ∀ b o, b ≠ I → h'.get? b = some o → h₁.get? b = some o := fun b o hb e => hk₁ b o (fun hm => hb (List.mem_singleton.mp hm)) e
    exact hR h₁ tk₁ ys (hD'.at fun o e => k1 D o (Ne.symm nID) e) (hP.mono fun i y hy => hy.keep fun b o hbI _ _ e => k1 b o hbI e)
      (fun b o e => k1 b o (fun q => by rw [q, fI] at e; cases e) (st' b o e)) (hC'.at' fun o e => k1 C o nCI e)
theorem compRC {elt iter : Expr} {x : Str} {px : Pos} {scope : Scope} {cl : List (Str × Addr)} {pos : Pos} {Q : Value → Shared → Prop} (G : Int → Array Value → Prop)
    (hh : A.handled = none) (hclos : closureFor scope env = pure cl) (hkind : scope.kind = .function)
    (hnames : ∀ y ∈ scope.names, y.2 = .local → scope.names.lookup y.1 = some .local)
    (hcells : ∀ n, cellsFrom n scope.names cl = (x, n) :: cl) (hpush : ∀ h, pushCells h scope.names = h.push { cls := .type "cell", data := .cell none })
    (hx : (relabel scope env).names.lookup x = some .cell)
    (h : wpAny (model prog w) A (eval iter env) (CompSrcRC prog w A env scope cl x elt G Q) E s)
    (hs : ∀ x, foldedSetIterable iter env x = pure x := by intro _; rfl) :
    wpAny (model prog w) A (eval (.ListComp elt [⟨.Name x px, iter, [], 0⟩] scope pos) env) Q E s := by
  rw [eval_ListComp]
  refine wpAny_comprehension_free (use := none) rfl hs hclos hkind hnames (wpAny_mono h (fun xv s hc => ?_) fun _ _ e => e)
  obtain ⟨r, a, b, n, t, u, v, rfl, hr, rfl, ha, hb, hsz, helt, hQ⟩ := hc
  refine wpAny_pyIter_range hr (small_one (by omega) (by omega) (by omega) (by omega)) ?_
  rw [rangeSize_n]
  refine wpAny_newObj_type ?_
  simp only [newFunctionEnv, Option.isSome_some, if_true]
  refine wpAny_bind (wpAny_alloc ?_)
  refine wpAny_bind (wpAny_layCells _ (fun name kind cells => by cases hkc : kind == NameKind.cell <;> simp [hkc]) _ _ _ _ ?_)
  rw [hcells, hpush]
  refine wpAny_bind (m := forIn ([] : List (Str × Value)) PUnit.unit _) (by
    rw [List.forIn_nil]
    refine wpAny_pure (wpAny_pure ?_)
    dsimp only
    generalize hH1 : s.heap.push { cls := .type "range_iterator", data := .fields #[rawInt a, rawInt n, rawInt 1] } = H1
    generalize hH2 : H1.push { cls := .type "list", data := .seq ([] : List Value).toArray } = H2
    generalize hH3 : H2.push { cls := .type "dict", data := .dict #[] } = H3
    generalize hH4 : H3.push { cls := .type "cell", data := .cell none } = H4
    have z1 : H1.objs.size = s.heap.objs.size + 1 := by rw [← hH1, Heap.size_push]
    have z2 : H2.objs.size = s.heap.objs.size + 2 := by rw [← hH2, Heap.size_push, z1]
    have z3 : H3.objs.size = s.heap.objs.size + 3 := by rw [← hH3, Heap.size_push, z2]
    have u1 : ∀ b o, s.heap.get? b = some o → H1.get? b = some o := fun b o e => hH1 ▸ Heap.get?_push_of_some _ e
    have u2 : ∀ b o, H1.get? b = some o → H2.get? b = some o := fun b o e => hH2 ▸ Heap.get?_push_of_some _ e
    have u3 : ∀ b o, H2.get? b = some o → H3.get? b = some o := fun b o e => hH3 ▸ Heap.get?_push_of_some _ e
    have u4 : ∀ b o, H3.get? b = some o → H4.get? b = some o := fun b o e => hH4 ▸ Heap.get?_push_of_some _ e
    have gI : IsRangeIter H4 s.heap.objs.size a n 1 := u4 _ _ (u3 _ _ (u2 _ _ (hH1 ▸ Heap.get?_push_size _ rfl)))
    have gD : H4.PlainList H1.objs.size #[] := ⟨0, u4 _ _ (u3 _ _ (hH2 ▸ Heap.get?_push_size _ rfl))⟩
    have gC : H4.Ns H2.objs.size fun _ => none := ((hH3 ▸ Heap.Ns.new H2 (.type "dict") : H3.Ns H2.objs.size fun _ => none)).keeps u4
    have gc : H4.IsCell H3.objs.size none := ⟨_, hH4 ▸ Heap.get?_push_size _ rfl, rfl⟩
    have fresh : ∀ b : Nat, s.heap.objs.size ≤ b → s.heap.get? b = none := fun b hb => by
      cases e : s.heap.get? b with
      | none => rfl
      | some o => exact absurd (Heap.lt_size e) (Nat.not_lt.mpr hb)
    have ne' : ∀ {p q : Nat}, p < q → p ≠ q := fun h => Nat.ne_of_lt h
    have loop : codeAny (model prog w) A (.compLoop (.ListComp elt [⟨.Name x px, iter, [], 0⟩] scope pos) 0 (.ref s.heap.objs.size) (.ref H1.objs.size) (compEnvC scope ((x, H3.objs.size) :: cl) H2.objs.size env))
        (compPost (model prog w) A E none Q (.ref H1.objs.size) H2.objs.size) { s with heap := H4 } := by
      refine compRC_loop (H₀ := s.heap) (G := G) hh hkind hx hsz gI gD gc gC (ne' (by omega)) (ne' (by omega)) (ne' (by omega)) (Ne.symm (ne' (by omega))) (Ne.symm (ne' (by omega))) (ne' (by omega))
        (fresh _ (Nat.le_refl _)) (fresh _ (by omega)) (fresh _ (by omega)) (fun b o e => u4 b o (u3 b o (u2 b o (u1 b o e)))) (fun i t s₃ E' hi hc st => helt _ _ i t s₃ E' hi hc st) ?_
      intro h' tk ys hpl hP st hn
      refine ⟨_, hn, fun h'' sb => ?_⟩
      obtain ⟨nn, hpl⟩ := hpl
      have k : ∀ b o, b ≠ H2.objs.size → h'.get? b = some o → h''.get? b = some o := fun b o hb e => sb.extBut b o hb e
      refine hQ H1.objs.size h'' tk ys nn (fresh _ (by omega)) (k _ _ (ne' (by omega)) hpl) (hP.mono fun i y hy => ?_) fun b o e => k b o (ne' (Nat.lt_of_lt_of_le (Heap.lt_size e) (by omega))) (st b o e)
      obtain ⟨T, its, rfl, h1, h2, h3, h4, h5, h6⟩ := hy
      refine ⟨T, its, rfl, h1, h5.at fun o e => k T o (fun q => ?_) e, h6⟩
      obtain ⟨oC, _, _, hoC, hdC, _⟩ := hn
      obtain ⟨nT, hoT⟩ := h5
      rw [q, hoC] at hoT; cases hoT; cases hdC
    exact codeAny_compStart_list loop ((Walks.range hh s.heap.objs.size a 1 n).self 0 _ _ _ (by simpa using gI) loop))
end
end Mine
end
-- part P4Rows
section
open PySem PySem.W PyProof.Rows PySem.Calls
set_option Elab.async false
set_option maxRecDepth 100000
set_option maxHeartbeats 8000000
set_option linter.all false
namespace Mine
theorem walkOff6 : True := by w_top off; trivial
local macro_rules | `(tactic| walk_at "pad") => `(tactic| skip)
local macro_rules | `(tactic| walk_at "pad") => `(tactic| skip)
local macro_rules | `(tactic| walk_at "pad") => `(tactic| skip)
local macro_rules | `(tactic| walk_at "pad") => `(tactic| skip)
local macro_rules | `(tactic| walk_at "pad") => `(tactic| skip)
local macro_rules | `(tactic| walk_at "pad") => `(tactic| skip)

theorem enterC {K : Frag} {prog : Program} {w : World} {A : Around} {s : Shared} {R : Result → Shared → Prop} {name qual : Str} {params : Arguments} {body : List Stmt} {scope : Scope} {dV kV doc pm cdv ct oc : Value} {an od : Option Addr} {osl : Array (Option Value)} {f : Addr} {vals : List Value} {binds : List (Str × Value)}
    (X : K.In s.heap) (hlim : s.heap.NoLimit)
    (ho : K.lookup f = some ⟨oc, od, .func (fnOf name qual params body scope dV kV doc pm an cdv ct), osl⟩) (hcd : codeIn K cdv qual = true) (hroom : A.depth < recursionLimit)
    (hbind : bindArgs (fnOf name qual params body scope dV kV doc pm an cdv ct) ⟨vals, []⟩ = pure binds)
    (hkind : (binds.all fun y => scope.names.lookup y.1 == some .local || scope.names.lookup y.1 == some .cell) = true)
    (h : ∀ s₁, InCallC s s.heap.objs.size (bindL (envOfC qual scope s.heap.objs.size f cdv).kindOf binds fun _ => none) (cellsFrom (s.heap.objs.size + 1) scope.names []) (bindC (envOfC qual scope s.heap.objs.size f cdv).kindOf binds fun _ => none) s₁ →
      wpAny (model prog w) (A.deeper (envOfC qual scope s.heap.objs.size f cdv)) (execs body (envOfC qual scope s.heap.objs.size f cdv))
        (fun fl s' => R (.ok (.ret (match fl with | .ret v => v | _ => .none))) s')
        (fun e s' => wpAny (model prog w) (A.deeper (envOfC qual scope s.heap.objs.size f cdv)) (leaving (envOfC qual scope s.heap.objs.size f cdv) e) (fun _ s'' => R (.error e) s'') (fun e' s'' => R (.error e') s'') s') s₁)
    (hco : scope.isCoroutine = false) (hgen : scope.isGenerator = false) (hk : scope.kind = .function) : codeAny (model prog w) A (.call (.ref f) ⟨vals, []⟩) R s :=
  codeAny_call_cells (fd := fnOf name qual params body scope dV kV doc pm an cdv ct) (body := body) (binds := binds) hroom (X _ _ ho) rfl hlim (codeRec_of X hcd) rfl hbind rfl (kindsX hkind _) (fun s₁ x => h s₁ x) hco hgen hk
theorem pow_small {prog : Program} {w : World} {A : Around} {E : Value → Shared → Prop} {s : Shared} {a b : Int} {t u : Tok} {Q : Value → Shared → Prop} (ha : 2 ≤ a) (ha' : a ≤ 5) (hb : 0 ≤ b) (hb' : b ≤ 5) (h : ∀ t k, Q (.int (a ^ b.toNat) t) { s with toks := k }) :
    wpAny (model prog w) A (binaryOp .Pow (.int a t) (.int b u)) Q E s := by
  by_cases h0 : b = 0
  · subst h0
    exact AutoIntOps.pow_0 (by decide) (by decide) (by have := h; simp only [Int.toNat_zero, Int.pow_zero] at this; exact this _ _)
  · have hbig : ¬ Builtin.Int.intTooBig (((Builtin.Int.intBits a : Nat) : Int) * b) = true := by
      have : ∀ (i : Fin 6) (j : Fin 6), ¬ Builtin.Int.intTooBig (((Builtin.Int.intBits (i.val : Int) : Nat) : Int) * (j.val : Int)) = true := by decide +kernel
      obtain ⟨i, rfl⟩ := Int.eq_ofNat_of_zero_le (show 0 ≤ a by omega)
      obtain ⟨j, rfl⟩ := Int.eq_ofNat_of_zero_le hb
      exact this ⟨i, by omega⟩ ⟨j, by omega⟩
    exact AutoIntOps.pow_4 hb (by simp; omega) (by simp; omega) (by simp; omega) hbig (h _ _)
local macro_rules | `(tactic| walk_at "subscriptTail") => `(tactic| ((with_reducible show wpAny _ _ (subscriptTail _ (Expr.Slice _ _ none _) (Value.bytes _ _) (Value.ref _)) _ _ _); (rename Fr _ _ _ _ => F'); (rename News _ _ _ _ => N'); (refine sliceB (s := ⟨_, _, _, _, _⟩) F' N' (by constructor) (by constructor) ?_ ?_); rotate_left; intro _ _ _ F' N'))
local macro_rules | `(tactic| walk_at "subscriptTail") => `(tactic| ((with_reducible show wpAny _ _ (subscriptTail _ _ (Value.ref _) (Value.int _ _)) _ _ _); (rename Fr _ _ _ _ => F'); (refine itemL (Heap.IsList.at (by assumption) (Fr.keep F' _)) (by assumption) ?_ ?_ ?_ ?_); (rotate_left 3); intro _))
local macro_rules | `(tactic| walk_at "binaryOp Add bytes bytes") => `(tactic| ((refine KBy.add_bytes ?_ ?_); rotate_left; intro _ _))
local macro_rules | `(tactic| walk_at "newList") => `(tactic| ((rename Fr _ _ _ _ => F'); (rename News _ _ _ _ => N'); (refine newList_K F' N' ?_); clear F' N'; intro l' h' F' N' l1))
local macro_rules | `(tactic| walk_at "mine") => `(tactic| repeat' ((fail_if_success (with_reducible show wpAny _ _ (exec (Stmt.While _ _ _ _) _) _ _ _)); (fail_if_success (with_reducible show wpAny _ _ (exec (Stmt.For _ _ _ _ _) _) _ _ _)); (fail_if_success (with_reducible show wpAny _ _ (pyIter _) _ _ _)); (fail_if_success (with_reducible show wpAny _ _ (call (Value.builtin "list.pop") _) _ _ _)); (fail_if_success (with_reducible show wpAny _ _ (call (Value.builtin "list.remove") _) _ _ _)); (fail_if_success (with_reducible show wpAny _ _ (exec (Stmt.Try _ _ _ _ _) _) _ _ _)); (fail_if_success (with_reducible show wpAny _ _ (call (Value.ref _) _) _ _ _)); (fail_if_success (with_reducible show wpAny _ _ (eval (Expr.ListComp _ _ _ _) _) _ _ _)); (first | walk1 | (dsimp only; walk1) | (dsimp only at *; walk1))))

local macro_rules | `(tactic| walk_at "binaryOp Pow int int") => `(tactic| ((refine pow_small ?_ ?_ ?_ ?_ ?_); (rotate_left 4); intro _ _))
def rowOf (size k code : Nat) : List Int := (List.range k).map fun i => ((code / size ^ (k - 1 - i) % size : Nat) : Int)
theorem pairInts {f : Int → Int} : ∀ {vs ys : List Value} {ns : List Int}, IntsAre vs ns → Paired (fun v y => ∃ (a : Int) (t u : Tok), v = Value.int a t ∧ y = Value.int (f a) u) vs ys → IntsAre ys (ns.map f)
  | _, _, _, .nil, .nil => .nil
  | _, _, _, .cons n t h, .cons ⟨a, t', u, e1, e2⟩ hp => by
    cases e1; subst e2
    exact .cons _ _ (pairInts h hp)
theorem paired_map {α β γ : Type} {R : β → γ → Prop} {f : α → β} : ∀ {l : List α} {ys : List γ}, Paired (fun a y => R (f a) y) l ys → Paired R (l.map f) ys
  | _, _, .nil => .nil
  | _, _, .cons h t => .cons h (paired_map t)
theorem paired_of_map {α β γ : Type} {R : β → γ → Prop} {f : α → β} : ∀ {l : List α} {ys : List γ}, Paired R (l.map f) ys → Paired (fun a y => R (f a) y) l ys
  | [], _, .nil => .nil
  | _ :: _, _, .cons h t => .cons h (paired_of_map t)
def RowIs (h₀ h : Heap) (row : List Int) (y : Value) : Prop := ∃ T its, y = .ref T ∧ h₀.get? T = none ∧ h.PlainList T its ∧ IntsAre its.toList row
theorem lawRows {w : World} {mg mb} {mean} {A : Around} {s : Shared} {Q E : Value → Shared → Prop} {size k : Nat} {t1 t2 : Tok}
   (X : (hd.heap_39 w.params).In s.heap) (T : Top hd.view_39 (looseW hd.view_39 []) mean mg mb s.heap)
   (hdp : A.depth + 3 < recursionLimit) (hu : A.units + 20 < cLine) (hh : A.handled = none)
   (hs2 : 2 ≤ size) (hs5 : size ≤ 5) (hk1 : 1 ≤ k) (hk4 : k ≤ 4)
   (hret : ∀ D h' tk' ys n, s.heap.get? D = none → IsL h' D ys n → Paired (RowIs s.heap h') ((List.range (size ^ k)).map (rowOf size k)) ys.toList → s.heap.StaysIn h' → Q (.ref D) { s with heap := h', toks := tk' }) :
   wpAny (model Challenge.rw_op0003_01.row.prog w) A (call (.ref 33) [.int size t1, .int k t2]) Q E s := by
  obtain ⟨hdl, dp, fr, gd, un⟩ := A
  dsimp only at hdp hu hh
  subst hh
  revert X T; k_fill; intro X T
  refine wpAny_call ?_
  refine enterC X T.nolimit (by k_is) (by k_is) (by dsimp only; omega) (binds := [(Str.ofString "size", .int size t1), (Str.ofString "k", .int k t2)]) rfl rfl ?_ rfl rfl rfl
  intro s₁ x
  obtain ⟨h₁, tk₁, rfl⟩ := x.toInCall.same
  have F : Fr s.heap s.heap.objs.size h₁ _ := ⟨x.toInCall.ns, x.toInCall.keep, x.toInCall.fresh⟩
  have c1 : h₁.IsCell (s.heap.objs.size + 1) (some (.int size t1)) := x.cell (Str.ofString "size") _ rfl
  have c2 : h₁.IsCell (s.heap.objs.size + 1 + 1) (some (.int k t2)) := x.cell (Str.ofString "k") _ rfl
  obtain ⟨o1, ho1, hd1⟩ := c1
  obtain ⟨o2, ho2, hd2⟩ := c2
  have fresh : ∀ b : Nat, s.heap.objs.size ≤ b → s.heap.get? b = none := fun b hb => by
    cases e : s.heap.get? b with
    | none => rfl
    | some o => exact absurd (Heap.lt_size e) (Nat.not_lt.mpr hb)
  have N : News s.heap s.heap.objs.size h₁ [(s.heap.objs.size + 1 + 1, o2), (s.heap.objs.size + 1, o1)] := by
    intro p hp
    rcases List.mem_cons.mp hp with rfl | hp
    · exact ⟨ho2, Nat.ne_of_gt (by omega), fresh _ (by omega)⟩
    · rcases List.mem_cons.mp hp with rfl | hp
      · exact ⟨ho1, Nat.ne_of_gt (by omega), fresh _ (by omega)⟩
      · cases hp
  clear x
  walk_at "mine"
  refine compRC (cl := [(Str.ofString "size", s.heap.objs.size + 1), (Str.ofString "k", s.heap.objs.size + 1 + 1)]) (fun i its => IntsAre its.toList (rowOf size k i.toNat)) rfl (by rfl) rfl (by decide) (fun n => by rfl) (fun h => by rfl) (by rfl) ?_
  walk_at "mine"
  rename IsRange _ _ _ _ _ _ _ _ => hR
  rename Fr _ _ _ _ => F2
  rename News _ _ _ _ => N2
  have d1 := (N2 _ (List.Mem.tail _ (List.Mem.head _))).1
  have d2 := (N2 _ (List.Mem.head _)).1
  dsimp only at d1 d2 hR
  rename (∀ (b : Addr) (o : Obj), _ → _) => hk9
  clear hk9 N2
  have hpw : ((size : Int) ^ (k : Int).toNat) = 0 + ((size ^ k : Nat) : Int) := by rw [Int.toNat_natCast]; push_cast; omega
  have hpb : size ^ k ≤ 5 ^ 4 := Nat.le_trans (Nat.pow_le_pow_left hs5 k) (Nat.pow_le_pow_right (by decide) hk4)
  refine ⟨_, 0, _, size ^ k, _, _, _, rfl, hR, hpw, by decide, by omega, by rw [sizeLine_eq]; omega, ?_, ?_⟩
  · intro C cc i t s₃ E' hi hc st
    have st0 : s.heap.StaysIn s₃.heap := fun b o e => st b o (F2.keep b o e)
    have e1 : s₃.heap.IsCell (s.heap.objs.size + 1) (some (.int size t1)) := ⟨o1, st _ _ d1, hd1⟩
    have e2 : s₃.heap.IsCell (s.heap.objs.size + 1 + 1) (some (.int k t2)) := ⟨o2, st _ _ d2, hd2⟩
    have X3 := X.keeps st0
    have T3 := T.keeps st0
    refine compR (cl := [(Str.ofString "size", s.heap.objs.size + 1), (Str.ofString "k", s.heap.objs.size + 1 + 1), (Str.ofString "code", cc)]) (fun _ => true) (fun v y => ∃ (a : Int) (t u : Tok), v = .int a t ∧ y = .int ((i / size ^ (k - 1 - a.toNat) % size : Nat) : Int) u) rfl (by rfl) (by decide) rfl (by decide) (by rfl) ?_
    refine Call_ (nmB (env := compEnvC _ _ _ _) T3.g (mg_none_of X3 T3.g (by k_is)) T3.b ((T3.builtins _ (by decide)).trans (by boot_fast)) ?_)
    refine PyProof.Rows.callWith_type1 ?_
    refine spliced_more (nmC (env := compEnvC _ _ _ _) (by rfl) e2 (spliced_none ?_))
    refine call_range_1 ?_
    dsimp only
    refine ⟨_, 0, _, k, _, _, _, rfl, IsRange.new _ _ _ _ _ _ _, by omega, by decide, by omega, by rw [sizeLine_eq]; omega, ?_, ?_, ?_⟩
    · intro C' j t' s₄ m₄ E'' hC' hj hn hm st4
      exact wpAny_tests_nil ⟨rfl, s₄.heap, s₄.toks, rfl, fun _ _ e => e⟩
    · intro C' j t' s₄ m₄ E'' hC' hj hn hm st4
      have st5 : s₃.heap.StaysIn s₄.heap := fun b o e => st4 b o (Heap.get?_push_of_some _ e)
      have f0 := hc.keeps st5
      have f1 := e1.keeps st5
      have f2 := e2.keeps st5
      refine wpAny_BinOp (wpAny_BinOp (nmC (env := compEnvC _ _ _ _) (by rfl) f0 (wpAny_BinOp (nmC (env := compEnvC _ _ _ _) (by rfl) f1 (wpAny_BinOp (wpAny_BinOp (nmC (env := compEnvC _ _ _ _) (by rfl) f2 (wpAny_Constant_int (PyProof.Rows.sub_int ?_)))))))))
      refine nmL hn hm (PyProof.Rows.sub_int ?_)
      refine pow_small (by omega) (by omega) (by omega) (by omega) fun _ _ => ?_
      have hexp : ((k : Int) - 1 - (0 + (j : Int))).toNat = k - 1 - j := by omega
      rw [hexp, ← Int.natCast_pow]
      have hp0 : 0 < size ^ (k - 1 - j) := Nat.pow_pos (by omega)
      have hple : size ^ (k - 1 - j) ≤ 5 ^ 4 := Nat.le_trans (Nat.pow_le_pow_left hs5 _) (Nat.pow_le_pow_right (by decide) (by omega))
      refine floordiv_int (by omega) ?_ (.inl (PyProof.noPylong_small (by omega)))
      refine nmC (env := compEnvC _ _ _ _) (by rfl) f1 ?_
      refine mod_int' (by omega) ?_
      have hval : ((0 + (i : Int)).fdiv ((size ^ (k - 1 - j) : Nat) : Int)).fmod (size : Int) = ((i / size ^ (k - 1 - (0 + (j : Int)).toNat) % size : Nat) : Int) := by
        rw [Int.zero_add, Int.zero_add, Int.toNat_natCast, Int.fdiv_eq_ediv_of_nonneg _ (by omega), Int.fmod_eq_emod_of_nonneg _ (by omega)]
        rfl
      rw [hval]
      exact ⟨⟨_, _, _, rfl, rfl⟩, _, _, rfl, fun _ _ e => e⟩
    · intro D h' tk ys nn vs hD hl hi hP st4
      rw [show (vs.filter fun _ => true) = vs from by simp] at hP
      have h9 := pairInts hi hP
      refine ⟨⟨D, ys, rfl, ?_, ⟨nn, hl⟩, ?_⟩, _, _, rfl, fun b o e => st4 b o (Heap.get?_push_of_some _ e)⟩
      · cases e : s₃.heap.get? D with
        | none => rfl
        | some o => rw [Heap.get?_push_of_some _ e] at hD; cases hD
      · have e : (rangeL 0 k).map (fun a => ((i / size ^ (k - 1 - a.toNat) % size : Nat) : Int)) = rowOf size k (0 + (i : Int)).toNat := by
          simp only [rangeL, rowOf, List.map_map, Int.zero_add, Int.toNat_natCast]
          rfl
        rw [← e]; exact h9
  · intro D h' tk ys nn hD hl hP st
    have low : ∀ b, _ → s.heap.get? b = none := fun b (hb : Heap.get? _ b = none) => by
      cases e : s.heap.get? b with
      | none => rfl
      | some o => have e2 := F2.keep b o e; rw [hb] at e2; cases e2
    refine hret D h' tk ys nn (low _ hD) hl ?_ fun b o e => st b o (F2.keep b o e)
    refine paired_map (paired_of_map hP |>.mono fun i y hy => ?_)
    obtain ⟨T, its, rfl, hT0, h1, h2⟩ := hy
    rw [Int.zero_add, Int.toNat_natCast] at h2
    exact ⟨T, its, rfl, low _ hT0, h1, h2⟩
end Mine
end
-- part P5Uld
section
open PySem PySem.W PyProof.Rows PySem.Calls
set_option Elab.async false
set_option maxRecDepth 100000
set_option maxHeartbeats 8000000
set_option linter.all false
namespace Mine
theorem walkOff7 : True := by w_top off; trivial
local macro_rules | `(tactic| walk_at "pad") => `(tactic| skip)
local macro_rules | `(tactic| walk_at "pad") => `(tactic| skip)
local macro_rules | `(tactic| walk_at "pad") => `(tactic| skip)
local macro_rules | `(tactic| walk_at "pad") => `(tactic| skip)
local macro_rules | `(tactic| walk_at "pad") => `(tactic| skip)
local macro_rules | `(tactic| walk_at "pad") => `(tactic| skip)
local macro_rules | `(tactic| walk_at "pad") => `(tactic| skip)

/-- a list of values that are bytes -/
def BsAre (vs : List Value) (bs : List (List UInt8)) : Prop := Paired (fun (b : List UInt8) (v : Value) => ∃ t, v = Value.bytes b.toArray t) bs vs
theorem BsAre.length {vs : List Value} {bs : List (List UInt8)} (h : BsAre vs bs) : vs.length = bs.length := (Paired.length h).symm
theorem paired_append {α β : Type} {F : α → β → Prop} : ∀ {l₁ l₁' : List α} {l₂ l₂' : List β}, Paired F l₁ l₂ → Paired F l₁' l₂' → Paired F (l₁ ++ l₁') (l₂ ++ l₂')
  | _, _, _, _, .nil, h => h
  | _, _, _, _, .cons a t, h => .cons a (paired_append t h)
theorem paired_split {α β : Type} {F : α → β → Prop} : ∀ {l₁ l₁' : List α} {ys : List β}, Paired F (l₁ ++ l₁') ys → ∃ a b, ys = a ++ b ∧ Paired F l₁ a ∧ Paired F l₁' b
  | [], _, _, h => ⟨[], _, rfl, .nil, h⟩
  | _ :: _, _, _, .cons h t => by
    obtain ⟨a, b, rfl, h1, h2⟩ := paired_split t
    exact ⟨_ :: a, b, rfl, .cons h h1, h2⟩
theorem paired_get {α β : Type} {F : α → β → Prop} : ∀ {l₁ : List α} {l₂ : List β}, Paired F l₁ l₂ → ∀ (i : Nat) b, l₂[i]? = some b → ∃ a, l₁[i]? = some a ∧ F a b
  | _, _, .cons h _, 0, b, e => by simp at e; subst e; exact ⟨_, rfl, h⟩
  | _, _, .cons _ t, i + 1, b, e => by simpa using paired_get t i b (by simpa using e)
/-- what unorderable_list_difference makes: the told ones from behind, the list, the missing -/
def uldR : List (List UInt8) → List (List UInt8) → List (List UInt8) → List (List UInt8) × List (List UInt8)
  | [], A, M => (M, A)
  | x :: r, A, M => if x ∈ A then uldR r (A.erase x) M else uldR r A (M ++ [x])
section
variable {prog : Program} {w : World} {A : Around} {E : Value → Shared → Prop} {s : Shared} {l : Addr} {Q : Value → Shared → Prop}
theorem pop_call {vs : List Value} {y : Value} {n : Nat} (hl : IsL s.heap l (vs ++ [y]).toArray n) (hsz : vs.length ≤ 1000)
    (h : ∀ h', IsL h' l vs.toArray (n + 1) → Heap.SameBut l s.heap h' → Q y { s with heap := h' }) : wpAny (model prog w) A (call (.builtin "list.pop") [.ref l]) Q E s := by
  refine call_meets F.slot_list_pop ⟨_, hl, rfl⟩ F.entry_list_pop (F.args_list_pop_1 _) (MeetsSeq.list_pop_last l _ n y (by simp) (by rw [sizeLine_eq]; simp; omega)) ⟨hl, h _ ?_ (Heap.SameBut.update ..)⟩
  have := IsL.update hl (fun xs => xs.eraseIdxIfInBounds ((vs ++ [y]).toArray.size - 1))
  have e : (vs ++ [y]).toArray.eraseIdxIfInBounds ((vs ++ [y]).toArray.size - 1) = vs.toArray := by
    apply Array.ext'
    simp [Array.eraseIdxIfInBounds, List.eraseIdx_append_of_length_le]
  rw [e] at this
  simpa using this
def isB (x : List UInt8) (v : Value) : Bool := match v with | .bytes b _ => decide (b.toList = x) | _ => false
theorem isB_eq {vs : List Value} {bs : List (List UInt8)} (h : BsAre vs bs) (x : List UInt8) (u : Tok) : ∀ y, y ∈ vs.toArray → MeetsSeq.EqGives y (.bytes x.toArray u) (isB x y) := by
  intro y hy
  have hy' : y ∈ vs := by simpa using hy
  obtain ⟨i, hi, rfl⟩ := List.mem_iff_getElem.mp hy'
  obtain ⟨b, _, t, e⟩ := paired_get h i _ (List.getElem?_eq_getElem hi)
  rw [e]
  exact fun prog w A E s Q hq => eqBool_bytes hq
theorem remove_call {vs : List Value} {bs : List (List UInt8)} {x : List UInt8} {u : Tok} {n : Nat} (hl : IsL s.heap l vs.toArray n) (hb : BsAre vs bs) (hx : x ∈ bs) (hsz : vs.length ≤ 1000)
    (h : ∀ h' vs' n', IsL h' l vs'.toArray n' → BsAre vs' (bs.erase x) → Heap.SameBut l s.heap h' → Q .none { s with heap := h' }) : wpAny (model prog w) A (call (.builtin "list.remove") [.ref l, .bytes x.toArray u]) Q E s := by
  -- the first place
  obtain ⟨pre, post, rfl, hpre⟩ : ∃ pre post, bs = pre ++ x :: post ∧ x ∉ pre := by
    obtain ⟨pre, post, e, hp⟩ := List.eq_append_cons_of_mem hx
    exact ⟨pre, post, e, hp⟩
  obtain ⟨va, vb, rfl, ha, hb2⟩ := paired_split hb
  obtain ⟨vx, vc, rfl⟩ : ∃ vx vc, vb = vx :: vc := by cases hb2; exact ⟨_, _, rfl⟩
  have hx2 : ∃ t, vx = Value.bytes x.toArray t := by cases hb2 with | cons h _ => exact h
  have hc : BsAre vc post := by cases hb2 with | cons _ h => exact h
  obtain ⟨t, rfl⟩ := hx2
  have hlen : va.length = pre.length := BsAre.length ha
  have hj : va.length < (va ++ Value.bytes x.toArray t :: vc).toArray.size := by simp
  refine call_meets F.slot_list_remove ⟨_, hl, rfl⟩ F.entry_list_remove (F.args_list_remove_2 _ _) (MeetsSeq.list_remove l _ n _ (isB x) (isB_eq hb x u) va.length hj ?_ ?_ (by rw [sizeLine_eq]; simp at hsz ⊢; omega)) ⟨hl, h _ (va ++ vc) (n + 1) ?_ ?_ (Heap.SameBut.update ..)⟩
  · simp [isB]
  · intro m hm hm2
    rw [List.getElem_toArray, List.getElem_append_left hm2]
    obtain ⟨b, hb1, t', e⟩ := paired_get ha m _ (List.getElem?_eq_getElem hm2)
    rw [e]
    simp only [isB, decide_eq_false_iff_not]
    rintro rfl
    exact hpre (List.mem_of_getElem? hb1)
  · have := IsL.update hl (fun xs => xs.eraseIdxIfInBounds va.length)
    have e : (va ++ Value.bytes x.toArray t :: vc).toArray.eraseIdxIfInBounds va.length = (va ++ vc).toArray := by
      apply Array.ext'
      simp [Array.eraseIdxIfInBounds, List.eraseIdx_append_of_length_le]
    rw [e] at this
    simpa using this
  · rw [List.erase_append_right _ hpre, List.erase_cons_head]
    exact paired_append ha hc
theorem remove_none {vs : List Value} {bs : List (List UInt8)} {x : List UInt8} {u : Tok} {n : Nat} (hh : A.handled = none) (hl : IsL s.heap l vs.toArray n) (hb : BsAre vs bs) (hx : x ∉ bs)
    (h : ∀ h' tk e, Heap.NewExc s.heap h' e "ValueError" → E (.ref e) { s with heap := h', toks := tk }) : wpAny (model prog w) A (call (.builtin "list.remove") [.ref l, .bytes x.toArray u]) Q E s := by
  refine call_meets F.slot_list_remove ⟨_, hl, rfl⟩ F.entry_list_remove (F.args_list_remove_2 _ _) (MeetsSeq.list_remove_none l _ n _ (isB x) (isB_eq hb x u) ?_) ⟨hl, hh, h⟩
  intro m hm
  have hm' : m < vs.length := by simpa using hm
  obtain ⟨b, hb1, t, e⟩ := paired_get hb m _ (List.getElem?_eq_getElem hm')
  rw [List.getElem_toArray, e]
  simp only [isB, decide_eq_false_iff_not]
  rintro rfl
  exact hx (List.mem_of_getElem? hb1)
end
local macro_rules | `(tactic| walk_at "subscriptTail") => `(tactic| ((with_reducible show wpAny _ _ (subscriptTail _ (Expr.Slice _ _ none _) (Value.bytes _ _) (Value.ref _)) _ _ _); (rename Fr _ _ _ _ => F'); (rename News _ _ _ _ => N'); (refine sliceB (s := ⟨_, _, _, _, _⟩) F' N' (by constructor) (by constructor) ?_ ?_); rotate_left; intro _ _ _ F' N'))
local macro_rules | `(tactic| walk_at "subscriptTail") => `(tactic| ((with_reducible show wpAny _ _ (subscriptTail _ _ (Value.ref _) (Value.int _ _)) _ _ _); (rename Fr _ _ _ _ => F'); (refine itemL (Heap.IsList.at (by assumption) (Fr.keep F' _)) (by assumption) ?_ ?_ ?_ ?_); (rotate_left 3); intro _))
local macro_rules | `(tactic| walk_at "binaryOp Add bytes bytes") => `(tactic| ((refine KBy.add_bytes ?_ ?_); rotate_left; intro _ _))
local macro_rules | `(tactic| walk_at "newList") => `(tactic| ((rename Fr _ _ _ _ => F'); (rename News _ _ _ _ => N'); (refine newList_K F' N' ?_); clear F' N'; intro l' h' F' N' l1))
local macro_rules | `(tactic| walk_at "mine") => `(tactic| repeat' ((fail_if_success (with_reducible show wpAny _ _ (exec (Stmt.While _ _ _ _) _) _ _ _)); (fail_if_success (with_reducible show wpAny _ _ (exec (Stmt.For _ _ _ _ _) _) _ _ _)); (fail_if_success (with_reducible show wpAny _ _ (pyIter _) _ _ _)); (fail_if_success (with_reducible show wpAny _ _ (call (Value.builtin "list.pop") _) _ _ _)); (fail_if_success (with_reducible show wpAny _ _ (call (Value.builtin "list.remove") _) _ _ _)); (fail_if_success (with_reducible show wpAny _ _ (exec (Stmt.Try _ _ _ _ _) _) _ _ _)); (fail_if_success (with_reducible show wpAny _ _ (call (Value.ref _) _) _ _ _)); (fail_if_success (with_reducible show wpAny _ _ (eval (Expr.ListComp _ _ _ _) _) _ _ _)); (first | walk1 | (dsimp only; walk1) | (dsimp only at *; walk1))))

theorem allNe_of' {L : Addr} : ∀ {l : List (Addr × Obj)}, (∀ p ∈ l, p.1 ≠ L) → TLg.AllNe L l
  | [], _ => trivial
  | _ :: _, h => ⟨h _ List.mem_cons_self, allNe_of' fun p hp => h p (List.mem_cons_of_mem _ hp)⟩
theorem allLt_mem {D : Nat} {l : List (Addr × Obj)} (h : AllLt D l) : ∀ p ∈ l, p.1 ≠ D := by
  induction l with
  | nil => intro p hp; cases hp
  | cons q l ih =>
    intro p hp
    have h' : @LT.lt Nat _ q.1 D ∧ AllLt D l := h
    cases hp with
    | head => exact Nat.ne_of_lt h'.1
    | tail _ hp => exact ih h'.2 p hp
theorem uld {w : World} {mg mb} {mean} {A : Around} {s : Shared} {Q E : Value → Shared → Prop} {h₀ : Heap} {L e a : Addr} {m : Str → Option Value} {env : Env} {evs avs : List Value} {ne na : Nat} {rest : List (Addr × Obj)} {Es As : List (List UInt8)}
   (X : (hd.heap_39 w.params).In h₀) (T : Top hd.view_39 (looseW hd.view_39 []) mean mg mb h₀)
   (hdp : A.depth + 3 < recursionLimit) (hu : A.units + 20 < cLine) (hh : A.handled = none) (hfr : A.frames = some [env]) (hfe : env.frame = some L) (hke : env.scope.kind = .function)
   (F : Fr h₀ L s.heap m) (N : News h₀ L s.heap ((e, listOf evs.toArray ne) :: (a, listOf avs.toArray na) :: rest)) (hea : e ≠ a) (hre : ∀ p ∈ rest, p.1 ≠ e) (hra : ∀ p ∈ rest, p.1 ≠ a)
   (hE : BsAre evs Es) (hAv : BsAre avs As) (hlE : Es.length ≤ 100) (hlA : As.length ≤ 100)
   (hret : ∀ h' tk' r mi mvs avs' n1 n2 n3, BsAre mvs (uldR Es.reverse As []).1 → BsAre avs' (uldR Es.reverse As []).2 → Fr h₀ L h' m →
      News h₀ L h' ((r, { cls := .type "tuple", data := .seq #[.ref mi, .ref a] }) :: (mi, listOf mvs.toArray n1) :: (e, listOf #[] n2) :: (a, listOf avs'.toArray n3) :: rest) → (∀ p ∈ rest, p.1 ≠ mi ∧ p.1 ≠ r) → mi ≠ e → mi ≠ a → r ≠ e → r ≠ a → r ≠ mi →
      Q (.ref r) { s with heap := h', toks := tk' }) :
   wpAny (model Challenge.rw_op0003_01.row.prog w) A (call (.ref 21) [.ref e, .ref a]) Q E s := by
  obtain ⟨hdl, dp, fr, gd, un⟩ := A
  dsimp only at hdp hu hh hfr
  subst hh hfr
  revert X T; k_fill; intro X T
  refine wpAny_call ?_
  refine enterP (X.keeps F.keep) (T.nolimit.keeps F.keep) (by k_is) (by k_is) (by dsimp only; omega) (BindsTo.of_eq (binds := [(Str.ofString "expected", .ref e), (Str.ofString "actual", .ref a)]) rfl) (locs rfl) ?_ rfl rfl rfl (by decide)
  intro h₁ tk m₁ hm F1
  obtain ⟨oL, es, ep, hL, hLd, hLk, hLf⟩ := F.ns
  have C : TI.Caller h₀ L m oL := ⟨fun h' sl e => ⟨_, es, ep, e, hLd, hLk, hLf⟩, ⟨es, ep, hLd⟩, F.above⟩
  have Fs : TI.Frs [env] [(L, oL)] := ⟨by rw [hke]; decide, hfe, ⟨es, ep, hLd⟩, trivial⟩
  have F2 : Fr h₀ s.heap.objs.size h₁ m₁ := ⟨F1.ns, fun b o q => F1.keep b o (F.keep b o q), Nat.le_trans F.above (Nat.le_of_lt (Heap.lt_size hL))⟩
  have N2 : News h₀ s.heap.objs.size h₁ ((e, listOf evs.toArray ne) :: (a, listOf avs.toArray na) :: (rest ++ [(L, oL)])) := by
    intro p hp
    rw [← List.cons_append, ← List.cons_append] at hp
    rcases List.mem_append.mp hp with hp | hp
    · obtain ⟨q1, q2, q3⟩ := N p hp
      exact ⟨F1.keep _ _ q1, Nat.ne_of_lt (Heap.lt_size q1), q3⟩
    · obtain rfl := List.mem_singleton.mp hp
      exact ⟨F1.keep _ _ hL, Nat.ne_of_lt (Heap.lt_size hL), Heap.get?_none_of_le F.above⟩
  have nL : ∀ p ∈ ((e, listOf evs.toArray ne) :: (a, listOf avs.toArray na) :: rest), p.1 ≠ L := fun p hp => (N p hp).2.1
  have F3 := fr2 (x1 := Str.ofString "expected") (v1 := .ref e) (x2 := Str.ofString "actual") (v2 := .ref a) F2 (hm _) (hm _)
  clear hm F1 F N F2
  walk_at "mine"
  rename_i mi _ l1 _ F9 N9
  have mie : mi ≠ e := Nat.ne_of_gt (l1 _ (List.Mem.head _))
  have mia : mi ≠ a := Nat.ne_of_gt (l1 _ (List.Mem.tail _ (List.Mem.head _)))
  have mir : ∀ p ∈ rest, p.1 ≠ mi := fun p hp => Nat.ne_of_lt (l1 p (List.Mem.tail _ (List.Mem.tail _ (List.mem_append_left _ hp))))
  have miL : L ≠ mi := Nat.ne_of_lt (l1 (L, oL) (List.Mem.tail _ (List.Mem.tail _ (List.mem_append_right _ (List.Mem.head _)))))
  have eL : e ≠ L := nL _ (List.Mem.head _)
  have aL : a ≠ L := nL _ (List.Mem.tail _ (List.Mem.head _))
  have rL : ∀ p ∈ rest, p.1 ≠ L := fun p hp => nL p (List.Mem.tail _ (List.Mem.tail _ hp))
  clear l1 nL
  refine While_inv2 (fun k mm ns => ∃ (rE As1 Ms : List (List UInt8)) (ev av mv : List Value) (n1 n2 n3 : Nat) (sl : Array (Option Value)),
    k = rE.length ∧ ns = (mi, listOf mv.toArray n1) :: (e, listOf ev.toArray n2) :: (a, listOf av.toArray n3) :: (rest ++ [(L, { oL with slots := sl })]) ∧
    mm (Str.ofString "expected") = some (.ref e) ∧ mm (Str.ofString "actual") = some (.ref a) ∧ mm (Str.ofString "missing") = some (.ref mi) ∧
    BsAre ev rE.reverse ∧ BsAre av As1 ∧ BsAre mv Ms ∧ uldR rE As1 Ms = uldR Es.reverse As [] ∧ As1.length ≤ 100 ∧ rE.length ≤ 100 ∧ Ms.length + rE.length ≤ 100) (n₀ := Es.length) F9 N9 ?_ ?_
  · refine ⟨Es.reverse, As, [], evs, avs, [], 0, ne, na, oL.slots, by simp, rfl, rfl, rfl, rfl, by simpa using hE, hAv, .nil, rfl, hlA, by simpa using hlE, by simpa using hlE⟩
  · rintro k mm ns h₂ tk₂ F₂ N₂ ⟨rE, As1, Ms, ev, av, mv, n1, n2, n3, sl, rfl, rfl, e1, e2, e3, hev, hav, hmv, hu1, b1, b2, b3⟩
    have F₃ := fr3 F₂ e1 e2 e3
    clear F₂ F9 N9
    cases rE with
    | nil =>
      have hev0 : ev = [] := List.length_eq_zero_iff.mp (by simpa using hev.length)
      subst hev0
      walk_at "mine"
      rename_i D' h' F' N' l1
      obtain ⟨hd1, hd2, hd3, hd4⟩ := l1
      have N'' : News h₀ s.heap.objs.size h' (((D', { cls := .type "tuple", data := .seq #[.ref mi, .ref a] }) :: (mi, listOf mv.toArray n1) :: (e, listOf #[] n2) :: (a, listOf av.toArray n3) :: rest) ++ [(L, { oL with slots := sl })]) := N'
      have DL : D' ≠ L := Ne.symm (allLt_mem hd4 (L, { oL with slots := sl }) (List.mem_append_right _ (List.Mem.head _)))
      have key := TLg.leave_back (P := Q (.ref D') { s with heap := h', toks := tk }) (s' := { s with heap := h', toks := tk }) C F' N'' ⟨DL, miL.symm, eL, aL, allNe_of' rL⟩ (fun F8 N8 => ?_)
      · exact key
      · have hu2 : (Ms, As1) = uldR Es.reverse As [] := hu1
        rw [← hu2] at hret
        exact hret _ _ _ _ _ _ _ _ _ hmv hav F8 N8 (fun p hp => ⟨mir p hp, allLt_mem hd4 p (List.mem_append_left _ hp)⟩) mie mia (Nat.ne_of_gt hd2) (Nat.ne_of_gt hd3) (Nat.ne_of_gt hd1)
    | cons x r =>
      obtain ⟨ev', xv, rfl, hev', t, rfl⟩ : ∃ ev' xv, ev = ev' ++ [xv] ∧ BsAre ev' r.reverse ∧ ∃ t, xv = Value.bytes x.toArray t := by
        rw [List.reverse_cons] at hev
        obtain ⟨p, q, rfl, hp, hq⟩ := paired_split hev
        cases hq with
        | cons hx hn => cases hn; exact ⟨p, _, rfl, hp, hx⟩
      walk_at "mine"
      have hLe := N₂ (e, _) (List.Mem.tail _ (List.Mem.head _))
      refine wpAny_truthy_list (News.isList N₂ (List.Mem.tail _ (List.Mem.head _))) ?_ ?_
      · have := hev'.length; simp at this ⊢; simp at b2; omega
      rw [show (!(ev' ++ [Value.bytes x.toArray t]).toArray.isEmpty) = true from by simp]
      simp only [if_true]
      walk_at "mine"
      refine pop_call hLe.1 ?_ ?_
      · have := hev'.length; simp at this; simp at b2; omega
      intro h₄ hl₄ sb₄
      have F₄ := F₃.change sb₄ hLe.2.1 hLe.2.2
      have N₄ := news_set (pre := [(mi, listOf mv.toArray n1)]) (post := (a, listOf av.toArray n3) :: (rest ++ [(L, { oL with slots := sl })])) N₂ (by intro p hp; obtain rfl := List.mem_singleton.mp hp; exact mie) (by
        intro p hp
        rcases List.mem_cons.mp hp with rfl | hp
        · exact hea.symm
        · rcases List.mem_append.mp hp with hp | hp
          · exact hre p hp
          · obtain rfl := List.mem_singleton.mp hp; exact eL.symm) sb₄ hl₄
      clear F₃ N₂ sb₄ hl₄ hLe
      walk_at "mine"
      rename Fr _ _ _ _ => F₅
      rename News _ _ _ _ => N₅
      have hLa := N₅ (a, listOf av.toArray n3) (List.Mem.tail _ (List.Mem.tail _ (List.Mem.head _)))
      have Fs₅ : TI.Frs [env] [(L, { oL with slots := sl })] := ⟨by rw [hke]; decide, hfe, ⟨es, ep, hLd⟩, trivial⟩
      have hl100 : av.length ≤ 1000 := by rw [hav.length]; omega
      refine wpAny_Try_except ?_
      walk_at "mine"
      by_cases hx : x ∈ As1
      · refine remove_call hLa.1 hav hx hl100 ?_
        intro h₆ av' n' hl₆ hav' sb₆
        have F₆ := F₅.change sb₆ hLa.2.1 hLa.2.2
        have N₆ := news_set (pre := [(mi, listOf mv.toArray n1), (e, listOf ev'.toArray (n2 + 1))]) (post := rest ++ [(L, { oL with slots := sl })]) N₅ (by
          intro p hp
          rcases List.mem_cons.mp hp with rfl | hp
          · exact mia
          · obtain rfl := List.mem_singleton.mp hp; exact hea) (by
          intro p hp
          rcases List.mem_append.mp hp with hp | hp
          · exact hra p hp
          · obtain rfl := List.mem_singleton.mp hp; exact aL.symm) sb₆ hl₆
        clear F₅ N₅
        walk_at "mine"
        exact ⟨_, _, _, _, r.length, rfl, F₆, N₆, by simp, r, As1.erase x, Ms, ev', av', mv, n1, n2 + 1, n', sl, rfl, rfl, rfl, rfl, rfl, hev', hav', hmv, by rw [← hu1]; simp [uldR, hx], Nat.le_trans List.length_erase_le b1, by simp at b2; omega, by simp at b3; omega⟩
      · refine remove_none rfl hLa.1 hav hx ?_
        intro h₆ tk₆ exc hx6
        refine TLg.noted_new1 (A₀ := ⟨none, dp, some [env], gd, un⟩) (new := (mi, listOf mv.toArray n1) :: (e, listOf ev'.toArray (n2 + 1)) :: (a, listOf av.toArray n3) :: rest) rfl Fs₅ hx6 F₅ N₅ ⟨miL.symm, eL, aL, allNe_of' rL⟩ ?_
        intro h₇ sl' Fs₇ H₇
        refine TT.HeldNA.land H₇ fun h₈ H₈ => ?_
        refine' TT.clause_hitTN (A₀ := ⟨none, dp, some [env], gd, un⟩) (X := "ValueError") ?hH T (k := ?hk)
        case hH => exact H₈
        intro h₉ F₉ N₉
        have N₁₀ : News h₀ s.heap.objs.size h₉ ((mi, listOf mv.toArray n1) :: (e, listOf ev'.toArray (n2 + 1)) :: (a, listOf av.toArray n3) :: (rest ++ [(L, { oL with slots := sl' })])) := N₉
        clear N₉ F₅ N₅
        walk_at "mine"
        refine append_K F₉ N₁₀ (Upd.head (fun p hp => ?_)) ?_ ?_
        · rcases List.mem_cons.mp hp with rfl | hp
          · exact mie.symm
          · rcases List.mem_cons.mp hp with rfl | hp
            · exact mia.symm
            · rcases List.mem_append.mp hp with hp | hp
              · exact mir p hp
              · obtain rfl := List.mem_singleton.mp hp; exact miL
        · intro h₁₁ F₁₁ N₁₁
          clear F₉ N₁₀
          rw [List.push_toArray] at N₁₁
          walk_at "mine"
          exact ⟨_, _, _, _, r.length, rfl, F₁₁, N₁₁, by simp, r, As1, Ms ++ [x], ev', av, mv ++ [Value.bytes x.toArray t], n1 + 1, n2 + 1, n3, sl', rfl, rfl, rfl, rfl, rfl, hev', hav, paired_append hmv (.cons ⟨t, rfl⟩ .nil), by rw [← hu1]; simp [uldR, hx], b1, by simp at b2; omega, by simp at b3 ⊢; omega⟩
        · rw [List.size_toArray, hmv.length, sizeLine_eq]; simp at b3; omega
end Mine
end
-- part Base3
section
open PySem PySem.W PyProof.Rows PySem.Calls
set_option Elab.async false
set_option maxRecDepth 100000
set_option maxHeartbeats 8000000
set_option linter.all false
namespace Mine
theorem walkOff8 : True := by w_top off; trivial
local macro_rules | `(tactic| walk_at "pad") => `(tactic| skip)
local macro_rules | `(tactic| walk_at "pad") => `(tactic| skip)
local macro_rules | `(tactic| walk_at "pad") => `(tactic| skip)
local macro_rules | `(tactic| walk_at "pad") => `(tactic| skip)
local macro_rules | `(tactic| walk_at "pad") => `(tactic| skip)
local macro_rules | `(tactic| walk_at "pad") => `(tactic| skip)
local macro_rules | `(tactic| walk_at "pad") => `(tactic| skip)
local macro_rules | `(tactic| walk_at "pad") => `(tactic| skip)

/-- a plain list of ints at an address -/
def IntL (h : Heap) (T : Addr) (ms : List Int) : Prop := ∃ its n, IsL h T its n ∧ IntsAre its.toList ms
theorem IntL.at {h h' : Heap} {T : Addr} {ms : List Int} (x : IntL h T ms) (k : ∀ o, h.get? T = some o → h'.get? T = some o) : IntL h' T ms := let ⟨its, n, a, b⟩ := x; ⟨its, n, k _ a, b⟩
theorem ints_size {its : Array Value} {ms : List Int} (h : IntsAre its.toList ms) : its.size = ms.length := by rw [← h.length]; simp
theorem ints_at {its : Array Value} {ms : List Int} (h : IntsAre its.toList ms) {j : Nat} (hj : j < its.size) : ∃ t, its[j] = .int (ms.getD j 0) t := by
  have hj' : j < ms.length := by rw [← ints_size h]; exact hj
  obtain ⟨t, ht⟩ := h.get j (ms.getD j 0) (by simp [List.getD, hj'])
  refine ⟨t, ?_⟩
  rw [← Array.getElem_toList]
  rw [List.getElem?_eq_getElem (by simpa using hj)] at ht
  exact Option.some.inj ht
theorem all_eq : ∀ (ms ns : List Int), ms.length = ns.length → (List.range ms.length).all (fun j => ms.getD j 0 == ns.getD j 0) = decide (ms = ns) := by
  intro ms
  induction ms with
  | nil => intro ns h; cases ns with
    | nil => rfl
    | cons => simp at h
  | cons a ms ih =>
    intro ns h
    cases ns with
    | nil => simp at h
    | cons b ns =>
      have := ih ns (by simpa using h)
      rw [List.length_cons, List.range_succ_eq_map, List.all_cons, List.all_map]
      simp only [List.getD_cons_zero, Function.comp_def, List.getD_cons_succ]
      rw [this]
      by_cases e : a = b <;> simp [e]
theorem intsAre_inj : ∀ {vs : List Value} {ms ns : List Int}, IntsAre vs ms → IntsAre vs ns → ms = ns
  | _, _, _, .nil, .nil => rfl
  | _, _, _, .cons _ _ h, .cons _ _ h' => by rw [intsAre_inj h h']
def lexLt : List Int → List Int → Bool
  | [], [] => false
  | [], _ :: _ => true
  | _ :: _, [] => false
  | x :: xs, y :: ys => if x = y then lexLt xs ys else decide (x < y)
section
variable {prog : Program} {w : World} {A : Around} {E : Value → Shared → Prop} {s : Shared} {a b : Addr} {ms ns : List Int}
theorem cmpEq_ref {Q : Value → Shared → Prop} (ha : IntL s.heap a ms) (hb : IntL s.heap b ns) (hu : A.units < cLine) (h : Q (.bool (decide (ms = ns))) s) : wpAny (model prog w) A (compareOp .Eq (.ref a) (.ref b)) Q E s := by
  obtain ⟨xs, n, hx, hxi⟩ := ha
  obtain ⟨ys, n', hy, hyi⟩ := hb
  have s1 := ints_size hxi
  have s2 := ints_size hyi
  by_cases hsz : ms.length = ns.length
  · refine P.eq_list (e := fun j => ms.getD j 0 == ns.getD j 0) hx hy (by omega) ?_ hu ?_
    · intro j h1 h2
      obtain ⟨t, e1⟩ := ints_at hxi h1
      obtain ⟨u, e2⟩ := ints_at hyi h2
      rw [e1, e2]
      exact MeetsSeq.EqGives.int _ _ _ _
    · rw [s1, all_eq _ _ hsz]; exact h
  · refine P.eq_list_lengths hx hy (by simp; omega) hu ?_
    rw [decide_eq_false (fun e => hsz (by rw [e]))] at h
    exact h
theorem eqBool_ref {Q : Bool → Shared → Prop} (ha : IntL s.heap a ms) (hb : IntL s.heap b ns) (hu : A.units < cLine) (h : Q (decide (ms = ns)) s) : wpAny (model prog w) A (eqBool (.ref a) (.ref b)) Q E s := by
  unfold eqBool
  refine wpAny_holding ?_
  by_cases hab : a = b
  · subst hab
    have e : ms = ns := by
      obtain ⟨xs, n, hx, hxi⟩ := ha
      obtain ⟨ys, n', hy, hyi⟩ := hb
      have : (listOf xs n) = (listOf ys n') := Option.some.inj (hx.symm.trans hy)
      cases this
      exact intsAre_inj hxi hyi
    subst e
    show wpAny _ _ (if (Value.ref a == Value.ref a) = true then _ else _) Q E s
    rw [if_pos (by simp)]
    exact wpAny_bind (wpAny_rule (wpAny_pure (by simpa using h)))
  · show wpAny _ _ (if (Value.ref a == Value.ref b) = true then _ else _) Q E s
    rw [if_neg (by simpa using hab)]
    exact wpAny_bind (cmpEq_ref (Q := fun v s₁ => wpAny (model prog w) A (truthOfDropped v) Q E s₁) ha hb hu (wpAny_truthy_bool h))
open AutoSeq1 (wpAny_loadPart') in
theorem lt_loop (l b : Addr) (items items2 : Array Value) (n n2 : Nat) (ms ns : List Int) (hm : IntsAre items.toList ms) (hn : IntsAre items2.toList ns) (hlen : ms.length = ns.length) (k : Nat) :
    ∀ i : Nat, items.size - i = k → Meets (Builtin.«list.__eq__.loop» ⟨[.ref l, .ref b, rawInt i, rawInt 0], []⟩)
      (fun _ R s => IsL s.heap l items n ∧ IsL s.heap b items2 n2 ∧ R (.ok (.ret (.bool (lexLt (ms.drop i) (ns.drop i))))) s) := by
  have s1 := ints_size hm
  have s2 := ints_size hn
  induction k with
  | zero =>
    intro i hk prog w A R s h
    obtain ⟨hp, g, d, tk, os⟩ := s; obtain ⟨hl, hb, h⟩ := h
    wp_walk using wpAny_loadPart' hl, wpAny_loadPart' hb
    have hi1 : items[((i : Nat) : Int).toNat]? = none := by simp; omega
    have hi2 : items2[((i : Nat) : Int).toNat]? = none := by simp; omega
    rw [List.drop_eq_nil_of_le (by omega), List.drop_eq_nil_of_le (by omega)] at h
    rw [hi1, hi2]
    wp_walk using wpAny_loadPart' hl, wpAny_loadPart' hb
    show R (.ok (.ret (.bool (decide (items.size < items2.size))))) _
    rw [decide_eq_false (by omega)]
    exact h
  | succ k ih =>
    intro i hk prog w A R s h
    obtain ⟨hp, g, d, tk, os⟩ := s; obtain ⟨hl, hb, h⟩ := h
    wp_walk using wpAny_loadPart' hl, wpAny_loadPart' hb
    have hlt : i < items.size := by omega
    have hlt2 : i < items2.size := by omega
    have hi1 : items[((i : Nat) : Int).toNat]? = some items[i] := by simp [hlt]
    have hi2 : items2[((i : Nat) : Int).toNat]? = some items2[i] := by simp [hlt2]
    have hc : ((i : Int) + 1) = ((i + 1 : Nat) : Int) := by push_cast; rfl
    obtain ⟨t, e1⟩ := ints_at hm hlt
    obtain ⟨u, e2⟩ := ints_at hn hlt2
    have d1 : ms.drop i = ms.getD i 0 :: ms.drop (i + 1) := by
      rw [List.drop_eq_getElem_cons (by omega)]; simp [List.getD, show i < ms.length by omega]
    have d2 : ns.drop i = ns.getD i 0 :: ns.drop (i + 1) := by
      rw [List.drop_eq_getElem_cons (by omega)]; simp [List.getD, show i < ns.length by omega]
    rw [d1, d2, lexLt] at h
    rw [hi1, hi2, e1, e2]
    generalize ms.getD i 0 = p at *
    generalize ns.getD i 0 = q at *
    refine wpAny_bind (MeetsSeq.EqGives.int p q t u prog w _ _ _ _ ?_)
    by_cases hb' : p = q
    · rw [if_pos hb'] at h
      rw [show (p == q) = true from by simpa using hb']
      wp_walk
      rw [hc]
      exact ⟨plainId_quiet MeetsSeq3.plain_eq_loop _, codeAny_builtin MeetsSeq3.entry_eq_loop (by
        rw [Around.under_plainId MeetsSeq3.plain_eq_loop _]
        exact ih (i + 1) (by omega) prog w A R _ ⟨hl, hb, h⟩)⟩
    · rw [if_neg hb'] at h
      rw [show (p == q) = false from by simpa using hb']
      wp_walk using wpAny_loadPart' hl, wpAny_loadPart' hb
      rw [hi1, hi2, e1, e2]
      refine wpAny_bind ?_
      exact lt_int (Q := fun v s₁ => wpAny (model prog w) A.in1 (ret v) _ _ s₁) (wpAny_pure h)
open AutoSeq1 (wpAny_loadPart') in
theorem list_lt (l b : Addr) (items items2 : Array Value) (n n2 : Nat) (ms ns : List Int) (hm : IntsAre items.toList ms) (hn : IntsAre items2.toList ns) (hlen : ms.length = ns.length) :
    Meets (Builtin.«list.__lt__» ⟨[.ref l, .ref b], []⟩) (fun _ R s => IsL s.heap l items n ∧ IsL s.heap b items2 n2 ∧ R (.ok (.ret (.bool (lexLt ms ns)))) s) := by
  intro prog w A R s h
  obtain ⟨hp, g, d, tk, os⟩ := s; obtain ⟨hl, hb, h⟩ := h
  have f3 := AutoSeq1.sub_list_list
  wp_walk using wpAny_loadPart' hl, wpAny_loadPart' hb
  exact ⟨plainId_quiet MeetsSeq3.plain_eq_loop _, codeAny_builtin MeetsSeq3.entry_eq_loop (by
    rw [Around.under_plainId MeetsSeq3.plain_eq_loop _]
    exact lt_loop l b items items2 n n2 ms ns hm hn hlen _ 0 rfl prog w A R _ ⟨hl, hb, by simpa using h⟩)⟩
theorem cmpLt_ref {Q : Value → Shared → Prop} (ha : IntL s.heap a ms) (hb : IntL s.heap b ns) (hlen : ms.length = ns.length) (hu : A.units < cLine) (h : Q (.bool (lexLt ms ns)) s) : wpAny (model prog w) A (richCompare .Lt (.ref a) (.ref b)) Q E s := by
  obtain ⟨xs, n, hx, hxi⟩ := ha
  obtain ⟨ys, n', hy, hyi⟩ := hb
  exact richCompare_meets_room (op := .Lt) ⟨_, hx, rfl⟩ ⟨_, hy, rfl⟩ F.slot_list_lt F.entry_list_lt (F.args_list_lt_2 _ _) (list_lt a b xs ys n n' ms ns hxi hyi hlen)
    ⟨hx, hy, show Value.bool (lexLt ms ns) ≠ Value.notImplemented ∧ Q (.bool (lexLt ms ns)) s from ⟨(fun x => nomatch x), h⟩⟩ hu
open AutoSeq1 (wpAny_loadPart') in
theorem index_loopH (l : Addr) (items : Array Value) (n : Nat) (x : Value) (s : Shared) (e : Nat → Bool) (j : Nat) (hj : j < items.size) (upto : Int) (hlt : (j : Int) < upto) (hit : e j = true) (hno : ∀ m, m < j → e m = false)
    (he : ∀ (prog : Program) (w : World) (A : Around) (E : Value → Shared → Prop) (Q : Bool → Shared → Prop) (m : Nat) (hm : m < items.size), A.units < cLine → Q (e m) s → wpAny (model prog w) A (eqBool items[m] x) Q E s)
    (hl : IsL s.heap l items n) (k : Nat) :
    ∀ i : Nat, j - i = k → i ≤ j → ∀ (prog : Program) (w : World) (A : Around) (R : Result → Shared → Prop), A.units + 2 < cLine → R (.ok (.ret (.int j s.toks))) { s with toks := s.toks + 1 } →
      wpAny (model prog w) A.in1 (Builtin.«list.index.loop» ⟨[.ref l, x, rawInt i, rawInt upto], []⟩) (fun fin s' => match fin with | .done f => R (.ok f) s' | .again c' => c'.quiet = true ∧ codeAny (model prog w) A c' R s') (fun e s' => R (.error e) s') s := by
  obtain ⟨hp, g, d, tk, os⟩ := s
  induction k with
  | zero =>
    intro i hk hij prog w A R hu h
    have hij' : i = j := by omega
    subst hij'
    wp_walk using wpAny_loadPart' hl
    have hi : (if (i : Int) < upto then items[((i : Nat) : Int).toNat]? else none) = some items[i] := by
      rw [if_pos hlt]; simp [hj]
    rw [hi]
    refine wpAny_bind (he prog w _ _ _ i hj (by show A.units + 1 < cLine; omega) ?_)
    rw [hit]
    wp_walk
    exact h
  | succ k ih =>
    intro i hk hij prog w A R hu h
    have hlt' : i < items.size := by omega
    wp_walk using wpAny_loadPart' hl
    have hi : (if (i : Int) < upto then items[((i : Nat) : Int).toNat]? else none) = some items[i] := by
      rw [if_pos (by omega)]; simp [hlt']
    have hc : ((i : Int) + 1) = ((i + 1 : Nat) : Int) := by push_cast; rfl
    rw [hi]
    refine wpAny_bind (he prog w _ _ _ i hlt' (by show A.units + 1 < cLine; omega) ?_)
    rw [hno i (by omega)]
    wp_walk
    rw [hc]
    exact ⟨plainId_quiet MeetsSeq.plain_index_loop _, codeAny_builtin MeetsSeq.entry_index_loop (by
      rw [Around.under_plainId MeetsSeq.plain_index_loop _]
      exact ih (i + 1) (by omega) (by omega) prog w A R hu h)⟩
open AutoSeq1 (wpAny_loadPart') in
theorem index_call {l : Addr} {items : Array Value} {n : Nat} {x : Value} {Q : Value → Shared → Prop} (e : Nat → Bool) (j : Nat) (hj : j < items.size) (hsz : items.size ≤ 1000) (hit : e j = true) (hno : ∀ m, m < j → e m = false)
    (he : ∀ (prog : Program) (w : World) (A : Around) (E : Value → Shared → Prop) (Q : Bool → Shared → Prop) (m : Nat) (hm : m < items.size), A.units < cLine → Q (e m) s → wpAny (model prog w) A (eqBool items[m] x) Q E s)
    (hl : IsL s.heap l items n) (hu : A.units + 2 < cLine) (h : Q (.int j s.toks) { s with toks := s.toks + 1 }) : wpAny (model prog w) A (call (.builtin "list.index") [.ref l, x]) Q E s := by
  refine wpAny_call (codeAny_call_builtin F.slot_list_index.plain F.entry_list_index (F.slot_list_index.check _ _ _ _ _ _ _ _ ⟨_, hl, rfl⟩ (F.args_list_index_2 _ _) ?_))
  have key := index_loopH l items n x s e j hj (2 ^ 63 - 1) (by omega) hit hno he hl _ 0 rfl (Nat.zero_le _) prog w A (wants Q E) hu h
  obtain ⟨hp, g, d, tk, os⟩ := s
  wp_walk using wpAny_loadPart' hl
  have a1 : ((fun i : Int => if i < 0 then max 0 (i + (items.size : Int)) else i) ((none : Option Int).getD 0)) = ((0 : Nat) : Int) := by simp
  have a2 : ((fun i : Int => if i < 0 then max 0 (i + (items.size : Int)) else i) ((none : Option Int).getD (2 ^ 63 - 1))) = 2 ^ 63 - 1 := by simp
  rw [a1, a2]
  exact ⟨plainId_quiet MeetsSeq.plain_index_loop _, codeAny_builtin MeetsSeq.entry_index_loop (by
    rw [Around.under_plainId MeetsSeq.plain_index_loop _]
    exact key)⟩
def RowsAt (h : Heap) (I S : Addr) (items : Array Value) (rows : List (List Int)) : Prop := ∀ (i : Nat) v, items[i]? = some v → ∃ T, v = .ref T ∧ IntL h T (rows.getD i []) ∧ T ≠ I ∧ T ≠ S
theorem RowsAt.keep {h h' : Heap} {I S : Addr} {items : Array Value} {rows : List (List Int)} (x : RowsAt h I S items rows) (k : ∀ b o, b ≠ I → b ≠ S → h.get? b = some o → h'.get? b = some o) : RowsAt h' I S items rows := by
  intro i v hv
  obtain ⟨T, rfl, h1, h2, h3⟩ := x i v hv
  exact ⟨T, rfl, h1.at fun o e => k T o h2 h3 e, h2, h3⟩
def btOf (rows : List (List Int)) (i j : Nat) : Bool := lexLt (rows.getD i []) (rows.getD j [])
theorem min_loopH {I S l : Addr} {items : Array Value} {rows : List (List Int)} {R : Result → Shared → Prop} (hh : A.handled = none) (hu : A.units + 2 < cLine) (nlI : l ≠ I) (nSI : S ≠ I) (nSl : S ≠ l) (hlen : ∀ i j, i < items.size → j < items.size → (rows.getD i []).length = (rows.getD j []).length) :
    ∀ (k j : Nat) (s : Shared) (vb : Value) (c : Nat), items.size - (j + 1) = k → j + 1 ≤ items.size → s.heap.IsListIter I l (j + 1) → s.heap.IsList l items → items[argBest (btOf rows) j]? = some vb → IsL s.heap S #[vb, vb] c → RowsAt s.heap I S items rows →
    (∀ v h' tk, items[argBest (btOf rows) (items.size - 1)]? = some v → (∀ b o, b ≠ I → b ≠ S → s.heap.get? b = some o → h'.get? b = some o) → R (.ok (.ret v)) { s with heap := h', toks := tk }) →
    codeAny (model prog w) A (.builtin "min.loop" ⟨[.ref I, .none, .ref S], []⟩) R s := by
  have W := Walks.list (prog := prog) (w := w) (A := A.in1) hh I l nlI items
  have hname : (toString "min" ++ toString ".loop" : String) = "min.loop" := by decide
  intro k
  induction k with
  | zero =>
    intro j s vb c hk hj hit hl hb hS hrows hR
    have hin : j + 1 = items.size := by omega
    refine codeAny_builtin F.entry_min_loop ?_
    rw [Around.under_plainId F.plain_min_loop _]
    show wpAny _ A.in1 (seqItems? (.ref S) >>= _) _ _ s
    refine wpAny_bind (wpAny_seqItems hS rfl ?_)
    show wpAny _ A.in1 (tryCatch (pyNext (.ref I)) _ >>= _) _ _ s
    refine wpAny_bind (wpAny_tryCatch (W.done s _ _ (hin ▸ ⟨hit, hl⟩) fun h' tk hk' => ?_))
    have hS' : IsL h' S #[vb, vb] c := hk' S _ (fun hm => nSI (List.mem_singleton.mp hm)) hS
    show wpAny _ A.in1 (updateSeq S (fun _ => #[]) >>= _) _ _ _
    refine wpAny_bind ?_
    refine wpAny_updateSeq hS' rfl (wpAny_bind (wpAny_letGo (wpAny_pure ?_)))
    refine hR vb _ tk (by rw [← hin]; exact hb) fun b o hbI hbS e => (Heap.get?_update_other _ _ (Ne.symm hbS)).trans (hk' b o (fun hm => hbI (List.mem_singleton.mp hm)) e)
  | succ k ih =>
    intro j s vb c hk hj hit hl hb hS hrows hR
    have hlt : j + 1 < items.size := by omega
    refine codeAny_builtin F.entry_min_loop ?_
    rw [Around.under_plainId F.plain_min_loop _]
    show wpAny _ A.in1 (seqItems? (.ref S) >>= _) _ _ s
    refine wpAny_bind (wpAny_seqItems hS rfl ?_)
    show wpAny _ A.in1 (tryCatch (pyNext (.ref I)) _ >>= _) _ _ s
    refine wpAny_bind (wpAny_tryCatch (W.item (j + 1) s _ _ hlt ⟨hit, hl⟩ fun v h' tk hP hst' hk' => ?_))
    have hkI : ∀ b o, b ≠ I → s.heap.get? b = some o → h'.get? b = some o := fun b o hb e => hk' b o (fun hm => hb (List.mem_singleton.mp hm)) e
    have hS' : IsL h' S #[vb, vb] c := hkI S _ nSI hS
    have hrows' : RowsAt h' I S items rows := hrows.keep fun b o hbI _ e => hkI b o hbI e
    obtain ⟨T1, rfl, r1, _, _⟩ := hrows' (j + 1) v hP
    obtain ⟨T2, rfl, r2, _, _⟩ := hrows' (argBest (btOf rows) j) vb hb
    have hbl : argBest (btOf rows) j < items.size := (Array.getElem?_eq_some_iff.mp hb).1
    show wpAny _ A.in1 (tryCatch (holding [Value.ref T1, Value.ref T1] (richCompare .Lt (.ref T1) (.ref T2) >>= _)) _ >>= _) _ _ _
    refine wpAny_bind (wpAny_tryCatch (wpAny_holding (wpAny_bind (cmpLt_ref r1 r2 (hlen _ _ hlt hbl) (by show A.units + 1 < cLine; omega) ?_))))
    refine wpAny_bind (wpAny_holding (wpAny_truthy_bool ?_))
    refine wpAny_bind (wpAny_letGo (wpAny_pure ?_))
    cases hbt : lexLt (rows.getD (j + 1) []) (rows.getD (argBest (btOf rows) j) []) with
    | true =>
      simp only [if_true]
      refine wpAny_bind ?_
      refine wpAny_updateSeq hS' rfl (wpAny_bind (wpAny_letGo ?_))
      rw [hname]
      have kS : ∀ b o, b ≠ S → h'.get? b = some o → (h'.update S (Obj.mapSeq fun _ => #[Value.ref T1, Value.ref T1])).get? b = some o := fun b o hbS e => (Heap.get?_update_other _ _ (Ne.symm hbS)).trans e
      refine wpAny_pure ⟨plainId_quiet F.plain_min_loop _, ih (j + 1) _ (.ref T1) _ (by omega) hlt (hst'.1.at fun o e => kS I o (Ne.symm nSI) e) (hst'.2.at fun o e => kS l o (Ne.symm nSl) e) ?_ (Heap.get?_update_self _ hS' rfl) (hrows'.keep fun b o _ hbS e => kS b o hbS e) fun v' h'' tk'' hP' hk'' => ?_⟩
      · simp only [argBest, btOf, hbt, if_true]; exact hP
      · exact hR v' h'' tk'' hP' fun b o hbI hbS e => hk'' b o hbI hbS (kS b o hbS (hkI b o hbI e))
    | false =>
      simp only [Bool.false_eq_true, if_false]
      refine wpAny_bind (wpAny_letGo ?_)
      rw [hname]
      refine wpAny_pure ⟨plainId_quiet F.plain_min_loop _, ih (j + 1) _ (.ref T2) c (by omega) hlt hst'.1 hst'.2 ?_ hS' hrows' fun v' h'' tk'' hP' hk'' => ?_⟩
      · simp only [argBest]
        rw [show btOf rows (j + 1) (argBest (btOf rows) j) = false from hbt]
        exact hb
      · exact hR v' h'' tk'' hP' fun b o hbI hbS e => hk'' b o hbI hbS (hkI b o hbI e)
end
end Mine
end
-- part Base4
section
open PySem PySem.W PyProof.Rows PySem.Calls
set_option Elab.async false
set_option maxRecDepth 100000
set_option maxHeartbeats 8000000
set_option linter.all false
namespace Mine
theorem walkOff9 : True := by w_top off; trivial
local macro_rules | `(tactic| walk_at "pad") => `(tactic| skip)
local macro_rules | `(tactic| walk_at "pad") => `(tactic| skip)
local macro_rules | `(tactic| walk_at "pad") => `(tactic| skip)
local macro_rules | `(tactic| walk_at "pad") => `(tactic| skip)
local macro_rules | `(tactic| walk_at "pad") => `(tactic| skip)
local macro_rules | `(tactic| walk_at "pad") => `(tactic| skip)
local macro_rules | `(tactic| walk_at "pad") => `(tactic| skip)
local macro_rules | `(tactic| walk_at "pad") => `(tactic| skip)
local macro_rules | `(tactic| walk_at "pad") => `(tactic| skip)

section
variable {prog : Program} {w : World} {A : Around} {E : Value → Shared → Prop} {s : Shared}
theorem min_call {l : Addr} {items : Array Value} {rows : List (List Int)} {Q : Value → Shared → Prop} (hh : A.handled = none) (hu : A.units + 4 < cLine) (hn : 0 < items.size)
    (hl : s.heap.IsList l items) (hlen : ∀ i j, i < items.size → j < items.size → (rows.getD i []).length = (rows.getD j []).length)
    (hrows : ∀ (i : Nat) v, items[i]? = some v → ∃ T, v = .ref T ∧ IntL s.heap T (rows.getD i []))
    (hQ : ∀ T h' tk, IntL h' T (rows.getD (argBest (btOf rows) (items.size - 1)) []) → s.heap.StaysIn h' → Q (.ref T) { s with heap := h', toks := tk }) :
    wpAny (model prog w) A (call (.builtin "min") [.ref l]) Q E s := by
  have hname : (toString "min" ++ toString ".loop" : String) = "min.loop" := by decide
  refine call_function_tree F.kind_min F.plain_min F.entry_min (F.args_min1 _) ?_
  show wpAny _ A.in1 (Builtin.Builtins.bindParams "min" ["key", "default"] 0 ⟨[], []⟩ >>= _) _ _ s
  refine wpAny_bind (wpAny_of_eq (show Builtin.Builtins.bindParams "min" ["key", "default"] 0 ⟨[], []⟩ = pure [none, none] from rfl) ?_)
  refine wpAny_bind (wpAny_pure ?_)
  refine wpAny_bind (wpAny_pyIter_list hl ?_)
  refine wpAny_bind (wpAny_newObj_type ?_)
  rw [hname]
  refine wpAny_pure ⟨plainId_quiet F.plain_min_loop _, ?_⟩
  dsimp only
  obtain ⟨ol, hol, hol'⟩ := id hl
  have hlt : l < s.heap.objs.size := Heap.lt_size hol
  generalize hH1 : s.heap.push { cls := .type "list_iterator", data := .fields #[.ref l, .int 0 0] } = H1
  have z1 : H1.objs.size = s.heap.objs.size + 1 := by rw [← hH1, Heap.size_push]
  have u1 : ∀ b o, s.heap.get? b = some o → H1.get? b = some o := fun b o e => hH1 ▸ Heap.get?_push_of_some _ e
  have gI : H1.IsListIter s.heap.objs.size l 0 := ⟨_, hH1 ▸ Heap.get?_push_size _ rfl, rfl, rfl⟩
  have nSI : H1.objs.size ≠ s.heap.objs.size := by rw [z1]; exact Nat.succ_ne_self _
  have nlI : l ≠ s.heap.objs.size := Nat.ne_of_lt hlt
  have nSl : H1.objs.size ≠ l := by rw [z1]; exact Ne.symm (Nat.ne_of_lt (Nat.lt_succ_of_lt hlt))
  refine codeAny_builtin F.entry_min_loop ?_
  rw [Around.under_plainId F.plain_min_loop _]
  generalize hH2 : H1.push _ = H2
  have u2 : ∀ b o, H1.get? b = some o → H2.get? b = some o := fun b o e => hH2 ▸ Heap.get?_push_of_some _ e
  have gS : IsL H2 H1.objs.size #[] 0 := hH2 ▸ Heap.get?_push_size _ rfl
  have W := Walks.list (prog := prog) (w := w) (A := A.in1) hh s.heap.objs.size l nlI items
  show wpAny _ A.in1 (seqItems? (.ref H1.objs.size) >>= _) _ _ _
  refine wpAny_bind (wpAny_seqItems gS rfl ?_)
  show wpAny _ A.in1 (tryCatch (pyNext (.ref s.heap.objs.size)) _ >>= _) _ _ _
  refine wpAny_bind (wpAny_tryCatch (W.item 0 _ _ _ hn ⟨gI.at fun o e => u2 _ o e, hl.at fun o e => u2 _ o (u1 _ o e)⟩ fun v h' tk hP hst' hk' => ?_))
  have hS' : IsL h' H1.objs.size #[] 0 := hk' _ _ (fun hm => nSI (List.mem_singleton.mp hm)) gS
  show wpAny _ A.in1 (updateSeq H1.objs.size (fun _ => #[v, v]) >>= _) _ _ _
  refine wpAny_bind ?_
  refine wpAny_updateSeq hS' rfl ?_
  rw [hname]
  have k1 : ∀ b o, b ≠ s.heap.objs.size → b ≠ H1.objs.size → H2.get? b = some o → (h'.update H1.objs.size (Obj.mapSeq fun _ => #[v, v])).get? b = some o := fun b o hb hb2 e => (Heap.get?_update_other _ _ (Ne.symm hb2)).trans (hk' b o (fun hm => hb (List.mem_singleton.mp hm)) e)
  have k0 : ∀ b o, s.heap.get? b = some o → (h'.update H1.objs.size (Obj.mapSeq fun _ => #[v, v])).get? b = some o := fun b o e => k1 b o (Nat.ne_of_lt (Heap.lt_size e)) (by rw [z1]; exact Nat.ne_of_lt (Nat.lt_succ_of_lt (Heap.lt_size e))) (u2 b o (u1 b o e))
  refine wpAny_pure ⟨plainId_quiet F.plain_min_loop _, min_loopH (A := A) (I := s.heap.objs.size) (S := H1.objs.size) (l := l) (items := items) (rows := rows) hh (by omega) nlI nSI nSl hlen _ 0 _ v _ rfl hn ?_ ?_ hP (Heap.get?_update_self _ hS' rfl) ?_ fun v' h'' tk'' hP' hk'' => ?_⟩
  · exact hst'.1.at fun o e => (Heap.get?_update_other _ _ nSI).trans e
  · exact hst'.2.at fun o e => (Heap.get?_update_other _ _ nSl).trans e
  · intro i v hv
    obtain ⟨T, rfl, hT⟩ := hrows i v hv
    have hTl : T < s.heap.objs.size := by obtain ⟨_, _, q, _⟩ := hT; exact Heap.lt_size q
    exact ⟨T, rfl, hT.at fun o e => k0 T o e, Nat.ne_of_lt hTl, by rw [z1]; exact Nat.ne_of_lt (Nat.lt_succ_of_lt hTl)⟩
  · obtain ⟨T, rfl, hT⟩ := hrows _ _ hP'
    have kk : s.heap.StaysIn h'' := fun b o e => hk'' b o (Nat.ne_of_lt (Heap.lt_size e)) (by rw [z1]; exact Nat.ne_of_lt (Nat.lt_succ_of_lt (Heap.lt_size e))) (k0 b o e)
    exact hQ T h'' tk'' (hT.at fun o e => kk T o e) kk
end
section
variable {prog : Program} {w : World} {A : Around} {E : Value → Shared → Prop} {s : Shared} {env : Env}
theorem compRN_loop {elt iter : Expr} {x : Str} {px : Pos} {scope : Scope} {cl : List (Str × Addr)} {pos : Pos} {R : Result → Shared → Prop} {G : Int → Array Value → Prop} {H₀ : Heap} {I D C : Addr} {a : Int} {n : Nat} {m : Str → Option Value}
    (hh : A.handled = none) (hkind : scope.kind = .function) (hx : scope.names.lookup x = some .local) (hsz : n ≤ sizeLine)
    (hit : IsRangeIter s.heap I a n 1) (hD : s.heap.PlainList D #[]) (hC : s.heap.Ns C m)
    (nID : I ≠ D) (nCI : C ≠ I) (nCD : C ≠ D)
    (fI : H₀.get? I = none) (fD : H₀.get? D = none) (fC : H₀.get? C = none) (st : H₀.StaysIn s.heap)
    (helt : ∀ (i : Nat) t s₃ m₃ E', i < n → s₃.heap.Ns C m₃ → m₃ x = some (.int (a + i) t) → H₀.StaysIn s₃.heap →
      wpAny (model prog w) A (eval elt (compEnvC scope cl C env)) (fun y s₄ => (∃ T its, y = .ref T ∧ s₃.heap.get? T = none ∧ s₄.heap.PlainList T its ∧ G (a + i) its) ∧ Keeps s₃ s₄) E' s₃)
    (hR : ∀ h' tk ys m', h'.PlainList D ys → Paired (LL H₀ I D C G h') (rangeL a n) ys.toList → H₀.StaysIn h' → h'.Ns C m' → R (.ok .next) { s with heap := h', toks := tk }) :
    codeAny (model prog w) A (.compLoop (.ListComp elt [⟨.Name x px, iter, [], 0⟩] scope pos) 0 (.ref I) (.ref D) (compEnvC scope cl C env)) R s := by
  have W := Walks.range (prog := prog) (w := w) hh I a 1 n
  refine codeAny_compLoop_list (fun k s' => ∃ h' tk ys j m', s' = { s with heap := h', toks := tk } ∧ IsRangeIter h' I (a + (j : Nat) * 1) ((n : Int) - (j : Nat)) 1 ∧ h'.PlainList D ys ∧ h'.Ns C m' ∧
    Paired (LL H₀ I D C G h') (rangeL a j) ys.toList ∧ j ≤ n ∧ k = n + 1 - j ∧ H₀.StaysIn h') ?_ (n + 1) ⟨s.heap, s.toks, #[], 0, m, rfl, by simpa using hit, hD, hC, .nil, Nat.zero_le _, rfl, st⟩
  rintro k s' ⟨h', tk, ys, j, m', rfl, hit', hD', hC', hP, hj, rfl, st'⟩
  by_cases hlt : j < n
  · refine W.item j _ _ _ hlt hit' fun v h₁ tk₁ hPv hst₁ hk₁ => ?_
    obtain ⟨t, rfl⟩ := hPv
    rw [Int.mul_one]
    have k1 : ∀ b o, b ≠ I → h'.get? b = some o → h₁.get? b = some o := fun b o hb e => hk₁ b o (fun hm => hb (List.mem_singleton.mp hm)) e
    refine wpAny_assign_Name (wpAny_storeName_local (env := compEnvC scope cl C env) (lookup_relabel_local hx) (hC'.at' fun o e => k1 C o nCI e) (fun h₂ c2 sb₂ => ?_) (by simp [compEnvC, relabel, hkind]))
    have k2 : ∀ b o, b ≠ C → h₁.get? b = some o → h₂.get? b = some o := fun b o hb e => sb₂.extBut b o hb e
    have st2 : H₀.StaysIn h₂ := fun b o e => k2 b o (fun q => by rw [q, fC] at e; cases e) (k1 b o (fun q => by rw [q, fI] at e; cases e) (st' b o e))
    have it2 : IsRangeIter h₂ I (a + ((j + 1 : Nat) : Int) * 1) ((n : Int) - ((j + 1 : Nat) : Int)) 1 := k2 I _ (Ne.symm nCI) hst₁
    have D2 : h₂.PlainList D ys := hD'.at fun o e => k2 D o (Ne.symm nCD) (k1 D o (Ne.symm nID) e)
    refine wpAny_mono (helt j t _ _ _ hlt c2 (by simp) st2) (fun y s₄ h₄ => ?_) fun _ _ e => e
    obtain ⟨⟨T, its, rfl, hTn, hT, hG⟩, h₄, tk₄, rfl, k4⟩ := h₄
    have nTI : T ≠ I := ne_of_none_some hTn it2
    have nTD : T ≠ D := by obtain ⟨_, ho⟩ := D2; exact ne_of_none_some hTn ho
    have nTc : T ≠ C := by obtain ⟨_, _, _, ho, _⟩ := c2; exact ne_of_none_some hTn ho
    have hT0 : H₀.get? T = none := by
      cases e : H₀.get? T with
      | none => rfl
      | some o => exact absurd rfl (ne_of_none_some hTn (st2 T o e))
    have hys : ys.size ≤ sizeLine := by
      have e1 := hP.length
      rw [rangeL_length] at e1
      have e4 : ys.toList.length = ys.size := by simp
      omega
    refine wpAny_list_append_plain (hsz := hys) (D2.at fun o e => k4 _ o e) fun h₅ hl₅ sb₅ => ?_
    have k5 : ∀ b o, b ≠ D → h₄.get? b = some o → h₅.get? b = some o := fun b o hb e => sb₅.extBut b o hb e
    refine ⟨n + 1 - (j + 1), by omega, h₅, tk₄, ys.push (.ref T), j + 1, _, rfl, k5 I _ nID (k4 I _ it2), hl₅, (c2.keeps k4).at' fun o e => k5 C o nCD e, ?_, hlt, rfl, ?_⟩
    · rw [rangeL_succ]
      have hP5 := hP.mono (F' := LL H₀ I D C G h₅) fun i y hy => hy.keep fun b o hbI hbD hbc e => k5 b o hbD (k4 b o (k2 b o hbc (k1 b o hbI e)))
      simpa using Paired.snoc hP5 ⟨T, its, rfl, hT0, nTI, nTD, nTc, hT.at fun o e => k5 T o nTD e, hG⟩
    · exact fun b o e => k5 b o (fun q => by rw [q, fD] at e; cases e) (k4 b o (st2 b o e))
  · have hin : j = n := by omega
    subst hin
    refine W.done _ _ _ hit' fun h₁ tk₁ hk₁ => ?_
    have k1 : ∀ b o, b ≠ I → h'.get? b = some o → h₁.get? b = some o := fun b o hb e => hk₁ b o (fun hm => hb (List.mem_singleton.mp hm)) e
    exact hR h₁ tk₁ ys m' (hD'.at fun o e => k1 D o (Ne.symm nID) e) (hP.mono fun i y hy => hy.keep fun b o hbI _ _ e => k1 b o hbI e)
      (fun b o e => k1 b o (fun q => by rw [q, fI] at e; cases e) (st' b o e)) (hC'.at' fun o e => k1 C o nCI e)
/-- an assignment of a comprehension over a range, its variable local, its elements new lists -/
def CompSrcRN (prog : Program) (w : World) (A : Around) (env : Env) (scope : Scope) (cl : List (Str × Addr)) (x : Str) (elt : Expr) (G : Int → Array Value → Prop) (y : Str) (Q : Flow → Shared → Prop) (xv : Value) (s : Shared) : Prop :=
  ∃ (r : Addr) (a b : Int) (n : Nat) (t u v : Tok) (m : Str → Option Value), xv = .ref r ∧ IsRange s.heap r a b 1 t u v ∧ b = a + n ∧ -1000000 ≤ a ∧ a + n ≤ 1000000 ∧ n ≤ sizeLine ∧ s.heap.Ns env.locals m ∧
    (∀ (C i : Nat) t s₃ m₃ E', i < n → s₃.heap.Ns C m₃ → m₃ x = some (.int (a + i) t) → s.heap.StaysIn s₃.heap →
      wpAny (model prog w) A (eval elt (compEnvC scope cl C env)) (fun y s₄ => (∃ T its, y = .ref T ∧ s₃.heap.get? T = none ∧ s₄.heap.PlainList T its ∧ G (a + i) its) ∧ Keeps s₃ s₄) E' s₃) ∧
    (∀ D h' tk ys nn, s.heap.get? D = none → IsL h' D ys nn → Paired (LLs s.heap G h') (rangeL a n) ys.toList → h'.Ns env.locals (fun z => if z = y then some (.ref D) else m z) → (∀ b o, b ≠ env.locals → s.heap.get? b = some o → h'.get? b = some o) →
      Q .next { s with heap := h', toks := tk })
theorem assignRN {elt iter : Expr} {x y : Str} {px py : Pos} {scope : Scope} {cl : List (Str × Addr)} {pos spos : Pos} {Q : Flow → Shared → Prop} (G : Int → Array Value → Prop)
    (hsw : swapsWith (.ListComp elt [⟨.Name x px, iter, [], 0⟩] scope pos) (some (.Name y py)) spos.line env = pure true)
    (hh : A.handled = none) (hclos : closureFor scope env = pure cl) (hcell : ∀ z ∈ scope.names, z.2 ≠ .cell) (hkind : scope.kind = .function)
    (hnames : ∀ z ∈ scope.names, z.2 = .local → scope.names.lookup z.1 = some .local) (hx : scope.names.lookup x = some .local)
    (hy : env.kindOf y = some .local) (hp : (env.scope.kind == .class || (env.scope.kind == .module && env.locals != env.globals)) = false)
    (h : wpAny (model prog w) A (eval iter env) (CompSrcRN prog w A env scope cl x elt G y Q) E s)
    (hs : ∀ x, foldedSetIterable iter env x = pure x := by intro _; rfl) :
    wpAny (model prog w) A (exec (.Assign [.Name y py] (.ListComp elt [⟨.Name x px, iter, [], 0⟩] scope pos) spos) env) Q E s := by
  rw [exec_Assign_Name_used _ _ _ _ hsw]
  refine wpAny_bind (wpAny_standAt (wpAny_bind ?_))
  show wpAny _ A (do let _ ← comprehension (.ListComp elt [⟨.Name x px, iter, [], 0⟩] scope pos) scope env _ (newList []) false (eval iter env) (some (assign (.Name y py) env))) _ _ s
  refine wpAny_bind (wpAny_mono (wpAny_comprehension_free (use := some (assign (.Name y py) env)) (Q := fun _ s' => Q .next s') rfl hs hclos hkind hnames
    (wpAny_mono h (fun xv s hc => ?_) fun _ _ e => e)) (fun _ s' hq => wpAny_pure (wpAny_pure hq)) fun _ _ e => e)
  obtain ⟨r, a, b, n, t, u, v, m, rfl, hr, rfl, ha, hb, hsz, hn, helt, hQ⟩ := hc
  refine wpAny_pyIter_range hr (small_one (by omega) (by omega) (by omega) (by omega)) ?_
  rw [rangeSize_n]
  refine wpAny_newObj_type (wpAny_newFunctionEnv hcell (by intro y hy; simp at hy) (fun h₁ hns₁ hsb₁ => ?_) hkind)
  dsimp only at hns₁ hsb₁ ⊢
  generalize hH1 : s.heap.push { cls := .type "range_iterator", data := .fields #[rawInt a, rawInt n, rawInt 1] } = H1 at hns₁ hsb₁ ⊢
  generalize hH2 : H1.push { cls := .type "list", data := .seq ([] : List Value).toArray } = H2 at hns₁ hsb₁ ⊢
  have z1 : H1.objs.size = s.heap.objs.size + 1 := by rw [← hH1, Heap.size_push]
  have z2 : H2.objs.size = s.heap.objs.size + 2 := by rw [← hH2, Heap.size_push, z1]
  have u1 : ∀ b o, s.heap.get? b = some o → H1.get? b = some o := fun b o e => hH1 ▸ Heap.get?_push_of_some _ e
  have u2 : ∀ b o, H1.get? b = some o → H2.get? b = some o := fun b o e => hH2 ▸ Heap.get?_push_of_some _ e
  have u3 : ∀ b o, H2.get? b = some o → h₁.get? b = some o := fun b o e => hsb₁.extBut b o (Nat.ne_of_lt (Heap.lt_size e)) (Heap.get?_push_of_some _ e)
  have gI : IsRangeIter h₁ s.heap.objs.size a n 1 := u3 _ _ (u2 _ _ (hH1 ▸ Heap.get?_push_size _ rfl))
  have gD : h₁.PlainList H1.objs.size #[] := ⟨0, u3 _ _ (hH2 ▸ Heap.get?_push_size _ rfl)⟩
  have fresh : ∀ b : Nat, s.heap.objs.size ≤ b → s.heap.get? b = none := fun b hb => by
    cases e : s.heap.get? b with
    | none => rfl
    | some o => exact absurd (Heap.lt_size e) (Nat.not_lt.mpr hb)
  have ne' : ∀ {p q : Nat}, p < q → p ≠ q := fun h => Nat.ne_of_lt h
  have hL : env.locals < s.heap.objs.size := by obtain ⟨o, _, _, ho, _⟩ := hn; exact Heap.lt_size ho
  have hLC : env.locals ≠ H2.objs.size := by rw [z2]; exact Nat.ne_of_lt (Nat.lt_of_lt_of_le hL (Nat.le_add_right _ _))
  have hLD : env.locals ≠ H1.objs.size := by rw [z1]; exact Nat.ne_of_lt (Nat.lt_of_lt_of_le hL (Nat.le_add_right _ _))
  have loop : codeAny (model prog w) A (.compLoop (.ListComp elt [⟨.Name x px, iter, [], 0⟩] scope pos) 0 (.ref s.heap.objs.size) (.ref H1.objs.size) (compEnvC scope cl H2.objs.size env))
      (compPost (model prog w) A E (some (assign (.Name y py) env)) (fun _ s' => Q .next s') (.ref H1.objs.size) H2.objs.size) { s with heap := h₁, toks := s.toks + ([] : List (Str × Value)).length } := by
    refine compRN_loop (H₀ := s.heap) (G := G) hh hkind hx hsz gI gD hns₁ (ne' (by omega)) (Ne.symm (ne' (by omega))) (Ne.symm (ne' (by omega)))
      (fresh _ (Nat.le_refl _)) (fresh _ (by omega)) (fresh _ (by omega)) (fun b o e => u3 b o (u2 b o (u1 b o e))) (fun i t s₃ m₃ E' hi hn3 hm3 st => helt _ i t s₃ m₃ E' hi hn3 hm3 st) ?_
    intro h' tk ys m' hpl hP st hnC
    show wpAny _ A (assign (.Name y py) env (.ref H1.objs.size)) _ _ _
    refine wpAny_assign_Name (wpAny_storeName_local hy (hn.keeps st) (fun h₂ hn₂ hs₂ => ?_) hp)
    refine ⟨m', hnC.sameBut hs₂ (Ne.symm hLC), fun h₃ hs₃ => ?_⟩
    obtain ⟨nn, hpl⟩ := hpl
    have k : ∀ b o, b ≠ H2.objs.size → b ≠ env.locals → h'.get? b = some o → h₃.get? b = some o := fun b o hb hb2 e => hs₃.extBut b o hb (hs₂.extBut b o hb2 e)
    refine hQ H1.objs.size h₃ _ ys nn (fresh _ (by omega)) (k _ _ (ne' (by omega)) (Ne.symm hLD) hpl) (hP.mono fun i y hy => ?_) (hn₂.sameBut hs₃ hLC) fun b o hbL e => k b o (ne' (Nat.lt_of_lt_of_le (Heap.lt_size e) (by omega))) hbL (st b o e)
    obtain ⟨T, its, rfl, h1, h2, h3, h4, h5, h6⟩ := hy
    refine ⟨T, its, rfl, h1, h5.at fun o e => k T o h4 (fun q => ?_) e, h6⟩
    obtain ⟨oC, _, _, hoC, _⟩ := hn
    rw [q, hoC] at h1; cases h1
  exact codeAny_compStart_list loop ((Walks.range hh s.heap.objs.size a 1 n).self 0 _ _ _ (by simpa using gI) loop)
end
section
variable {prog : Program} {w : World} {A : Around} {E : Value → Shared → Prop}
theorem sliceLK {h : Heap} {g d tk os} {value slice : Expr} {l : Addr} {items : Array Value} {vl vu : Value} {lo hi : Option Int} {Q : Value → Shared → Prop}
    (hl : h.IsList l items) (pl : IsPart vl lo) (pu : IsPart vu hi) (hsz : items.size ≤ 65536)
    (hs : subscripted slice false (.ref l) (.ref h.objs.size) = operate [.ref h.objs.size, .ref l] (getItem (.ref l) (.ref h.objs.size)))
    (ht : ∀ r, letTemporaryGo value (.ref l) r = pure ())
    (hq : Q (.ref (h.objs.size + 1)) ⟨(h.push { cls := .type "slice", data := .fields #[vl, vu, .none] }).push { cls := .type "list", data := .seq (slicePick items lo hi none) }, g, d, tk, os⟩) :
    wpAny (model prog w) A (subscriptTail value slice (.ref l) (.ref h.objs.size)) Q E ⟨h.push { cls := .type "slice", data := .fields #[vl, vu, .none] }, g, d, tk, os⟩ :=
  slice_listK (s := ⟨h, g, d, tk, os⟩) hl pl pu hq hs ht (by rw [sizeLine_eq]; omega)
end
theorem get_push2 (h : Heap) (o o' : Obj) (e : o'.isFreed = false) : ((h.push o).push o').get? (h.objs.size + 1) = some o' := by
  have := Heap.get?_push_size (o := o') (h.push o) e
  rw [Heap.size_push] at this; exact this
theorem fresh_ge {h : Heap} {b : Nat} (hb : h.objs.size ≤ b) : h.get? b = none := by
  cases e : h.get? b with
  | none => rfl
  | some o => exact absurd (Heap.lt_size e) (Nat.not_lt.mpr hb)
theorem extendK {prog : Program} {w : World} {A : Around} {E : Value → Shared → Prop} {s : Shared} {l b : Addr} {items its2 : Array Value} {n n2 : Nat} {Q : Value → Shared → Prop} (hl : IsL s.heap l items n) (hb : IsL s.heap b its2 n2) (h1 : items.size ≤ 3000) (h2 : its2.size ≤ 100)
    (h : ∀ h' n', IsL h' l (items ++ its2) n' → (∀ c o, c ≠ l → s.heap.get? c = some o → h'.get? c = some o) → Q .none { s with heap := h' }) : wpAny (model prog w) A (call (.builtin "list.extend") [.ref l, .ref b]) Q E s := by
  have hz : items.size + its2.size ≤ sizeLine := by rw [sizeLine_eq]; omega
  refine call_meets PySem.F.slot_list_extend ⟨_, hl, rfl⟩ PySem.F.entry_list_extend (PySem.F.args_list_extend_2 _ _) (PySem.AutoSeq1.list_extend_list_list_0 l items n b its2 n2 (extend_door hz) (by omega) (by omega)) ⟨hl, hb, ?_⟩
  exact h _ _ (IsL.update hl _) fun c o hc e => (Heap.get?_update_other _ _ (Ne.symm hc)).trans e
end Mine
end
-- part P6Least
section
open PySem PySem.W PyProof.Rows PySem.Calls
set_option Elab.async false
set_option maxRecDepth 100000
set_option maxHeartbeats 8000000
set_option linter.all false
namespace Mine
theorem walkOff10 : True := by w_top off; trivial
local macro_rules | `(tactic| walk_at "pad") => `(tactic| skip)
local macro_rules | `(tactic| walk_at "pad") => `(tactic| skip)
local macro_rules | `(tactic| walk_at "pad") => `(tactic| skip)
local macro_rules | `(tactic| walk_at "pad") => `(tactic| skip)
local macro_rules | `(tactic| walk_at "pad") => `(tactic| skip)
local macro_rules | `(tactic| walk_at "pad") => `(tactic| skip)
local macro_rules | `(tactic| walk_at "pad") => `(tactic| skip)
local macro_rules | `(tactic| walk_at "pad") => `(tactic| skip)
local macro_rules | `(tactic| walk_at "pad") => `(tactic| skip)
local macro_rules | `(tactic| walk_at "pad") => `(tactic| skip)
local macro_rules | `(tactic| walk_at "subscriptTail") => `(tactic| ((with_reducible show wpAny _ _ (subscriptTail _ (Expr.Slice _ _ none _) (Value.bytes _ _) (Value.ref _)) _ _ _); (rename Fr _ _ _ _ => F'); (rename News _ _ _ _ => N'); (refine sliceB (s := ⟨_, _, _, _, _⟩) F' N' (by constructor) (by constructor) ?_ ?_); rotate_left; intro _ _ _ F' N'))
local macro_rules | `(tactic| walk_at "subscriptTail") => `(tactic| ((with_reducible show wpAny _ _ (subscriptTail _ _ (Value.ref _) (Value.int _ _)) _ _ _); (rename Fr _ _ _ _ => F'); (refine itemL (Heap.IsList.at (by assumption) (Fr.keep F' _)) (by assumption) ?_ ?_ ?_ ?_); (rotate_left 3); intro _))
local macro_rules | `(tactic| walk_at "binaryOp Add bytes bytes") => `(tactic| ((refine KBy.add_bytes ?_ ?_); rotate_left; intro _ _))
local macro_rules | `(tactic| walk_at "newList") => `(tactic| ((rename Fr _ _ _ _ => F'); (rename News _ _ _ _ => N'); (refine newList_K F' N' ?_); clear F' N'; intro l' h' F' N' l1))
local macro_rules | `(tactic| walk_at "mine") => `(tactic| repeat' ((fail_if_success (with_reducible show wpAny _ _ (exec (Stmt.While _ _ _ _) _) _ _ _)); (fail_if_success (with_reducible show wpAny _ _ (exec (Stmt.For _ _ _ _ _) _) _ _ _)); (fail_if_success (with_reducible show wpAny _ _ (pyIter _) _ _ _)); (fail_if_success (with_reducible show wpAny _ _ (call (Value.builtin "list.pop") _) _ _ _)); (fail_if_success (with_reducible show wpAny _ _ (call (Value.builtin "list.remove") _) _ _ _)); (fail_if_success (with_reducible show wpAny _ _ (exec (Stmt.Try _ _ _ _ _) _) _ _ _)); (fail_if_success (with_reducible show wpAny _ _ (call (Value.ref _) _) _ _ _)); (fail_if_success (with_reducible show wpAny _ _ (eval (Expr.ListComp _ _ _ _) _) _ _ _)); (first | walk1 | (dsimp only; walk1) | (dsimp only at *; walk1))))
local macro_rules | `(tactic| walk_at "mine2") => `(tactic| repeat' ((fail_if_success (with_reducible show wpAny _ _ (call (Value.builtin _) _) _ _ _)); (fail_if_success (with_reducible show wpAny _ _ (compareOp _ _ _) _ _ _)); (fail_if_success (with_reducible show wpAny _ _ (exec (Stmt.While _ _ _ _) _) _ _ _)); (fail_if_success (with_reducible show wpAny _ _ (exec (Stmt.For _ _ _ _ _) _) _ _ _)); (fail_if_success (with_reducible show wpAny _ _ (pyIter _) _ _ _)); (fail_if_success (with_reducible show wpAny _ _ (call (Value.builtin "list.pop") _) _ _ _)); (fail_if_success (with_reducible show wpAny _ _ (call (Value.builtin "list.remove") _) _ _ _)); (fail_if_success (with_reducible show wpAny _ _ (exec (Stmt.Try _ _ _ _ _) _) _ _ _)); (fail_if_success (with_reducible show wpAny _ _ (call (Value.ref _) _) _ _ _)); (fail_if_success (with_reducible show wpAny _ _ (eval (Expr.ListComp _ _ _ _) _) _ _ _)); (first | walk1 | (dsimp only; walk1) | (dsimp only at *; walk1))))

def turnsL (k : Nat) (row : List Int) : List (List Int) := (rangeL 1 k).map fun i => row.drop i.toNat ++ row.take i.toNat
def bestL (rows : List (List Int)) : List Int := rows.getD (argBest (btOf rows) (rows.length - 1)) []
def stepL (k : Nat) (row : List Int) : List Int := if row = bestL (turnsL k row) then row.take ((turnsL k row).findIdx (fun r => decide (r = row)) + 1) else []
def leastL (size k : Nat) : List Int := (((List.range (size ^ k)).map (rowOf size k)).flatMap (stepL k)).dropLast
theorem news_but {h₀ h h' : Heap} {L a : Addr} {news : List (Addr × Obj)} (N : News h₀ L h news) (sb : ∀ b o, b ≠ a → h.get? b = some o → h'.get? b = some o) (hne : ∀ p ∈ news, p.1 ≠ a) : News h₀ L h' news :=
  fun p hp => ⟨sb _ _ (hne p hp) (N p hp).1, (N p hp).2⟩
theorem news_cons {h₀ h : Heap} {L a : Addr} {o : Obj} {news : List (Addr × Obj)} (ho : h.get? a = some o) (hL : a ≠ L) (h0 : h₀.get? a = none) (N : News h₀ L h news) : News h₀ L h ((a, o) :: news) := by
  intro p hp
  rcases List.mem_cons.mp hp with rfl | hp
  · exact ⟨ho, hL, h0⟩
  · exact N p hp
theorem rowsNews {h₀ h : Heap} : ∀ {rows : List (List Int)} {ys : List Value}, Paired (RowIs h₀ h) rows ys → ∃ rest : List (Addr × Obj), (∀ p ∈ rest, h.get? p.1 = some p.2 ∧ h₀.get? p.1 = none) ∧
    Paired (fun row y => ∃ T its n, y = Value.ref T ∧ (T, W.listOf its n) ∈ rest ∧ IntsAre its.toList row) rows ys := by
  intro rows ys hP
  induction hP with
  | nil => exact ⟨[], by simp, .nil⟩
  | cons hy _ ih =>
    obtain ⟨rest, h1, h2⟩ := ih
    obtain ⟨T, its, rfl, hT, ⟨n, hp⟩, hi⟩ := hy
    refine ⟨(T, W.listOf its n) :: rest, ?_, .cons ⟨T, its, n, rfl, List.mem_cons_self, hi⟩ (h2.mono ?_)⟩
    · intro p hp'
      rcases List.mem_cons.mp hp' with rfl | hp'
      · exact ⟨hp, hT⟩
      · exact h1 p hp'
    · rintro a b ⟨T, its, n, h1, h2, h3⟩
      exact ⟨T, its, n, h1, List.mem_cons_of_mem _ h2, h3⟩
theorem llNews {h₀ h : Heap} {G : Int → Array Value → Prop} : ∀ {is : List Int} {ys : List Value}, Paired (LLs h₀ G h) is ys → ∃ rest : List (Addr × Obj), (∀ p ∈ rest, h.get? p.1 = some p.2 ∧ h₀.get? p.1 = none) ∧
    Paired (fun i y => ∃ T its n, y = Value.ref T ∧ (T, W.listOf its n) ∈ rest ∧ G i its) is ys := by
  intro is ys hP
  induction hP with
  | nil => exact ⟨[], by simp, .nil⟩
  | cons hy _ ih =>
    obtain ⟨rest, h1, h2⟩ := ih
    obtain ⟨T, its, rfl, hT, ⟨n, hp⟩, hi⟩ := hy
    refine ⟨(T, W.listOf its n) :: rest, ?_, .cons ⟨T, its, n, rfl, List.mem_cons_self, hi⟩ (h2.mono ?_)⟩
    · intro p hp'
      rcases List.mem_cons.mp hp' with rfl | hp'
      · exact ⟨hp, hT⟩
      · exact h1 p hp'
    · rintro a b ⟨T, its, n, h1, h2, h3⟩
      exact ⟨T, its, n, h1, List.mem_cons_of_mem _ h2, h3⟩
theorem turnsL_len (k : Nat) (row : List Int) : (turnsL k row).length = k := by simp [turnsL, rangeL]
theorem turnsL_get {k : Nat} {row : List Int} {m : Nat} (hm : m < k) : (turnsL k row).getD m [] = row.drop (m + 1) ++ row.take (m + 1) := by
  simp only [turnsL, rangeL, List.getD, List.getElem?_map]
  rw [List.getElem?_range hm]
  simp only [Option.map_some, Option.getD_some]
  rw [show (1 + (m : Int)).toNat = m + 1 by omega]
theorem turnsL_length {k : Nat} {row : List Int} {m : Nat} (hm : m < k) : ((turnsL k row).getD m []).length = row.length := by
  rw [turnsL_get hm]; simp; omega
theorem turnsL_last {k : Nat} {row : List Int} (hk : row.length = k) (h1 : 1 ≤ k) : (turnsL k row).getD (k - 1) [] = row := by
  rw [turnsL_get (by omega), show k - 1 + 1 = k by omega, ← hk]; simp
theorem turnsL_idx {k : Nat} {row : List Int} (hk : row.length = k) (h1 : 1 ≤ k) : (turnsL k row).findIdx (fun r => decide (r = row)) < k ∧ (turnsL k row).getD ((turnsL k row).findIdx (fun r => decide (r = row))) [] = row ∧
    ∀ m, m < (turnsL k row).findIdx (fun r => decide (r = row)) → (turnsL k row).getD m [] ≠ row := by
  have hlast := turnsL_last hk h1
  have hlen := turnsL_len k row
  generalize turnsL k row = L at *
  have hlt : L.findIdx (fun r => decide (r = row)) < L.length := by
    refine List.findIdx_lt_length_of_exists ⟨row, ?_, by simp⟩
    have : k - 1 < L.length := by omega
    simp only [List.getD, List.getElem?_eq_getElem this, Option.getD_some] at hlast
    exact hlast ▸ List.getElem_mem this
  refine ⟨by omega, ?_, fun m hm => ?_⟩
  · have := List.findIdx_getElem (w := hlt)
    simp only [decide_eq_true_eq] at this
    simp only [List.getD, List.getElem?_eq_getElem hlt, Option.getD_some]
    exact this
  · have hm' : m < L.length := by omega
    have := List.not_of_lt_findIdx hm
    simp only [List.getD, List.getElem?_eq_getElem hm', Option.getD_some]
    simpa using this
def LeastQ (s : Shared) (k : Nat) (t2 : Tok) (B I D : Addr) (RR : List (Addr × Obj)) (goal : List Int) (i : Nat) (f : Flow) (s' : Shared) : Prop := f = .next ∧ ∃ h' tk lits nB oc M, s' = { s with heap := h', toks := tk } ∧
    Fr s.heap s.heap.objs.size h' M ∧ M (Str.ofString "laid") = some (Value.ref B) ∧ M (Str.ofString "k") = some (.int k t2) ∧
    News s.heap s.heap.objs.size h' ((B, W.listOf lits nB) :: (s.heap.objs.size + 1, oc) :: RR) ∧ h'.IsListIter I D i ∧ (∃ ov, oc.data = .cell ov) ∧ IntsAre lits.toList goal
theorem lawLeast {w : World} {mg mb} {mean} {A : Around} {s : Shared} {Q E : Value → Shared → Prop} {size k : Nat} {t1 t2 : Tok}
   (X : (hd.heap_39 w.params).In s.heap) (T : Top hd.view_39 (looseW hd.view_39 []) mean mg mb s.heap)
   (hdp : A.depth + 4 < recursionLimit) (hu : A.units + 30 < cLine) (hh : A.handled = none)
   (hs2 : 2 ≤ size) (hs5 : size ≤ 5) (hk1 : 1 ≤ k) (hk4 : k ≤ 4)
   (hret : ∀ D h' tk' ys n, s.heap.get? D = none → IsL h' D ys n → IntsAre ys.toList (leastL size k) → s.heap.StaysIn h' → Q (.ref D) { s with heap := h', toks := tk' }) :
   wpAny (model Challenge.rw_op0003_01.row.prog w) A (call (.ref 38) [.int size t1, .int k t2]) Q E s := by
  obtain ⟨hdl, dp, fr, gd, un⟩ := A
  dsimp only at hdp hu hh
  subst hh
  revert X T; k_fill; intro X T
  refine wpAny_call ?_
  refine enterC X T.nolimit (by k_is) (by k_is) (by dsimp only; omega) (binds := [(Str.ofString "size", .int size t1), (Str.ofString "k", .int k t2)]) rfl rfl ?_ rfl rfl rfl
  intro s₁ x
  obtain ⟨h₁, tk₁, rfl⟩ := x.toInCall.same
  have F : Fr s.heap s.heap.objs.size h₁ _ := ⟨x.toInCall.ns, x.toInCall.keep, x.toInCall.fresh⟩
  have c1 : h₁.IsCell (s.heap.objs.size + 1) none := x.cell (Str.ofString "row") _ rfl
  obtain ⟨o1, ho1, hd1⟩ := c1
  have fresh : ∀ b : Nat, s.heap.objs.size ≤ b → s.heap.get? b = none := fun b hb => by
    cases e : s.heap.get? b with
    | none => rfl
    | some o => exact absurd (Heap.lt_size e) (Nat.not_lt.mpr hb)
  have N : News s.heap s.heap.objs.size h₁ [(s.heap.objs.size + 1, o1)] := by
    intro p hp
    rcases List.mem_cons.mp hp with rfl | hp
    · exact ⟨ho1, Nat.ne_of_gt (by omega), fresh _ (by omega)⟩
    · cases hp
  clear x
  walk_at "mine"
  refine wpAny_For ?_
  walk_at "mine"
  rename Fr _ _ _ _ => F0
  rename News _ _ _ _ => N0
  rename_i B hA l1 hX
  refine lawRows (X.keeps F0.keep) (T.keeps F0.keep) (by simp only [Around.deeper]; omega) (by simp only [Around.deeper]; omega) rfl hs2 hs5 hk1 hk4 fun D hY tkY ys nD hDn hDl hP stY => ?_
  have nBc : B ≠ s.heap.objs.size + 1 := Nat.ne_of_gt (l1 _ (List.Mem.head _))
  have hBX := (N0 _ (List.Mem.head _))
  have hcX := (N0 _ (List.Mem.tail _ (List.Mem.head _)))
  dsimp only at hBX hcX
  obtain ⟨rest, hrest, hP2⟩ := rowsNews hP
  have hlX : ∃ o, hX.get? s.heap.objs.size = some o := by obtain ⟨o, _, _, ho, _⟩ := F0.ns; exact ⟨o, ho⟩
  have low : ∀ b, hX.get? b = none → s.heap.get? b = none := fun b hb => by
    cases e : s.heap.get? b with
    | none => rfl
    | some o => have e2 := F0.keep b o e; rw [hb] at e2; cases e2
  have nX : ∀ {b c : Addr} {o : Obj}, hX.get? b = none → hX.get? c = some o → b ≠ c := fun h1 h2 => ne_of_none_some h1 h2
  refine wpAny_pyIter_list ⟨_, hDl, rfl, _, rfl⟩ ?_
  dsimp only
  generalize hZ : Heap.push hY _ = HZ
  have uZ : ∀ b o, hY.get? b = some o → HZ.get? b = some o := fun b o e => hZ ▸ Heap.get?_push_of_some _ e
  have gI : HZ.IsListIter hY.objs.size D 0 := ⟨_, hZ ▸ Heap.get?_push_size _ rfl, rfl, rfl⟩
  generalize hI : hY.objs.size = I at gI
  have fI : ∀ b o, hY.get? b = some o → b ≠ I := fun b o e => hI ▸ Nat.ne_of_lt (Heap.lt_size e)
  have sI : s.heap.get? I = none := by
    cases e : s.heap.get? I with
    | none => rfl
    | some o => exact absurd rfl (fI _ _ (stY _ _ (F0.keep _ _ e)))
  obtain ⟨oL, hoL⟩ := hlX
  have nIL : I ≠ s.heap.objs.size := Ne.symm (fI _ _ (stY _ _ hoL))
  have nIc : I ≠ s.heap.objs.size + 1 := Ne.symm (fI _ _ (stY _ _ hcX.1))
  have nIB : I ≠ B := Ne.symm (fI _ _ (stY _ _ hBX.1))
  have nDI : D ≠ I := fI _ _ hDl
  have nDB : D ≠ B := nX hDn hBX.1
  have nDc : D ≠ s.heap.objs.size + 1 := nX hDn hcX.1
  have nDL : D ≠ s.heap.objs.size := nX hDn hoL
  have nr : ∀ p ∈ rest, p.1 ≠ I ∧ p.1 ≠ B ∧ p.1 ≠ s.heap.objs.size + 1 ∧ p.1 ≠ s.heap.objs.size := fun p hp => ⟨fI _ _ (hrest p hp).1, nX (hrest p hp).2 hBX.1, nX (hrest p hp).2 hcX.1, nX (hrest p hp).2 hoL⟩
  have NR : News s.heap s.heap.objs.size HZ ((D, W.listOf ys nD) :: rest) := news_cons (uZ _ _ hDl) nDL (low _ hDn) fun p hp => ⟨uZ _ _ (hrest p hp).1, (nr p hp).2.2.2, low _ (hrest p hp).2⟩
  have nrD : ∀ p ∈ ((D, W.listOf ys nD) :: rest), p.1 ≠ I ∧ p.1 ≠ B ∧ p.1 ≠ s.heap.objs.size + 1 := fun p hp => by
    rcases List.mem_cons.mp hp with rfl | hp
    · exact ⟨nDI, nDB, nDc⟩
    · exact ⟨(nr p hp).1, (nr p hp).2.1, (nr p hp).2.2.1⟩
  have FZ : Fr s.heap s.heap.objs.size HZ _ := ⟨F0.ns.keeps fun b o e => uZ b o (stY b o e), fun b o e => uZ b o (stY b o (F0.keep b o e)), F0.above⟩
  have bZ : HZ.get? B = some (W.listOf #[] 0) := uZ _ _ (stY _ _ hBX.1)
  have cZ : HZ.get? (s.heap.objs.size + 1) = some o1 := uZ _ _ (stY _ _ hcX.1)
  generalize hrr : ((D, W.listOf ys nD) :: rest) = RR at NR nrD
  have hrl : ys.size = size ^ k := by have := hP.length; simp at this; exact this.symm
  have hpb : size ^ k ≤ 5 ^ 4 := Nat.le_trans (Nat.pow_le_pow_left hs5 k) (Nat.pow_le_pow_right (by decide) hk4)
  have hlitsz : ∀ (lits : Array Value) (i : Nat) (_ : Unit), IntsAre lits.toList ((((List.range (size ^ k)).map (rowOf size k)).take i).flatMap (stepL k)) → i ≤ ys.size → lits.size ≤ 2500 := fun lits i _ hx hle => by
    have e1 := hx.length
    have e2 : ∀ (rs : List (List Int)), (∀ r ∈ rs, r.length ≤ 4) → (rs.flatMap (stepL k)).length ≤ 4 * rs.length := by
      intro rs
      induction rs with
      | nil => intro _; simp
      | cons r rs ih =>
        intro hr
        have h1 := ih fun x hx => hr x (List.mem_cons_of_mem _ hx)
        have h2 := hr r List.mem_cons_self
        have h3 : (stepL k r).length ≤ 4 := by
          unfold stepL; split
          · rw [List.length_take]; omega
          · simp
        simp only [List.flatMap_cons, List.length_append, List.length_cons]
        omega
    have e3 := e2 (((List.range (size ^ k)).map (rowOf size k)).take i) fun r hr => by
      obtain ⟨c, _, rfl⟩ := List.mem_map.mp (List.mem_of_mem_take hr)
      simp [rowOf]; exact hk4
    have e4 : (((List.range (size ^ k)).map (rowOf size k)).take i).length ≤ 625 := by
      rw [List.length_take]; simp; omega
    have e5 : lits.toList.length = lits.size := by simp
    omega
  refine codeAny_forLoop (fun n s' => ∃ h' tk lits nB oc i M, s' = { s with heap := h', toks := tk } ∧
    Fr s.heap s.heap.objs.size h' M ∧ M (Str.ofString "laid") = some (Value.ref B) ∧ M (Str.ofString "k") = some (.int k t2) ∧
    News s.heap s.heap.objs.size h' ((B, W.listOf lits nB) :: (s.heap.objs.size + 1, oc) :: RR) ∧ h'.IsListIter I D i ∧ (∃ ov, oc.data = .cell ov) ∧
    IntsAre lits.toList ((((List.range (size ^ k)).map (rowOf size k)).take i).flatMap (stepL k)) ∧ i ≤ ys.size ∧ n = ys.size + 1 - i) ?_ (ys.size + 1) ?_
  · rintro n s' ⟨h', tk', lits, nB, oc, i, M, rfl, FM, hMl, hMk, NM, hit, ⟨ov, hov⟩, hints, hi, rfl⟩
    have hDM := NM _ (List.Mem.tail _ (List.Mem.tail _ (hrr ▸ List.Mem.head _)))
    cases hv : ys[i]? with
    | none =>
      have hsz : i = ys.size := Nat.le_antisymm hi (by simpa using hv)
      refine wpAny_pyNext_list_end rfl hit ⟨_, hDM.1, rfl, _, rfl⟩ hv fun h₁ he₁ => wpAny_execs_nil ?_
      have N1 : News s.heap s.heap.objs.size h₁ ((B, W.listOf lits nB) :: (s.heap.objs.size + 1, oc) :: RR) := news_but NM he₁ fun p hp => by
        rcases List.mem_cons.mp hp with rfl | hp
        · exact Ne.symm nIB
        · rcases List.mem_cons.mp hp with rfl | hp
          · exact Ne.symm nIc
          · exact (nrD p hp).1
      have F1 : Fr s.heap s.heap.objs.size h₁ M := ⟨FM.ns.extBut he₁ (Ne.symm nIL), fun b o e => he₁ b o (fun q => by rw [q, sI] at e; cases e) (FM.keep b o e), FM.above⟩
      have F2 := fr1 F1 hMl
      clear F1 FM F0 FZ N0 NM NR
      clear hP hP2 hrest low nX uZ fI nr l1 fresh X T
      have hBl := (N1 _ (List.Mem.head _)).1
      dsimp only at hBl
      clear hDM hMl hMk hov
      have hlen9 : lits.size ≤ 2500 := hlitsz _ _ () hints hi
      walk_at "mine"
      rename Fr _ _ _ _ => F7
      rename News _ _ _ _ => N7
      have hnew := N7 _ (List.Mem.head _)
      dsimp only at hnew
      have e9 : slicePick lits none (some (-1)) none = (lits.toList.take (lits.size - 1)).toArray := slicePick_butLast lits 1 (by decide)
      rw [e9] at hnew
      refine hret _ _ _ _ 0 hnew.2.2 hnew.1 ?_ F7.keep
      rw [hsz, hrl] at hints
      have e1 : ((List.range (size ^ k)).map (rowOf size k)).take (size ^ k) = (List.range (size ^ k)).map (rowOf size k) := List.take_of_length_le (by simp)
      rw [e1] at hints
      have := hints.take (lits.size - 1)
      have e2 := hints.length
      rw [leastL, List.dropLast_eq_take, ← e2]
      simpa using this
    | some v =>
      have hlt : i < ys.size := (Array.getElem?_eq_some_iff.mp hv).1
      refine wpAny_pyNext_list_item hit ⟨_, hDM.1, rfl, _, rfl⟩ hv fun h₁ hit₁ hs₁ => ?_
      have N1 : News s.heap s.heap.objs.size h₁ ((B, W.listOf lits nB) :: (s.heap.objs.size + 1, oc) :: RR) := news_but NM hs₁.extBut fun p hp => by
        rcases List.mem_cons.mp hp with rfl | hp
        · exact Ne.symm nIB
        · rcases List.mem_cons.mp hp with rfl | hp
          · exact Ne.symm nIc
          · exact (nrD p hp).1
      have F1 : Fr s.heap s.heap.objs.size h₁ M := ⟨FM.ns.extBut hs₁.extBut (Ne.symm nIL), fun b o e => hs₁.extBut b o (fun q => by rw [q, sI] at e; cases e) (FM.keep b o e), FM.above⟩
      have c1 := N1 _ (List.Mem.tail _ (List.Mem.head _))
      refine wpAny_assign_Name (wpAny_storeName_cell (c := s.heap.objs.size + 1) rfl rfl rfl ⟨oc, c1.1, hov⟩ fun h₂ c2 sb₂ => ?_)
      obtain ⟨oc2, hoc2, hov2⟩ := c2
      have N2 : News s.heap s.heap.objs.size h₂ ((B, W.listOf lits nB) :: (s.heap.objs.size + 1, oc2) :: RR) :=
        news_cons (sb₂.extBut _ _ nBc (N1 _ (List.Mem.head _)).1) hBX.2.1 hBX.2.2 (news_cons hoc2 hcX.2.1 hcX.2.2 (news_but (fun p hp => N1 p (List.Mem.tail _ (List.Mem.tail _ hp))) sb₂.extBut fun p hp => (nrD p hp).2.2))
      have F2 : Fr s.heap s.heap.objs.size h₂ M := ⟨F1.ns.extBut sb₂.extBut (Ne.symm hcX.2.1), fun b o e => sb₂.extBut b o (fun q => by rw [q, hcX.2.2] at e; cases e) (F1.keep b o e), F1.above⟩
      have it2 : h₂.IsListIter I D (i + 1) := hit₁.extBut sb₂.extBut nIc
      obtain ⟨oI, hoI, hoI1, hoI2⟩ := it2
      obtain ⟨row, hrow, T1, its1, n1, hv1, hT1, hri⟩ := paired_get hP2 i v (by rw [Array.getElem?_toList]; exact hv)
      subst hv1
      have hT2 := N2 _ (List.Mem.tail _ (List.Mem.tail _ (hrr ▸ List.Mem.tail _ hT1)))
      dsimp only at hT2
      have hrk : row.length = k := by
        rw [List.getElem?_map] at hrow
        cases e : (List.range (size ^ k))[i]? with
        | none => rw [e] at hrow; cases hrow
        | some c => rw [e] at hrow; cases hrow; simp [rowOf]
      have F3 := fr2 F2 hMl hMk
      have N3 : News s.heap s.heap.objs.size h₂ ((B, W.listOf lits nB) :: (s.heap.objs.size + 1, oc2) :: (I, oI) :: RR) := news_cons (N2 _ (List.Mem.head _)).1 hBX.2.1 hBX.2.2 (news_cons hoc2 hcX.2.1 hcX.2.2 (news_cons hoI nIL sI fun p hp => N2 p (List.Mem.tail _ (List.Mem.tail _ hp))))
      clear F1 FM F0 FZ N0 NM NR N1 F2 N2
      refine wpAny_mono (Q := LeastQ s k t2 B I D RR ((((List.range (size ^ k)).map (rowOf size k)).take (i + 1)).flatMap (stepL k)) (i + 1)) ?_ (fun f s₃ h => ?_) fun _ _ e => e
      rotate_left
      · obtain ⟨rfl, h', tk, lits, nB, oc, M, rfl, q1, q2, q3, q4, q5, q6, q7⟩ := h
        exact ⟨ys.size + 1 - (i + 1), by omega, h', tk, lits, nB, oc, i + 1, M, rfl, q1, q2, q3, q4, q5, q6, q7, hlt, rfl⟩
      have hstep : ((((List.range (size ^ k)).map (rowOf size k)).take (i + 1)).flatMap (stepL k)) = ((((List.range (size ^ k)).map (rowOf size k)).take i).flatMap (stepL k)) ++ stepL k row := by
        rw [List.take_add_one, hrow]; simp
      rw [hstep]
      refine wpAny_execs_cons (assignRN (cl := [(Str.ofString "row", s.heap.objs.size + 1)]) (fun j its => IntsAre its.toList (row.drop j.toNat ++ row.take j.toNat)) rfl rfl (by rfl) (by decide) rfl (by decide) rfl rfl rfl ?_)
      walk_at "mine"
      rename IsRange _ _ _ _ _ _ _ _ => hR
      rename Fr _ _ _ _ => F4
      rename News _ _ _ _ => N4
      rename (∀ (b : Addr) (o : Obj), _ → _) => hk9
      dsimp only at hk9 hR
      rename_i h₄ _ _ _ _
      refine ⟨_, 1, _, k, _, _, _, _, rfl, hR, by omega, by decide, by omega, by rw [sizeLine_eq]; omega, F4.ns, ?_, ?_⟩
      · intro C j t s₅ m₅ E' hj hn5 hm5 st5
        have e1 : s₅.heap.IsCell (s.heap.objs.size + 1) (some (.ref T1)) := ⟨oc2, st5 _ _ (N4 _ (List.Mem.tail _ (List.Mem.head _))).1, hov2⟩
        have e2 : s₅.heap.IsList T1 its1 := ⟨_, st5 _ _ (N4 _ (List.Mem.tail _ (List.Mem.tail _ (List.Mem.tail _ (hrr ▸ List.Mem.tail _ hT1))))).1, rfl, _, rfl⟩
        have hz1 : its1.size ≤ 100 := by rw [ints_size hri]; omega
        refine wpAny_BinOp (wpAny_Subscript_list_slice (nmC (env := compEnvC _ _ _ _) (by rfl) e1 (wpAny_evalPart_some (nmL hn5 hm5 (wpAny_evalPart_none ?_)))))
        refine ⟨_, _, _, _, rfl, e2, by rw [sizeLine_eq]; omega, .int _ _, .none, ?_⟩
        refine wpAny_Subscript_list_slice (nmC (env := compEnvC _ _ _ _) (by rfl) (c := s.heap.objs.size + 1) (v := .ref T1) ⟨oc2, Heap.get?_push_of_some _ (Heap.get?_push_of_some _ (st5 _ _ (N4 _ (List.Mem.tail _ (List.Mem.head _))).1)), hov2⟩ (wpAny_evalPart_none (wpAny_evalPart_some (nmL ((hn5.keeps fun b o e => Heap.get?_push_of_some _ e).keeps fun b o e => Heap.get?_push_of_some _ e) hm5 ?_))))
        refine ⟨_, _, _, _, rfl, (e2.push _).push _, by rw [sizeLine_eq]; omega, .none, .int _ _, ?_⟩
        dsimp only
        generalize hG1 : (s₅.heap.push _).push _ = G2
        generalize hG3 : (G2.push _).push _ = G4
        have g1 : IsL G2 (s₅.heap.objs.size + 1) (slicePick its1 (some (1 + (j : Int))) none none) 0 := hG1 ▸ get_push2 _ _ _ rfl
        have g2 : IsL G4 (G2.objs.size + 1) (slicePick its1 none (some (1 + (j : Int))) none) 0 := hG3 ▸ get_push2 _ _ _ rfl
        have u1 : s₅.heap.StaysIn G2 := fun b o e => hG1 ▸ Heap.get?_push_of_some _ (Heap.get?_push_of_some _ e)
        have u2 : G2.StaysIn G4 := fun b o e => hG3 ▸ Heap.get?_push_of_some _ (Heap.get?_push_of_some _ e)
        have i1 := slice_ints_fromW (vs := its1.toList) hri (x := 1 + (j : Int)) (by omega)
        have i2 := slice_ints_uptoW (vs := its1.toList) hri (y := 1 + (j : Int)) (by omega)
        have z4 : s₅.heap.objs.size ≤ G4.objs.size := by rw [← hG3, Heap.size_push, Heap.size_push, ← hG1, Heap.size_push, Heap.size_push]; omega
        have zz : ∀ a b c, (slicePick its1 a b c).size ≤ 100 := fun a b c => Nat.le_trans (slicePick_size_le its1 a b c) hz1
        refine P.add_list (u2 _ _ g1) g2 ?_ (hsz := by rw [sizeLine_eq]; have := zz (some (1 + (j : Int))) none none; have := zz none (some (1 + (j : Int))) none; omega)
        refine ⟨⟨_, _, rfl, fresh_ge z4, ⟨0, Heap.get?_push_size _ rfl⟩, ?_⟩, _, _, rfl, fun b o e => Heap.get?_push_of_some _ (u2 _ _ (u1 _ _ e))⟩
        rw [Array.toList_append]
        exact i1.append i2
      · intro D' h₅ tk₅ tys nn hD' hL' hPt hns hk5
        dsimp only at hD' hPt hk5
        dsimp only
        obtain ⟨rest2, hr2, hP3⟩ := llNews hPt
        have nL5 : ∀ b, s.heap.objs.size ≠ b → b ≠ s.heap.objs.size := fun b h => Ne.symm h
        have hL4 : ∃ o, h₄.get? s.heap.objs.size = some o := by obtain ⟨o, _, _, ho, _⟩ := F4.ns; exact ⟨o, ho⟩
        obtain ⟨oL4, hoL4⟩ := hL4
        have low4 : ∀ b, h₄.get? b = none → s.heap.get? b = none := fun b hb => by
          cases e : s.heap.get? b with
          | none => rfl
          | some o => have e2 := F4.keep b o e; rw [hb] at e2; cases e2
        have F5 : Fr s.heap s.heap.objs.size h₅ _ := ⟨hns, fun b o e => hk5 b o (Nat.ne_of_lt (Heap.lt_size e)) (F4.keep b o e), F4.above⟩
        have N5 : News s.heap s.heap.objs.size h₅ ((B, W.listOf lits nB) :: (s.heap.objs.size + 1, oc2) :: (D', W.listOf tys nn) :: ((I, oI) :: RR ++ rest2)) := by
          have old : News s.heap s.heap.objs.size h₅ ((B, W.listOf lits nB) :: (s.heap.objs.size + 1, oc2) :: (I, oI) :: RR) := fun p hp => ⟨hk5 _ _ (N4 p hp).2.1 (N4 p hp).1, (N4 p hp).2⟩
          refine news_cons (old _ (List.Mem.head _)).1 hBX.2.1 hBX.2.2 (news_cons (old _ (List.Mem.tail _ (List.Mem.head _))).1 hcX.2.1 hcX.2.2 (news_cons hL' (ne_of_none_some hD' hoL4) (low4 _ hD') ?_))
          intro p hp
          rcases List.mem_append.mp hp with hp | hp
          · exact old p (List.Mem.tail _ (List.Mem.tail _ hp))
          · exact ⟨(hr2 p hp).1, ne_of_none_some (hr2 p hp).2 hoL4, low4 _ (hr2 p hp).2⟩
        clear F4 N4
        clear hPt hk5 hns hP hP2 hR
        walk_at "mine2"
        have htk : tys.size = k := by have := hP3.length; rw [rangeL_length] at this; simpa using this.symm
        have hrowsT : ∀ (m : Nat) v, tys[m]? = some v → ∃ T its n, v = .ref T ∧ (T, W.listOf its n) ∈ rest2 ∧ IntsAre its.toList ((turnsL k row).getD m []) := by
          intro m v hv'
          obtain ⟨a, ha, T, its, n, rfl, h1, h2⟩ := paired_get hP3 m v (by rw [Array.getElem?_toList]; exact hv')
          have hm : m < k := htk ▸ (Array.getElem?_eq_some_iff.mp hv').1
          refine ⟨T, its, n, rfl, h1, ?_⟩
          rw [turnsL_get hm]
          simp only [rangeL, List.getElem?_map] at ha
          rw [List.getElem?_range hm] at ha
          simp only [Option.map_some, Option.some.injEq] at ha
          rw [← ha, show (1 + (m : Int)).toNat = m + 1 by omega] at h2
          exact h2
        refine min_call (rows := turnsL k row) rfl (by simp only [Around.deeper]; omega) (by omega) ⟨_, hL', rfl, _, rfl⟩ (fun a b ha hb => by rw [turnsL_length (by omega), turnsL_length (by omega)]) (fun m v hm => ?_) fun T6 h₆ tk₆ hT6 st6 => ?_
        · obtain ⟨T, its, n, rfl, h1, h2⟩ := hrowsT m v hm
          exact ⟨T, rfl, its, n, (hr2 _ h1).1, h2⟩
        have hb6 : (turnsL k row).getD (argBest (btOf (turnsL k row)) (tys.size - 1)) [] = bestL (turnsL k row) := by rw [bestL, turnsL_len, htk]
        rw [hb6] at hT6
        have F6 : Fr s.heap s.heap.objs.size h₆ _ := ⟨F5.ns.keeps st6, fun b o e => st6 b o (F5.keep b o e), F5.above⟩
        have N6 := News.grown N5 st6
        have hT1m : (T1, W.listOf its1 n1) ∈ (B, W.listOf lits nB) :: (s.heap.objs.size + 1, oc2) :: (D', W.listOf tys nn) :: ((I, oI) :: RR ++ rest2) :=
          List.Mem.tail _ (List.Mem.tail _ (List.Mem.tail _ (List.mem_append_left _ (List.Mem.tail _ (hrr ▸ List.Mem.tail _ hT1)))))
        have hT1L : IntL h₆ T1 row := ⟨_, _, (N6 _ hT1m).1, hri⟩
        clear F5 N5
        refine cmpEq_ref hT1L hT6 (by simp only [Around.deeper]; omega) ?_
        by_cases hbest : row = bestL (turnsL k row)
        · rw [show decide (row = bestL (turnsL k row)) = true from by simpa using hbest]
          walk_at "mine2"
          obtain ⟨j1, j2, j3⟩ := turnsL_idx hrk hk1
          refine index_call (fun m => decide ((turnsL k row).getD m [] = row)) ((turnsL k row).findIdx (fun r => decide (r = row))) (by omega) (by omega) (by simpa using j2) (fun m hm => by simpa using j3 m hm) ?_ (st6 _ _ hL') (by simp only [Around.deeper]; omega) ?_
          · intro prog' w' A' E' Q' m hm hu' hQ'
            obtain ⟨T, its, n, e1, h1, h2⟩ := hrowsT m tys[m] (by simp [hm])
            rw [e1]
            exact eqBool_ref ⟨its, n, st6 _ _ (hr2 _ h1).1, h2⟩ hT1L hu' hQ'
          walk_at "mine2"
          rename Fr _ _ _ _ => F8
          rename News _ _ _ _ => N8
          rename IntsAre _ (List.take _ row) => hI8
          rename _ ∧ _ ∧ _ ∧ AllLt _ _ => l8
          have z := N8 _ (List.Mem.tail _ (List.Mem.head _))
          have hb := N8 _ (List.Mem.head _)
          have hz8 : lits.size ≤ 2500 := hlitsz _ _ () hints (by omega)
          have hn8 := hI8.length
          rw [List.length_take] at hn8
          have hn9 : min (((turnsL k row).findIdx (fun r => decide (r = row)) : Int) + 1).toNat row.length ≤ 4 := by rw [hrk]; omega
          refine extendK z.1 hb.1 (by omega) (by rw [List.size_toArray, hn8]; omega) fun h₉ n₉ hB9 k9 => ?_
          refine wpAny_execs_nil ?_
          dsimp only
          refine wpAny_execs_nil ?_
          have ki : ∀ p ∈ (I, oI) :: RR, p ∈ (I, oI) :: RR ++ rest2 := fun p hp => List.mem_append_left _ hp
          have hRR : ∀ p ∈ RR, h₉.get? p.1 = some p.2 ∧ p.1 ≠ s.heap.objs.size ∧ s.heap.get? p.1 = none := fun p hp =>
            ⟨k9 _ _ (nrD p hp).2.1 (N8 p (List.Mem.tail _ (List.Mem.tail _ (List.Mem.tail _ (List.Mem.tail _ (ki _ (List.Mem.tail _ hp))))))).1, (N8 p (List.Mem.tail _ (List.Mem.tail _ (List.Mem.tail _ (List.Mem.tail _ (ki _ (List.Mem.tail _ hp))))))).2⟩
          refine ⟨rfl, h₉, _, _, n₉, oc2, _, rfl, ⟨F8.ns.at' fun o e => k9 _ o (Ne.symm hBX.2.1) e, fun b o e => k9 b o (fun q => by rw [q, hBX.2.2] at e; cases e) (F8.keep b o e), F8.above⟩, rfl, rfl,
            news_cons hB9 hBX.2.1 hBX.2.2 (news_cons (k9 _ _ (Ne.symm nBc) (N8 _ (List.Mem.tail _ (List.Mem.tail _ (List.Mem.head _)))).1) hcX.2.1 hcX.2.2 hRR), ⟨oI, k9 _ _ nIB (N8 _ (List.Mem.tail _ (List.Mem.tail _ (List.Mem.tail _ (List.Mem.tail _ (ki _ (List.Mem.head _))))))).1, hoI1, hoI2⟩, ⟨_, hov2⟩, ?_⟩
          rw [stepL, if_pos hbest, Array.toList_append]
          have e7 : (((turnsL k row).findIdx (fun r => decide (r = row)) : Int) + 1).toNat = (turnsL k row).findIdx (fun r => decide (r = row)) + 1 := by omega
          rw [e7] at hI8
          exact hints.append hI8
        · rw [show decide (row = bestL (turnsL k row)) = false from by simpa using hbest]
          walk_at "mine2"
          refine ⟨rfl, h₆, _, lits, nB, oc2, _, rfl, F6, rfl, rfl, fun p hp => N6 p ?_, ⟨oI, (N6 _ (List.Mem.tail _ (List.Mem.tail _ (List.Mem.tail _ (List.Mem.head _))))).1, hoI1, hoI2⟩, ⟨_, hov2⟩, ?_⟩
          · rcases List.mem_cons.mp hp with rfl | hp
            · exact List.Mem.head _
            · rcases List.mem_cons.mp hp with rfl | hp
              · exact List.Mem.tail _ (List.Mem.head _)
              · exact List.Mem.tail _ (List.Mem.tail _ (List.Mem.tail _ (List.mem_append_left _ (List.Mem.tail _ hp))))
          · rw [stepL, if_neg hbest, List.append_nil]; exact hints
  · refine ⟨HZ, _, #[], 0, o1, 0, _, rfl, FZ, rfl, rfl, news_cons bZ hBX.2.1 hBX.2.2 (news_cons cZ hcX.2.1 hcX.2.2 NR), gI, ⟨_, hd1⟩, by simpa using IntsAre.nil, Nat.zero_le _, rfl⟩
end Mine
end
-- part Pure1
section
open PySem PySem.W PyProof.Rows PySem.Calls
set_option Elab.async false
set_option maxRecDepth 100000
set_option maxHeartbeats 8000000
set_option linter.all false
namespace Mine
theorem walkOff11 : True := by w_top off; trivial
local macro_rules | `(tactic| walk_at "pad") => `(tactic| skip)
local macro_rules | `(tactic| walk_at "pad") => `(tactic| skip)
local macro_rules | `(tactic| walk_at "pad") => `(tactic| skip)
local macro_rules | `(tactic| walk_at "pad") => `(tactic| skip)
local macro_rules | `(tactic| walk_at "pad") => `(tactic| skip)
local macro_rules | `(tactic| walk_at "pad") => `(tactic| skip)
local macro_rules | `(tactic| walk_at "pad") => `(tactic| skip)
local macro_rules | `(tactic| walk_at "pad") => `(tactic| skip)
local macro_rules | `(tactic| walk_at "pad") => `(tactic| skip)
local macro_rules | `(tactic| walk_at "pad") => `(tactic| skip)
local macro_rules | `(tactic| walk_at "pad") => `(tactic| skip)
def lettersL (scr : List Int) : List Int := (rangeL 0 16).filter fun v => ([2, 9] ++ (scr.take 3).map fun x => x % 16).any (· == v)
theorem filt_one : ∀ (l : List Int) (y : Int), l.Pairwise (· < ·) → (l.filter (fun v => y == v)).length ≤ 1
  | [], _, _ => by simp
  | a :: l, y, h => by
    rw [List.filter_cons]
    split
    · rename_i e
      have e : y = a := by simpa using e
      subst e
      have : l.filter (fun v => y == v) = [] := by
        rw [List.filter_eq_nil_iff]
        intro b hb
        have := List.rel_of_pairwise_cons h hb
        simp; omega
      rw [this]; simp
    · exact filt_one l y h.of_cons
theorem filt_or (p q : Int → Bool) : ∀ (l : List Int), (l.filter (fun v => p v || q v)).length ≤ (l.filter p).length + (l.filter q).length
  | [] => by simp
  | a :: l => by
    have := filt_or p q l
    simp only [List.filter_cons]
    cases p a <;> cases q a <;> simp <;> omega
theorem filt_any (l : List Int) (h : l.Pairwise (· < ·)) : ∀ ys : List Int, (l.filter fun v => ys.any (· == v)).length ≤ ys.length
  | [] => by simp
  | y :: ys => by
    have h1 := filt_or (fun v => y == v) (fun v => ys.any (· == v)) l
    have h2 := filt_one l y h
    have h3 := filt_any l h ys
    simp only [List.any_cons, List.length_cons]
    omega
theorem range16 : (rangeL 0 16).Pairwise (· < ·) := by decide
theorem lettersL_sorted (scr : List Int) : (lettersL scr).Pairwise (· < ·) := range16.sublist List.filter_sublist
theorem lettersL_le (scr : List Int) : (lettersL scr).length ≤ 5 := by
  refine Nat.le_trans (filt_any _ range16 _) ?_
  simp; omega
theorem lettersL_in (scr : List Int) : ∀ x ∈ lettersL scr, 0 ≤ x ∧ x < 16 := by
  intro x hx
  have := (List.mem_filter.mp hx).1
  have all : ∀ x ∈ rangeL 0 16, 0 ≤ x ∧ x < 16 := by decide
  exact all x this
theorem lettersL_ge (scr : List Int) : 2 ≤ (lettersL scr).length := by
  have h2 : (2 : Int) ∈ lettersL scr := List.mem_filter.mpr ⟨by decide, by simp⟩
  have h9 : (9 : Int) ∈ lettersL scr := List.mem_filter.mpr ⟨by decide, by simp⟩
  generalize lettersL scr = l at *
  match l, h2, h9 with
  | [a], h2, h9 => simp at h2 h9; omega
  | _ :: _ :: _, _, _ => simp
end Mine
end
-- part Base5
section
open PySem PySem.W PyProof.Rows PySem.Calls
set_option Elab.async false
set_option maxRecDepth 100000
set_option maxHeartbeats 8000000
set_option linter.all false
namespace Mine
theorem walkOff12 : True := by w_top off; trivial
local macro_rules | `(tactic| walk_at "pad") => `(tactic| skip)
local macro_rules | `(tactic| walk_at "pad") => `(tactic| skip)
local macro_rules | `(tactic| walk_at "pad") => `(tactic| skip)
local macro_rules | `(tactic| walk_at "pad") => `(tactic| skip)
local macro_rules | `(tactic| walk_at "pad") => `(tactic| skip)
local macro_rules | `(tactic| walk_at "pad") => `(tactic| skip)
local macro_rules | `(tactic| walk_at "pad") => `(tactic| skip)
local macro_rules | `(tactic| walk_at "pad") => `(tactic| skip)
local macro_rules | `(tactic| walk_at "pad") => `(tactic| skip)
local macro_rules | `(tactic| walk_at "pad") => `(tactic| skip)
local macro_rules | `(tactic| walk_at "pad") => `(tactic| skip)
local macro_rules | `(tactic| walk_at "pad") => `(tactic| skip)

/-- a plain list of bytes at an address -/
def BytL (h : Heap) (a : Addr) (bs : List (List UInt8)) : Prop := ∃ vs, h.IsList a (List.toArray vs) ∧ BsAre vs bs
theorem allB_eq : ∀ (ms ns : List (List UInt8)), ms.length = ns.length → (List.range ms.length).all (fun j => ms.getD j [] == ns.getD j []) = decide (ms = ns) := by
  intro ms
  induction ms with
  | nil => intro ns h; cases ns with
    | nil => rfl
    | cons => simp at h
  | cons a ms ih =>
    intro ns h
    cases ns with
    | nil => simp at h
    | cons b ns =>
      rw [List.length_cons, List.range_succ_eq_map, List.all_cons, List.all_map]
      have := ih ns (by simpa using h)
      simp only [List.getD_cons_zero, Function.comp_def, List.getD_cons_succ]
      rw [this]
      by_cases e : a = b <;> simp [e]
theorem bs_at {vs : List Value} {bs : List (List UInt8)} (h : BsAre vs bs) {j : Nat} (hj : j < vs.toArray.size) : ∃ t, vs.toArray[j] = .bytes (bs.getD j []).toArray t := by
  have hj' : j < vs.length := by simpa using hj
  obtain ⟨b, e1, t, e2⟩ := paired_get h j vs[j] (List.getElem?_eq_getElem hj')
  refine ⟨t, ?_⟩
  simp only [List.getElem_toArray, List.getD, e1, Option.getD_some]
  exact e2
section
variable {prog : Program} {w : World} {A : Around} {E : Value → Shared → Prop} {s : Shared} {a b : Addr} {ms ns : List (List UInt8)}
theorem bs_eqAt {vs us : List Value} (h1 : BsAre vs ms) (h2 : BsAre us ns) (B : Around) (s' : Shared) : ∀ j (p : j < vs.toArray.size) (q : j < us.toArray.size), SeqAt.EqAt B s' vs.toArray[j] us.toArray[j] (ms.getD j [] == ns.getD j []) := by
  intro j p q
  obtain ⟨t, e1⟩ := bs_at h1 p
  obtain ⟨u, e2⟩ := bs_at h2 q
  rw [e1, e2]
  intro prog w E Q hq
  refine eqBool_bytes ?_
  have : decide ((ms.getD j []).toArray.toList = (ns.getD j []).toArray.toList) = (ms.getD j [] == ns.getD j []) := by
    generalize ms.getD j [] = x
    generalize ns.getD j [] = y
    by_cases e : x = y
    · subst e; simp
    · simp [e]
  rw [this]; exact hq
theorem cmpEqB {Q : Value → Shared → Prop} (ha : BytL s.heap a ms) (hb : BytL s.heap b ns) (hu : A.units < cLine) (h : Q (.bool (decide (ms = ns))) s) : wpAny (model prog w) A (compareOp .Eq (.ref a) (.ref b)) Q E s := by
  obtain ⟨vs, hl, hv⟩ := ha
  obtain ⟨us, hl2, hv2⟩ := hb
  have l1 : vs.toArray.size = ms.length := by rw [List.size_toArray]; exact hv.length
  have l2 : us.toArray.size = ns.length := by rw [List.size_toArray]; exact hv2.length
  by_cases hsz : ms.length = ns.length
  · refine SeqAt.eq_listAt (e := fun j => ms.getD j [] == ns.getD j []) hl hl2 (by omega) hu (bs_eqAt hv hv2 _ _) ?_
    rw [l1, allB_eq _ _ hsz]; exact h
  · refine SeqAt.eq_list_lengthsAt hl hl2 (by rw [l1, l2]; simpa using hsz) hu ?_
    rw [decide_eq_false (fun e => hsz (by rw [e]))] at h
    exact h
theorem cmpNeB {Q : Value → Shared → Prop} (ha : BytL s.heap a ms) (hb : BytL s.heap b ns) (hu : A.units < cLine) (h : Q (.bool (!decide (ms = ns))) s) : wpAny (model prog w) A (compareOp .NotEq (.ref a) (.ref b)) Q E s := by
  obtain ⟨vs, hl, hv⟩ := ha
  obtain ⟨us, hl2, hv2⟩ := hb
  have l1 : vs.toArray.size = ms.length := by rw [List.size_toArray]; exact hv.length
  have l2 : us.toArray.size = ns.length := by rw [List.size_toArray]; exact hv2.length
  by_cases hsz : ms.length = ns.length
  · refine SeqAt.RcNeAt.lists (e := fun j => ms.getD j [] == ns.getD j []) hl hl2 (by omega) hu (bs_eqAt hv hv2 _ _) prog w E Q ?_
    rw [l1, allB_eq _ _ hsz]; exact h
  · refine SeqAt.RcNeAt.lists_lengths hl hl2 (by rw [l1, l2]; simpa using hsz) hu prog w E Q ?_
    rw [decide_eq_false (fun e => hsz (by rw [e]))] at h
    exact h
end
end Mine
end
-- part Pure2
section
open PySem PySem.W PyProof.Rows PySem.Calls
set_option Elab.async false
set_option maxRecDepth 100000
set_option maxHeartbeats 8000000
set_option linter.all false
namespace Mine
theorem walkOff13 : True := by w_top off; trivial
local macro_rules | `(tactic| walk_at "pad") => `(tactic| skip)
local macro_rules | `(tactic| walk_at "pad") => `(tactic| skip)
local macro_rules | `(tactic| walk_at "pad") => `(tactic| skip)
local macro_rules | `(tactic| walk_at "pad") => `(tactic| skip)
local macro_rules | `(tactic| walk_at "pad") => `(tactic| skip)
local macro_rules | `(tactic| walk_at "pad") => `(tactic| skip)
local macro_rules | `(tactic| walk_at "pad") => `(tactic| skip)
local macro_rules | `(tactic| walk_at "pad") => `(tactic| skip)
local macro_rules | `(tactic| walk_at "pad") => `(tactic| skip)
local macro_rules | `(tactic| walk_at "pad") => `(tactic| skip)
local macro_rules | `(tactic| walk_at "pad") => `(tactic| skip)
local macro_rules | `(tactic| walk_at "pad") => `(tactic| skip)
local macro_rules | `(tactic| walk_at "pad") => `(tactic| skip)
theorem apB_inj {a b : Nat} (h : UInt8.ofNat (65 + a % 16) = UInt8.ofNat (65 + b % 16)) : a % 16 = b % 16 := by
  have := congrArg UInt8.toNat h
  simp only [UInt8.toNat_ofNat'] at this
  omega
theorem apN_inj : ∀ (n a b : Nat), a ≤ n → apN a = apN b → a = b := by
  intro n
  induction n with
  | zero =>
    intro a b ha h
    have ha : a = 0 := by omega
    subst ha
    by_cases hb : b = 0
    · exact hb.symm
    · rw [apN_zero, apN_pos hb] at h; simp at h
  | succ n ih =>
    intro a b ha h
    by_cases h0 : a = 0
    · subst h0
      by_cases hb : b = 0
      · exact hb.symm
      · rw [apN_zero, apN_pos hb] at h; simp at h
    · by_cases hb : b = 0
      · subst hb; rw [apN_zero, apN_pos h0] at h; simp at h
      · rw [apN_pos h0, apN_pos hb] at h
        obtain ⟨h1, h2⟩ := List.append_inj' h rfl
        have h3 := ih (a / 16) (b / 16) (by omega) h1
        have h4 := apB_inj (by simpa using h2)
        omega
theorem sorted_get {l : List Int} (h : l.Pairwise (· < ·)) {i j : Nat} (hj : j < l.length) (hij : i < j) : l.getD i 0 < l.getD j 0 := by
  have hi : i < l.length := by omega
  simp only [List.getD, List.getElem?_eq_getElem hi, List.getElem?_eq_getElem hj, Option.getD_some]
  exact List.pairwise_iff_getElem.mp h i j hi hj hij
theorem letter_inj {l : List Int} (h : l.Pairwise (· < ·)) {p q : Int} (hp : 0 ≤ p ∧ p < l.length) (hq : 0 ≤ q ∧ q < l.length) (e : l.getD p.toNat 0 = l.getD q.toNat 0) : p = q := by
  rcases Int.lt_trichotomy p q with c | c | c
  · have := sorted_get h (i := p.toNat) (j := q.toNat) (by omega) (by omega); omega
  · exact c
  · have := sorted_get h (i := q.toNat) (j := p.toNat) (by omega) (by omega); omega
theorem letter_in {l : List Int} (h : ∀ x ∈ l, 0 ≤ x ∧ x < 16) {p : Int} (hp : 0 ≤ p ∧ p < l.length) : 0 ≤ l.getD p.toNat 0 ∧ l.getD p.toNat 0 < 16 := by
  have hj : p.toNat < l.length := by omega
  simp only [List.getD, List.getElem?_eq_getElem hj, Option.getD_some]
  exact h _ (List.getElem_mem hj)
def Valid (n k : Nat) (row : List Int) : Prop := row.length = k ∧ ∀ p ∈ row, 0 ≤ p ∧ p < (n : Int)
theorem snoc_of {row : List Int} {k : Nat} (h : row.length = k + 1) : ∃ r p, row = r ++ [p] ∧ r.length = k := by
  have hne : row ≠ [] := by intro e; subst e; simp at h
  exact ⟨row.dropLast, row.getLast hne, (List.dropLast_concat_getLast hne).symm, by simp [h]⟩
theorem numOf_nonneg {l : List Int} {head : Int} (h0 : 0 ≤ head) (hl : ∀ x ∈ l, 0 ≤ x ∧ x < 16) : ∀ (k : Nat) (row : List Int), Valid l.length k row → 0 ≤ numOf head l row ∧ numOf head l row < (head + 1) * 16 ^ k := by
  intro k
  induction k with
  | zero =>
    intro row hv
    have : row = [] := List.length_eq_zero_iff.mp hv.1
    subst this
    simp [numOf]; omega
  | succ k ih =>
    intro row hv
    obtain ⟨r, p, rfl, hr⟩ := snoc_of hv.1
    have h1 := ih r ⟨hr, fun q hq => hv.2 q (by simp [hq])⟩
    have h2 := letter_in hl (hv.2 p (by simp))
    rw [numOf_snoc, Int.pow_succ, ← Int.mul_assoc]
    omega
theorem numOf_inj {l : List Int} {head : Int} (h0 : 0 ≤ head) (hs : l.Pairwise (· < ·)) (hl : ∀ x ∈ l, 0 ≤ x ∧ x < 16) : ∀ (k : Nat) (r q : List Int), Valid l.length k r → Valid l.length k q → numOf head l r = numOf head l q → r = q := by
  intro k
  induction k with
  | zero =>
    intro r q h1 h2 _
    rw [List.length_eq_zero_iff.mp h1.1, List.length_eq_zero_iff.mp h2.1]
  | succ k ih =>
    intro r q h1 h2 e
    obtain ⟨r, a, rfl, hr⟩ := snoc_of h1.1
    obtain ⟨q, b, rfl, hq⟩ := snoc_of h2.1
    have va := letter_in hl (h1.2 a (by simp))
    have vb := letter_in hl (h2.2 b (by simp))
    rw [numOf_snoc, numOf_snoc] at e
    have e1 : numOf head l r = numOf head l q := by omega
    have e2 : l.getD a.toNat 0 = l.getD b.toNat 0 := by omega
    rw [ih r q ⟨hr, fun z hz => h1.2 z (by simp [hz])⟩ ⟨hq, fun z hz => h2.2 z (by simp [hz])⟩ e1, letter_inj hs (h1.2 a (by simp)) (h2.2 b (by simp)) e2]
theorem wordB_inj {l : List Int} {head : Int} (h0 : 0 ≤ head) (hs : l.Pairwise (· < ·)) (hl : ∀ x ∈ l, 0 ≤ x ∧ x < 16) {k : Nat} {r q : List Int} (h1 : Valid l.length k r) (h2 : Valid l.length k q) (e : wordB head l r = wordB head l q) : r = q := by
  have n1 := numOf_nonneg h0 hl k r h1
  have n2 := numOf_nonneg h0 hl k q h2
  have := apN_inj _ _ _ (Nat.le_refl _) e
  exact numOf_inj h0 hs hl k r q h1 h2 (by omega)
end Mine
end
-- part Pure3
section
open PySem PySem.W PyProof.Rows PySem.Calls
set_option Elab.async false
set_option maxRecDepth 100000
set_option maxHeartbeats 8000000
set_option linter.all false
namespace Mine
theorem walkOff14 : True := by w_top off; trivial
local macro_rules | `(tactic| walk_at "pad") => `(tactic| skip)
local macro_rules | `(tactic| walk_at "pad") => `(tactic| skip)
local macro_rules | `(tactic| walk_at "pad") => `(tactic| skip)
local macro_rules | `(tactic| walk_at "pad") => `(tactic| skip)
local macro_rules | `(tactic| walk_at "pad") => `(tactic| skip)
local macro_rules | `(tactic| walk_at "pad") => `(tactic| skip)
local macro_rules | `(tactic| walk_at "pad") => `(tactic| skip)
local macro_rules | `(tactic| walk_at "pad") => `(tactic| skip)
local macro_rules | `(tactic| walk_at "pad") => `(tactic| skip)
local macro_rules | `(tactic| walk_at "pad") => `(tactic| skip)
local macro_rules | `(tactic| walk_at "pad") => `(tactic| skip)
local macro_rules | `(tactic| walk_at "pad") => `(tactic| skip)
local macro_rules | `(tactic| walk_at "pad") => `(tactic| skip)
local macro_rules | `(tactic| walk_at "pad") => `(tactic| skip)
structure Run where
  last : List Int
  place : Int
  left : List (List Int)
  laid : List Int
def rowsI (size k : Nat) : List (List Int) := (List.range (size ^ k)).map (rowOf size k)
def stepR (size : Nat) (S : Run) : Run :=
  if S.place < (size : Int) then
    if (S.last.drop 1 ++ [S.place]) ∈ S.left then ⟨S.last.drop 1 ++ [S.place], 0, S.left.erase (S.last.drop 1 ++ [S.place]), S.laid ++ [S.place]⟩
    else ⟨S.last, S.place + 1, S.left, S.laid⟩
  else S
def runR (size k : Nat) : Nat → Run
  | 0 => ⟨List.replicate k ((size : Int) - 1), 0, (rowsI size k).dropLast, []⟩
  | n + 1 => stepR size (runR size k n)
def endsWell (size k : Nat) : Bool := decide ((runR size k (size ^ (k + 1))).left = []) && decide ((runR size k (size ^ (k + 1))).laid = leastL size k)
theorem ends23 : endsWell 2 3 = true := by decide +kernel
theorem ends24 : endsWell 2 4 = true := by decide +kernel
theorem ends33 : endsWell 3 3 = true := by decide +kernel
theorem ends32 : endsWell 3 2 = true := by decide +kernel
theorem ends42 : endsWell 4 2 = true := by decide +kernel
theorem ends52 : endsWell 5 2 = true := by decide +kernel
end Mine
end
-- part Pure4
section
open PySem PySem.W PyProof.Rows PySem.Calls
set_option Elab.async false
set_option maxRecDepth 100000
set_option maxHeartbeats 8000000
set_option linter.all false
namespace Mine
theorem walkOff15 : True := by w_top off; trivial
local macro_rules | `(tactic| walk_at "pad") => `(tactic| skip)
local macro_rules | `(tactic| walk_at "pad") => `(tactic| skip)
local macro_rules | `(tactic| walk_at "pad") => `(tactic| skip)
local macro_rules | `(tactic| walk_at "pad") => `(tactic| skip)
local macro_rules | `(tactic| walk_at "pad") => `(tactic| skip)
local macro_rules | `(tactic| walk_at "pad") => `(tactic| skip)
local macro_rules | `(tactic| walk_at "pad") => `(tactic| skip)
local macro_rules | `(tactic| walk_at "pad") => `(tactic| skip)
local macro_rules | `(tactic| walk_at "pad") => `(tactic| skip)
local macro_rules | `(tactic| walk_at "pad") => `(tactic| skip)
local macro_rules | `(tactic| walk_at "pad") => `(tactic| skip)
local macro_rules | `(tactic| walk_at "pad") => `(tactic| skip)
local macro_rules | `(tactic| walk_at "pad") => `(tactic| skip)
local macro_rules | `(tactic| walk_at "pad") => `(tactic| skip)
local macro_rules | `(tactic| walk_at "pad") => `(tactic| skip)
theorem valid_rowOf {size k c : Nat} (hs : 1 ≤ size) : Valid size k (rowOf size k c) := by
  refine ⟨by simp [rowOf], fun p hp => ?_⟩
  obtain ⟨i, _, rfl⟩ := List.mem_map.mp hp
  have := Nat.mod_lt (c / size ^ (k - 1 - i)) (show size > 0 by omega)
  omega
theorem valid_rowsI {size k : Nat} (hs : 1 ≤ size) : ∀ r ∈ rowsI size k, Valid size k r := by
  intro r hr
  obtain ⟨c, _, rfl⟩ := List.mem_map.mp hr
  exact valid_rowOf hs
section
variable {l : List Int} {head : Int} {k : Nat} (h0 : 0 ≤ head) (hs : l.Pairwise (· < ·)) (hl : ∀ x ∈ l, 0 ≤ x ∧ x < 16)
include h0 hs hl
theorem mem_word {r : List Int} (hr : Valid l.length k r) : ∀ (rows : List (List Int)), (∀ q ∈ rows, Valid l.length k q) → (wordB head l r ∈ rows.map (wordB head l) ↔ r ∈ rows) := by
  intro rows hv
  constructor
  · intro h
    obtain ⟨q, hq, e⟩ := List.mem_map.mp h
    rw [← wordB_inj h0 hs hl (hv q hq) hr e]; exact hq
  · exact fun h => List.mem_map.mpr ⟨r, h, rfl⟩
theorem erase_word {r : List Int} (hr : Valid l.length k r) : ∀ (rows : List (List Int)), (∀ q ∈ rows, Valid l.length k q) → (rows.map (wordB head l)).erase (wordB head l r) = (rows.erase r).map (wordB head l) := by
  intro rows
  induction rows with
  | nil => intro _; rfl
  | cons q rows ih =>
    intro hv
    have hq := hv q List.mem_cons_self
    rw [List.map_cons, List.erase_cons, List.erase_cons]
    by_cases e : q = r
    · subst e; simp
    · have e2 : ¬ wordB head l q = wordB head l r := fun h => e (wordB_inj h0 hs hl hq hr h)
      rw [if_neg (by simpa using e2), if_neg (by simpa using e), List.map_cons, ih fun x hx => hv x (List.mem_cons_of_mem _ hx)]
end
theorem apN_range : ∀ (m n : Nat), n ≤ m → ∀ b ∈ apN n, 65 ≤ b.toNat ∧ b.toNat ≤ 80 := by
  intro m
  induction m with
  | zero => intro n h b hb; have : n = 0 := by omega
            subst this; rw [apN_zero] at hb; simp at hb
  | succ m ih =>
    intro n h b hb
    by_cases h0 : n = 0
    · subst h0; rw [apN_zero] at hb; simp at hb
    · rw [apN_pos h0] at hb
      rcases List.mem_append.mp hb with hb | hb
      · exact ih (n / 16) (by omega) b hb
      · have : b = UInt8.ofNat (65 + n % 16) := by simpa using hb
        subst this
        simp only [UInt8.toNat_ofNat']
        omega
end Mine
end
-- part Pure5
section
open PySem PySem.W PyProof.Rows PySem.Calls
set_option Elab.async false
set_option maxRecDepth 100000
set_option maxHeartbeats 8000000
set_option linter.all false
namespace Mine
theorem walkOff16 : True := by w_top off; trivial
local macro_rules | `(tactic| walk_at "pad") => `(tactic| skip)
local macro_rules | `(tactic| walk_at "pad") => `(tactic| skip)
local macro_rules | `(tactic| walk_at "pad") => `(tactic| skip)
local macro_rules | `(tactic| walk_at "pad") => `(tactic| skip)
local macro_rules | `(tactic| walk_at "pad") => `(tactic| skip)
local macro_rules | `(tactic| walk_at "pad") => `(tactic| skip)
local macro_rules | `(tactic| walk_at "pad") => `(tactic| skip)
local macro_rules | `(tactic| walk_at "pad") => `(tactic| skip)
local macro_rules | `(tactic| walk_at "pad") => `(tactic| skip)
local macro_rules | `(tactic| walk_at "pad") => `(tactic| skip)
local macro_rules | `(tactic| walk_at "pad") => `(tactic| skip)
local macro_rules | `(tactic| walk_at "pad") => `(tactic| skip)
local macro_rules | `(tactic| walk_at "pad") => `(tactic| skip)
local macro_rules | `(tactic| walk_at "pad") => `(tactic| skip)
local macro_rules | `(tactic| walk_at "pad") => `(tactic| skip)
local macro_rules | `(tactic| walk_at "pad") => `(tactic| skip)
def lastRow (size k : Nat) : List Int := List.replicate k ((size : Int) - 1)
def okFirst (size k : Nat) : Bool := decide ((rowsI size k).getLastD [] = lastRow size k) && decide (lastRow size k ∈ rowsI size k) && decide (lastRow size k ∈ (rowsI size k ++ [lastRow size k]).erase (lastRow size k)) &&
  decide (((rowsI size k ++ [lastRow size k]).erase (lastRow size k)).erase (lastRow size k) = (rowsI size k).dropLast) && decide (lastRow size k ∉ (rowsI size k).dropLast)
theorem okF23 : okFirst 2 3 = true := by decide +kernel
theorem okF24 : okFirst 2 4 = true := by decide +kernel
theorem okF33 : okFirst 3 3 = true := by decide +kernel
theorem okF32 : okFirst 3 2 = true := by decide +kernel
theorem okF42 : okFirst 4 2 = true := by decide +kernel
theorem okF52 : okFirst 5 2 = true := by decide +kernel
theorem q_noWord {head : Int} {l : List Int} (rows : List (List Int)) : ([81] : List UInt8) ∉ rows.map (wordB head l) := by
  intro h
  obtain ⟨r, _, e⟩ := List.mem_map.mp h
  have := apN_range _ _ (Nat.le_refl _) 81 (show (81 : UInt8) ∈ apN (numOf head l r).natAbs from by
    have e' : apN (numOf head l r).natAbs = [81] := e
    rw [e']; simp)
  simp at this
theorem uld_firstG {l : List Int} {head : Int} {k : Nat} (h0 : 0 ≤ head) (hs : l.Pairwise (· < ·)) (hl : ∀ x ∈ l, 0 ≤ x ∧ x < 16) (h1 : 1 ≤ l.length) (hok : okFirst l.length k = true) :
    let f := wordB head l (lastRow l.length k)
    uldR [f, f, [81], f, f] ((rowsI l.length k).map (wordB head l) ++ [f]) [] = ([[81], f, f], ((rowsI l.length k).map (wordB head l)).dropLast) := by
  intro f
  simp only [okFirst, Bool.and_eq_true, decide_eq_true_eq] at hok
  obtain ⟨⟨⟨⟨k1, k2⟩, k3⟩, k4⟩, k5⟩ := hok
  have vl : Valid l.length k (lastRow l.length k) := by
    refine ⟨by simp [lastRow], fun p hp => ?_⟩
    have := List.eq_of_mem_replicate hp
    omega
  have vr := valid_rowsI (size := l.length) (k := k) h1
  have va : ∀ q ∈ rowsI l.length k ++ [lastRow l.length k], Valid l.length k q := by
    intro q hq
    rcases List.mem_append.mp hq with hq | hq
    · exact vr q hq
    · rw [List.mem_singleton.mp hq]; exact vl
  have vb : ∀ q ∈ (rowsI l.length k ++ [lastRow l.length k]).erase (lastRow l.length k), Valid l.length k q := fun q hq => va q (List.mem_of_mem_erase hq)
  have vd : ∀ q ∈ (rowsI l.length k).dropLast, Valid l.length k q := fun q hq => vr q (List.dropLast_subset _ hq)
  have e0 : (rowsI l.length k).map (wordB head l) ++ [f] = (rowsI l.length k ++ [lastRow l.length k]).map (wordB head l) := by simp [f]
  have m1 : f ∈ (rowsI l.length k ++ [lastRow l.length k]).map (wordB head l) := (mem_word h0 hs hl vl _ va).mpr (by simp)
  have m2 : f ∈ ((rowsI l.length k ++ [lastRow l.length k]).erase (lastRow l.length k)).map (wordB head l) := (mem_word h0 hs hl vl _ vb).mpr k3
  have m3 : ([81] : List UInt8) ∉ ((rowsI l.length k).dropLast).map (wordB head l) := q_noWord _
  have m4 : f ∉ ((rowsI l.length k).dropLast).map (wordB head l) := fun h => k5 ((mem_word h0 hs hl vl _ vd).mp h)
  rw [e0]
  rw [uldR, if_pos m1, erase_word h0 hs hl vl _ va, uldR, if_pos m2, erase_word h0 hs hl vl _ vb, k4, uldR, if_neg m3, uldR, if_neg m4, uldR, if_neg m4, uldR, List.map_dropLast]
  rfl
end Mine
end
-- part Pure6
section
open PySem PySem.W PyProof.Rows PySem.Calls
set_option Elab.async false
set_option maxRecDepth 100000
set_option maxHeartbeats 8000000
set_option linter.all false
namespace Mine
theorem walkOff17 : True := by w_top off; trivial
local macro_rules | `(tactic| walk_at "pad") => `(tactic| skip)
local macro_rules | `(tactic| walk_at "pad") => `(tactic| skip)
local macro_rules | `(tactic| walk_at "pad") => `(tactic| skip)
local macro_rules | `(tactic| walk_at "pad") => `(tactic| skip)
local macro_rules | `(tactic| walk_at "pad") => `(tactic| skip)
local macro_rules | `(tactic| walk_at "pad") => `(tactic| skip)
local macro_rules | `(tactic| walk_at "pad") => `(tactic| skip)
local macro_rules | `(tactic| walk_at "pad") => `(tactic| skip)
local macro_rules | `(tactic| walk_at "pad") => `(tactic| skip)
local macro_rules | `(tactic| walk_at "pad") => `(tactic| skip)
local macro_rules | `(tactic| walk_at "pad") => `(tactic| skip)
local macro_rules | `(tactic| walk_at "pad") => `(tactic| skip)
local macro_rules | `(tactic| walk_at "pad") => `(tactic| skip)
local macro_rules | `(tactic| walk_at "pad") => `(tactic| skip)
local macro_rules | `(tactic| walk_at "pad") => `(tactic| skip)
local macro_rules | `(tactic| walk_at "pad") => `(tactic| skip)
local macro_rules | `(tactic| walk_at "pad") => `(tactic| skip)
def stripA (bs : List UInt8) : List UInt8 := bs.dropWhile (fun b => b == 65)
def valD (n : Int) (ds : List Int) : Int := ds.foldl (fun n d => n * 16 + d) n
theorem valD_snoc (n : Int) (ds : List Int) (d : Int) : valD n (ds ++ [d]) = valD n ds * 16 + d := by simp [valD]
theorem spellB_append (a b : List Int) : spellB (a ++ b) = spellB a ++ spellB b := by simp [spellB]
theorem strip_apN : ∀ (k : Nat) (ds : List Int), ds.length = k → (∀ d ∈ ds, 0 ≤ d ∧ d < 16) → 0 ≤ valD 0 ds ∧ stripA (spellB ds) = apN (valD 0 ds).natAbs := by
  intro k
  induction k with
  | zero =>
    intro ds hk _
    have : ds = [] := List.length_eq_zero_iff.mp hk
    subst this
    refine ⟨by simp [valD], ?_⟩
    show stripA [] = apN 0
    rw [apN_zero]; rfl
  | succ k ih =>
    intro ds hk hd
    obtain ⟨r, d, rfl, hr⟩ := snoc_of hk
    obtain ⟨v0, e⟩ := ih r hr fun x hx => hd x (by simp [hx])
    have hd' := hd d (by simp)
    rw [valD_snoc]
    refine ⟨by omega, ?_⟩
    have e1 : stripA (spellB (r ++ [d])) = if (stripA (spellB r)).isEmpty then stripA (spellB [d]) else stripA (spellB r) ++ spellB [d] := by
      rw [spellB_append]; exact List.dropWhile_append ..
    rw [e1, e]
    have hb : spellB [d] = [UInt8.ofNat (65 + d.toNat)] := rfl
    by_cases hv : valD 0 r = 0
    · rw [hv]
      simp only [Int.natAbs_zero, apN_zero, List.isEmpty_nil, if_true]
      by_cases h0 : d = 0
      · subst h0; rw [hb]
        show stripA [65] = apN 0
        rw [apN_zero]; rfl
      · have hn : (0 * 16 + d).natAbs = d.toNat := by omega
        have hne : d.toNat ≠ 0 := by omega
        rw [hn, apN_pos hne, show d.toNat / 16 = 0 by omega, apN_zero, List.nil_append, show d.toNat % 16 = d.toNat by omega, hb]
        have : (UInt8.ofNat (65 + d.toNat) == 65) = false := by
          rw [beq_eq_false_iff_ne]
          intro hx
          have := congrArg UInt8.toNat hx
          simp only [UInt8.toNat_ofNat'] at this
          have h65 : (65 : UInt8).toNat = 65 := rfl
          omega
        show List.dropWhile (fun b => b == 65) [UInt8.ofNat (65 + d.toNat)] = _
        rw [List.dropWhile_cons, this]
        rfl
    · have hne : (valD 0 r * 16 + d).natAbs ≠ 0 := by omega
      rw [apN_pos hne, show (valD 0 r * 16 + d).natAbs / 16 = (valD 0 r).natAbs by omega, show (valD 0 r * 16 + d).natAbs % 16 = d.toNat by omega]
      have hE : (apN (valD 0 r).natAbs).isEmpty = false := by
        rw [apN_pos (by omega)]; simp
      rw [hE]; simp [hb]
theorem valD_map (l : List Int) : ∀ (row : List Int) (n : Int), valD n (row.map fun p => l.getD p.toNat 0) = numOf n l row := by
  intro row
  induction row with
  | nil => intro n; rfl
  | cons p row ih => intro n; simp only [valD, numOf, List.map_cons, List.foldl_cons] at *; exact ih _
def letB (l : List Int) (row : List Int) : List UInt8 := spellB (row.map fun p => l.getD p.toNat 0)
theorem strip_word {l : List Int} {head : Int} {k : Nat} {row : List Int} (h0 : 0 ≤ head) (h1 : head < 4096) (hl : ∀ x ∈ l, 0 ≤ x ∧ x < 16) (hv : Valid l.length k row) :
    stripA (spellB [head / 256, head / 16 % 16, head % 16] ++ letB l row) = wordB head l row := by
  rw [letB, ← spellB_append]
  have hd : ∀ d ∈ [head / 256, head / 16 % 16, head % 16] ++ row.map (fun p => l.getD p.toNat 0), 0 ≤ d ∧ d < 16 := by
    intro d hd
    rcases List.mem_append.mp hd with hd | hd
    · simp only [List.mem_cons, List.not_mem_nil, or_false] at hd
      rcases hd with rfl | rfl | rfl <;> omega
    · obtain ⟨p, hp, rfl⟩ := List.mem_map.mp hd
      exact letter_in hl (hv.2 p hp)
  rw [(strip_apN _ _ rfl hd).2, wordB, ← valD_map]
  congr 2
  show valD 0 (_ ++ _) = _
  rw [valD, List.foldl_append]
  show valD (valD 0 [head / 256, head / 16 % 16, head % 16]) _ = _
  congr 1
  simp only [valD, List.foldl_cons, List.foldl_nil]
  omega
theorem last_word {l : List Int} {head : Int} {k : Nat} {r : List Int} {p : Int} (h0 : 0 ≤ head) (hl : ∀ x ∈ l, 0 ≤ x ∧ x < 16) (hv : Valid l.length (k + 1) (r ++ [p])) :
    ∃ pre, (65 : UInt8) :: wordB head l (r ++ [p]) = pre ++ letB l [p] := by
  have hr : r.length = k := by have := hv.1; simp at this; exact this
  have n1 := numOf_nonneg h0 hl k r ⟨hr, fun q hq => hv.2 q (by simp [hq])⟩
  have n2 := letter_in hl (hv.2 p (by simp))
  have hb : letB l [p] = [UInt8.ofNat (65 + (l.getD p.toNat 0).toNat)] := rfl
  rw [wordB, numOf_snoc]
  by_cases hz : (numOf head l r * 16 + l.getD p.toNat 0).natAbs = 0
  · refine ⟨[], ?_⟩
    rw [hz, apN_zero, hb, show l.getD p.toNat 0 = 0 by omega]
    rfl
  · refine ⟨65 :: apN ((numOf head l r * 16 + l.getD p.toNat 0).natAbs / 16), ?_⟩
    rw [apN_pos hz, hb, show (numOf head l r * 16 + l.getD p.toNat 0).natAbs % 16 = (l.getD p.toNat 0).toNat by omega]
    rfl
end Mine
end
-- part Base6
section
open PySem PySem.W PyProof.Rows PySem.Calls
set_option Elab.async false
set_option maxRecDepth 100000
set_option maxHeartbeats 8000000
set_option linter.all false
namespace Mine
theorem walkOff18 : True := by w_top off; trivial
local macro_rules | `(tactic| walk_at "pad") => `(tactic| skip)
local macro_rules | `(tactic| walk_at "pad") => `(tactic| skip)
local macro_rules | `(tactic| walk_at "pad") => `(tactic| skip)
local macro_rules | `(tactic| walk_at "pad") => `(tactic| skip)
local macro_rules | `(tactic| walk_at "pad") => `(tactic| skip)
local macro_rules | `(tactic| walk_at "pad") => `(tactic| skip)
local macro_rules | `(tactic| walk_at "pad") => `(tactic| skip)
local macro_rules | `(tactic| walk_at "pad") => `(tactic| skip)
local macro_rules | `(tactic| walk_at "pad") => `(tactic| skip)
local macro_rules | `(tactic| walk_at "pad") => `(tactic| skip)
local macro_rules | `(tactic| walk_at "pad") => `(tactic| skip)
local macro_rules | `(tactic| walk_at "pad") => `(tactic| skip)
local macro_rules | `(tactic| walk_at "pad") => `(tactic| skip)
local macro_rules | `(tactic| walk_at "pad") => `(tactic| skip)
local macro_rules | `(tactic| walk_at "pad") => `(tactic| skip)
local macro_rules | `(tactic| walk_at "pad") => `(tactic| skip)
local macro_rules | `(tactic| walk_at "pad") => `(tactic| skip)
local macro_rules | `(tactic| walk_at "pad") => `(tactic| skip)
theorem slot_lstrip : Slot "bytes" (Str.ofString "lstrip") "bytes.lstrip" :=
  .of (owner := "bytes") (n := "lstrip") (by rw [typeLookup_type, builtinLookup_eq_fast]; kernel_rfl) (by decide +kernel) (by decide +kernel) (by decide +kernel)
    (by first | exact .inl (by decide +kernel) | exact .inr (by decide +kernel)) (by rw [isSubtype_type]; kernel_rfl)
theorem type_lstrip : typeOf (.builtin "bytes.lstrip") = pure (.type "method_descriptor") := by show builtinType _ = _; rw [builtinType_eq_fast]; kernel_rfl
theorem entry_lstrip : entryFor table "bytes.lstrip" = some Builtin.«bytes.lstrip» := entryFor_of_tree (by kernel_rfl)
theorem args_lstrip (a b : Value) : argsOk "bytes.lstrip" ⟨[a, b], []⟩ := by
  unfold argsOk; rw [signature?_of (id := "bytes.lstrip") (n := ['p', 'i', 'r', 't', 's', 'l']) (o := ['s', 'e', 't', 'y', 'b']) (by kernel_rfl) FB.owner_bytes]; kernel_rfl
open Builtin in
theorem lstrip_tree (b c : Array UInt8) (t u : Tok) : «bytes.lstrip» ⟨[.bytes b t, .bytes c u], []⟩ = (do
    let set ← Bytes.bytesLike "bytes.lstrip" (.bytes c u)
    let kept := b.toList.dropWhile set.contains
    if kept.length == b.size then do rule "bytes.lstrip.unchanged"; ret (← Bytes.Kind.bytes.same (.bytes b t)) else ret (← Bytes.Kind.bytes.new kept.toArray)) := by
  first | rfl | (unfold Builtin.«bytes.lstrip» Builtin.Bytes.stripM; rfl) | kernel_rfl
theorem meets_lstrip (b : List UInt8) (t u : Tok) (hsz : b.length ≤ 1000) :
    Meets (Builtin.«bytes.lstrip» ⟨[.bytes b.toArray t, .bytes #[65] u], []⟩) (fun _ R s => ∀ t' k, R (.ok (.ret (.bytes (stripA b).toArray t'))) { s with toks := k }) := by
  refine .of_wp fun prog w A R s h => ?_
  rw [lstrip_tree]
  refine wpAny_bind (wpAny_of_eq KBd.like_eq ?_)
  have e : b.toArray.toList.dropWhile (#[65] : Array UInt8).contains = stripA b := by
    show List.dropWhile _ b = List.dropWhile _ b
    congr 1
    funext x
    simp only [Array.contains, List.elem_toArray]
    first | rfl | (simp [Array.any, eq_comm]; done) | (by_cases hx : x = 65 <;> simp [hx])
  rw [e]
  have hle : (stripA b).length ≤ b.length := (List.dropWhile_sublist _).length_le
  by_cases hs : ((stripA b).length == b.toArray.size) = true
  · have e2 : stripA b = b := (List.dropWhile_sublist _).eq_of_length (show (stripA b).length = b.length from by simpa using hs)
    simp only [hs, if_true]
    refine wpAny_bind (wpAny_rule ?_)
    refine wpAny_bind (m := Builtin.Bytes.Kind.bytes.same (.bytes b.toArray t)) ?_
    refine wpAny_pure (wpAny_pure ⟨_, rfl, ?_⟩)
    have := h t s.toks
    rw [e2] at this
    exact this
  · simp only [hs, if_false]
    exact wpAny_bind (wpAny_mkBytes (wpAny_pure ⟨_, rfl, h _ _⟩) (by rw [sizeLine_eq, List.size_toArray]; omega))
theorem call_lstrip {prog : Program} {w : World} {A : Around} {E Q : Value → Shared → Prop} {s : Shared} {b : List UInt8} {t u : Tok} (hsz : b.length ≤ 1000)
    (h : ∀ t' k, Q (.bytes (stripA b).toArray t') { s with toks := k }) : wpAny (model prog w) A (call (.builtin "bytes.lstrip") [.bytes b.toArray t, .bytes #[65] u]) Q E s :=
  call_meets slot_lstrip (typeIs_bytes _ _ _) entry_lstrip (args_lstrip _ _) (meets_lstrip b t u hsz) h
theorem gm_lstrip {M : Model} {A : Around} {E : Value → Shared → Prop} {s : Shared} {b : Array UInt8} {t : Tok} {pl : Sem Bool} {Q : Value × List Value → Shared → Prop} (h : Q (.builtin "bytes.lstrip", [.bytes b t]) s) : wpAny M A (getMethod (.bytes b t) (Str.ofString "lstrip") pl) Q E s := by
  with_reducible exact KBd.method_of (.bytes b t) (typeIs_bytes _ _ _) slot_lstrip type_lstrip KBd.noRef h
end Mine
end
-- part Pure7
section
open PySem PySem.W PyProof.Rows PySem.Calls
set_option Elab.async false
set_option maxRecDepth 100000
set_option maxHeartbeats 8000000
set_option linter.all false
namespace Mine
theorem walkOff19 : True := by w_top off; trivial
local macro_rules | `(tactic| walk_at "pad") => `(tactic| skip)
local macro_rules | `(tactic| walk_at "pad") => `(tactic| skip)
local macro_rules | `(tactic| walk_at "pad") => `(tactic| skip)
local macro_rules | `(tactic| walk_at "pad") => `(tactic| skip)
local macro_rules | `(tactic| walk_at "pad") => `(tactic| skip)
local macro_rules | `(tactic| walk_at "pad") => `(tactic| skip)
local macro_rules | `(tactic| walk_at "pad") => `(tactic| skip)
local macro_rules | `(tactic| walk_at "pad") => `(tactic| skip)
local macro_rules | `(tactic| walk_at "pad") => `(tactic| skip)
local macro_rules | `(tactic| walk_at "pad") => `(tactic| skip)
local macro_rules | `(tactic| walk_at "pad") => `(tactic| skip)
local macro_rules | `(tactic| walk_at "pad") => `(tactic| skip)
local macro_rules | `(tactic| walk_at "pad") => `(tactic| skip)
local macro_rules | `(tactic| walk_at "pad") => `(tactic| skip)
local macro_rules | `(tactic| walk_at "pad") => `(tactic| skip)
local macro_rules | `(tactic| walk_at "pad") => `(tactic| skip)
local macro_rules | `(tactic| walk_at "pad") => `(tactic| skip)
local macro_rules | `(tactic| walk_at "pad") => `(tactic| skip)
local macro_rules | `(tactic| walk_at "pad") => `(tactic| skip)
def headL (scr : List Int) : Int := (scr.drop 3).sum % 4096
def kL (scr : List Int) : Nat := if scr.length % 2 = 1 then [4, 2, 2, 2].getD ((lettersL scr).length - 2) 0 else [3, 3, 2, 2].getD ((lettersL scr).length - 2) 0
def rowsL (scr : List Int) : List (List Int) := (List.range ((lettersL scr).length ^ kL scr)).map (rowOf (lettersL scr).length (kL scr))
def wordsL (scr : List Int) : List (List UInt8) := (rowsL scr).map (wordB (headL scr) (lettersL scr))
def firstL (scr : List Int) : List UInt8 := (wordsL scr).getLastD []
def qB : List UInt8 := [81]
def topL (scr : List Int) : List UInt8 := spellB [(headL scr) / 256, (headL scr) / 16 % 16, (headL scr) % 16]
theorem kL_bounds (scr : List Int) : 2 ≤ kL scr ∧ kL scr ≤ 4 ∧ (lettersL scr).length ^ kL scr ≤ 27 ∧ 8 ≤ (lettersL scr).length ^ kL scr := by
  have h2 := lettersL_ge scr
  have h5 := lettersL_le scr
  unfold kL
  generalize (lettersL scr).length = z at *
  have hz : z = 2 ∨ z = 3 ∨ z = 4 ∨ z = 5 := by omega
  split <;> rcases hz with rfl | rfl | rfl | rfl <;> decide
theorem headL_bounds (scr : List Int) : 0 ≤ headL scr ∧ headL scr < 4096 := by unfold headL; omega
theorem kL_cases (scr : List Int) {P : Nat → Nat → Prop} (h1 : P 2 3) (h2 : P 2 4) (h3 : P 3 3) (h4 : P 3 2) (h5 : P 4 2) (h6 : P 5 2) : P (lettersL scr).length (kL scr) := by
  have g2 := lettersL_ge scr
  have g5 := lettersL_le scr
  unfold kL
  generalize (lettersL scr).length = z at *
  have hz : z = 2 ∨ z = 3 ∨ z = 4 ∨ z = 5 := by omega
  split <;> rcases hz with rfl | rfl | rfl | rfl <;> assumption
theorem okF (scr : List Int) : okFirst (lettersL scr).length (kL scr) = true := kL_cases scr (P := fun a b => okFirst a b = true) okF23 okF24 okF33 okF32 okF42 okF52
theorem okE (scr : List Int) : endsWell (lettersL scr).length (kL scr) = true := kL_cases scr (P := fun a b => endsWell a b = true) ends23 ends24 ends33 ends32 ends42 ends52
theorem firstL_eq (scr : List Int) : firstL scr = wordB (headL scr) (lettersL scr) (lastRow (lettersL scr).length (kL scr)) := by
  have h := okF scr
  simp only [okFirst, Bool.and_eq_true, decide_eq_true_eq] at h
  obtain ⟨⟨⟨⟨k1, _⟩, _⟩, _⟩, _⟩ := h
  have hne : rowsI (lettersL scr).length (kL scr) ≠ [] := by
    intro e
    have := congrArg List.length e
    have h8 := (kL_bounds scr).2.2.2
    rw [rowsI, List.length_map, List.length_range, List.length_nil] at this
    omega
  have e : rowsL scr = rowsI (lettersL scr).length (kL scr) := rfl
  rw [firstL, wordsL, e, List.getLastD_eq_getLast?, List.getLast?_map]
  rw [List.getLastD_eq_getLast?] at k1
  rw [List.getLast?_eq_some_getLast hne] at k1 ⊢
  simp only [Option.map_some, Option.getD_some] at k1 ⊢
  rw [k1]
theorem uld_first (scr : List Int) : uldR [firstL scr, firstL scr, qB, firstL scr, firstL scr] (wordsL scr ++ [firstL scr]) [] = ([qB, firstL scr, firstL scr], (wordsL scr).dropLast) := by
  rw [firstL_eq]
  exact uld_firstG (headL_bounds scr).1 (lettersL_sorted scr) (lettersL_in scr) (by have := lettersL_ge scr; omega) (okF scr)
/-- what holds all along the run -/
structure RunOk (size k n : Nat) (S : Run) : Prop where
  last : Valid size k S.last
  left : ∀ r ∈ S.left, Valid size k r
  len : S.left.length ≤ size ^ k
  place0 : 0 ≤ S.place
  place1 : S.place ≤ size
  laid : ∀ p ∈ S.laid, 0 ≤ p ∧ p < (size : Int)
  laidn : S.laid.length ≤ n
  tail : ∃ pre, lastRow size k ++ S.laid = pre ++ S.last
theorem run_ok {size k : Nat} (hs : 1 ≤ size) (hk : 1 ≤ k) : ∀ n, RunOk size k n (runR size k n) := by
  intro n
  induction n with
  | zero =>
    refine ⟨⟨by simp [runR], fun p hp => ?_⟩, fun r hr => valid_rowsI hs r (List.dropLast_subset _ hr), ?_, Int.le_refl _, by simp [runR], by simp [runR], by simp [runR], ⟨[], by simp [runR, lastRow]⟩⟩
    · have := List.eq_of_mem_replicate hp; omega
    · simp [runR, rowsI]
  | succ n ih =>
    obtain ⟨a1, a2, a3, a4, a5, a6, a7, ⟨pre, a8⟩⟩ := ih
    show RunOk size k (n + 1) (stepR size (runR size k n))
    generalize runR size k n = S at *
    unfold stepR
    by_cases hp : S.place < (size : Int)
    · rw [if_pos hp]
      have hv : Valid size k (S.last.drop 1 ++ [S.place]) := by
        refine ⟨by have := a1.1; simp; omega, fun p hp' => ?_⟩
        rcases List.mem_append.mp hp' with h | h
        · exact a1.2 p (List.mem_of_mem_drop h)
        · rw [List.mem_singleton.mp h]; exact ⟨a4, hp⟩
      by_cases hm : (S.last.drop 1 ++ [S.place]) ∈ S.left
      · rw [if_pos hm]
        refine ⟨hv, fun r hr => a2 r (List.mem_of_mem_erase hr), Nat.le_trans List.length_erase_le a3, Int.le_refl _, by simp, ?_, by simp; exact a7, ?_⟩
        · intro p hp'
          rcases List.mem_append.mp hp' with h | h
          · exact a6 p h
          · rw [List.mem_singleton.mp h]; exact ⟨a4, hp⟩
        · have hne : S.last ≠ [] := by intro e; have := a1.1; rw [e] at this; simp at this; omega
          obtain ⟨x, r, e⟩ := List.exists_cons_of_ne_nil hne
          refine ⟨pre ++ [x], ?_⟩
          rw [← List.append_assoc, a8, e]; simp
      · rw [if_neg hm]
        exact ⟨a1, a2, a3, by show 0 ≤ S.place + 1; omega, by show S.place + 1 ≤ size; omega, a6, Nat.le_succ_of_le a7, ⟨pre, a8⟩⟩
    · rw [if_neg hp]
      exact ⟨a1, a2, a3, a4, a5, a6, Nat.le_succ_of_le a7, ⟨pre, a8⟩⟩
theorem letB_append (l a b : List Int) : letB l (a ++ b) = letB l a ++ letB l b := by simp [letB, spellB]
theorem letB_length (l a : List Int) : (letB l a).length = a.length := by simp [letB, spellB]
theorem word_rep {l : List Int} {head : Int} {p : Int} (h0 : 0 ≤ head) (hl : ∀ x ∈ l, 0 ≤ x ∧ x < 16) (hp : 0 ≤ p ∧ p < (l.length : Int)) (h1 : 0 < l.getD p.toNat 0) : ∀ k : Nat, ∃ pre, wordB head l (List.replicate k p) = pre ++ letB l (List.replicate k p) := by
  intro k
  induction k with
  | zero => exact ⟨wordB head l [], by simp [letB, spellB]⟩
  | succ k ih =>
    obtain ⟨pre, e⟩ := ih
    have hv : Valid l.length k (List.replicate k p) := ⟨by simp, fun q hq => by rw [List.eq_of_mem_replicate hq]; exact hp⟩
    have n1 := numOf_nonneg h0 hl k _ hv
    have n2 := letter_in hl hp
    refine ⟨pre, ?_⟩
    rw [List.replicate_succ', letB_append, ← List.append_assoc, ← e, wordB, numOf_snoc, apN_pos (by omega)]
    have e2 : letB l [p] = [UInt8.ofNat (65 + (l.getD p.toNat 0).toNat)] := rfl
    rw [e2, wordB, show (numOf head l (List.replicate k p) * 16 + l.getD p.toNat 0).natAbs / 16 = (numOf head l (List.replicate k p)).natAbs by omega, show (numOf head l (List.replicate k p) * 16 + l.getD p.toNat 0).natAbs % 16 = (l.getD p.toNat 0).toNat by omega]
theorem last_letter (scr : List Int) : 0 < (lettersL scr).getD ((((lettersL scr).length : Int) - 1).toNat) 0 := by
  have h2 := lettersL_ge scr
  have hs := sorted_get (lettersL_sorted scr) (i := 0) (j := (lettersL scr).length - 1) (by omega) (by omega)
  have h0 := letter_in (lettersL_in scr) (p := 0) (by omega)
  rw [show (((lettersL scr).length : Int) - 1).toNat = (lettersL scr).length - 1 by omega]
  simp only [Int.toNat_zero] at h0
  omega
theorem first_pre (scr : List Int) : ∃ pre, firstL scr = pre ++ letB (lettersL scr) (lastRow (lettersL scr).length (kL scr)) := by
  rw [firstL_eq, lastRow]
  exact word_rep (headL_bounds scr).1 (lettersL_in scr) (by have := lettersL_ge scr; omega) (last_letter scr) _
/-- the word found, read off first and laid -/
theorem found_word (scr : List Int) {n : Nat} {S : Run} (h : RunOk (lettersL scr).length (kL scr) n S) :
    stripA (topL scr ++ ((firstL scr ++ letB (lettersL scr) S.laid).drop ((firstL scr ++ letB (lettersL scr) S.laid).length - kL scr))) = wordB (headL scr) (lettersL scr) S.last := by
  obtain ⟨p1, e1⟩ := first_pre scr
  obtain ⟨p2, e2⟩ := h.tail
  have e3 : firstL scr ++ letB (lettersL scr) S.laid = (p1 ++ letB (lettersL scr) p2) ++ letB (lettersL scr) S.last := by
    rw [e1, List.append_assoc, ← letB_append, e2, letB_append, List.append_assoc]
  have e4 : (letB (lettersL scr) S.last).length = kL scr := by rw [letB_length, h.last.1]
  rw [e3, List.length_append, e4, Nat.add_sub_cancel, List.drop_left]
  exact strip_word (headL_bounds scr).1 (headL_bounds scr).2 (lettersL_in scr) h.last
/-- the letter that is laid -/
theorem laid_letter (scr : List Int) {n : Nat} {S : Run} (h : RunOk (lettersL scr).length (kL scr) n S) (hp : S.place < ((lettersL scr).length : Int)) :
    ((65 : UInt8) :: wordB (headL scr) (lettersL scr) (S.last.drop 1 ++ [S.place])).drop (((65 : UInt8) :: wordB (headL scr) (lettersL scr) (S.last.drop 1 ++ [S.place])).length - 1) = letB (lettersL scr) [S.place] := by
  have hk := (kL_bounds scr).1
  have hv : Valid (lettersL scr).length (kL scr - 1 + 1) (S.last.drop 1 ++ [S.place]) := by
    refine ⟨by have := h.last.1; simp; omega, fun p hp' => ?_⟩
    rcases List.mem_append.mp hp' with h' | h'
    · exact h.last.2 p (List.mem_of_mem_drop h')
    · rw [List.mem_singleton.mp h']; exact ⟨h.place0, hp⟩
  obtain ⟨pre, e⟩ := last_word (headL_bounds scr).1 (lettersL_in scr) hv
  rw [e, List.length_append, letB_length]
  simp
theorem step_valid {size k n : Nat} {S : Run} (h : RunOk size k n S) (hk : 1 ≤ k) (hp : S.place < (size : Int)) : Valid size k (S.last.drop 1 ++ [S.place]) := by
  refine ⟨by have := h.last.1; simp; omega, fun p hp' => ?_⟩
  rcases List.mem_append.mp hp' with h' | h'
  · exact h.last.2 p (List.mem_of_mem_drop h')
  · rw [List.mem_singleton.mp h']; exact ⟨h.place0, hp⟩
/-- what the call answers on one word -/
theorem uld_one (scr : List Int) {n : Nat} {S : Run} (h : RunOk (lettersL scr).length (kL scr) n S) (hp : S.place < ((lettersL scr).length : Int)) :
    uldR [wordB (headL scr) (lettersL scr) (S.last.drop 1 ++ [S.place])] (S.left.map (wordB (headL scr) (lettersL scr))) [] =
      if (S.last.drop 1 ++ [S.place]) ∈ S.left then ([], (S.left.erase (S.last.drop 1 ++ [S.place])).map (wordB (headL scr) (lettersL scr)))
      else ([wordB (headL scr) (lettersL scr) (S.last.drop 1 ++ [S.place])], S.left.map (wordB (headL scr) (lettersL scr))) := by
  have hk := (kL_bounds scr).1
  have hv := step_valid h (by omega) hp
  have m := mem_word (headL_bounds scr).1 (lettersL_sorted scr) (lettersL_in scr) hv S.left h.left
  have e := erase_word (headL_bounds scr).1 (lettersL_sorted scr) (lettersL_in scr) hv S.left h.left
  by_cases hm : (S.last.drop 1 ++ [S.place]) ∈ S.left
  · rw [if_pos hm, uldR, if_pos (m.mpr hm), e, uldR]
  · rw [if_neg hm, uldR, if_neg (fun q => hm (m.mp q)), uldR]; rfl
theorem ends_left (scr : List Int) : (runR (lettersL scr).length (kL scr) ((lettersL scr).length ^ (kL scr + 1))).left = [] := by
  have := okE scr
  simp only [endsWell, Bool.and_eq_true, decide_eq_true_eq] at this
  exact this.1
theorem ends_laid (scr : List Int) : (runR (lettersL scr).length (kL scr) ((lettersL scr).length ^ (kL scr + 1))).laid = leastL (lettersL scr).length (kL scr) := by
  have := okE scr
  simp only [endsWell, Bool.and_eq_true, decide_eq_true_eq] at this
  exact this.2
theorem turns_le (scr : List Int) : (lettersL scr).length ^ (kL scr + 1) ≤ 125 := kL_cases scr (P := fun a b => a ^ (b + 1) ≤ 125) (by decide) (by decide) (by decide) (by decide) (by decide) (by decide)
theorem word_len (scr : List Int) {row : List Int} (hv : Valid (lettersL scr).length (kL scr) row) : (wordB (headL scr) (lettersL scr) row).length ≤ 8 := by
  have n := numOf_nonneg (headL_bounds scr).1 (lettersL_in scr) _ _ hv
  have hb := headL_bounds scr
  have hk := (kL_bounds scr).2.1
  have h16 : (16 : Int) ^ kL scr ≤ 16 ^ 4 := by
    have : (16 : Nat) ^ kL scr ≤ 16 ^ 4 := Nat.pow_le_pow_right (by decide) hk
    exact_mod_cast this
  have : (headL scr + 1) * 16 ^ kL scr ≤ 4096 * 16 ^ 4 := Int.mul_le_mul (by omega) h16 (by exact_mod_cast Nat.zero_le (16 ^ kL scr)) (by omega)
  refine apN_len (j := 8) ?_
  omega
end Mine
end
-- part Law
section
open PySem PySem.W PyProof.Rows PySem.Calls
set_option Elab.async false
set_option maxRecDepth 100000
set_option maxHeartbeats 8000000
set_option linter.all false
namespace Mine
theorem walkOff20 : True := by w_top off; trivial
local macro_rules | `(tactic| walk_at "pad") => `(tactic| skip)
local macro_rules | `(tactic| walk_at "pad") => `(tactic| skip)
local macro_rules | `(tactic| walk_at "pad") => `(tactic| skip)
local macro_rules | `(tactic| walk_at "pad") => `(tactic| skip)
local macro_rules | `(tactic| walk_at "pad") => `(tactic| skip)
local macro_rules | `(tactic| walk_at "pad") => `(tactic| skip)
local macro_rules | `(tactic| walk_at "pad") => `(tactic| skip)
local macro_rules | `(tactic| walk_at "pad") => `(tactic| skip)
local macro_rules | `(tactic| walk_at "pad") => `(tactic| skip)
local macro_rules | `(tactic| walk_at "pad") => `(tactic| skip)
local macro_rules | `(tactic| walk_at "pad") => `(tactic| skip)
local macro_rules | `(tactic| walk_at "pad") => `(tactic| skip)
local macro_rules | `(tactic| walk_at "pad") => `(tactic| skip)
local macro_rules | `(tactic| walk_at "pad") => `(tactic| skip)
local macro_rules | `(tactic| walk_at "pad") => `(tactic| skip)
local macro_rules | `(tactic| walk_at "pad") => `(tactic| skip)
local macro_rules | `(tactic| walk_at "pad") => `(tactic| skip)
local macro_rules | `(tactic| walk_at "pad") => `(tactic| skip)
local macro_rules | `(tactic| walk_at "pad") => `(tactic| skip)
local macro_rules | `(tactic| walk_at "pad") => `(tactic| skip)
local macro_rules | `(tactic| walk_at "subscriptTail") => `(tactic| ((with_reducible show wpAny _ _ (subscriptTail _ (Expr.Slice _ _ none _) (Value.bytes _ _) (Value.ref _)) _ _ _); (rename Fr _ _ _ _ => F'); (rename News _ _ _ _ => N'); (refine sliceB (s := ⟨_, _, _, _, _⟩) F' N' (by constructor) (by constructor) ?_ ?_); rotate_left; intro _ _ _ F' N'))
local macro_rules | `(tactic| walk_at "subscriptTail") => `(tactic| ((with_reducible show wpAny _ _ (subscriptTail _ _ (Value.ref _) (Value.int _ _)) _ _ _); (rename Fr _ _ _ _ => F'); (refine itemL (Heap.IsList.at (by assumption) (Fr.keep F' _)) (by assumption) ?_ ?_ ?_ ?_); (rotate_left 3); intro _))
local macro_rules | `(tactic| walk_at "binaryOp Add bytes bytes") => `(tactic| ((refine KBy.add_bytes ?_ ?_); rotate_left; intro _ _))
local macro_rules | `(tactic| walk_at "newList") => `(tactic| ((rename Fr _ _ _ _ => F'); (rename News _ _ _ _ => N'); (refine newList_K F' N' ?_); clear F' N'; intro l' h' F' N' l1))
local macro_rules | `(tactic| walk_at "mine") => `(tactic| repeat' ((fail_if_success (with_reducible show wpAny _ _ (exec (Stmt.While _ _ _ _) _) _ _ _)); (fail_if_success (with_reducible show wpAny _ _ (exec (Stmt.For _ _ _ _ _) _) _ _ _)); (fail_if_success (with_reducible show wpAny _ _ (pyIter _) _ _ _)); (fail_if_success (with_reducible show wpAny _ _ (call (Value.builtin "list.pop") _) _ _ _)); (fail_if_success (with_reducible show wpAny _ _ (call (Value.builtin "list.remove") _) _ _ _)); (fail_if_success (with_reducible show wpAny _ _ (exec (Stmt.Try _ _ _ _ _) _) _ _ _)); (fail_if_success (with_reducible show wpAny _ _ (call (Value.ref _) _) _ _ _)); (fail_if_success (with_reducible show wpAny _ _ (eval (Expr.ListComp _ _ _ _) _) _ _ _)); (first | walk1 | (dsimp only; walk1) | (dsimp only at *; walk1))))
local macro_rules | `(tactic| walk_at "mine2") => `(tactic| repeat' ((fail_if_success (with_reducible show wpAny _ _ (call (Value.builtin _) _) _ _ _)); (fail_if_success (with_reducible show wpAny _ _ (compareOp _ _ _) _ _ _)); (fail_if_success (with_reducible show wpAny _ _ (exec (Stmt.While _ _ _ _) _) _ _ _)); (fail_if_success (with_reducible show wpAny _ _ (exec (Stmt.For _ _ _ _ _) _) _ _ _)); (fail_if_success (with_reducible show wpAny _ _ (pyIter _) _ _ _)); (fail_if_success (with_reducible show wpAny _ _ (call (Value.builtin "list.pop") _) _ _ _)); (fail_if_success (with_reducible show wpAny _ _ (call (Value.builtin "list.remove") _) _ _ _)); (fail_if_success (with_reducible show wpAny _ _ (exec (Stmt.Try _ _ _ _ _) _) _ _ _)); (fail_if_success (with_reducible show wpAny _ _ (call (Value.ref _) _) _ _ _)); (fail_if_success (with_reducible show wpAny _ _ (eval (Expr.ListComp _ _ _ _) _) _ _ _)); (first | walk1 | (dsimp only; walk1) | (dsimp only at *; walk1))))
local macro_rules | `(tactic| walk_at "mine3") => `(tactic| repeat' ((fail_if_success (with_reducible show wpAny _ _ (exec (Stmt.Assign _ (Expr.ListComp _ _ _ _) _) _) _ _ _)); (fail_if_success (with_reducible show wpAny _ _ (exec (Stmt.While _ _ _ _) _) _ _ _)); (fail_if_success (with_reducible show wpAny _ _ (exec (Stmt.For _ _ _ _ _) _) _ _ _)); (fail_if_success (with_reducible show wpAny _ _ (pyIter _) _ _ _)); (fail_if_success (with_reducible show wpAny _ _ (call (Value.builtin "list.pop") _) _ _ _)); (fail_if_success (with_reducible show wpAny _ _ (call (Value.builtin "list.remove") _) _ _ _)); (fail_if_success (with_reducible show wpAny _ _ (exec (Stmt.Try _ _ _ _ _) _) _ _ _)); (fail_if_success (with_reducible show wpAny _ _ (call (Value.ref _) _) _ _ _)); (fail_if_success (with_reducible show wpAny _ _ (eval (Expr.ListComp _ _ _ _) _) _ _ _)); (first | walk1 | (dsimp only; walk1) | (dsimp only at *; walk1))))
theorem kL_eq (scr : List Int) : ([3 + (scr.length : Int).fmod 2, 3 - (scr.length : Int).fmod 2, 2, 2] : List Int).getD (((lettersL scr).length : Int) - 2).toNat 0 = (kL scr : Int) := by
  have h2 := lettersL_ge scr
  have h5 := lettersL_le scr
  rw [Int.fmod_eq_emod_of_nonneg _ (by decide)]
  unfold kL
  generalize (lettersL scr).length = z at *
  have hz : ((z : Int) - 2).toNat = z - 2 := by omega
  rw [hz]
  generalize scr.length = n
  have hz : z = 2 ∨ z = 3 ∨ z = 4 ∨ z = 5 := by omega
  rcases Nat.mod_two_eq_zero_or_one n with h | h
  · have : ((n : Int) % 2) = 0 := by omega
    rw [this, if_neg (by omega)]
    rcases hz with rfl | rfl | rfl | rfl <;> rfl
  · have : ((n : Int) % 2) = 1 := by omega
    rw [this, if_pos h]
    rcases hz with rfl | rfl | rfl | rfl <;> rfl

def inLet (scr : List Int) (v : Value) : Bool := match v with | .int i _ => ([2, 9] ++ (scr.take 3).map fun x => x % 16).any (· == i) | _ => false
theorem filt_ints {scr : List Int} : ∀ {vs : List Value} {ns : List Int}, IntsAre vs ns → IntsAre (vs.filter (inLet scr)) (ns.filter fun v => ([2, 9] ++ (scr.take 3).map fun x => x % 16).any (· == v))
  | _, _, .nil => .nil
  | _, _, .cons n t h => by
    have e : inLet scr (.int n t) = ([2, 9] ++ (scr.take 3).map fun x => x % 16).any (· == n) := rfl
    rw [List.filter_cons, List.filter_cons, e]
    split
    · exact .cons n t (filt_ints h)
    · exact filt_ints h
theorem paired_eq : ∀ {vs ys : List Value}, Paired (fun v y => y = v) vs ys → ys = vs
  | _, _, .nil => rfl
  | _, _, .cons h t => by rw [h, paired_eq t]
section
variable {prog : Program} {w : World} {A : Around} {E : Value → Shared → Prop} {s : Shared} {env : Env}
def CompSrcAL (prog : Program) (w : World) (A : Around) (env : Env) (scope : Scope) (cl : List (Str × Addr)) (x : Str) (elt : Expr) (y : Str) (Q : Flow → Shared → Prop) (xv : Value) (s : Shared) : Prop :=
  ∃ (F : Value → Value → Prop) (l : Addr) (items : Array Value) (m : Str → Option Value), xv = .ref l ∧ s.heap.IsList l items ∧ items.size ≤ sizeLine ∧ s.heap.Ns env.locals m ∧
    (∀ (C i : Nat) v s₃ m₃ E', s.heap.objs.size ≤ C → items[i]? = some v → s₃.heap.Ns C m₃ → m₃ x = some v → s.heap.StaysIn s₃.heap →
      wpAny (model prog w) A (eval elt (compEnvC scope cl C env)) (fun y s₄ => F v y ∧ Keeps s₃ s₄) E' s₃) ∧
    (∀ D h' tk ys n, s.heap.get? D = none → IsL h' D ys n → Paired F items.toList ys.toList → h'.Ns env.locals (fun z => if z = y then some (.ref D) else m z) → (∀ b o, b ≠ env.locals → s.heap.get? b = some o → h'.get? b = some o) → Q .next { s with heap := h', toks := tk })
theorem assignL {elt iter : Expr} {x y : Str} {px py : Pos} {scope : Scope} {cl : List (Str × Addr)} {pos spos : Pos} {Q : Flow → Shared → Prop}
    (hsw : swapsWith (.ListComp elt [⟨.Name x px, iter, [], 0⟩] scope pos) (some (.Name y py)) spos.line env = pure true)
    (hh : A.handled = none) (hclos : closureFor scope env = pure cl) (hcell : ∀ z ∈ scope.names, z.2 ≠ .cell) (hkind : scope.kind = .function)
    (hnames : ∀ z ∈ scope.names, z.2 = .local → scope.names.lookup z.1 = some .local) (hx : scope.names.lookup x = some .local)
    (hy : env.kindOf y = some .local) (hp : (env.scope.kind == .class || (env.scope.kind == .module && env.locals != env.globals)) = false)
    (h : wpAny (model prog w) A (eval iter env) (CompSrcAL prog w A env scope cl x elt y Q) E s)
    (hs : ∀ x, foldedSetIterable iter env x = pure x := by intro _; rfl) :
    wpAny (model prog w) A (exec (.Assign [.Name y py] (.ListComp elt [⟨.Name x px, iter, [], 0⟩] scope pos) spos) env) Q E s := by
  rw [exec_Assign_Name_used _ _ _ _ hsw]
  refine wpAny_bind (wpAny_standAt (wpAny_bind ?_))
  show wpAny _ A (do let _ ← comprehension (.ListComp elt [⟨.Name x px, iter, [], 0⟩] scope pos) scope env _ (newList []) false (eval iter env) (some (assign (.Name y py) env))) _ _ s
  refine wpAny_bind (wpAny_mono (wpAny_comprehension_free (use := some (assign (.Name y py) env)) (Q := fun _ s' => Q .next s') rfl hs hclos hkind hnames
    (wpAny_mono h (fun xv s hc => ?_) fun _ _ e => e)) (fun _ s' hq => wpAny_pure (wpAny_pure hq)) fun _ _ e => e)
  obtain ⟨F, l, items, m, rfl, hl, hsz, hn, helt, hQ⟩ := hc
  obtain ⟨ol, hol, _⟩ := id hl
  have hlt : l < s.heap.objs.size := Heap.lt_size hol
  have hLl : env.locals < s.heap.objs.size := by obtain ⟨o, _, _, ho, _⟩ := hn; exact Heap.lt_size ho
  have notI : ∀ b, b < s.heap.objs.size → b ∉ [s.heap.objs.size] := fun b hb hm => absurd ((List.mem_singleton.mp hm) ▸ hb) (Nat.lt_irrefl _)
  refine wpAny_pyIter_list hl ?_
  refine comp_block_walkC (RR := fun acc C => compPost (model prog w) A E (some (assign (.Name y py) env)) (fun _ s' => Q .next s') acc C) (P := fun i v => items[i]? = some v) (Walks.list hh s.heap.objs.size l (Nat.ne_of_lt hlt) items) hsz (fun _ => true) F hcell hkind hx
    ⟨⟨_, Heap.get?_push_size _ rfl, rfl, rfl⟩, hl.push _⟩ ?_ ⟨?_, ?_⟩ ?_
  · intro b hb
    show b < (s.heap.push _).objs.size
    rw [Heap.size_push]
    rcases List.mem_cons.mp hb with rfl | hb
    · exact Nat.lt_succ_self _
    · exact (List.mem_singleton.mp hb) ▸ Nat.lt_succ_of_lt hlt
  · intro C i v s₃ m₃ E' _ hP hn hm hold _
    exact wpAny_tests_nil ⟨rfl, s₃.heap, s₃.toks, rfl, fun _ _ e => e⟩
  · intro C i v s₃ m₃ E' hC hP _ hn hm hold _
    refine helt C i v s₃ m₃ E' ?_ hP hn hm fun b o e => hold b o (notI b (Heap.lt_size e)) (Heap.get?_push_of_some _ e)
    have : (s.heap.push { cls := .type "list_iterator", data := .fields #[.ref l, .int 0 0] }).objs.size ≤ C := hC
    rw [Heap.size_push] at this; exact Nat.le_of_succ_le this
  · intro D C h' tk m' ys vs hD hC hDC hnC hlD hplD hlen hP hF hk
    have lowS : ∀ b, (s.heap.push { cls := .type "list_iterator", data := .fields #[.ref l, .int 0 0] }).get? b = none → s.heap.get? b = none := fun b hb => by
      cases e : s.heap.get? b with
      | none => rfl
      | some o' => rw [Heap.get?_push_of_some _ e] at hb; cases hb
    have hD := lowS _ hD
    have hC := lowS _ hC
    have hk2 : ∀ b o, s.heap.get? b = some o → h'.get? b = some o := fun b o e => hk b o (notI b (Heap.lt_size e)) (Heap.get?_push_of_some _ e)
    have hLC : env.locals ≠ C := by rintro rfl; obtain ⟨o, _, _, ho, _⟩ := hn; rw [hC] at ho; cases ho
    have hLD : env.locals ≠ D := by rintro rfl; obtain ⟨o, _, _, ho, _⟩ := hn; rw [hD] at ho; cases ho
    obtain ⟨n, hpl⟩ := hplD
    rw [show (vs.filter fun _ => true) = vs from by simp, list_of_places hlen hP] at hF
    show wpAny _ A (assign (.Name y py) env (.ref D)) _ _ _
    refine wpAny_assign_Name (wpAny_storeName_local hy (hn.keeps hk2) (fun h₂ hn₂ hs₂ => ?_) hp)
    refine ⟨m', hnC.sameBut hs₂ (Ne.symm hLC), fun h₃ hs₃ => ?_⟩
    refine hQ D h₃ _ ys n hD (hs₃.extBut _ _ hDC (hs₂.extBut _ _ (Ne.symm hLD) hpl)) hF (hn₂.sameBut hs₃ hLC) fun b o hbL e => hs₃.extBut b o (by rintro rfl; rw [hC] at e; cases e) (hs₂.extBut b o hbL (hk2 b o e))
end
def WordRel (h : Heap) (head : Int) (letters : List Int) (v y : Value) : Prop := ∃ T row t, v = .ref T ∧ IntL h T row ∧ y = .bytes (wordB head letters row).toArray t
theorem words_pair {h₀ h : Heap} {head : Int} {letters : List Int} : ∀ {rows : List (List Int)} {ys ws : List Value}, Paired (RowIs h₀ h) rows ys → Paired (WordRel h head letters) ys ws → BsAre ws (rows.map (wordB head letters)) := by
  intro rows ys ws h1
  induction h1 generalizing ws with
  | nil => intro h2; cases h2; exact .nil
  | cons hr _ ih =>
    intro h2
    cases h2 with
    | cons hw ht =>
      obtain ⟨T, its, rfl, _, ⟨n, hp⟩, hi⟩ := hr
      obtain ⟨T', row', t, e, ⟨its', n', hq, hi'⟩, rfl⟩ := hw
      cases e
      have hq' : h.get? T = some { cls := .type "list", dict := none, data := .seq its' n', slots := #[] } := hq
      rw [hp] at hq'
      cases hq'
      refine .cons ⟨t, ?_⟩ (ih ht)
      rw [intsAre_inj hi hi']
theorem rowOf_mem {size k c : Nat} (hs : 1 ≤ size) : ∀ p ∈ rowOf size k c, 0 ≤ p ∧ p < (size : Int) := by
  intro p hp
  obtain ⟨i, _, rfl⟩ := List.mem_map.mp hp
  have := Nat.mod_lt (c / size ^ (k - 1 - i)) (show size > 0 by omega)
  omega
theorem lastB {prog : Program} {w : World} {A : Around} {E : Value → Shared → Prop} {s : Shared} {value slice : PySem.Expr} {l : Addr} {vs : List Value} {bs : List (List UInt8)} {u : Tok} {Q : Value → Shared → Prop}
    (hl : s.heap.IsList l vs.toArray) (hb : BsAre vs bs) (h0 : 0 < bs.length) (hsz : bs.length ≤ 65536) (h : ∀ t, Q (.bytes (bs.getLastD []).toArray t) s)
    (hs : subscripted slice false (.ref l) (.int (-1) u) = operate [.ref l, .int (-1) u] (getItem (.ref l) (.int (-1) u)) := by with_unfolding_all rfl) :
    wpAny (model prog w) A (subscriptTail value slice (.ref l) (.int (-1) u)) Q E s := by
  have hlen := hb.length
  have hj : bs.length - 1 < vs.length := by omega
  obtain ⟨b, e1, t, e2⟩ := paired_get hb (bs.length - 1) vs[bs.length - 1] (List.getElem?_eq_getElem hj)
  have e3 : bs.getLastD [] = b := by
    rw [List.getLastD_eq_getLast?, List.getLast?_eq_getElem?, e1]; rfl
  refine tail_any hl.typeIs slot_list_getitem.lookup (wpAny_getItem_list_neg hl (by omega) (by rw [List.size_toArray]; omega) (by omega) (x := vs[bs.length - 1]) ?_ ?_) hs
  · rw [List.size_toArray, show (-1 + (vs.length : Int)).toNat = bs.length - 1 by omega]
    simp [hj]
  · rw [e2, ← e3]; exact h t
theorem paired_dropLast {α β : Type} {F : α → β → Prop} : ∀ {l₁ : List α} {l₂ : List β}, Paired F l₁ l₂ → Paired F l₁.dropLast l₂.dropLast
  | _, _, .nil => .nil
  | _, _, .cons _ .nil => .nil
  | _, _, .cons h (.cons h2 t) => .cons h (paired_dropLast (.cons h2 t))
theorem wordsL_length (scr : List Int) : (wordsL scr).length = (lettersL scr).length ^ kL scr := by simp [wordsL, rowsL]
def iterObj (a n : Int) : Obj := { cls := .type "range_iterator", dict := none, data := .fields #[rawInt a, rawInt n, rawInt 1], slots := #[] }
def turnsN (scr : List Int) : Nat := (lettersL scr).length ^ (kL scr + 1)
def runL (scr : List Int) (i : Nat) : Run := runR (lettersL scr).length (kL scr) i
/-- the state between two turns of the law's for -/
def LoopInv (s₁ : Shared) (scr : List Int) (gv I : Addr) (REST : List (Addr × Obj)) (tkK tsS t1 t2 : Tok) (i : Nat) (s' : Shared) : Prop :=
  ∃ h' tk M lastA lastVs nl avs na tLd tPl, s' = { s₁ with heap := h', toks := tk } ∧ Fr s₁.heap s₁.heap.objs.size h' M ∧
    (M (Str.ofString "k") = some (.int (kL scr) tkK) ∧ M (Str.ofString "size") = some (.int (lettersL scr).length tsS) ∧ M (Str.ofString "first") = some (.bytes (firstL scr).toArray t1) ∧ M (Str.ofString "top") = some (.bytes (topL scr).toArray t2) ∧
      M (Str.ofString "last") = some (.ref lastA) ∧ M (Str.ofString "laid") = some (.bytes (letB (lettersL scr) (runL scr i).laid).toArray tLd) ∧ M (Str.ofString "place") = some (.int (runL scr i).place tPl) ∧ M (Str.ofString "left") = some (.ref gv)) ∧
    News s₁.heap s₁.heap.objs.size h' ((lastA, W.listOf lastVs.toArray nl) :: (gv, W.listOf avs.toArray na) :: (I, iterObj (0 + (i : Nat) * 1) ((turnsN scr : Int) - (i : Nat))) :: REST) ∧ lastA ≠ gv ∧ lastA ≠ I ∧ IntsAre lastVs (runL scr i).last ∧
    BsAre avs ((runL scr i).left.map (wordB (headL scr) (lettersL scr)))
theorem iterObj_is {h : Heap} {I : Addr} {a n : Int} (e : h.get? I = some (iterObj a n)) : IsRangeIter h I a n 1 := e
def TurnQ (s₁ : Shared) (scr : List Int) (gv I : Addr) (REST : List (Addr × Obj)) (tkK tsS t1 t2 : Tok) (i : Nat) (f : Flow) (s' : Shared) : Prop := f = .next ∧ LoopInv s₁ scr gv I REST tkK tsS t1 t2 i s'

local macro_rules | `(tactic| walk_at "binaryOp Pow int int") => `(tactic| ((refine pow_small (by omega) (by omega) (by omega) (by omega) ?_); intro _ _))
theorem turnQ {s₁ : Shared} {scr : List Int} {gv I : Addr} {REST : List (Addr × Obj)} {tkK tsS t1 t2 : Tok} {i : Nat} {S : Run} (hrun : runL scr i = S) {h' : Heap} {tk : Nat} {M : Str → Option Value} {lastA : Addr} {lastVs : List Value} {nl : Nat} {avs : List Value} {na : Nat} {tLd tPl : Tok}
    (F : Fr s₁.heap s₁.heap.objs.size h' M) (m1 : M (Str.ofString "k") = some (.int (kL scr) tkK)) (m2 : M (Str.ofString "size") = some (.int (lettersL scr).length tsS)) (m3 : M (Str.ofString "first") = some (.bytes (firstL scr).toArray t1)) (m4 : M (Str.ofString "top") = some (.bytes (topL scr).toArray t2))
    (m5 : M (Str.ofString "last") = some (.ref lastA)) (m6 : M (Str.ofString "laid") = some (.bytes (letB (lettersL scr) S.laid).toArray tLd)) (m7 : M (Str.ofString "place") = some (.int S.place tPl)) (m8 : M (Str.ofString "left") = some (.ref gv))
    (N : News s₁.heap s₁.heap.objs.size h' ((lastA, W.listOf lastVs.toArray nl) :: (gv, W.listOf avs.toArray na) :: (I, iterObj (0 + (i : Nat) * 1) ((turnsN scr : Int) - (i : Nat))) :: REST)) (h1 : lastA ≠ gv) (h2 : lastA ≠ I) (h3 : IntsAre lastVs S.last)
    (h4 : BsAre avs (S.left.map (wordB (headL scr) (lettersL scr)))) : TurnQ s₁ scr gv I REST tkK tsS t1 t2 i .next { s₁ with heap := h', toks := tk } := by
  subst hrun
  exact ⟨rfl, h', tk, M, lastA, lastVs, nl, avs, na, tLd, tPl, rfl, F, ⟨m1, m2, m3, m4, m5, m6, m7, m8⟩, N, h1, h2, h3, h4⟩
theorem news_swap {h₀ h : Heap} {L : Addr} {a b : Addr × Obj} {r : List (Addr × Obj)} (N : News h₀ L h (a :: b :: r)) : News h₀ L h (b :: a :: r) := by
  intro p hp
  refine N p ?_
  simp only [List.mem_cons] at hp ⊢
  rcases hp with h | h | h <;> simp [h]
theorem tail1 (b : Array UInt8) (h : 1 ≤ b.size) : (b.toList.drop ((some (-1) : Option Int).elim 0 (clipAt b.size))).take ((none : Option Int).elim b.size (clipAt b.size) - (some (-1) : Option Int).elim 0 (clipAt b.size)) = b.toList.drop (b.toList.length - 1) := by
  have e : clipAt b.size (-1) = b.size - 1 := by unfold clipAt; simp; omega
  simp only [Option.elim_some, Option.elim_none, e]
  rw [List.take_of_length_le]
  · simp
  · rw [List.length_drop]; simp
theorem tailK (b : Array UInt8) (k : Nat) (h : k ≤ b.size) (h1 : 1 ≤ k) : (b.toList.drop ((some (-(k : Int)) : Option Int).elim 0 (clipAt b.size))).take ((none : Option Int).elim b.size (clipAt b.size) - (some (-(k : Int)) : Option Int).elim 0 (clipAt b.size)) = b.toList.drop (b.toList.length - k) := by
  have e : clipAt b.size (-(k : Int)) = b.size - k := by unfold clipAt; simp; omega
  simp only [Option.elim_some, Option.elim_none, e]
  rw [List.take_of_length_le]
  · simp
  · rw [List.length_drop]; simp
theorem takeDrop_le (a b : Nat) (l : List UInt8) : (List.take a (List.drop b l)).length ≤ l.length := by
  rw [List.length_take, List.length_drop]; omega
theorem intsBytes_ne {vs ws : List Value} {ns : List Int} {bs : List (List UInt8)} (h1 : IntsAre vs ns) (h2 : BsAre ws bs) (hn : ns ≠ []) : vs ≠ ws := by
  rintro rfl
  cases h1 with
  | nil => exact hn rfl
  | cons n t h =>
    cases h2 with
    | cons h1 _ => obtain ⟨_, h1⟩ := h1; cases h1
theorem listOf_ne {h : Heap} {a b : Addr} {vs ws : List Value} {n m : Nat} (ha : h.get? a = some (W.listOf vs.toArray n)) (hb : h.get? b = some (W.listOf ws.toArray m)) (hne : vs ≠ ws) : a ≠ b := by
  rintro rfl
  rw [ha] at hb
  have a3 : W.listOf vs.toArray n = W.listOf ws.toArray m := Option.some.inj hb
  have a4 : vs.toArray = ws.toArray := congrArg (fun o => match o.data with | .seq x _ => x | _ => #[]) a3
  exact hne (by simpa using a4)
theorem list_ne_iter {h : Heap} {a b : Addr} {vs : List Value} {n : Nat} {x y : Int} (ha : h.get? a = some (W.listOf vs.toArray n)) (hb : h.get? b = some (iterObj x y)) : a ≠ b := by
  rintro rfl
  rw [ha] at hb
  have a3 : W.listOf vs.toArray n = iterObj x y := Option.some.inj hb
  have a4 : (Value.type "list") = Value.type "range_iterator" := congrArg (fun o => o.cls) a3
  simp at a4
theorem top_len (scr : List Int) : (topL scr).length = 3 := by simp [topL, spellB]
theorem first_len (scr : List Int) : (firstL scr).length ≤ 8 := by
  rw [firstL_eq]
  exact word_len scr ⟨by simp [lastRow], fun p hp => by
    have := List.eq_of_mem_replicate hp
    have := lettersL_ge scr
    omega⟩
theorem first_ge (scr : List Int) : kL scr ≤ (firstL scr).length := by
  obtain ⟨p, e⟩ := first_pre scr
  rw [e, List.length_append, letB_length]
  simp [lastRow]
theorem call_lstrip2 {prog : Program} {w : World} {A : Around} {E Q : Value → Shared → Prop} {s : Shared} {X : Array UInt8} {b : List UInt8} {t u : Tok} (hX : X = b.toArray) (hsz : b.length ≤ 1000)
    (h : ∀ t' k, Q (.bytes (stripA b).toArray t') { s with toks := k }) : wpAny (model prog w) A (call (.builtin "bytes.lstrip") [.bytes X t, .bytes #[65] u]) Q E s := by
  subst hX; exact call_lstrip hsz h
theorem slice_drop1 (vs : List Value) (h : 1 ≤ vs.length) : slicePick vs.toArray (some 1) none none = (vs.drop 1).toArray := by
  have := slicePick_from vs.toArray 1 (by rw [List.size_toArray]; exact h)
  simpa using this
theorem least_len (scr : List Int) : (leastL (lettersL scr).length (kL scr)).length ≤ 64 := kL_cases scr (P := fun a b => (leastL a b).length ≤ 64) (by decide +kernel) (by decide +kernel) (by decide +kernel) (by decide +kernel) (by decide +kernel) (by decide +kernel)
theorem least_in (scr : List Int) : ∀ p ∈ leastL (lettersL scr).length (kL scr), 0 ≤ p ∧ p < ((lettersL scr).length : Int) := by
  have h2 := lettersL_ge scr
  have hk := (kL_bounds scr).1
  have h := (run_ok (size := (lettersL scr).length) (k := kL scr) (by omega) (by omega) ((lettersL scr).length ^ (kL scr + 1))).laid
  rw [ends_laid scr] at h
  exact h
def PremOf {P Q : Prop} (_ : P → Q) : Prop := P
theorem lawWalk : PremOf hd := by
  unfold PremOf
  k_go0
  all_goals try k_fold
  rename Shared => s₁
  rename Top _ _ _ _ _ _ => T
  rename Fr _ _ _ _ => F
  rename News _ _ _ _ => N0
  rename IntsAre _ _ => hI
  rename (hd.heap_39 _).In _ => KX
  rename Below _ _ _ _ => K0
  rename Heap => h₁
  rename World => w
  rename List Int => scr
  rename List Value => svs
  rename Heap.IsList _ _ _ => hL
  have hend : ∀ (h' : Heap) (tk : Nat) m, Fr s₁.heap s₁.heap.objs.size h' m → qk (.ret (.bool true)) ⟨h', s₁.gens, s₁.drawn, tk, s₁.os⟩ := by
    clear F N0
    intro h' tk m F
    k_unfold
    dsimp only
    kc_close
  clear_value qk ek
  rename_i s₀ mg mb G Y fa o pm doc ho hg X V GL B TE TW a1 o2 M a3 a4 hcd hs hlay0 hL2 hr hl2 ls1 ls2 la ls3 ra w1 r0 hr2 hc1 hc2 hD tk₁ oH oLt oS dH dL dS X0
  have hlen : scr.length ≤ 63 := by omega
  have dS' : oS.data = .cell (some (.ref la)) := dS
  have dL' : oLt.data = .cell none := dL
  have dH' : oH.data = .cell none := dH
  clear X0 dS dL dH hD hc1 hc2 hr2 r0 w1 ra hl2 hr hL2 hlay0 hs hcd M TW TE B GL V X hg ho Y G K0
  dsimp only
  walk_at "mine"
  refine compR (cl := [(Str.ofString "script", s₁.heap.objs.size + 1)]) (inLet scr) (fun v y => y = v) rfl (by rfl) (by decide) rfl (by decide) (by rfl) ?_
  walk_at "mine"
  rename IsRange _ _ _ _ _ _ _ _ => hR
  rename Fr _ _ _ _ => F2
  rename News _ _ _ _ => N2
  rename (∀ (b : Addr) (o : Obj), _ → _) => hk9
  dsimp only at hR
  have hS2 := (N2 _ (List.Mem.tail _ (List.Mem.tail _ (List.Mem.head _)))).1
  dsimp only at hS2
  have hsv : svs.length = scr.length := hI.length
  refine ⟨_, 0, _, 16, _, _, _, rfl, hR, by rfl, by decide, by decide, by rw [sizeLine_eq]; omega, ?_, ?_, ?_⟩
  · intro C i t s₃ m₃ E' hC hi hn hm st
    have st0 : s₁.heap.StaysIn s₃.heap := fun b o e => st b o (F2.keep b o e)
    have e1 : s₃.heap.IsCell (s₁.heap.objs.size + 1) (some (.ref la)) := ⟨oS, st _ _ hS2, dS'⟩
    have hL3 : s₃.heap.IsList la svs.toArray := hL.at fun o e => st0 _ o e
    refine wpAny_tests_one (wpAny_isTrue_Compare1 (nmL hn hm (wpAny_BinOp (wpAny_List ?_))))
    refine spliced_more (wpAny_Constant_int (spliced_more (wpAny_Constant_int (spliced_none ⟨by rw [sizeLine_eq]; simp, ?_⟩))))
    dsimp only
    generalize hG1 : s₃.heap.push _ = G1
    have u1 : s₃.heap.StaysIn G1 := fun b o e => hG1 ▸ Heap.get?_push_of_some _ e
    have g1 : IsL G1 s₃.heap.objs.size #[.int 2 s₃.toks, .int 9 (s₃.toks + 1)] 0 := hG1 ▸ Heap.get?_push_size _ rfl
    refine compL (env := compEnvC _ _ _ _) (cl := []) (fun v y => ∃ (a : Int) (t u : Tok), v = .int a t ∧ y = .int (a % 16) u) rfl (by rfl) (by decide) rfl (by decide) (by rfl) ?_
    refine wpAny_Subscript_list_slice (nmC (env := compEnvC _ _ _ _) (by rfl) (e1.keeps u1) (wpAny_evalPart_none (wpAny_evalPart_some (wpAny_Constant_int ?_))))
    refine ⟨_, _, _, _, rfl, hL3.at fun o e => u1 _ o e, by rw [sizeLine_eq, List.size_toArray]; omega, .none, .int _ _, ?_⟩
    dsimp only
    generalize hG2 : (G1.push _).push _ = G2
    have u2 : G1.StaysIn G2 := fun b o e => hG2 ▸ Heap.get?_push_of_some _ (Heap.get?_push_of_some _ e)
    have g2 : IsL G2 (G1.objs.size + 1) (slicePick svs.toArray none (some 3) none) 0 := hG2 ▸ get_push2 _ _ _ rfl
    have i2 := slice_ints_uptoW hI (y := 3) (by omega)
    have z2 : (slicePick svs.toArray none (some 3) none).size ≤ 63 := Nat.le_trans (slicePick_size_le _ _ _ _) (by rw [List.size_toArray]; omega)
    refine ⟨_, _, rfl, ⟨_, g2, rfl, _, rfl⟩, by rw [sizeLine_eq]; omega, ?_, ?_⟩
    · intro C' j v s₅ m₅ E5 hC' hj hn5 hm5 st5
      have hjl : (slicePick svs.toArray none (some 3) none).toList[j]? = some v := by rw [Array.getElem?_toList]; exact hj
      obtain ⟨a, ha⟩ : ∃ a, (scr.take (3 : Int).toNat)[j]? = some a := by
        have hlt : j < (scr.take (3 : Int).toNat).length := by rw [← i2.length]; exact (List.getElem?_eq_some_iff.mp hjl).1
        exact ⟨_, List.getElem?_eq_getElem hlt⟩
      obtain ⟨t', ht'⟩ := i2.get j a ha
      rw [hjl] at ht'; cases ht'
      refine wpAny_BinOp (nmL hn5 hm5 (wpAny_Constant_int (mod_int' (by decide) ?_)))
      rw [Int.fmod_eq_emod_of_nonneg _ (by decide)]
      exact ⟨⟨_, _, _, rfl, rfl⟩, _, _, rfl, fun _ _ e => e⟩
    · intro D2 h₆ tk₆ ys₆ n₆ hD6 hl6 hP6 st6
      have h9 := pairInts i2 hP6
      have g6 : IsL h₆ s₃.heap.objs.size #[.int 2 s₃.toks, .int 9 (s₃.toks + 1)] 0 := st6 _ _ (u2 _ _ g1)
      have z6 : ys₆.size ≤ 63 := by rw [← hP6.length.trans (by simp : ys₆.toList.length = ys₆.size)]; simpa using z2
      refine P.add_list g6 hl6 ?_ (hsz := by rw [sizeLine_eq]; simp; omega)
      have hin : IntsAre (#[Value.int 2 s₃.toks, .int 9 (s₃.toks + 1)] ++ ys₆).toList ([2, 9] ++ (scr.take 3).map fun x => x % 16) := by
        rw [Array.toList_append]
        exact (IntsAre.cons _ _ (.cons _ _ .nil)).append h9
      refine in_list_ints (vs := (#[Value.int 2 s₃.toks, .int 9 (s₃.toks + 1)] ++ ys₆).toList) ⟨_, Heap.get?_push_size _ rfl, rfl, 0, by simp⟩ hin ?_
      refine wpAny_truthy_bool ?_
      exact ⟨rfl, _, _, rfl, fun b o e => Heap.get?_push_of_some _ (st6 _ _ (u2 _ _ (u1 _ _ e)))⟩
  · intro C i t s₃ m₃ E' hC hi hn hm st
    exact nmL hn hm ⟨rfl, _, _, rfl, fun _ _ e => e⟩
  · intro Lt hB tkB lys nL vsL hDL hlL hvs hPL stL
    obtain ⟨lvs, rfl⟩ : ∃ lvs : List Value, lys = lvs.toArray := ⟨lys.toList, by simp⟩
    have hlet : IntsAre lvs (lettersL scr) := by
      have := paired_eq hPL; simp only at this; rw [this]; exact filt_ints hvs
    have hLt0 : s₁.heap.get? Lt = none := by
      cases e : s₁.heap.get? Lt with
      | none => rfl
      | some o => exact absurd rfl (ne_of_none_some hDL (F2.keep _ _ e))
    have hLtL : Lt ≠ s₁.heap.objs.size := by obtain ⟨o, _, _, ho, _⟩ := F2.ns; exact ne_of_none_some hDL ho
    have F3 : Fr s₁.heap s₁.heap.objs.size hB _ := ⟨F2.ns.keeps stL, fun b o e => stL b o (F2.keep b o e), F2.above⟩
    have N3 : News s₁.heap s₁.heap.objs.size hB ((Lt, W.listOf lvs.toArray nL) :: _) := news_cons hlL hLtL hLt0 (News.grown N2 stL)
    have nLc : ∀ p ∈ [(s₁.heap.objs.size + 1 + 1 + 1, oH), (s₁.heap.objs.size + 1 + 1, oLt), (s₁.heap.objs.size + 1, oS)], p.1 ≠ Lt := fun p hp => Ne.symm (ne_of_none_some hDL (N2 p hp).1)
    clear F2 N2 stL hDL hPL hvs hlL hk9 hR hS2
    dsimp only
    walk_at "mine"
    rename Obj => oL2
    rename oL2.data = _ => dL2
    have hls : lvs.length = (lettersL scr).length := hlet.length
    have hz2 := lettersL_ge scr
    have hz5 := lettersL_le scr
    rename Fr _ _ _ _ => F4
    rename News _ _ _ _ => N4
    have hlsz : lvs.toArray.size = (lettersL scr).length := by rw [List.size_toArray]; exact hls
    refine call_len_list (items := lvs.toArray) ⟨_, (N4 _ (List.Mem.head _)).1, rfl, _, rfl⟩ (by rw [hlsz]; omega) ?_
    rw [hlsz]
    walk_at "mine3"
    rename Obj => oH2
    rename oH2.data = _ => dH2
    rename Fr _ _ _ _ => F5
    rename News _ _ _ _ => N5
    rename Heap => h5
    rename Nat => tk5
    have dH3 : ∃ t, oH2.data = .cell (some (.int (headL scr) t)) := ⟨_, by rw [dH2, Int.fmod_eq_emod_of_nonneg _ (by decide)]; rfl⟩
    obtain ⟨th, dH4⟩ := dH3
    have N6 : News s₁.heap s₁.heap.objs.size h5 [(Lt, W.listOf lvs.toArray nL), (s₁.heap.objs.size + 1 + 1 + 1, oH2), (s₁.heap.objs.size + 1 + 1, oL2), (s₁.heap.objs.size + 1, oS)] := by
      intro p hp
      refine N5 p ?_
      simp only [List.mem_cons, List.mem_append, List.not_mem_nil, or_false] at hp ⊢
      rcases hp with h | h | h | h <;> simp [h]
    have hkk : ([3 + (scr.length : Int).fmod 2, 3 - (scr.length : Int).fmod 2, 2, 2] : List Int).getD (((lettersL scr).length : Int) - 2).toNat 0 = (kL scr : Int) := kL_eq scr
    obtain ⟨M, ⟨⟨tkK, hMk⟩, ⟨tsS, hMs⟩⟩, F6⟩ : ∃ M, ((∃ t, M (Str.ofString "k") = some (.int (kL scr) t)) ∧ (∃ t, M (Str.ofString "size") = some (.int (lettersL scr).length t))) ∧ Fr s₁.heap s₁.heap.objs.size h5 M :=
      ⟨_, ⟨⟨_, by rw [← hkk]; rfl⟩, ⟨_, rfl⟩⟩, F5⟩
    clear F5 N5 hkk dH2 nLc dL' dH'
    have hkb := kL_bounds scr
    have hhb := headL_bounds scr
    have F7 := fr2 F6 hMk hMs
    clear F6
    refine assignL (cl := [(Str.ofString "letters", s₁.heap.objs.size + 1 + 1), (Str.ofString "head", s₁.heap.objs.size + 1 + 1 + 1)]) rfl rfl (by rfl) (by decide) rfl (by decide) rfl rfl rfl ?_
    walk_at "mine3"
    rename Fr _ _ _ _ => F8
    rename News _ _ _ _ => N8
    refine lawRows (KX.keeps F8.keep) (T.keeps F8.keep) (by show callerA.depth + 1 + 3 < recursionLimit; decide) (by simp only [Around.deeper]; decide) rfl hz2 hz5 (by omega) hkb.2.1 fun DR hR tkR rys nR hDR hlR hPR stR => ?_
    dsimp only at hDR hPR stR
    have F9 : Fr s₁.heap s₁.heap.objs.size hR _ := ⟨F8.ns.keeps stR, fun b o e => stR b o (F8.keep b o e), F8.above⟩
    have N9 := News.grown N8 stR
    have hrz : rys.size = (lettersL scr).length ^ kL scr := by have := hPR.length; simp at this; exact this.symm
    have c1 := (N9 _ (List.Mem.tail _ (List.Mem.head _))).1
    have c2 := (N9 _ (List.Mem.tail _ (List.Mem.tail _ (List.Mem.head _)))).1
    have c3 := (N9 _ (List.Mem.head _)).1
    dsimp only at c1 c2 c3
    refine ⟨WordRel hR (headL scr) (lettersL scr), DR, rys, _, rfl, ⟨_, hlR, rfl, _, rfl⟩, by rw [sizeLine_eq]; omega, F9.ns, ?_, ?_⟩
    · intro C i v s₃ m₃ E' hC hi hn hm st
      have st0 : s₁.heap.StaysIn s₃.heap := fun b o e => st b o (F9.keep b o e)
      have e1 : s₃.heap.IsCell (s₁.heap.objs.size + 1 + 1 + 1) (some (.int (headL scr) th)) := ⟨oH2, st _ _ c1, dH4⟩
      have e2 : s₃.heap.IsCell (s₁.heap.objs.size + 1 + 1) (some (.ref Lt)) := ⟨oL2, st _ _ c2, dL2⟩
      obtain ⟨row, hrow, Tr, its, rfl, _, ⟨nr, hTr⟩, hri⟩ := paired_get hPR i v (by rw [Array.getElem?_toList]; exact hi)
      obtain ⟨cc, rfl⟩ : ∃ cc, row = rowOf (lettersL scr).length (kL scr) cc := by
        obtain ⟨cc, _, e⟩ := List.mem_map.mp (List.mem_of_getElem? hrow)
        exact ⟨cc, e.symm⟩
      have KX3 := KX.keeps st0
      have T3 := T.keeps st0
      refine Call_ (nmG (env := compEnvC _ _ _ _) T3.g (v := .ref 45) (mg_of KX T.g (by k_is)) ?_)
      refine callWith_K KX (by k_is) ?_
      refine spliced_more (nmC (env := compEnvC _ _ _ _) (by rfl) e1 (spliced_more (nmL (env := compEnvC _ _ _ _) hn hm (spliced_more (nmC (env := compEnvC _ _ _ _) (by rfl) e2 (spliced_none ?_))))))
      refine ⟨KX3, ?_⟩
      refine lawWord KX3 T3 (by show callerA.depth + 1 + 3 < recursionLimit; decide) (by simp only [Around.deeper]; decide) rfl (rs := its.toList) (ls := lvs) ⟨_, st _ _ hTr, rfl, nr, by simp⟩ hri ⟨_, st _ _ c3, rfl, _, rfl⟩ hlet hhb.1 hhb.2 ?_ ?_ (rowOf_mem (by omega)) (lettersL_in scr) (by omega) fun t h' tk' st' => ?_
      · intro e0
        have := congrArg List.length e0
        simp [rowOf] at this; omega
      · simp [rowOf]; omega
      · exact ⟨⟨Tr, _, t, rfl, ⟨its, nr, hTr, hri⟩, rfl⟩, _, _, rfl, st'⟩
    · intro WD hW tkW wys nW hDW hlW hPW hnsW hkW
      dsimp only at hDW hkW
      have hwB := words_pair hPR hPW
      obtain ⟨wvs, rfl⟩ : ∃ wvs : List Value, wys = wvs.toArray := ⟨wys.toList, by simp⟩
      have hwW : BsAre wvs (wordsL scr) := hwB
      have hL9 : ∃ o, hR.get? s₁.heap.objs.size = some o := by obtain ⟨o, _, _, ho, _⟩ := F9.ns; exact ⟨o, ho⟩
      obtain ⟨oL9, hoL9⟩ := hL9
      have hW0 : s₁.heap.get? WD = none := by
        cases e : s₁.heap.get? WD with
        | none => rfl
        | some o => exact absurd rfl (ne_of_none_some hDW (F9.keep _ _ e))
      have FA : Fr s₁.heap s₁.heap.objs.size hW _ := ⟨hnsW, fun b o e => hkW b o (Nat.ne_of_lt (Heap.lt_size e)) (F9.keep b o e), F9.above⟩
      have NA : News s₁.heap s₁.heap.objs.size hW ((WD, W.listOf wvs.toArray nW) :: _) := news_cons hlW (ne_of_none_some hDW hoL9) hW0 (fun p hp => ⟨hkW _ _ (N9 p hp).2.1 (N9 p hp).1, (N9 p hp).2⟩)
      clear F9 N9 F8 N8 hPR hPW hwB c1 c2 c3 hkW hnsW stR hDR hlR hrz
      dsimp only
      walk_at "mine3"
      have hwl := wordsL_length scr
      rename Fr _ _ _ _ => FB
      rename News _ _ _ _ => NB
      refine lastB ⟨_, (NB _ (List.Mem.head _)).1, rfl, _, rfl⟩ hwW (by omega) (by omega) fun t1 => ?_
      rw [show (wordsL scr).getLastD [] = firstL scr from rfl]
      walk_at "mine3"
      rename Fr _ _ _ _ => FC
      rename News _ _ _ _ => NC
      have htop : ([(headL scr).fdiv 256, ((headL scr).fdiv 16).fmod 16, (headL scr).fmod 16] : List Int) = [(headL scr) / 256, (headL scr) / 16 % 16, (headL scr) % 16] := by
        rw [Int.fdiv_eq_ediv_of_nonneg _ (by decide), Int.fdiv_eq_ediv_of_nonneg _ (by decide), Int.fmod_eq_emod_of_nonneg _ (by decide), Int.fmod_eq_emod_of_nonneg _ (by decide)]
      refine lawSpelled (KX.keeps FC.keep) (T.keeps FC.keep) (by show callerA.depth + 1 + 3 < recursionLimit; decide) (by simp only [Around.deeper]; decide) rfl ⟨_, (NC _ (List.Mem.head _)).1, rfl, _, rfl⟩ (.cons _ _ (.cons _ _ (.cons _ _ .nil))) (by simp) ?_ fun t2 hTp tkTp stTp => ?_
      · rw [htop]
        intro x hx
        simp only [List.mem_cons, List.not_mem_nil, or_false] at hx
        rcases hx with rfl | rfl | rfl <;> omega
      have FD : Fr s₁.heap s₁.heap.objs.size hTp _ := ⟨FC.ns.keeps stTp, fun b o e => stTp b o (FC.keep b o e), FC.above⟩
      have ND := News.grown NC stTp
      clear FC NC
      rw [htop, show spellB [(headL scr) / 256, (headL scr) / 16 % 16, (headL scr) % 16] = topL scr from rfl]
      walk_at "mine3"
      rename Fr _ _ _ _ => FE
      rename News _ _ _ _ => NE
      rename_i told hta l1a tl1 htb l1b
      have wmem := NE _ (by repeat (first | exact List.Mem.head _ | refine List.Mem.tail _ ?_) : (WD, W.listOf wvs.toArray nW) ∈ _)
      refine PyProof.Rows.add_lists (vs := wvs) FE NE ⟨_, wmem.1, rfl, _, rfl⟩ ⟨_, (NE _ (List.Mem.head _)).1, rfl, _, rfl⟩ (fun hF FF NF => ?_) (hsz := by rw [sizeLine_eq, hwW.length]; simp; omega)
      dsimp only at NF
      dsimp only
      generalize hgv : htb.objs.size = gv at NF
      have hgl : told < gv := hgv ▸ Heap.lt_size (NE _ (List.Mem.tail _ (List.Mem.head _))).1
      have hgw : WD < gv := hgv ▸ Heap.lt_size wmem.1
      clear FE NE wmem
      walk_at "mine3"
      rename Fr _ _ _ _ => FG
      rename News _ _ _ _ => NG
      rename Heap => hG
      obtain ⟨MG, ⟨q1, q2, q3, q4, q5, q6, q7⟩, FH⟩ : ∃ MG, (MG (Str.ofString "words") = some (.ref WD) ∧ MG (Str.ofString "k") = some (.int (kL scr) tkK) ∧ MG (Str.ofString "size") = some (.int (lettersL scr).length tsS) ∧ MG (Str.ofString "first") = some (.bytes (firstL scr).toArray t1) ∧
        MG (Str.ofString "top") = some (.bytes (topL scr).toArray t2) ∧ MG (Str.ofString "told") = some (.ref told) ∧ MG (Str.ofString "given") = some (.ref gv)) ∧ Fr s₁.heap s₁.heap.objs.size hG MG := ⟨_, ⟨rfl, rfl, rfl, rfl, rfl, rfl, rfl⟩, FG⟩
      obtain ⟨tq, NH⟩ : ∃ tq : Tok, News s₁.heap s₁.heap.objs.size hG ((told, W.listOf [Value.bytes (firstL scr).toArray t1, .bytes (firstL scr).toArray t1, .bytes qB.toArray tq, .bytes (firstL scr).toArray t1, .bytes (firstL scr).toArray t1].toArray 0) :: (gv, W.listOf (wvs ++ [Value.bytes (firstL scr).toArray t1]).toArray 0) ::
          [(WD, W.listOf wvs.toArray nW), (Lt, W.listOf lvs.toArray nL), (s₁.heap.objs.size + 1 + 1 + 1, oH2), (s₁.heap.objs.size + 1 + 1, oL2), (s₁.heap.objs.size + 1, oS)]) := by
        refine ⟨_, news_cons (NG _ (List.Mem.tail _ (List.Mem.tail _ (List.Mem.tail _ (List.Mem.head _))))).1 (NG _ (List.Mem.tail _ (List.Mem.tail _ (List.Mem.tail _ (List.Mem.head _))))).2.1 (NG _ (List.Mem.tail _ (List.Mem.tail _ (List.Mem.tail _ (List.Mem.head _))))).2.2
          (news_cons (NG _ (List.Mem.tail _ (List.Mem.head _))).1 (NG _ (List.Mem.tail _ (List.Mem.head _))).2.1 (NG _ (List.Mem.tail _ (List.Mem.head _))).2.2 ?_)⟩
        intro p hp
        refine NG p ?_
        simp only [List.mem_cons, List.not_mem_nil, or_false] at hp ⊢
        rcases hp with h | h | h | h | h <;> simp [h]
      have hlt5 : ∀ p ∈ [(WD, W.listOf wvs.toArray nW), (Lt, W.listOf lvs.toArray nL), (s₁.heap.objs.size + 1 + 1 + 1, oH2), (s₁.heap.objs.size + 1 + 1, oL2), (s₁.heap.objs.size + 1, oS)], p.1 < told := by
        intro p hp
        refine l1a p ?_
        simp only [List.mem_cons, List.not_mem_nil, or_false] at hp ⊢
        rcases hp with h | h | h | h | h <;> simp [h]
      clear FG NG
      have hEs : BsAre [Value.bytes (firstL scr).toArray t1, .bytes (firstL scr).toArray t1, .bytes qB.toArray tq, .bytes (firstL scr).toArray t1, .bytes (firstL scr).toArray t1] [firstL scr, firstL scr, qB, firstL scr, firstL scr] :=
        .cons ⟨_, rfl⟩ (.cons ⟨_, rfl⟩ (.cons ⟨_, rfl⟩ (.cons ⟨_, rfl⟩ (.cons ⟨_, rfl⟩ .nil))))
      have hAs : BsAre (wvs ++ [Value.bytes (firstL scr).toArray t1]) (wordsL scr ++ [firstL scr]) := paired_append hwW (.cons ⟨_, rfl⟩ .nil)
      refine uld KX T (by show callerA.depth + 1 + 3 < recursionLimit; decide) (by simp only [Around.deeper]; decide) rfl rfl rfl rfl FH NH (Nat.ne_of_lt hgl) (fun p hp => Nat.ne_of_lt (hlt5 p hp)) (fun p hp => Nat.ne_of_lt (Nat.lt_trans (hlt5 p hp) hgl)) hEs hAs (by simp) (by simp; omega)
        fun hU tkU ru mi mvs avs n1 n2 n3 hm1 hm2 FU NU nU d1 d2 d3 d4 d5 => ?_
      rw [show [firstL scr, firstL scr, qB, firstL scr, firstL scr].reverse = [firstL scr, firstL scr, qB, firstL scr, firstL scr] from rfl, uld_first] at hm1 hm2
      dsimp only at hm1 hm2
      have FV := fr1 (fr3 (fr3 FU q1 q2 q3) (x1 := Str.ofString "first") (x2 := Str.ofString "top") (x3 := Str.ofString "told") q4 q5 q6) (x1 := Str.ofString "given") q7
      clear FH NH FU
      dsimp only
      walk_at "mine2"
      rename Fr _ _ _ _ => FW
      rename News _ _ _ _ => NW
      have mmem := (NW _ (by repeat (first | exact List.Mem.head _ | refine List.Mem.tail _ ?_) : (mi, W.listOf mvs.toArray n1) ∈ _)).1
      refine cmpNeB (ms := [qB, firstL scr, firstL scr]) (ns := [qB, firstL scr, firstL scr]) ⟨_, ⟨_, mmem, rfl, _, rfl⟩, hm1⟩ ⟨_, ⟨_, (NW _ (List.Mem.head _)).1, rfl, _, rfl⟩, .cons ⟨_, rfl⟩ (.cons ⟨_, rfl⟩ (.cons ⟨_, rfl⟩ .nil))⟩ (by simp only [Around.deeper]; decide) ?_
      rw [show (!decide ([qB, firstL scr, firstL scr] = [qB, firstL scr, firstL scr])) = false by simp]
      have hwz : wvs.length ≤ 30 := by rw [hwW.length]; omega
      clear mmem
      walk_at "mine2"
      rename Fr _ _ _ _ => FX
      rename News _ _ _ _ => NX
      have wmem := (NX _ (by repeat (first | exact List.Mem.head _ | refine List.Mem.tail _ ?_) : (WD, W.listOf wvs.toArray nW) ∈ _)).1
      dsimp only
      refine slice_list (s := ⟨_, _, _, _, _⟩) (items := wvs.toArray) (lo := none) (hi := some (-1)) FX NX ⟨_, wmem, rfl, _, rfl⟩ ?pl ?pu ?h9 ?hs ?ht ?hz
      case pl => constructor
      case pu => constructor
      case hs => with_unfolding_all rfl
      case ht => intro _; with_unfolding_all rfl
      case hz => rw [sizeLine_eq, List.size_toArray]; omega
      intro hY FY NY
      have e9 : slicePick wvs.toArray none (some (-1)) none = (wvs.dropLast).toArray := by
        have := slicePick_butLast wvs.toArray 1 (by decide)
        rw [show ((-((1 : Nat) : Int)) = -1) from rfl] at this
        rw [this, List.dropLast_eq_take]; simp
      rw [e9] at NY
      have hdl : BsAre wvs.dropLast (wordsL scr).dropLast := paired_dropLast hwW
      dsimp only
      have gmem := (NY _ (by repeat (first | exact List.Mem.head _ | refine List.Mem.tail _ ?_) : (gv, W.listOf avs.toArray n3) ∈ _)).1
      clear FX NX wmem
      refine cmpNeB (ms := (wordsL scr).dropLast) (ns := (wordsL scr).dropLast) ⟨_, ⟨_, gmem, rfl, _, rfl⟩, hm2⟩ ⟨_, ⟨_, (NY _ (List.Mem.head _)).1, rfl, _, rfl⟩, hdl⟩ (by simp only [Around.deeper]; decide) ?_
      rw [show (!decide ((wordsL scr).dropLast = (wordsL scr).dropLast)) = false by simp]
      clear gmem
      walk_at "mine2"
      first | walk1 | (dsimp only; walk1)
      walk_at "mine2"
      rename Fr _ _ _ _ => FZ
      rename News _ _ _ _ => NZ
      have tmem := (NZ _ (by repeat (first | exact List.Mem.head _ | refine List.Mem.tail _ ?_) : (told, W.listOf #[] n2) ∈ _)).1
      refine cmpNeB (ms := []) (ns := []) ⟨[], ⟨_, tmem, rfl, _, rfl⟩, .nil⟩ ⟨[], ⟨_, (NZ _ (List.Mem.head _)).1, rfl, _, rfl⟩, .nil⟩ (by simp only [Around.deeper]; decide) ?_
      rw [show (!decide (([] : List (List UInt8)) = [])) = false by simp]
      clear tmem
      walk_at "mine2"
      rename Fr _ _ _ _ => F20
      rename News _ _ _ _ => N20
      rename IntsAre _ (List.flatten _) => iLast
      rename Heap => h20
      rename Nat => tk20
      have hfl : ∀ {α : Type} (x : α) (n : Nat), (List.replicate n [x]).flatten = List.replicate n x := fun x n => by
        induction n with
        | zero => rfl
        | succ n ih => rw [List.replicate_succ, List.flatten_cons, ih, List.replicate_succ]; rfl
      rw [hfl, hfl, Int.toNat_natCast] at iLast
      obtain ⟨lastA, lastVs, M20, tLd, tPl, hlastI, ⟨m1, m2, m3, m4, m5, m6, m7, m8⟩, F21, N21⟩ : ∃ (lastA : Addr) (lastVs : List Value) (M20 : Str → Option Value) (tLd tPl : Tok), IntsAre lastVs (List.replicate (kL scr) (((lettersL scr).length : Int) - 1)) ∧
        (M20 (Str.ofString "k") = some (.int (kL scr) tkK) ∧ M20 (Str.ofString "size") = some (.int (lettersL scr).length tsS) ∧ M20 (Str.ofString "first") = some (.bytes (firstL scr).toArray t1) ∧ M20 (Str.ofString "top") = some (.bytes (topL scr).toArray t2) ∧
          M20 (Str.ofString "last") = some (.ref lastA) ∧ M20 (Str.ofString "laid") = some (.bytes #[] tLd) ∧ M20 (Str.ofString "place") = some (.int 0 tPl) ∧ M20 (Str.ofString "left") = some (.ref gv)) ∧ Fr s₁.heap s₁.heap.objs.size h20 M20 ∧
        News s₁.heap s₁.heap.objs.size h20 [(lastA, W.listOf lastVs.toArray 0), (gv, W.listOf avs.toArray n3), (Lt, W.listOf lvs.toArray nL), (s₁.heap.objs.size + 1 + 1 + 1, oH2), (s₁.heap.objs.size + 1 + 1, oL2), (s₁.heap.objs.size + 1, oS)] := by
        refine ⟨_, _, _, _, _, iLast, ⟨rfl, rfl, rfl, rfl, rfl, rfl, rfl, rfl⟩, F20, ?_⟩
        intro p hp
        refine N20 p ?_
        simp only [List.mem_cons, List.not_mem_nil, or_false] at hp ⊢
        rcases hp with h | h | h | h | h | h <;> simp [h, hfl]
      clear F20 N20
      clear hEs hAs hm1 hdl e9
      have htl := turns_le scr
      have F22 := fr3 (x1 := Str.ofString "k") (x2 := Str.ofString "size") (x3 := Str.ofString "first") (fr3 (x1 := Str.ofString "top") (x2 := Str.ofString "last") (x3 := Str.ofString "laid") (fr2 F21 m7 m8) m4 m5 m6) m1 m2 m3
      clear F21
      refine wpAny_For ?_
      walk_at "mine3"
      rename IsRange _ _ _ _ _ _ _ _ => hR2
      rename Fr _ _ _ _ => F23
      rename News _ _ _ _ => N23
      rename (∀ (b : Addr) (o : Obj), _ → _) => hk23
      rename Heap => hE
      dsimp only at hR2
      have hpw2 : (((lettersL scr).length : Int) ^ ((kL scr : Int) + 1).toNat) = 0 + ((turnsN scr : Nat) : Int) := by
        rw [show ((kL scr : Int) + 1).toNat = kL scr + 1 by omega, turnsN]; push_cast; omega
      have hT125 : turnsN scr ≤ 125 := htl
      rw [hpw2] at hR2
      refine wpAny_pyIter_range hR2 (small_one (by omega) (by omega) (by omega) (by omega)) ?_
      rw [rangeSize_n]
      dsimp only
      generalize hZ : Heap.push hE _ = HZ
      have uZ : ∀ b o, hE.get? b = some o → HZ.get? b = some o := fun b o e => hZ ▸ Heap.get?_push_of_some _ e
      have gI : HZ.get? hE.objs.size = some (iterObj (0 + ((0 : Nat) : Int) * 1) ((turnsN scr : Int) - ((0 : Nat) : Int))) := by
        have : HZ.get? hE.objs.size = some (iterObj 0 (turnsN scr : Int)) := hZ ▸ Heap.get?_push_size _ rfl
        simpa using this
      generalize hIo : hE.objs.size = I at gI
      have fI : ∀ b o, hE.get? b = some o → b ≠ I := fun b o e => hIo ▸ Nat.ne_of_lt (Heap.lt_size e)
      have sI : s₁.heap.get? I = none := by
        cases e : s₁.heap.get? I with
        | none => rfl
        | some o => exact absurd rfl (fI _ _ (F23.keep _ _ e))
      have nIL : I ≠ s₁.heap.objs.size := by obtain ⟨o, _, _, ho, _⟩ := F23.ns; exact Ne.symm (fI _ _ ho)
      have nLI : s₁.heap.objs.size ≠ I := Ne.symm nIL
      have hgI : gv ≠ I := fI _ _ (N23 _ (List.Mem.tail _ (List.Mem.head _))).1
      have hRg : ∀ p ∈ [(Lt, W.listOf lvs.toArray nL), (s₁.heap.objs.size + 1 + 1 + 1, oH2), (s₁.heap.objs.size + 1 + 1, oL2), (s₁.heap.objs.size + 1, oS)], p.1 ≠ gv ∧ p.1 ≠ I := fun p hp =>
        ⟨Nat.ne_of_lt (Nat.lt_trans (hlt5 p (List.Mem.tail _ hp)) hgl), fI _ _ (N23 p (List.Mem.tail _ (List.Mem.tail _ hp))).1⟩
      have hlg : lastA ≠ gv := by
        intro e
        have a1 := (N23 _ (List.Mem.head _)).1
        have a2 := (N23 _ (List.Mem.tail _ (List.Mem.head _))).1
        dsimp only at a1 a2
        rw [e, a2] at a1
        have a3 : W.listOf avs.toArray n3 = W.listOf lastVs.toArray 0 := Option.some.inj a1
        have a4 : avs.toArray = lastVs.toArray := congrArg (fun o => match o.data with | .seq x _ => x | _ => #[]) a3
        have a5 : avs = lastVs := by simpa using a4
        subst a5
        generalize hge : List.replicate (kL scr) (((lettersL scr).length : Int) - 1) = z at hlastI
        cases hlastI with
        | nil => have := congrArg List.length hge; simp at this; omega
        | cons n t h =>
          generalize (wordsL scr).dropLast = z2 at hm2
          cases hm2 with
          | cons h1 _ => obtain ⟨_, h1⟩ := h1; cases h1
      have FZ : Fr s₁.heap s₁.heap.objs.size HZ _ := ⟨F23.ns.keeps uZ, fun b o e => uZ b o (F23.keep b o e), F23.above⟩
      have NZ : News s₁.heap s₁.heap.objs.size HZ ((lastA, W.listOf lastVs.toArray 0) :: (gv, W.listOf avs.toArray n3) :: (I, iterObj (0 + ((0 : Nat) : Int) * 1) ((turnsN scr : Int) - ((0 : Nat) : Int))) :: [(Lt, W.listOf lvs.toArray nL), (s₁.heap.objs.size + 1 + 1 + 1, oH2), (s₁.heap.objs.size + 1 + 1, oL2), (s₁.heap.objs.size + 1, oS)]) :=
        news_cons (uZ _ _ (N23 _ (List.Mem.head _)).1) (N23 _ (List.Mem.head _)).2.1 (N23 _ (List.Mem.head _)).2.2
          (news_cons (uZ _ _ (N23 _ (List.Mem.tail _ (List.Mem.head _))).1) (N23 _ (List.Mem.tail _ (List.Mem.head _))).2.1 (N23 _ (List.Mem.tail _ (List.Mem.head _))).2.2
            (news_cons gI nIL sI fun p hp => ⟨uZ _ _ (N23 p (List.Mem.tail _ (List.Mem.tail _ hp))).1, (N23 p (List.Mem.tail _ (List.Mem.tail _ hp))).2⟩))
      have hlI : lastA ≠ I := fI _ _ (N23 _ (List.Mem.head _)).1
      have fsI : s₁.heap.objs.size + 1 + 1 + 1 ≠ gv := (hRg _ (List.Mem.tail _ (List.Mem.head _))).1
      generalize hRR : [(Lt, W.listOf lvs.toArray nL), (s₁.heap.objs.size + 1 + 1 + 1, oH2), (s₁.heap.objs.size + 1 + 1, oL2), (s₁.heap.objs.size + 1, oS)] = REST at NZ hRg
      clear F23 N23 hk23 hR2
      rename Fr _ _ h20 _ => Fo
      rename News _ _ h20 _ => No
      clear Fo No
      refine codeAny_forLoop (fun n s' => ∃ i, n = turnsN scr + 1 - i ∧ i ≤ turnsN scr ∧ LoopInv s₁ scr gv I REST tkK tsS t1 t2 i s') ?_ (turnsN scr + 1) ?_
      rotate_left
      · refine ⟨0, rfl, Nat.zero_le _, HZ, _, _, lastA, lastVs, 0, avs, n3, tLd, tPl, rfl, FZ, ⟨rfl, rfl, rfl, rfl, rfl, rfl, rfl, rfl⟩, NZ, hlg, hlI, hlastI, ?_⟩
        rw [show (wordsL scr).dropLast = ((runL scr 0).left.map (wordB (headL scr) (lettersL scr))) from by simp [wordsL, runL, runR, rowsL, rowsI]] at hm2
        exact hm2
      clear FZ NZ hlg hlI hlastI m1 m2 m3 m4 m5 m6 m7 m8 hm2 gI uZ fI hIo hZ hpw2
      rintro n s' ⟨i, rfl, hi, h', tk, M, lastA, lastVs, nl, avs, na, tLd, tPl, rfl, FM, hM, NM, hlg, hlI, hlastI, hleft⟩
      have hItem := NM _ (List.Mem.tail _ (List.Mem.tail _ (List.Mem.head _)))
      dsimp only at hItem
      by_cases hlt : i < turnsN scr
      · refine (Walks.range (prog := Challenge.rw_op0003_01.row.prog) (w := w) rfl I 0 1 (turnsN scr)).item i _ _ _ hlt (iterObj_is hItem.1) fun v h₁ tk₁ hPv hst₁ hk₁ => ?_
        obtain ⟨t, rfl⟩ := hPv
        dsimp only
        have k1 : ∀ b o, b ≠ I → h'.get? b = some o → h₁.get? b = some o := fun b o hb e => hk₁ b o (fun hm => hb (List.mem_singleton.mp hm)) e
        have F1 : Fr s₁.heap s₁.heap.objs.size h₁ M := ⟨FM.ns.extBut k1 nLI, fun b o e => k1 b o (fun q => by rw [q, sI] at e; cases e) (FM.keep b o e), FM.above⟩
        refine wpAny_assign_Name (wpAny_storeName_local (by rfl) F1.ns (fun h₂ hn₂ sb₂ => ?_) (by rfl))
        have F2 := Fr.set F1 hn₂ sb₂
        have k2 : ∀ b o, b ≠ s₁.heap.objs.size → b ≠ I → h'.get? b = some o → h₂.get? b = some o := fun b o hb hbI e => sb₂.extBut b o hb (k1 b o hbI e)
        have N2 : News s₁.heap s₁.heap.objs.size h₂ ((lastA, W.listOf lastVs.toArray nl) :: (gv, W.listOf avs.toArray na) :: (I, iterObj (0 + ((i + 1 : Nat) : Int) * 1) ((turnsN scr : Int) - ((i + 1 : Nat) : Int))) :: REST) :=
          have q1 := NM _ (List.Mem.head _)
          have q2 := NM _ (List.Mem.tail _ (List.Mem.head _))
          news_cons (k2 _ _ q1.2.1 hlI q1.1) q1.2.1 q1.2.2 (news_cons (k2 _ _ q2.2.1 hgI q2.1) q2.2.1 q2.2.2 (news_cons (sb₂.extBut _ _ nIL hst₁) nIL sI fun p hp =>
            have q3 := NM p (List.Mem.tail _ (List.Mem.tail _ (List.Mem.tail _ hp)))
            ⟨k2 _ _ q3.2.1 (hRg p hp).2 q3.1, q3.2⟩))
        obtain ⟨m1, m2, m3, m4, m5, m6, m7, m8⟩ := hM
        have F3 := fr3 (x1 := Str.ofString "k") (x2 := Str.ofString "size") (x3 := Str.ofString "first") (fr3 (x1 := Str.ofString "top") (x2 := Str.ofString "last") (x3 := Str.ofString "laid") (fr2 (x1 := Str.ofString "place") (x2 := Str.ofString "left") F2 m7 m8) m4 m5 m6) m1 m2 m3
        refine wpAny_mono (Q := TurnQ s₁ scr gv I REST tkK tsS t1 t2 (i + 1)) ?_ (fun f s₃ h => ?_) fun _ _ e => e
        rotate_left
        · obtain ⟨rfl, h⟩ := h
          exact ⟨turnsN scr + 1 - (i + 1), by omega, i + 1, rfl, hlt, h⟩
        clear m1 m2 m3 m4 m5 m6 m7 m8 F2 F1 hn₂ sb₂ k1 k2 hst₁ hk₁ FM NM hItem hend
        subst hRR
        have hS : RunOk (lettersL scr).length (kL scr) i (runL scr i) := run_ok (by omega) (by omega) i
        have hrun : runL scr (i + 1) = stepR (lettersL scr).length (runL scr i) := rfl
        have hSl := hS.len
        generalize runL scr i = S at *
        obtain ⟨lastR, plc, leftR, laidR⟩ := S
        dsimp only at hSl F3 hlastI hleft
        by_cases hp : plc < ((lettersL scr).length : Int)
        rotate_left
        · walk_at "mine3"
          rename Fr _ _ _ _ => F4
          rename News _ _ _ _ => N4
          rw [stepR, if_neg hp] at hrun
          exact turnQ hrun F4 rfl rfl rfl rfl rfl rfl rfl rfl N4 hlg hlI hlastI hleft
        · have hlr : lastR.length = kL scr := hS.last.1
          have hll : lastVs.length = kL scr := by rw [hlastI.length]; exact hlr
          have hp0 : 0 ≤ plc := hS.place0
          walk_at "mine3"
          rename Fr _ _ _ _ => Fa
          rename News _ _ _ _ => Na
          rename IntsAre _ (List.drop 1 lastR ++ [plc]) => hRow
          have hval := step_valid hS (by omega) hp
          dsimp only at hval
          refine lawWord (KX.keeps Fa.keep) (T.keeps Fa.keep) (by show callerA.depth + 1 + 3 < recursionLimit; decide) (by simp only [Around.deeper]; decide) rfl ⟨_, (Na _ (List.Mem.head _)).1, rfl, _, rfl⟩ hRow
            ⟨_, (Na _ (by repeat (first | exact List.Mem.head _ | refine List.Mem.tail _ ?_) : (Lt, W.listOf lvs.toArray nL) ∈ _)).1, rfl, _, rfl⟩ hlet hhb.1 hhb.2 (by simp) ?_ hval.2 (lettersL_in scr) (by omega) fun tw hW2 tkW2 stW2 => ?_
          · rw [hval.1]; omega
          have hwl8 := word_len scr hval
          have hone := uld_one scr hS hp
          have hll1 := laid_letter scr hS hp
          dsimp only at hone hll1
          generalize hwd : wordB (headL scr) (lettersL scr) (List.drop 1 lastR ++ [plc]) = wd at *
          have Fb : Fr s₁.heap s₁.heap.objs.size hW2 _ := ⟨Fa.ns.keeps stW2, fun b o e => stW2 b o (Fa.keep b o e), Fa.above⟩
          have Nb := News.grown Na stW2
          have Nc : News s₁.heap s₁.heap.objs.size hW2 [(lastA, W.listOf lastVs.toArray nl), (gv, W.listOf avs.toArray na), (I, iterObj (0 + ((i + 1 : Nat) : Int) * 1) ((turnsN scr : Int) - ((i + 1 : Nat) : Int))), (Lt, W.listOf lvs.toArray nL), (s₁.heap.objs.size + 1 + 1 + 1, oH2), (s₁.heap.objs.size + 1 + 1, oL2), (s₁.heap.objs.size + 1, oS)] :=
            fun p hp => Nb p (List.Mem.tail _ (List.Mem.tail _ (List.Mem.tail _ hp)))
          clear Fa Na Nb
          walk_at "mine3"
          rename Fr _ _ _ _ => Fd
          rename News _ _ _ _ => Nd
          rename (∀ (p : Addr × Obj), _ → _) => le9
          have Nu : News s₁.heap s₁.heap.objs.size _ ((_, W.listOf [Value.bytes wd.toArray tw].toArray 0) :: (gv, W.listOf avs.toArray na) :: [(lastA, W.listOf lastVs.toArray nl), (I, iterObj (0 + ((i + 1 : Nat) : Int) * 1) ((turnsN scr : Int) - ((i + 1 : Nat) : Int))), (Lt, W.listOf lvs.toArray nL), (s₁.heap.objs.size + 1 + 1 + 1, oH2), (s₁.heap.objs.size + 1 + 1, oL2), (s₁.heap.objs.size + 1, oS)]) :=
            news_cons (Nd _ (List.Mem.head _)).1 (Nd _ (List.Mem.head _)).2.1 (Nd _ (List.Mem.head _)).2.2 (news_cons (Nd _ (List.Mem.tail _ (List.Mem.tail _ (List.Mem.head _)))).1 (Nd _ (List.Mem.tail _ (List.Mem.tail _ (List.Mem.head _)))).2.1 (Nd _ (List.Mem.tail _ (List.Mem.tail _ (List.Mem.head _)))).2.2
              fun p hp => Nd p (List.Mem.tail _ (by
                rcases List.mem_cons.mp hp with rfl | hp
                · exact List.Mem.head _
                · exact List.Mem.tail _ (List.Mem.tail _ hp))))
          have hne9 : ∀ p ∈ [(lastA, W.listOf lastVs.toArray nl), (I, iterObj (0 + ((i + 1 : Nat) : Int) * 1) ((turnsN scr : Int) - ((i + 1 : Nat) : Int))), (Lt, W.listOf lvs.toArray nL), (s₁.heap.objs.size + 1 + 1 + 1, oH2), (s₁.heap.objs.size + 1 + 1, oL2), (s₁.heap.objs.size + 1, oS)], p.1 ≠ gv := by
            intro p hp
            rcases List.mem_cons.mp hp with rfl | hp
            · exact hlg
            · rcases List.mem_cons.mp hp with rfl | hp
              · exact Ne.symm hgI
              · exact (hRg p hp).1
          refine uld KX T (by show callerA.depth + 1 + 3 < recursionLimit; decide) (by simp only [Around.deeper]; decide) rfl rfl rfl rfl Fd Nu (Nat.ne_of_gt (le9 _ (List.Mem.tail _ (List.Mem.head _)))) (fun p hp => Nat.ne_of_lt (le9 p (by
              rcases List.mem_cons.mp hp with rfl | hp
              · exact List.Mem.head _
              · exact List.Mem.tail _ (List.Mem.tail _ hp)))) hne9 (Es := [wd]) (.cons ⟨_, rfl⟩ .nil) hleft (by simp) (by rw [List.length_map]; omega)
            fun hV tkV rV mV mvs9 avs9 n91 n92 n93 hm1 hm2 FV NV nV d91 d92 d93 d94 d95 => ?_
          rw [show [wd].reverse = [wd] from rfl, hone] at hm1 hm2
          clear Fd Nd Nu
          by_cases hfound : List.drop 1 lastR ++ [plc] ∈ leftR
          · have hln := hS.laidn
            dsimp only at hln
            rw [if_pos hfound] at hm1 hm2
            dsimp only at hm1 hm2
            walk_at "mine2"
            rename Fr _ _ _ _ => Fe
            rename News _ _ _ _ => Ng
            have mmem := (Ng _ (by repeat (first | exact List.Mem.head _ | refine List.Mem.tail _ ?_) : (mV, W.listOf mvs9.toArray n91) ∈ _)).1
            refine cmpEqB (ms := []) (ns := []) ⟨_, ⟨_, mmem, rfl, _, rfl⟩, hm1⟩ ⟨[], ⟨_, (Ng _ (List.Mem.head _)).1, rfl, _, rfl⟩, .nil⟩ (by simp only [Around.deeper]; decide) ?_
            rw [show decide (([] : List (List UInt8)) = []) = true by simp]
            clear mmem
            walk_at "mine2"
            rotate_left
            · rw [List.size_toArray, List.size_toArray, letB_length]
              refine Nat.le_trans (Nat.add_le_add_left (takeDrop_le _ _ _) _) ?_
              simp
              omega
            · simp
              omega
            rename Fr _ _ _ _ => Ff
            rename News _ _ _ _ => Nf
            have hlaid : (letB (lettersL scr) laidR).toArray ++ (((#[65] ++ wd.toArray).toList.drop ((some (-1) : Option Int).elim 0 (clipAt (#[65] ++ wd.toArray).size))).take ((none : Option Int).elim (#[65] ++ wd.toArray).size (clipAt (#[65] ++ wd.toArray).size) - (some (-1) : Option Int).elim 0 (clipAt (#[65] ++ wd.toArray).size))).toArray = (letB (lettersL scr) (laidR ++ [plc])).toArray := by
              rw [tail1 _ (by simp), letB_append, ← hll1]
              simp
            rename IntsAre _ (List.drop 1 lastR ++ [plc]) => hlast2
            have tmem := (Nf _ (List.Mem.tail _ (List.Mem.head _)))
            dsimp only at tmem
            obtain ⟨newA, newVs, tn1, tn2, MX, hnewL, x1, x2, x3, x4, x5, x6, x7, x8, x9, F5, hng, hnI, Nj⟩ : ∃ (newA : Addr) (newVs : List Value) (tn1 tn2 : Tok) (MX : Str → Option Value), IntsAre newVs (List.drop 1 lastR ++ [plc]) ∧ MX (Str.ofString "k") = some (.int (kL scr) tkK) ∧ MX (Str.ofString "size") = some (.int (lettersL scr).length tsS) ∧ MX (Str.ofString "first") = some (.bytes (firstL scr).toArray t1) ∧
                MX (Str.ofString "top") = some (.bytes (topL scr).toArray t2) ∧ MX (Str.ofString "last") = some (.ref newA) ∧ MX (Str.ofString "laid") = some (.bytes (letB (lettersL scr) (laidR ++ [plc])).toArray tn1) ∧ MX (Str.ofString "place") = some (.int 0 tn2) ∧ MX (Str.ofString "left") = some (.ref gv) ∧
                MX (Str.ofString "word") = some (.bytes wd.toArray tw) ∧ Fr s₁.heap s₁.heap.objs.size _ MX ∧ newA ≠ gv ∧ newA ≠ I ∧ News s₁.heap s₁.heap.objs.size _ ((gv, W.listOf avs9.toArray n93) :: (newA, W.listOf newVs.toArray 0) :: [(I, iterObj (0 + ((i + 1 : Nat) : Int) * 1) ((turnsN scr : Int) - ((i + 1 : Nat) : Int))), (Lt, W.listOf lvs.toArray nL), (s₁.heap.objs.size + 1 + 1 + 1, oH2), (s₁.heap.objs.size + 1 + 1, oL2), (s₁.heap.objs.size + 1, oS)]) := by
              have gmem := (Nf _ (by repeat (first | exact List.Mem.head _ | refine List.Mem.tail _ ?_) : (gv, W.listOf avs9.toArray n93) ∈ _))
              have imem := (Nf _ (by repeat (first | exact List.Mem.head _ | refine List.Mem.tail _ ?_) : (I, iterObj (0 + ((i + 1 : Nat) : Int) * 1) ((turnsN scr : Int) - ((i + 1 : Nat) : Int))) ∈ _))
              refine ⟨_, _, _, _, _, hlast2, rfl, rfl, rfl, rfl, rfl, by rw [← hlaid]; rfl, rfl, rfl, rfl, Ff, ?_, ?_, news_cons gmem.1 gmem.2.1 gmem.2.2 (news_cons tmem.1 tmem.2.1 tmem.2.2 ?_)⟩
              · exact listOf_ne tmem.1 gmem.1 (intsBytes_ne hlast2 hm2 (by simp))
              · exact list_ne_iter tmem.1 imem.1
              · exact fun p hp => Nf p (List.Mem.tail _ (List.Mem.tail _ (List.Mem.tail _ (List.Mem.tail _ (List.Mem.tail _ (List.Mem.tail _ (List.Mem.tail _ (List.Mem.tail _ (List.Mem.tail _ (List.Mem.tail _ hp))))))))))
            clear Ff Nf tmem
            have F6 := fr3 (x1 := Str.ofString "k") (x2 := Str.ofString "size") (x3 := Str.ofString "first") (fr3 (x1 := Str.ofString "top") (x2 := Str.ofString "last") (x3 := Str.ofString "laid") (fr3 (x1 := Str.ofString "place") (x2 := Str.ofString "left") (x3 := Str.ofString "word") F5 x7 x8 x9) x4 x5 x6) x1 x2 x3
            clear F5 x1 x2 x3 x4 x5 x6 x7 x8 x9
            have htl3 := top_len scr
            have hfl8 := first_len scr
            have hflk := first_ge scr
            rw [stepR, if_pos hp, if_pos hfound] at hrun
            have hS2 : RunOk (lettersL scr).length (kL scr) (i + 1) ⟨List.drop 1 lastR ++ [plc], 0, leftR.erase (List.drop 1 lastR ++ [plc]), laidR ++ [plc]⟩ := by
              have := run_ok (size := (lettersL scr).length) (k := kL scr) (by omega) (by omega) (i + 1)
              rw [show runR (lettersL scr).length (kL scr) (i + 1) = runL scr (i + 1) from rfl, hrun] at this
              exact this
            have hfw := found_word scr hS2
            dsimp only at hfw
            rw [hwd] at hfw
            walk_at "mine2"
            rename Fr _ _ _ _ => Fi
            refine' kia_one (K := hd.heap_39 w.params) (b := true) kitx_bytes (KX.keeps Fi.keep) trivial ?ee ?nb ?_
            case ee => first | kit_is | (with_unfolding_all rfl)
            case nb => kit_nb
            intro _
            walk_at "mine3"
            rotate_left
            · rw [List.size_toArray, List.size_toArray]
              refine Nat.le_trans (Nat.add_le_add_left (takeDrop_le _ _ _) _) ?_
              simp [letB_length]
              omega
            · simp [letB_length]
              omega
            · simp [letB_length]
              omega
            have htk : (topL scr).toArray ++ ((((firstL scr).toArray ++ (letB (lettersL scr) (laidR ++ [plc])).toArray).toList.drop ((some (-(kL scr : Int)) : Option Int).elim 0 (clipAt ((firstL scr).toArray ++ (letB (lettersL scr) (laidR ++ [plc])).toArray).size))).take
                ((none : Option Int).elim ((firstL scr).toArray ++ (letB (lettersL scr) (laidR ++ [plc])).toArray).size (clipAt ((firstL scr).toArray ++ (letB (lettersL scr) (laidR ++ [plc])).toArray).size) - (some (-(kL scr : Int)) : Option Int).elim 0 (clipAt ((firstL scr).toArray ++ (letB (lettersL scr) (laidR ++ [plc])).toArray).size))).toArray =
                (topL scr ++ (firstL scr ++ letB (lettersL scr) (laidR ++ [plc])).drop ((firstL scr ++ letB (lettersL scr) (laidR ++ [plc])).length - kL scr)).toArray := by
              rw [tailK _ _ (by simp; omega) (by omega)]
              simp
            refine gm_lstrip ?_
            walk_at "mine2"
            refine call_lstrip2 htk (by simp [letB_length]; omega) fun t99 k99 => ?_
            rw [hfw]
            walk_at "mine3"
            · exfalso
              rename (_ != _) = true => hbad
              simp at hbad
            · rename Fr _ _ _ _ => F7
              rename News _ _ _ _ => N7
              exact turnQ hrun F7 rfl rfl rfl rfl rfl rfl rfl rfl (news_swap N7) hng hnI hnewL hm2
          · rw [if_neg hfound] at hm1 hm2
            dsimp only at hm1 hm2
            walk_at "mine2"
            rename Fr _ _ _ _ => Fe
            rename News _ _ _ _ => Ng
            have mmem := (Ng _ (by repeat (first | exact List.Mem.head _ | refine List.Mem.tail _ ?_) : (mV, W.listOf mvs9.toArray n91) ∈ _)).1
            refine cmpEqB (ms := [wd]) (ns := []) ⟨_, ⟨_, mmem, rfl, _, rfl⟩, hm1⟩ ⟨[], ⟨_, (Ng _ (List.Mem.head _)).1, rfl, _, rfl⟩, .nil⟩ (by simp only [Around.deeper]; decide) ?_
            rw [show decide (([wd] : List (List UInt8)) = []) = false by simp]
            clear mmem
            walk_at "mine2"
            rename Fr _ _ _ _ => Ff
            rename News _ _ _ _ => Nf
            have mmem := (Nf _ (by repeat (first | exact List.Mem.head _ | refine List.Mem.tail _ ?_) : (mV, W.listOf mvs9.toArray n91) ∈ _)).1
            refine cmpEqB (ms := [wd]) (ns := [wd]) ⟨_, ⟨_, mmem, rfl, _, rfl⟩, hm1⟩ ⟨[_], ⟨_, (Nf _ (List.Mem.head _)).1, rfl, _, rfl⟩, .cons ⟨_, rfl⟩ .nil⟩ (by simp only [Around.deeper]; decide) ?_
            rw [show decide (([wd] : List (List UInt8)) = [wd]) = true by simp]
            clear mmem
            walk_at "mine2"
            rename Fr _ _ _ _ => Fg
            rename News _ _ _ _ => Nh
            rw [stepR, if_pos hp, if_neg hfound] at hrun
            have Ni : News s₁.heap s₁.heap.objs.size _ ((gv, W.listOf avs9.toArray n93) :: (lastA, W.listOf lastVs.toArray nl) :: [(I, iterObj (0 + ((i + 1 : Nat) : Int) * 1) ((turnsN scr : Int) - ((i + 1 : Nat) : Int))), (Lt, W.listOf lvs.toArray nL), (s₁.heap.objs.size + 1 + 1 + 1, oH2), (s₁.heap.objs.size + 1 + 1, oL2), (s₁.heap.objs.size + 1, oS)]) :=
              fun p hp => Nh p (List.Mem.tail _ (List.Mem.tail _ (List.Mem.tail _ (List.Mem.tail _ (List.Mem.tail _ hp)))))
            exact turnQ hrun Fg rfl rfl rfl rfl rfl rfl rfl rfl (news_swap Ni) hlg hlI hlastI hm2
      · have hie : i = turnsN scr := by omega
        subst hie
        refine (Walks.range (prog := Challenge.rw_op0003_01.row.prog) (w := w) rfl I 0 1 (turnsN scr)).done _ _ _ (iterObj_is hItem.1) fun h₁ tk₁ hk₁ => ?_
        have k1 : ∀ b o, b ≠ I → h'.get? b = some o → h₁.get? b = some o := fun b o hb e => hk₁ b o (fun hm => hb (List.mem_singleton.mp hm)) e
        have F1 : Fr s₁.heap s₁.heap.objs.size h₁ M := ⟨FM.ns.extBut k1 nLI, fun b o e => k1 b o (fun q => by rw [q, sI] at e; cases e) (FM.keep b o e), FM.above⟩
        have N1 : News s₁.heap s₁.heap.objs.size h₁ ((gv, W.listOf avs.toArray na) :: REST) :=
          have q2 := NM _ (List.Mem.tail _ (List.Mem.head _))
          news_cons (k1 _ _ hgI q2.1) q2.2.1 q2.2.2 fun p hp =>
            have q3 := NM p (List.Mem.tail _ (List.Mem.tail _ (List.Mem.tail _ hp)))
            ⟨k1 _ _ (hRg p hp).2 q3.1, q3.2⟩
        obtain ⟨m1, m2, m3, m4, m5, m6, m7, m8⟩ := hM
        refine wpAny_execs_nil ?_
        dsimp only
        have F3 := fr2 (x1 := Str.ofString "left") (x2 := Str.ofString "laid") (fr2 (x1 := Str.ofString "k") (x2 := Str.ofString "size") F1 m1 m2) m8 m6
        clear m1 m2 m3 m4 m5 m6 m7 m8 F1 k1 hk₁ FM NM hItem hlI hlg hlastI hi hlt sI nIL nLI hgI hRg lastVs
        have hel := ends_left scr
        have hed := ends_laid scr
        rw [show runR (lettersL scr).length (kL scr) ((lettersL scr).length ^ (kL scr + 1)) = runL scr (turnsN scr) from rfl] at hel hed
        rw [hed] at F3
        rw [hel] at hleft
        subst hRR
        walk_at "mine2"
        rename Fr _ _ _ _ => F4
        rename News _ _ _ _ => N4
        have gmem := (N4 _ (List.Mem.tail _ (List.Mem.head _)))
        refine cmpEqB (ms := []) (ns := []) ⟨_, ⟨_, gmem.1, rfl, _, rfl⟩, hleft⟩ ⟨[], ⟨_, (N4 _ (List.Mem.head _)).1, rfl, _, rfl⟩, .nil⟩ (by simp only [Around.deeper]; decide) ?_
        rw [show decide (([] : List (List UInt8)) = []) = true by simp]
        clear gmem
        walk_at "mine2"
        refine compL (cl := [(Str.ofString "letters", s₁.heap.objs.size + 1 + 1)]) (fun v y => ∃ (a : Int) (t u : Tok), v = .int a t ∧ y = .int ((lettersL scr).getD a.toNat 0) u) rfl (by rfl) (by decide) rfl (by decide) (by rfl) ?_
        walk_at "mine2"
        rename Fr _ _ _ _ => F5
        rename News _ _ _ _ => N5
        refine lawLeast (KX.keeps F5.keep) (T.keeps F5.keep) (by show callerA.depth + 1 + 4 < recursionLimit; decide) (by simp only [Around.deeper]; decide) rfl hz2 hz5 (by omega) hkb.2.1 fun D6 h6 tk6 ys6 n6 hD6 hl6 hi6 st6 => ?_
        have F7 : Fr s₁.heap s₁.heap.objs.size h6 _ := ⟨F5.ns.keeps st6, fun b o e => st6 b o (F5.keep b o e), F5.above⟩
        have N7 := News.grown N5 st6
        have hll6 := least_len scr
        have hlin := least_in scr
        have hz6 : ys6.size ≤ 64 := by have := hi6.length; simp at this; omega
        have cL := (N7 _ (by repeat (first | exact List.Mem.head _ | refine List.Mem.tail _ ?_) : (s₁.heap.objs.size + 1 + 1, oL2) ∈ _)).1
        have cLt := (N7 _ (by repeat (first | exact List.Mem.head _ | refine List.Mem.tail _ ?_) : (Lt, W.listOf lvs.toArray nL) ∈ _)).1
        refine ⟨D6, ys6, rfl, ⟨_, hl6, rfl, _, rfl⟩, by rw [sizeLine_eq]; omega, ?_, ?_⟩
        · intro C j v s₃ m₃ E' hC hj hn hm st
          have hj' : ys6.toList[j]? = some v := by rw [Array.getElem?_toList]; exact hj
          have hjl : j < ys6.toList.length := (List.getElem?_eq_some_iff.mp hj').1
          rw [hi6.length] at hjl
          obtain ⟨t, ht⟩ := hi6.get j _ (List.getElem?_eq_getElem hjl)
          rw [hj'] at ht
          cases ht
          have hb1 := hlin _ (List.getElem_mem hjl)
          generalize (leastL (lettersL scr).length (kL scr))[j] = a at hm hb1
          have e1 : s₃.heap.IsCell (s₁.heap.objs.size + 1 + 1) (some (.ref Lt)) := ⟨oL2, st _ _ cL, dL2⟩
          refine Subscript_ (nmC (env := compEnvC _ _ _ _) (by rfl) e1 (nmL hn hm ?_))
          exact itemL (vs := lvs) ⟨_, st _ _ cLt, rfl, _, rfl⟩ hlet hb1.1 hb1.2 (by omega) fun t' => ⟨⟨a, _, _, rfl, rfl⟩, _, _, rfl, fun _ _ e => e⟩
        · intro D8 h8 tk8 ys8 n8 hD8 hl8 hP8 st8
          have hi8 := pairInts hi6 hP8
          have F9 : Fr s₁.heap s₁.heap.objs.size h8 _ := ⟨F7.ns.keeps st8, fun b o e => st8 b o (F7.keep b o e), F7.above⟩
          have N9 := News.grown N7 st8
          clear F7 N7 F5 N5
          walk_at "mine2"
          refine lawSpelled (KX.keeps F9.keep) (T.keeps F9.keep) (by show callerA.depth + 1 + 3 < recursionLimit; decide) (by simp only [Around.deeper]; decide) rfl (fs := ys8.toList) ⟨_, hl8, rfl, n8, by simp⟩ hi8 (by rw [List.length_map]; omega) ?_ fun t9 h9 tk9 st9 => ?_
          · intro x hx
            obtain ⟨p, hp, rfl⟩ := List.mem_map.mp hx
            exact letter_in (lettersL_in scr) (hlin p hp)
          have FA : Fr s₁.heap s₁.heap.objs.size h9 _ := ⟨F9.ns.keeps st9, fun b o e => st9 b o (F9.keep b o e), F9.above⟩
          have NA := News.grown N9 st9
          rw [show spellB ((leastL (lettersL scr).length (kL scr)).map fun a => (lettersL scr).getD a.toNat 0) = letB (lettersL scr) (leastL (lettersL scr).length (kL scr)) from rfl]
          clear F9 N9
          generalize letB (lettersL scr) (leastL (lettersL scr).length (kL scr)) = bs9 at *
          walk_at "mine3"
          have hbb : (bs9.toArray.toList == bs9.toArray.toList) = true := by simp
          rw [hbb]
          exact hend _ _ _ FA
theorem lawHolds : PySem.Challenge.rw_op0003_01.Holds := hd lawWalk
end Mine
end
theorem PySem.Challenge.cw_op0003_01_holds : PySem.Challenge.rw_op0003_01.Holds := by
  exact Mine.lawHolds
