import PyProof.Rows.All
import Wide.All
import OpenK.AllK
import Wide.FinOn
import PySem.Challenge.RW_ew5014_01
open PySem PySem.W PyProof.Rows
set_option Elab.async false
set_option maxRecDepth 100000
-- part Hd
namespace Mine
set_option maxRecDepth 100000 in
set_option maxHeartbeats 8000000 in
open_top hd for PySem.Challenge.rw_ew5014_01
end Mine
-- part M1
namespace Mine
open PySem PySem.W PyProof.Rows PySem.Calls

abbrev Led := List (Addr × Obj)
abbrev Rest := Array GenState × Drawn × OsState

/-- the state of a frame: its locals, the mutable objects, the immutable ones, those of loops around -/
structure St (hb : Heap) (L : Addr) (m : Str → Option Value) (led imm own : Led) (R : Rest) (s : Shared) : Prop where
  F : Fr hb L s.heap m
  N : News hb L s.heap (led ++ (imm ++ own))
  nd : (led.map (·.1)).Nodup
  off : OwnOff (imm ++ own) (led.map (·.1))
  sep : ∀ p ∈ own, ∀ q ∈ imm, p.1 ≠ q.1
  r : (s.gens, s.drawn, s.os) = R

structure Rm (A : Around) : Prop where
  h : A.handled = none
  u : A.units + 300 < cLine
  d : A.depth + 50 < recursionLimit

section
variable {prog : Program} {w : World} {A : Around} {E : Value → Shared → Prop} {s : Shared} {env : Env}
variable {hb : Heap} {L : Addr} {m : Str → Option Value} {led imm own : Led} {R : Rest}

theorem St.tok (S : St hb L m led imm own R s) (k : Nat) : St hb L m led imm own R { s with toks := k } :=
  ⟨S.F, S.N, S.nd, S.off, S.sep, S.r⟩

theorem St.mem (S : St hb L m led imm own R s) {p : Addr × Obj} (h : p ∈ led ++ (imm ++ own)) : s.heap.get? p.1 = some p.2 := (S.N p h).1

/-- a new object -/
theorem St.push (S : St hb L m led imm own R s) (o : Obj) (k : Nat) (hfree : o.isFreed = false := by rfl) :
    St hb L m led ((s.heap.objs.size, o) :: imm) own R { s with heap := s.heap.push o, toks := k } := by
  have lt : ∀ p ∈ led ++ (imm ++ own), p.1 < s.heap.objs.size := fun p hp => Heap.lt_size (S.N p hp).1
  have N1 := News.push S.F S.N o hfree
  refine ⟨S.F.push o, ?_, S.nd, ?_, ?_, S.r⟩
  · intro p hp
    refine N1 p ?_
    simp only [List.mem_append, List.mem_cons] at hp ⊢
    rcases hp with h | (h | h) | h <;> simp [h]
  · intro p hp b hb'
    have hp' : p = (s.heap.objs.size, o) ∨ p ∈ imm ++ own := by simpa using hp
    rcases hp' with rfl | hp'
    · obtain ⟨q, hq, rfl⟩ := List.mem_map.mp hb'
      exact Nat.ne_of_gt (lt q (List.mem_append_left _ hq))
    · exact S.off p hp' b hb'
  · intro p hp q hq
    rcases List.mem_cons.mp hq with rfl | hq
    · exact Nat.ne_of_lt (lt p (List.mem_append_right _ (List.mem_append_right _ hp)))
    · exact S.sep p hp q hq

/-- the same with other immutable objects: fewer, or in another order -/
theorem St.less (S : St hb L m led imm own R s) {imm' : Led} (h : ∀ p ∈ imm', p ∈ imm) : St hb L m led imm' own R s :=
  ⟨S.F, fun p hp => S.N p (by
      simp only [List.mem_append] at hp ⊢
      rcases hp with a | a | a
      · exact .inl a
      · exact .inr (.inl (h p a))
      · exact .inr (.inr a)), S.nd, fun p hp => S.off p (by
      simp only [List.mem_append] at hp ⊢
      exact hp.imp (h p) id), fun p hp q hq => S.sep p hp q (h q hq), S.r⟩

/-- from immutable to mutable, in front -/
theorem St.front (S : St hb L m led imm own R s) {p : Addr × Obj} {imm' : Led} (h : imm = p :: imm') (hn : ∀ q ∈ imm', p.1 ≠ q.1) : St hb L m (p :: led) imm' own R s := by
  subst h
  refine ⟨S.F, fun q hq => S.N q ?_, ?_, ?_, fun a ha q hq => S.sep a ha q (.tail _ hq), S.r⟩
  · simp only [List.mem_append, List.mem_cons, List.cons_append] at hq ⊢
    rcases hq with a | a | a | a <;> simp [a]
  · refine List.nodup_cons.mpr ⟨fun hm => ?_, S.nd⟩
    exact S.off p (by simp) p.1 hm rfl
  · intro q hq b hb'
    rcases List.mem_cons.mp hb' with rfl | hb'
    · rcases List.mem_append.mp hq with a | a
      · exact fun e => hn q a e.symm
      · exact S.sep q a p (.head _)
    · exact S.off q (by simp only [List.mem_append, List.mem_cons] at hq ⊢; rcases hq with a | a <;> simp [a]) b hb'

/-- an object of the ledger's place k is turned -/
theorem St.turn (S : St hb L m led imm own R s) {k : Nat} {D : Addr} {o o' : Obj} {h' : Heap} (tk : Nat) (hk : led[k]? = some (D, o)) (hs : Heap.SameBut D s.heap h') (ho : h'.get? D = some o') :
    St hb L m (led.set k (D, o')) imm own R { s with heap := h', toks := tk } := by
  have hkl : k < led.length := (List.getElem?_eq_some_iff.mp hk).1
  have hke : led[k] = (D, o) := (List.getElem?_eq_some_iff.mp hk).2
  have hmem : (D, o) ∈ led := hke ▸ List.getElem_mem hkl
  have z := S.N (D, o) (List.mem_append_left _ hmem)
  have hmap : (led.set k (D, o')).map (·.1) = led.map (·.1) := by
    rw [List.map_set]
    apply List.ext_getElem (by simp)
    intro i h1 h2
    rw [List.getElem_set]
    split
    · rename_i e; subst e; simp [hke]
    · rfl
  refine ⟨S.F.change hs z.2.1 z.2.2, ?_, by rw [hmap]; exact S.nd, by rw [hmap]; exact S.off, S.sep, S.r⟩
  intro p hp
  rcases List.mem_append.mp hp with hp | hp
  · obtain ⟨i, hi, hpi⟩ := List.mem_iff_getElem.mp hp
    rw [List.getElem_set] at hpi
    by_cases e : k = i
    · rw [if_pos e] at hpi
      subst hpi
      exact ⟨ho, z.2⟩
    · rw [if_neg e] at hpi
      have hi' : i < led.length := by simpa using hi
      have hpm : p ∈ led := hpi ▸ List.getElem_mem hi'
      have y := S.N p (List.mem_append_left _ hpm)
      have hne : p.1 ≠ D := by
        intro q
        have nd := List.pairwise_iff_getElem.mp S.nd
        rcases Nat.lt_or_gt_of_ne e with lt | lt
        · exact nd k i (by simpa using hkl) (by simpa using hi') lt (by simp [hke, hpi, q])
        · exact nd i k (by simpa using hi') (by simpa using hkl) lt (by simp [hke, hpi, q])
      exact ⟨(hs.2 _ hne).trans y.1, y.2⟩
  · have y := S.N p (List.mem_append_right _ hp)
    exact ⟨(hs.2 _ (S.off p hp D (List.mem_map.mpr ⟨_, hmem, rfl⟩))).trans y.1, y.2⟩

/-- a local is stored -/
theorem St.store (S : St hb L m led imm own R s) {m' : Str → Option Value} {h' : Heap} (tk : Nat) (hn : h'.Ns L m') (hs : Heap.SameBut L s.heap h') : St hb L m' led imm own R { s with heap := h', toks := tk } :=
  ⟨S.F.set hn hs, S.N.set hs, S.nd, S.off, S.sep, S.r⟩

end
end Mine

-- part M2
namespace Mine
open PySem PySem.W PyProof.Rows PySem.Calls

abbrev NoE : Value → Shared → Prop := fun _ _ => False

section
variable {prog : Program} {w : World} {A : Around} {s : Shared} {env : Env}
variable {hb : Heap} {L : Addr} {m : Str → Option Value} {led imm own : Led} {R : Rest}
variable {Q : Value → Shared → Prop} {QF : Flow → Shared → Prop} {QB : Bool → Shared → Prop} {QU : Unit → Shared → Prop} {QL : List Value → Shared → Prop}

-- constants
theorem r_int {i : Int} {k pos} (S : St hb L m led imm own R s) (h : ∀ t s', St hb L m led imm own R s' → Q (.int i t) s') :
    wpAny (model prog w) A (eval (.Constant (.int i) k pos) env) Q NoE s := wpAny_Constant_int (h _ _ (S.tok _))
theorem r_str {x : Str} {k pos} (S : St hb L m led imm own R s) (h : ∀ t s', St hb L m led imm own R s' → Q (.str x t) s') :
    wpAny (model prog w) A (eval (.Constant (.str x) k pos) env) Q NoE s := Constant_str (h _ _ (S.tok _))

-- displays
theorem r_tuple {elts : List Expr} {k : Nat} {pos : Pos}
    (h : wpAny (model prog w) A (spliced (backTo pos (starEach elts env))) (fun vs s₁ => wpAny (model prog w) A (newTuple vs) Q NoE s₁) NoE s) :
    wpAny (model prog w) A (eval (.Tuple elts k pos) env) Q NoE s := Tuple_ h
theorem r_list {elts : List Expr} {pos : Pos}
    (h : wpAny (model prog w) A (spliced (backTo pos (starEach elts env))) (fun vs s₁ => wpAny (model prog w) A (newList vs) Q NoE s₁) NoE s) :
    wpAny (model prog w) A (eval (.List elts pos) env) Q NoE s := List_ h
theorem r_newTuple {vs : List Value} (S : St hb L m led imm own R s)
    (h : ∀ a s', St hb L m led ((a, { cls := .type "tuple", data := .seq vs.toArray }) :: imm) own R s' → Q (.ref a) s') (hsz : decide (vs.length ≤ 1000) = true := by with_unfolding_all rfl) :
    wpAny (model prog w) A (newTuple vs) Q NoE s :=
  wpAny_newObj_type (h _ _ (S.push _ s.toks)) (by
    show vs.toArray.size ≤ sizeLine; rw [List.size_toArray, sizeLine_eq]; have := of_decide_eq_true hsz; omega)
theorem r_newList {vs : List Value} (S : St hb L m led imm own R s)
    (h : ∀ a s', St hb L m led ((a, listOf vs.toArray 0) :: imm) own R s' → (∀ p ∈ imm, a ≠ p.1) → Q (.ref a) s') (hsz : decide (vs.length ≤ 1000) = true := by with_unfolding_all rfl) :
    wpAny (model prog w) A (newList vs) Q NoE s :=
  wpAny_newObj_type (h _ _ (S.push _ s.toks) (fun p hp => Nat.ne_of_gt (Heap.lt_size (S.N p (by simp [hp])).1))) (by
    show vs.toArray.size ≤ sizeLine; rw [List.size_toArray, sizeLine_eq]; have := of_decide_eq_true hsz; omega)

-- ints
theorem r_add {a b : Int} {t u : Tok} (S : St hb L m led imm own R s) (h : ∀ t s', St hb L m led imm own R s' → Q (.int (a + b) t) s') :
    wpAny (model prog w) A (binaryOp .Add (.int a t) (.int b u)) Q NoE s := add_int (h _ _ (S.tok _))
theorem r_sub {a b : Int} {t u : Tok} (S : St hb L m led imm own R s) (h : ∀ t s', St hb L m led imm own R s' → Q (.int (a - b) t) s') :
    wpAny (model prog w) A (binaryOp .Sub (.int a t) (.int b u)) Q NoE s := sub_int (h _ _ (S.tok _))
theorem r_mul {a b : Int} {t u : Tok} (S : St hb L m led imm own R s) (hm : IntMulOk a b) (h : ∀ t s', St hb L m led imm own R s' → Q (.int (a * b) t) s') :
    wpAny (model prog w) A (binaryOp .Mult (.int a t) (.int b u)) Q NoE s := mul_int (h _ _ (S.tok _)) hm
theorem r_mod {a b : Int} {t u : Tok} (S : St hb L m led imm own R s) (hb0 : b ≠ 0) (h : ∀ t s', St hb L m led imm own R s' → Q (.int (a.fmod b) t) s') :
    wpAny (model prog w) A (binaryOp .Mod (.int a t) (.int b u)) Q NoE s := mod_int' hb0 (h _ _ (S.tok _))
theorem r_iadd {a b : Int} {t u : Tok} (S : St hb L m led imm own R s) (h : ∀ t s', St hb L m led imm own R s' → Q (.int (a + b) t) s') :
    wpAny (model prog w) A (inplaceOp .Add (.int a t) (.int b u)) Q NoE s := iadd_int (h _ _ (S.tok _))
theorem r_isub {a b : Int} {t u : Tok} (S : St hb L m led imm own R s) (h : ∀ t s', St hb L m led imm own R s' → Q (.int (a - b) t) s') :
    wpAny (model prog w) A (inplaceOp .Sub (.int a t) (.int b u)) Q NoE s := isub_int (h _ _ (S.tok _))
theorem r_neg {a : Int} {t : Tok} (S : St hb L m led imm own R s) (h : ∀ t s', St hb L m led imm own R s' → Q (.int (-a) t) s') :
    wpAny (model prog w) A (unaryOp .USub (.int a t)) Q NoE s := neg_int (h _ _ (S.tok _))
theorem r_abs {a : Int} {t : Tok} (S : St hb L m led imm own R s) (h : ∀ t s', St hb L m led imm own R s' → Q (.int (if a < 0 then -a else a) t) s') :
    wpAny (model prog w) A (call (.builtin "abs") [.int a t]) Q NoE s := call_abs_int fun _ _ => h _ _ (S.tok _)
-- texts
theorem r_cat {x y : Str} {t u : Tok} (S : St hb L m led imm own R s) (hx : x.length ≤ 1000000) (hy : y.length ≤ 1000000) (h : ∀ t s', St hb L m led imm own R s' → Q (.str (x ++ y) t) s') :
    wpAny (model prog w) A (binaryOp .Add (.str x t) (.str y u)) Q NoE s :=
  SBL.add (fun _ _ _ => h _ _ (S.tok _)) (by rw [sizeLine_eq]; omega)
theorem r_lenStr {x : Str} {t : Tok} (S : St hb L m led imm own R s) (hx : x.length ≤ 1000000) (h : ∀ t s', St hb L m led imm own R s' → Q (.int x.length t) s') :
    wpAny (model prog w) A (call (.builtin "len") [.str x t]) Q NoE s := SBL.len (by omega) (h _ _ (S.tok _))
theorem r_lenList {l : Addr} {items : Array Value} {n : Nat} (S : St hb L m led imm own R s) (hm : (l, listOf items n) ∈ led ++ (imm ++ own)) (hx : items.size ≤ 1000000)
    (h : ∀ t s', St hb L m led imm own R s' → Q (.int items.size t) s') :
    wpAny (model prog w) A (call (.builtin "len") [.ref l]) Q NoE s := len_list ⟨_, S.mem hm, rfl, n, rfl⟩ (by omega) (h _ _ (S.tok _))
theorem r_in {x y : Str} {t u : Tok} (h : Q (.bool (!(Builtin.Str.occurrences x y 0 x.length 1).isEmpty)) s) :
    wpAny (model prog w) A (compareOp .In (.str y u) (.str x t)) Q NoE s := in_str h

-- calls
theorem r_spliced_nil {pos : Pos} (h : QL [] s) : wpAny (model prog w) A (spliced (backTo pos (starEach [] env))) QL NoE s := spliced_none h

-- items
theorem r_item {value slice : Expr} {a : Addr} {l : List Value} {n : Nat} {k : Int} {u : Tok} {x : Value} (S : St hb L m led imm own R s) (hm : (a, listOf l.toArray n) ∈ led ++ (imm ++ own))
    (h0 : 0 ≤ k) (h1 : k < 2 ^ 63) (hx : l[k.toNat]? = some x) (h : Q x s)
    (hs : subscripted slice false (.ref a) (.int k u) = operate [.ref a, .int k u] (getItem (.ref a) (.int k u)) := by with_unfolding_all rfl) :
    wpAny (model prog w) A (subscriptTail value slice (.ref a) (.int k u)) Q NoE s := kba_turn (value' := .Name "_" default) (fun _ => rfl) (kim_list S.N hm rfl rfl h0 h1 hx h hs (fun _ => rfl))
theorem r_itemT {value slice : Expr} {a : Addr} {l : List Value} {n : Nat} {k : Int} {u : Tok} {x : Value} (S : St hb L m led imm own R s) (hm : (a, ({ cls := .type "tuple", data := .seq l.toArray n } : Obj)) ∈ led ++ (imm ++ own))
    (h0 : 0 ≤ k) (h1 : k < l.length) (h2 : l.length ≤ 1000) (hx : l[k.toNat]? = some x) (h : Q x s)
    (hs : subscripted slice false (.ref a) (.int k u) = operate [.ref a, .int k u] (getItem (.ref a) (.int k u)) := by with_unfolding_all rfl) :
    wpAny (model prog w) A (subscriptTail value slice (.ref a) (.int k u)) Q NoE s :=
  have hn : ¬ k < 0 := by omega
  kba_turn (value' := .Name "_" default) (fun _ => rfl) (kim_tup (j := k.toNat) S.N hm rfl rfl (by omega) (by omega) (by simp [seqIndex?, hn, h0, h1]) hx h hs (fun _ => rfl))
theorem r_back {value slice : Expr} {a : Addr} {l : List Value} {n : Nat} {k : Int} {u : Tok} {x : Value} (S : St hb L m led imm own R s) (hm : (a, listOf l.toArray n) ∈ led ++ (imm ++ own))
    (h0 : k < 0) (h1 : -(l.length : Int) ≤ k) (h2 : l.length ≤ 1000000) (hx : l[(k + (l.length : Int)).toNat]? = some x) (h : Q x s)
    (hs : subscripted slice false (.ref a) (.int k u) = operate [.ref a, .int k u] (getItem (.ref a) (.int k u)) := by with_unfolding_all rfl) :
    wpAny (model prog w) A (subscriptTail value slice (.ref a) (.int k u)) Q NoE s := kba_turn (value' := .Name "_" default) (fun _ => rfl) (kim_back S.N hm rfl rfl h0 h1 (by omega) hx h hs (fun _ => rfl))

-- append, at place k of the ledger
theorem r_append {D : Addr} {its : Array Value} {n k : Nat} {x : Value} {led' : Led} (S : St hb L m led imm own R s) (hk : led[k]? = some (D, listOf its n)) (hsz : its.size ≤ 1000000)
    (hl : led.set k (D, listOf (its.push x) (n + 1)) = led')
    (h : ∀ s', St hb L m led' imm own R s' → Q .none s') : wpAny (model prog w) A (call (.builtin "list.append") [.ref D, x]) Q NoE s := by
  have hkl : k < led.length := (List.getElem?_eq_some_iff.mp hk).1
  have hke : led[k] = (D, listOf its n) := (List.getElem?_eq_some_iff.mp hk).2
  have hmem : (D, listOf its n) ∈ led := hke ▸ List.getElem_mem hkl
  subst hl
  exact append_at (S.mem (List.mem_append_left _ hmem)) (fun h' hs ho => h _ (S.turn _ hk hs ho)) (by rw [sizeLine_eq]; omega)
theorem r_getAppend {D : Addr} {o : Obj} {pl : Sem Bool} {QP : Value × List Value → Shared → Prop} (S : St hb L m led imm own R s) (hm : (D, o) ∈ led ++ (imm ++ own)) (h : QP (.builtin "list.append", [.ref D]) s)
    (hc : o.cls = .type "list" := by with_unfolding_all rfl) (hd : o.dict = none := by with_unfolding_all rfl) : wpAny (model prog w) A (getMethod (.ref D) "append" pl) QP NoE s := getMethod_append_N S.N hm h hc hd

-- names
theorem r_local {x : Str} {pos : Pos} {v : Value} (S : St hb env.locals m led imm own R s) (hv : m x = some v) (hk : env.scope.kind = .function) (hl : env.kindOf x = some .local) (hd : (x == ("__debug__" : Str)) = false)
    (h : Q v s) : wpAny (model prog w) A (eval (.Name x pos) env) Q NoE s := wpAny_Name (wpAny_loadName_local hk hl S.F.ns hv h) hd
theorem r_loadLocal {x : Str} {v : Value} (S : St hb env.locals m led imm own R s) (hv : m x = some v) (hk : env.scope.kind = .function) (hl : env.kindOf x = some .local)
    (h : Q v s) : wpAny (model prog w) A (loadName env x) Q NoE s := wpAny_loadName_local hk hl S.F.ns hv h
theorem r_store {x : Str} {v : Value} {m' : Str → Option Value} (S : St hb env.locals m led imm own R s) (hl : env.kindOf x = some .local)
    (hp : (env.scope.kind == .class || (env.scope.kind == .module && env.locals != env.globals)) = false) (hm : (fun y => if y = x then some v else m y) = m')
    (h : ∀ s', St hb env.locals m' led imm own R s' → QU () s') : wpAny (model prog w) A (storeName env x v) QU NoE s := by
  subst hm
  exact wpAny_storeName_local hl S.F.ns (fun h' hn hs => h _ (S.store _ hn hs)) hp

-- statements, with what follows
theorem x_nil (h : QF .next s) : wpAny (model prog w) A (execs [] env) QF NoE s := wpAny_execs_nil h
theorem x_assign {x : Str} {pos' : Pos} {value : Expr} {pos : Pos} {rest : List Stmt}
    (h : wpAny (model prog w) A (eval value env) (fun v s₁ => wpAny (model prog w) A (storeName env x v) (fun _ s₂ => wpAny (model prog w) A (execs rest env) QF NoE s₂) NoE s₁) NoE s)
    (hw : swapsWith value (some (Expr.Name x pos')) pos.line env = pure false := by with_unfolding_all rfl) :
    wpAny (model prog w) A (execs (.Assign [.Name x pos'] value pos :: rest) env) QF NoE s := wpAny_execs_cons (wpAny_Assign_Name h hw)
theorem x_aug {x : Str} {pos' : Pos} {op : Operator} {value : Expr} {pos : Pos} {rest : List Stmt}
    (h : wpAny (model prog w) A (loadName env x) (fun old s₁ => wpAny (model prog w) A (eval value env) (fun v s₂ => wpAny (model prog w) A (inplaceOp op old v) (fun r s₃ => wpAny (model prog w) A (storeName env x r) (fun _ s₄ => wpAny (model prog w) A (execs rest env) QF NoE s₄) NoE s₃) NoE s₂) NoE s₁) NoE s) :
    wpAny (model prog w) A (execs (.AugAssign (.Name x pos') op value pos :: rest) env) QF NoE s := wpAny_execs_cons (wpAny_AugAssign_Name h)
theorem x_expr {e : Expr} {pos : Pos} {rest : List Stmt}
    (h : wpAny (model prog w) A (eval e env) (fun v s' => v = .none ∧ wpAny (model prog w) A (execs rest env) QF NoE s') NoE s)
    (hi : interactive env = false := by with_unfolding_all rfl) (hw : swapsWith e none pos.line env = pure false := by with_unfolding_all rfl) :
    wpAny (model prog w) A (execs (.Expr e pos :: rest) env) QF NoE s :=
  wpAny_execs_cons (wpAny_Expr (wpAny_mono h (fun v s' hv => by obtain ⟨rfl, hv⟩ := hv; exact hv) fun _ _ x => x) hi hw)
theorem x_return {e : Expr} {pos : Pos} {rest : List Stmt} (h : wpAny (model prog w) A (eval e env) (fun v => QF (.ret v)) NoE s) :
    wpAny (model prog w) A (execs (.Return (some e) pos :: rest) env) QF NoE s :=
  wpAny_execs_cons (wpAny_Return_some (wpAny_mono h (fun _ _ x => x) fun _ _ x => x))
theorem x_setItem {o i : Expr} {pos' : Pos} {value : Expr} {pos : Pos} {rest : List Stmt}
    (h : wpAny (model prog w) A (eval value env) (fun v s₁ => wpAny (model prog w) A (eval o env) (fun ov s₂ => wpAny (model prog w) A (eval i env) (fun iv s₃ => wpAny (model prog w) A (setItem ov iv v) (fun _ s₄ => wpAny (model prog w) A (execs rest env) QF NoE s₄) NoE s₃) NoE s₂) NoE s₁) NoE s)
    (hw : swapsWith value (some (o.Subscript i pos')) pos.line env = pure false := by with_unfolding_all rfl) :
    wpAny (model prog w) A (execs (.Assign [.Subscript o i pos'] value pos :: rest) env) QF NoE s := wpAny_execs_cons (wpAny_Assign_Subscript h hw)
/-- an if at the end of its block -/
theorem x_ifLast {test : Expr} {body orelse : List Stmt} {pos : Pos}
    (h : wpAny (model prog w) A (isTrue test env (eval test env)) (fun b s₂ => if b = true then wpAny (model prog w) A (execs body env) QF NoE s₂ else wpAny (model prog w) A (execs orelse env) QF NoE s₂) NoE s) :
    wpAny (model prog w) A (execs [.If test body orelse pos] env) QF NoE s :=
  wpAny_execs_cons (wpAny_If (wpAny_mono h (fun b s₂ hb => by
    have e : ∀ bl : List Stmt, wpAny (model prog w) A (execs bl env) QF NoE s₂ → wpAny (model prog w) A (execs bl env) (fun f s' => match f with
        | Flow.next => wpAny (model prog w) A (execs [] env) QF NoE s'
        | f => QF f s') NoE s₂ := fun bl hbl => wpAny_mono hbl (fun f s' hf => by cases f <;> first | exact wpAny_execs_nil hf | exact hf) fun _ _ x => x
    cases b
    · exact e _ hb
    · exact e _ hb) fun _ _ x => x))
/-- a statement by what holds behind it -/
theorem x_cut {st : Stmt} {rest : List Stmt} (Mid : Shared → Prop) (h1 : wpAny (model prog w) A (execs [st] env) (fun f s' => f = .next ∧ Mid s') NoE s)
    (h2 : ∀ s', Mid s' → wpAny (model prog w) A (execs rest env) QF NoE s') : wpAny (model prog w) A (execs (st :: rest) env) QF NoE s := by
  refine wpAny_execs_cons ?_
  have key : wpAny (model prog w) A (exec st env) (fun f s' => f = .next ∧ Mid s') NoE s := by
    intro Γ p hΓ
    have := h1 Γ p hΓ
    rw [execs_cons, Sem.wp_bind'] at this
    refine Sem.wp_mono _ Γ _ (fun f p' s' hf => ?_) (fun _ _ _ x => x) p s this
    cases f with
    | next => exact hf
    | _ => exact hf
  refine wpAny_mono key (fun f s' hf => ?_) fun _ _ x => x
  obtain ⟨rfl, hm⟩ := hf
  exact h2 s' hm
end
end Mine
namespace Mine
open PySem PySem.W PyProof.Rows PySem.Calls
/-- what follows a statement -/
def Cont (prog : Program) (w : World) (A : Around) (rest : List Stmt) (env : Env) (QF : Flow → Shared → Prop) : Flow → Shared → Prop
  | .next, s => wpAny (model prog w) A (execs rest env) QF NoE s
  | f, s => QF f s
section
variable {prog : Program} {w : World} {A : Around} {s : Shared} {env : Env}
variable {hb : Heap} {L : Addr} {m : Str → Option Value} {led imm own : Led} {R : Rest}
variable {Q : Value → Shared → Prop} {QF : Flow → Shared → Prop} {QB : Bool → Shared → Prop} {QU : Unit → Shared → Prop}
theorem cont_next {rest : List Stmt} (h : wpAny (model prog w) A (execs rest env) QF NoE s) : Cont prog w A rest env QF .next s := h
theorem cont_ret {rest : List Stmt} {v : Value} (h : QF (.ret v) s) : Cont prog w A rest env QF (.ret v) s := h
theorem x_if {test : Expr} {body orelse rest : List Stmt} {pos : Pos}
    (h : wpAny (model prog w) A (isTrue test env (eval test env)) (fun b s₂ => if b = true then wpAny (model prog w) A (execs body env) (Cont prog w A rest env QF) NoE s₂ else wpAny (model prog w) A (execs orelse env) (Cont prog w A rest env QF) NoE s₂) NoE s) :
    wpAny (model prog w) A (execs (.If test body orelse pos :: rest) env) QF NoE s :=
  wpAny_execs_cons (wpAny_If (wpAny_mono h (fun b s₂ hb => by
    have e : ∀ bl : List Stmt, wpAny (model prog w) A (execs bl env) (Cont prog w A rest env QF) NoE s₂ → wpAny (model prog w) A (execs bl env) (fun f s' => match f with
        | Flow.next => wpAny (model prog w) A (execs rest env) QF NoE s'
        | f => QF f s') NoE s₂ := fun bl hbl => wpAny_mono hbl (fun f s' hf => by cases f <;> exact hf) fun _ _ x => x
    cases b
    · exact e _ hb
    · exact e _ hb) fun _ _ x => x))
theorem b_dec {c : Prop} [Decidable c] {P P' : Prop} (h1 : c → P) (h2 : ¬ c → P') : if decide c = true then P else P' := split_dec h1 h2
theorem r_lt {a b : Int} {t u : Tok} (h : Q (.bool (decide (a < b))) s) : wpAny (model prog w) A (compareOp .Lt (.int a t) (.int b u)) Q NoE s := lt_int h
theorem r_eqi {a b : Int} {t u : Tok} (h : Q (.bool (decide (a = b))) s) : wpAny (model prog w) A (compareOp .Eq (.int a t) (.int b u)) Q NoE s := by
  have e : (a == b) = decide (a = b) := by by_cases h : a = b <;> simp [h]
  exact eq_int (e ▸ h)
theorem r_nei {a b : Int} {t u : Tok} (h : Q (.bool (decide (a ≠ b))) s) : wpAny (model prog w) A (compareOp .NotEq (.int a t) (.int b u)) Q NoE s := by
  have e : (a != b) = decide (a ≠ b) := by by_cases h : a = b <;> simp [h]
  exact ne_int (e ▸ h)
/-- a cell of a list at a written place is stored -/
theorem r_setItem {D : Addr} {its : Array Value} {n k j : Nat} {i : Int} {t : Tok} {v : Value} {led' : Led} (S : St hb L m led imm own R s) (hk : led[k]? = some (D, listOf its n)) (h0 : 0 ≤ i) (hj : i.toNat = j) (hi : j < its.size) (hs : i < 1000000)
    (hl : led.set k (D, listOf (its.setIfInBounds j v) n) = led')
    (h : ∀ s', St hb L m led' imm own R s' → QU () s') : wpAny (model prog w) A (setItem (.ref D) (.int i t) v) QU NoE s := by
  have hkl : k < led.length := (List.getElem?_eq_some_iff.mp hk).1
  have hke : led[k] = (D, listOf its n) := (List.getElem?_eq_some_iff.mp hk).2
  have hmem : (D, listOf its n) ∈ led := hke ▸ List.getElem_mem hkl
  subst hl hj
  have ho : s.heap.get? D = some (listOf its n) := S.mem (List.mem_append_left _ hmem)
  refine ki_setAt ho h0 (by omega) (by omega) (h _ (S.turn s.toks hk (Heap.SameBut.update ..) ?_))
  have q := PySem.IsL.update ho (·.setIfInBounds i.toNat v)
  rw [show (its.setIfInBounds i.toNat v).size = its.size by simp] at q
  simpa using q
end
end Mine

-- part M3
namespace Mine
open PySem PySem.W PyProof.Rows PySem.Calls

def dBody : Stmt → List Stmt
  | .FunctionDef _ _ b _ _ _ _ _ _ _ => b
  | .For _ _ b _ _ => b
  | .If _ b _ _ => b
  | _ => []
def dElse : Stmt → List Stmt
  | .If _ _ b _ => b
  | _ => []
def dScope : Stmt → Scope
  | .FunctionDef _ _ _ _ _ _ sc _ _ _ => sc
  | _ => default
def nth (l : List Stmt) (n : Nat) : Stmt := l.getD n (.Pass default)
def top (n : Nat) : Stmt := nth PySem.Challenge.pw_ew5014_01.main.body n

section
variable {prog : Program} {w : World} {A : Around} {s : Shared} {hb : Heap} {L : Addr} {led imm own : Led} {R : Rest} {v : Value}
variable {Q : Value → Shared → Prop} {QU : Unit → Shared → Prop} {pos : Pos}

def nScope : Scope := dScope (top 4)
def nBody : List Stmt := dBody (top 4)
def nenv (L : Addr) : Env := envOf "_law_next" nScope L 50 (.ref 49)
def nm (v0 v1 v2 : Option Value) : Str → Option Value := fun x =>
  if x = "state" then v0 else if x = "many" then v1 else if x = "found" then v2 else none
variable {v0 v1 v2 : Option Value}
theorem nk_state : (nenv L).kindOf "state" = some .local := by rfl
theorem ng_state : nm v0 v1 v2 "state" = v0 := by rfl
theorem ns_state : (fun (y : Str) => if y = ("state" : Str) then some v else nm v0 v1 v2 y) = nm (some v) v1 v2 := by
  funext y
  by_cases h : y = ("state" : Str)
  · subst h; rw [if_pos rfl]; exact ng_state.symm
  · simp only [nm, if_neg h]
theorem n_ld_state (S : St hb L (nm v0 v1 v2) led imm own R s) (hv : v0 = some v) (h : Q v s) : wpAny (model prog w) A (eval (.Name "state" pos) (nenv L)) Q NoE s := r_local (env := nenv L) S (ng_state.trans hv) rfl nk_state (by decide) h
theorem n_ll_state (S : St hb L (nm v0 v1 v2) led imm own R s) (hv : v0 = some v) (h : Q v s) : wpAny (model prog w) A (loadName (nenv L) "state") Q NoE s := r_loadLocal (env := nenv L) S (ng_state.trans hv) rfl nk_state h
theorem n_st_state (S : St hb L (nm v0 v1 v2) led imm own R s) (h : ∀ s', St hb L (nm (some v) v1 v2) led imm own R s' → QU () s') : wpAny (model prog w) A (storeName (nenv L) "state" v) QU NoE s := r_store (env := nenv L) S nk_state (by rfl) ns_state h
theorem nk_many : (nenv L).kindOf "many" = some .local := by rfl
theorem ng_many : nm v0 v1 v2 "many" = v1 := by rfl
theorem ns_many : (fun (y : Str) => if y = ("many" : Str) then some v else nm v0 v1 v2 y) = nm v0 (some v) v2 := by
  funext y
  by_cases h : y = ("many" : Str)
  · subst h; rw [if_pos rfl]; exact ng_many.symm
  · simp only [nm, if_neg h]
theorem n_ld_many (S : St hb L (nm v0 v1 v2) led imm own R s) (hv : v1 = some v) (h : Q v s) : wpAny (model prog w) A (eval (.Name "many" pos) (nenv L)) Q NoE s := r_local (env := nenv L) S (ng_many.trans hv) rfl nk_many (by decide) h
theorem n_ll_many (S : St hb L (nm v0 v1 v2) led imm own R s) (hv : v1 = some v) (h : Q v s) : wpAny (model prog w) A (loadName (nenv L) "many") Q NoE s := r_loadLocal (env := nenv L) S (ng_many.trans hv) rfl nk_many h
theorem n_st_many (S : St hb L (nm v0 v1 v2) led imm own R s) (h : ∀ s', St hb L (nm v0 (some v) v2) led imm own R s' → QU () s') : wpAny (model prog w) A (storeName (nenv L) "many" v) QU NoE s := r_store (env := nenv L) S nk_many (by rfl) ns_many h
theorem nk_found : (nenv L).kindOf "found" = some .local := by rfl
theorem ng_found : nm v0 v1 v2 "found" = v2 := by rfl
theorem ns_found : (fun (y : Str) => if y = ("found" : Str) then some v else nm v0 v1 v2 y) = nm v0 v1 (some v) := by
  funext y
  by_cases h : y = ("found" : Str)
  · subst h; rw [if_pos rfl]; exact ng_found.symm
  · simp only [nm, if_neg h]
theorem n_ld_found (S : St hb L (nm v0 v1 v2) led imm own R s) (hv : v2 = some v) (h : Q v s) : wpAny (model prog w) A (eval (.Name "found" pos) (nenv L)) Q NoE s := r_local (env := nenv L) S (ng_found.trans hv) rfl nk_found (by decide) h
theorem n_ll_found (S : St hb L (nm v0 v1 v2) led imm own R s) (hv : v2 = some v) (h : Q v s) : wpAny (model prog w) A (loadName (nenv L) "found") Q NoE s := r_loadLocal (env := nenv L) S (ng_found.trans hv) rfl nk_found h
theorem n_st_found (S : St hb L (nm v0 v1 v2) led imm own R s) (h : ∀ s', St hb L (nm v0 v1 (some v)) led imm own R s' → QU () s') : wpAny (model prog w) A (storeName (nenv L) "found" v) QU NoE s := r_store (env := nenv L) S nk_found (by rfl) ns_found h
def bScope : Scope := dScope (top 5)
def bBody : List Stmt := dBody (top 5)
def benv (L : Addr) : Env := envOf "_law_build" bScope L 57 (.ref 56)
def bm (v0 v1 v2 v3 v4 v5 v6 v7 v8 v9 v10 v11 v12 v13 v14 v15 v16 v17 v18 v19 v20 : Option Value) : Str → Option Value := fun x =>
  if x = "state" then v0 else if x = "rows" then v1 else if x = "tokens" then v2 else if x = "due" then v3 else if x = "closers" then v4 else if x = "text" then v5 else if x = "ahead" then v6 else if x = "many" then v7 else if x = "pairs" then v8 else if x = "at" then v9 else if x = "row" then v10 else if x = "_" then v11 else if x = "pick" then v12 else if x = "col" then v13 else if x = "word" then v14 else if x = "sign" then v15 else if x = "first" then v16 else if x = "second" then v17 else if x = "ending" then v18 else if x = "form" then v19 else if x = "remark" then v20 else none
variable {v0 v1 v2 v3 v4 v5 v6 v7 v8 v9 v10 v11 v12 v13 v14 v15 v16 v17 v18 v19 v20 : Option Value}
theorem bk_state : (benv L).kindOf "state" = some .local := by rfl
theorem bg_state : bm v0 v1 v2 v3 v4 v5 v6 v7 v8 v9 v10 v11 v12 v13 v14 v15 v16 v17 v18 v19 v20 "state" = v0 := by rfl
theorem bs_state : (fun (y : Str) => if y = ("state" : Str) then some v else bm v0 v1 v2 v3 v4 v5 v6 v7 v8 v9 v10 v11 v12 v13 v14 v15 v16 v17 v18 v19 v20 y) = bm (some v) v1 v2 v3 v4 v5 v6 v7 v8 v9 v10 v11 v12 v13 v14 v15 v16 v17 v18 v19 v20 := by
  funext y
  by_cases h : y = ("state" : Str)
  · subst h; rw [if_pos rfl]; exact bg_state.symm
  · simp only [bm, if_neg h]
theorem b_ld_state (S : St hb L (bm v0 v1 v2 v3 v4 v5 v6 v7 v8 v9 v10 v11 v12 v13 v14 v15 v16 v17 v18 v19 v20) led imm own R s) (hv : v0 = some v) (h : Q v s) : wpAny (model prog w) A (eval (.Name "state" pos) (benv L)) Q NoE s := r_local (env := benv L) S (bg_state.trans hv) rfl bk_state (by decide) h
theorem b_ll_state (S : St hb L (bm v0 v1 v2 v3 v4 v5 v6 v7 v8 v9 v10 v11 v12 v13 v14 v15 v16 v17 v18 v19 v20) led imm own R s) (hv : v0 = some v) (h : Q v s) : wpAny (model prog w) A (loadName (benv L) "state") Q NoE s := r_loadLocal (env := benv L) S (bg_state.trans hv) rfl bk_state h
theorem b_st_state (S : St hb L (bm v0 v1 v2 v3 v4 v5 v6 v7 v8 v9 v10 v11 v12 v13 v14 v15 v16 v17 v18 v19 v20) led imm own R s) (h : ∀ s', St hb L (bm (some v) v1 v2 v3 v4 v5 v6 v7 v8 v9 v10 v11 v12 v13 v14 v15 v16 v17 v18 v19 v20) led imm own R s' → QU () s') : wpAny (model prog w) A (storeName (benv L) "state" v) QU NoE s := r_store (env := benv L) S bk_state (by rfl) bs_state h
theorem bk_rows : (benv L).kindOf "rows" = some .local := by rfl
theorem bg_rows : bm v0 v1 v2 v3 v4 v5 v6 v7 v8 v9 v10 v11 v12 v13 v14 v15 v16 v17 v18 v19 v20 "rows" = v1 := by rfl
theorem bs_rows : (fun (y : Str) => if y = ("rows" : Str) then some v else bm v0 v1 v2 v3 v4 v5 v6 v7 v8 v9 v10 v11 v12 v13 v14 v15 v16 v17 v18 v19 v20 y) = bm v0 (some v) v2 v3 v4 v5 v6 v7 v8 v9 v10 v11 v12 v13 v14 v15 v16 v17 v18 v19 v20 := by
  funext y
  by_cases h : y = ("rows" : Str)
  · subst h; rw [if_pos rfl]; exact bg_rows.symm
  · simp only [bm, if_neg h]
theorem b_ld_rows (S : St hb L (bm v0 v1 v2 v3 v4 v5 v6 v7 v8 v9 v10 v11 v12 v13 v14 v15 v16 v17 v18 v19 v20) led imm own R s) (hv : v1 = some v) (h : Q v s) : wpAny (model prog w) A (eval (.Name "rows" pos) (benv L)) Q NoE s := r_local (env := benv L) S (bg_rows.trans hv) rfl bk_rows (by decide) h
theorem b_ll_rows (S : St hb L (bm v0 v1 v2 v3 v4 v5 v6 v7 v8 v9 v10 v11 v12 v13 v14 v15 v16 v17 v18 v19 v20) led imm own R s) (hv : v1 = some v) (h : Q v s) : wpAny (model prog w) A (loadName (benv L) "rows") Q NoE s := r_loadLocal (env := benv L) S (bg_rows.trans hv) rfl bk_rows h
theorem b_st_rows (S : St hb L (bm v0 v1 v2 v3 v4 v5 v6 v7 v8 v9 v10 v11 v12 v13 v14 v15 v16 v17 v18 v19 v20) led imm own R s) (h : ∀ s', St hb L (bm v0 (some v) v2 v3 v4 v5 v6 v7 v8 v9 v10 v11 v12 v13 v14 v15 v16 v17 v18 v19 v20) led imm own R s' → QU () s') : wpAny (model prog w) A (storeName (benv L) "rows" v) QU NoE s := r_store (env := benv L) S bk_rows (by rfl) bs_rows h
theorem bk_tokens : (benv L).kindOf "tokens" = some .local := by rfl
theorem bg_tokens : bm v0 v1 v2 v3 v4 v5 v6 v7 v8 v9 v10 v11 v12 v13 v14 v15 v16 v17 v18 v19 v20 "tokens" = v2 := by rfl
theorem bs_tokens : (fun (y : Str) => if y = ("tokens" : Str) then some v else bm v0 v1 v2 v3 v4 v5 v6 v7 v8 v9 v10 v11 v12 v13 v14 v15 v16 v17 v18 v19 v20 y) = bm v0 v1 (some v) v3 v4 v5 v6 v7 v8 v9 v10 v11 v12 v13 v14 v15 v16 v17 v18 v19 v20 := by
  funext y
  by_cases h : y = ("tokens" : Str)
  · subst h; rw [if_pos rfl]; exact bg_tokens.symm
  · simp only [bm, if_neg h]
theorem b_ld_tokens (S : St hb L (bm v0 v1 v2 v3 v4 v5 v6 v7 v8 v9 v10 v11 v12 v13 v14 v15 v16 v17 v18 v19 v20) led imm own R s) (hv : v2 = some v) (h : Q v s) : wpAny (model prog w) A (eval (.Name "tokens" pos) (benv L)) Q NoE s := r_local (env := benv L) S (bg_tokens.trans hv) rfl bk_tokens (by decide) h
theorem b_ll_tokens (S : St hb L (bm v0 v1 v2 v3 v4 v5 v6 v7 v8 v9 v10 v11 v12 v13 v14 v15 v16 v17 v18 v19 v20) led imm own R s) (hv : v2 = some v) (h : Q v s) : wpAny (model prog w) A (loadName (benv L) "tokens") Q NoE s := r_loadLocal (env := benv L) S (bg_tokens.trans hv) rfl bk_tokens h
theorem b_st_tokens (S : St hb L (bm v0 v1 v2 v3 v4 v5 v6 v7 v8 v9 v10 v11 v12 v13 v14 v15 v16 v17 v18 v19 v20) led imm own R s) (h : ∀ s', St hb L (bm v0 v1 (some v) v3 v4 v5 v6 v7 v8 v9 v10 v11 v12 v13 v14 v15 v16 v17 v18 v19 v20) led imm own R s' → QU () s') : wpAny (model prog w) A (storeName (benv L) "tokens" v) QU NoE s := r_store (env := benv L) S bk_tokens (by rfl) bs_tokens h
theorem bk_due : (benv L).kindOf "due" = some .local := by rfl
theorem bg_due : bm v0 v1 v2 v3 v4 v5 v6 v7 v8 v9 v10 v11 v12 v13 v14 v15 v16 v17 v18 v19 v20 "due" = v3 := by rfl
theorem bs_due : (fun (y : Str) => if y = ("due" : Str) then some v else bm v0 v1 v2 v3 v4 v5 v6 v7 v8 v9 v10 v11 v12 v13 v14 v15 v16 v17 v18 v19 v20 y) = bm v0 v1 v2 (some v) v4 v5 v6 v7 v8 v9 v10 v11 v12 v13 v14 v15 v16 v17 v18 v19 v20 := by
  funext y
  by_cases h : y = ("due" : Str)
  · subst h; rw [if_pos rfl]; exact bg_due.symm
  · simp only [bm, if_neg h]
theorem b_ld_due (S : St hb L (bm v0 v1 v2 v3 v4 v5 v6 v7 v8 v9 v10 v11 v12 v13 v14 v15 v16 v17 v18 v19 v20) led imm own R s) (hv : v3 = some v) (h : Q v s) : wpAny (model prog w) A (eval (.Name "due" pos) (benv L)) Q NoE s := r_local (env := benv L) S (bg_due.trans hv) rfl bk_due (by decide) h
theorem b_ll_due (S : St hb L (bm v0 v1 v2 v3 v4 v5 v6 v7 v8 v9 v10 v11 v12 v13 v14 v15 v16 v17 v18 v19 v20) led imm own R s) (hv : v3 = some v) (h : Q v s) : wpAny (model prog w) A (loadName (benv L) "due") Q NoE s := r_loadLocal (env := benv L) S (bg_due.trans hv) rfl bk_due h
theorem b_st_due (S : St hb L (bm v0 v1 v2 v3 v4 v5 v6 v7 v8 v9 v10 v11 v12 v13 v14 v15 v16 v17 v18 v19 v20) led imm own R s) (h : ∀ s', St hb L (bm v0 v1 v2 (some v) v4 v5 v6 v7 v8 v9 v10 v11 v12 v13 v14 v15 v16 v17 v18 v19 v20) led imm own R s' → QU () s') : wpAny (model prog w) A (storeName (benv L) "due" v) QU NoE s := r_store (env := benv L) S bk_due (by rfl) bs_due h
theorem bk_closers : (benv L).kindOf "closers" = some .local := by rfl
theorem bg_closers : bm v0 v1 v2 v3 v4 v5 v6 v7 v8 v9 v10 v11 v12 v13 v14 v15 v16 v17 v18 v19 v20 "closers" = v4 := by rfl
theorem bs_closers : (fun (y : Str) => if y = ("closers" : Str) then some v else bm v0 v1 v2 v3 v4 v5 v6 v7 v8 v9 v10 v11 v12 v13 v14 v15 v16 v17 v18 v19 v20 y) = bm v0 v1 v2 v3 (some v) v5 v6 v7 v8 v9 v10 v11 v12 v13 v14 v15 v16 v17 v18 v19 v20 := by
  funext y
  by_cases h : y = ("closers" : Str)
  · subst h; rw [if_pos rfl]; exact bg_closers.symm
  · simp only [bm, if_neg h]
theorem b_ld_closers (S : St hb L (bm v0 v1 v2 v3 v4 v5 v6 v7 v8 v9 v10 v11 v12 v13 v14 v15 v16 v17 v18 v19 v20) led imm own R s) (hv : v4 = some v) (h : Q v s) : wpAny (model prog w) A (eval (.Name "closers" pos) (benv L)) Q NoE s := r_local (env := benv L) S (bg_closers.trans hv) rfl bk_closers (by decide) h
theorem b_ll_closers (S : St hb L (bm v0 v1 v2 v3 v4 v5 v6 v7 v8 v9 v10 v11 v12 v13 v14 v15 v16 v17 v18 v19 v20) led imm own R s) (hv : v4 = some v) (h : Q v s) : wpAny (model prog w) A (loadName (benv L) "closers") Q NoE s := r_loadLocal (env := benv L) S (bg_closers.trans hv) rfl bk_closers h
theorem b_st_closers (S : St hb L (bm v0 v1 v2 v3 v4 v5 v6 v7 v8 v9 v10 v11 v12 v13 v14 v15 v16 v17 v18 v19 v20) led imm own R s) (h : ∀ s', St hb L (bm v0 v1 v2 v3 (some v) v5 v6 v7 v8 v9 v10 v11 v12 v13 v14 v15 v16 v17 v18 v19 v20) led imm own R s' → QU () s') : wpAny (model prog w) A (storeName (benv L) "closers" v) QU NoE s := r_store (env := benv L) S bk_closers (by rfl) bs_closers h
theorem bk_text : (benv L).kindOf "text" = some .local := by rfl
theorem bg_text : bm v0 v1 v2 v3 v4 v5 v6 v7 v8 v9 v10 v11 v12 v13 v14 v15 v16 v17 v18 v19 v20 "text" = v5 := by rfl
theorem bs_text : (fun (y : Str) => if y = ("text" : Str) then some v else bm v0 v1 v2 v3 v4 v5 v6 v7 v8 v9 v10 v11 v12 v13 v14 v15 v16 v17 v18 v19 v20 y) = bm v0 v1 v2 v3 v4 (some v) v6 v7 v8 v9 v10 v11 v12 v13 v14 v15 v16 v17 v18 v19 v20 := by
  funext y
  by_cases h : y = ("text" : Str)
  · subst h; rw [if_pos rfl]; exact bg_text.symm
  · simp only [bm, if_neg h]
theorem b_ld_text (S : St hb L (bm v0 v1 v2 v3 v4 v5 v6 v7 v8 v9 v10 v11 v12 v13 v14 v15 v16 v17 v18 v19 v20) led imm own R s) (hv : v5 = some v) (h : Q v s) : wpAny (model prog w) A (eval (.Name "text" pos) (benv L)) Q NoE s := r_local (env := benv L) S (bg_text.trans hv) rfl bk_text (by decide) h
theorem b_ll_text (S : St hb L (bm v0 v1 v2 v3 v4 v5 v6 v7 v8 v9 v10 v11 v12 v13 v14 v15 v16 v17 v18 v19 v20) led imm own R s) (hv : v5 = some v) (h : Q v s) : wpAny (model prog w) A (loadName (benv L) "text") Q NoE s := r_loadLocal (env := benv L) S (bg_text.trans hv) rfl bk_text h
theorem b_st_text (S : St hb L (bm v0 v1 v2 v3 v4 v5 v6 v7 v8 v9 v10 v11 v12 v13 v14 v15 v16 v17 v18 v19 v20) led imm own R s) (h : ∀ s', St hb L (bm v0 v1 v2 v3 v4 (some v) v6 v7 v8 v9 v10 v11 v12 v13 v14 v15 v16 v17 v18 v19 v20) led imm own R s' → QU () s') : wpAny (model prog w) A (storeName (benv L) "text" v) QU NoE s := r_store (env := benv L) S bk_text (by rfl) bs_text h
theorem bk_ahead : (benv L).kindOf "ahead" = some .local := by rfl
theorem bg_ahead : bm v0 v1 v2 v3 v4 v5 v6 v7 v8 v9 v10 v11 v12 v13 v14 v15 v16 v17 v18 v19 v20 "ahead" = v6 := by rfl
theorem bs_ahead : (fun (y : Str) => if y = ("ahead" : Str) then some v else bm v0 v1 v2 v3 v4 v5 v6 v7 v8 v9 v10 v11 v12 v13 v14 v15 v16 v17 v18 v19 v20 y) = bm v0 v1 v2 v3 v4 v5 (some v) v7 v8 v9 v10 v11 v12 v13 v14 v15 v16 v17 v18 v19 v20 := by
  funext y
  by_cases h : y = ("ahead" : Str)
  · subst h; rw [if_pos rfl]; exact bg_ahead.symm
  · simp only [bm, if_neg h]
theorem b_ld_ahead (S : St hb L (bm v0 v1 v2 v3 v4 v5 v6 v7 v8 v9 v10 v11 v12 v13 v14 v15 v16 v17 v18 v19 v20) led imm own R s) (hv : v6 = some v) (h : Q v s) : wpAny (model prog w) A (eval (.Name "ahead" pos) (benv L)) Q NoE s := r_local (env := benv L) S (bg_ahead.trans hv) rfl bk_ahead (by decide) h
theorem b_ll_ahead (S : St hb L (bm v0 v1 v2 v3 v4 v5 v6 v7 v8 v9 v10 v11 v12 v13 v14 v15 v16 v17 v18 v19 v20) led imm own R s) (hv : v6 = some v) (h : Q v s) : wpAny (model prog w) A (loadName (benv L) "ahead") Q NoE s := r_loadLocal (env := benv L) S (bg_ahead.trans hv) rfl bk_ahead h
theorem b_st_ahead (S : St hb L (bm v0 v1 v2 v3 v4 v5 v6 v7 v8 v9 v10 v11 v12 v13 v14 v15 v16 v17 v18 v19 v20) led imm own R s) (h : ∀ s', St hb L (bm v0 v1 v2 v3 v4 v5 (some v) v7 v8 v9 v10 v11 v12 v13 v14 v15 v16 v17 v18 v19 v20) led imm own R s' → QU () s') : wpAny (model prog w) A (storeName (benv L) "ahead" v) QU NoE s := r_store (env := benv L) S bk_ahead (by rfl) bs_ahead h
theorem bk_many : (benv L).kindOf "many" = some .local := by rfl
theorem bg_many : bm v0 v1 v2 v3 v4 v5 v6 v7 v8 v9 v10 v11 v12 v13 v14 v15 v16 v17 v18 v19 v20 "many" = v7 := by rfl
theorem bs_many : (fun (y : Str) => if y = ("many" : Str) then some v else bm v0 v1 v2 v3 v4 v5 v6 v7 v8 v9 v10 v11 v12 v13 v14 v15 v16 v17 v18 v19 v20 y) = bm v0 v1 v2 v3 v4 v5 v6 (some v) v8 v9 v10 v11 v12 v13 v14 v15 v16 v17 v18 v19 v20 := by
  funext y
  by_cases h : y = ("many" : Str)
  · subst h; rw [if_pos rfl]; exact bg_many.symm
  · simp only [bm, if_neg h]
theorem b_ld_many (S : St hb L (bm v0 v1 v2 v3 v4 v5 v6 v7 v8 v9 v10 v11 v12 v13 v14 v15 v16 v17 v18 v19 v20) led imm own R s) (hv : v7 = some v) (h : Q v s) : wpAny (model prog w) A (eval (.Name "many" pos) (benv L)) Q NoE s := r_local (env := benv L) S (bg_many.trans hv) rfl bk_many (by decide) h
theorem b_ll_many (S : St hb L (bm v0 v1 v2 v3 v4 v5 v6 v7 v8 v9 v10 v11 v12 v13 v14 v15 v16 v17 v18 v19 v20) led imm own R s) (hv : v7 = some v) (h : Q v s) : wpAny (model prog w) A (loadName (benv L) "many") Q NoE s := r_loadLocal (env := benv L) S (bg_many.trans hv) rfl bk_many h
theorem b_st_many (S : St hb L (bm v0 v1 v2 v3 v4 v5 v6 v7 v8 v9 v10 v11 v12 v13 v14 v15 v16 v17 v18 v19 v20) led imm own R s) (h : ∀ s', St hb L (bm v0 v1 v2 v3 v4 v5 v6 (some v) v8 v9 v10 v11 v12 v13 v14 v15 v16 v17 v18 v19 v20) led imm own R s' → QU () s') : wpAny (model prog w) A (storeName (benv L) "many" v) QU NoE s := r_store (env := benv L) S bk_many (by rfl) bs_many h
theorem bk_pairs : (benv L).kindOf "pairs" = some .local := by rfl
theorem bg_pairs : bm v0 v1 v2 v3 v4 v5 v6 v7 v8 v9 v10 v11 v12 v13 v14 v15 v16 v17 v18 v19 v20 "pairs" = v8 := by rfl
theorem bs_pairs : (fun (y : Str) => if y = ("pairs" : Str) then some v else bm v0 v1 v2 v3 v4 v5 v6 v7 v8 v9 v10 v11 v12 v13 v14 v15 v16 v17 v18 v19 v20 y) = bm v0 v1 v2 v3 v4 v5 v6 v7 (some v) v9 v10 v11 v12 v13 v14 v15 v16 v17 v18 v19 v20 := by
  funext y
  by_cases h : y = ("pairs" : Str)
  · subst h; rw [if_pos rfl]; exact bg_pairs.symm
  · simp only [bm, if_neg h]
theorem b_ld_pairs (S : St hb L (bm v0 v1 v2 v3 v4 v5 v6 v7 v8 v9 v10 v11 v12 v13 v14 v15 v16 v17 v18 v19 v20) led imm own R s) (hv : v8 = some v) (h : Q v s) : wpAny (model prog w) A (eval (.Name "pairs" pos) (benv L)) Q NoE s := r_local (env := benv L) S (bg_pairs.trans hv) rfl bk_pairs (by decide) h
theorem b_ll_pairs (S : St hb L (bm v0 v1 v2 v3 v4 v5 v6 v7 v8 v9 v10 v11 v12 v13 v14 v15 v16 v17 v18 v19 v20) led imm own R s) (hv : v8 = some v) (h : Q v s) : wpAny (model prog w) A (loadName (benv L) "pairs") Q NoE s := r_loadLocal (env := benv L) S (bg_pairs.trans hv) rfl bk_pairs h
theorem b_st_pairs (S : St hb L (bm v0 v1 v2 v3 v4 v5 v6 v7 v8 v9 v10 v11 v12 v13 v14 v15 v16 v17 v18 v19 v20) led imm own R s) (h : ∀ s', St hb L (bm v0 v1 v2 v3 v4 v5 v6 v7 (some v) v9 v10 v11 v12 v13 v14 v15 v16 v17 v18 v19 v20) led imm own R s' → QU () s') : wpAny (model prog w) A (storeName (benv L) "pairs" v) QU NoE s := r_store (env := benv L) S bk_pairs (by rfl) bs_pairs h
theorem bk_at : (benv L).kindOf "at" = some .local := by rfl
theorem bg_at : bm v0 v1 v2 v3 v4 v5 v6 v7 v8 v9 v10 v11 v12 v13 v14 v15 v16 v17 v18 v19 v20 "at" = v9 := by rfl
theorem bs_at : (fun (y : Str) => if y = ("at" : Str) then some v else bm v0 v1 v2 v3 v4 v5 v6 v7 v8 v9 v10 v11 v12 v13 v14 v15 v16 v17 v18 v19 v20 y) = bm v0 v1 v2 v3 v4 v5 v6 v7 v8 (some v) v10 v11 v12 v13 v14 v15 v16 v17 v18 v19 v20 := by
  funext y
  by_cases h : y = ("at" : Str)
  · subst h; rw [if_pos rfl]; exact bg_at.symm
  · simp only [bm, if_neg h]
theorem b_ld_at (S : St hb L (bm v0 v1 v2 v3 v4 v5 v6 v7 v8 v9 v10 v11 v12 v13 v14 v15 v16 v17 v18 v19 v20) led imm own R s) (hv : v9 = some v) (h : Q v s) : wpAny (model prog w) A (eval (.Name "at" pos) (benv L)) Q NoE s := r_local (env := benv L) S (bg_at.trans hv) rfl bk_at (by decide) h
theorem b_ll_at (S : St hb L (bm v0 v1 v2 v3 v4 v5 v6 v7 v8 v9 v10 v11 v12 v13 v14 v15 v16 v17 v18 v19 v20) led imm own R s) (hv : v9 = some v) (h : Q v s) : wpAny (model prog w) A (loadName (benv L) "at") Q NoE s := r_loadLocal (env := benv L) S (bg_at.trans hv) rfl bk_at h
theorem b_st_at (S : St hb L (bm v0 v1 v2 v3 v4 v5 v6 v7 v8 v9 v10 v11 v12 v13 v14 v15 v16 v17 v18 v19 v20) led imm own R s) (h : ∀ s', St hb L (bm v0 v1 v2 v3 v4 v5 v6 v7 v8 (some v) v10 v11 v12 v13 v14 v15 v16 v17 v18 v19 v20) led imm own R s' → QU () s') : wpAny (model prog w) A (storeName (benv L) "at" v) QU NoE s := r_store (env := benv L) S bk_at (by rfl) bs_at h
theorem bk_row : (benv L).kindOf "row" = some .local := by rfl
theorem bg_row : bm v0 v1 v2 v3 v4 v5 v6 v7 v8 v9 v10 v11 v12 v13 v14 v15 v16 v17 v18 v19 v20 "row" = v10 := by rfl
theorem bs_row : (fun (y : Str) => if y = ("row" : Str) then some v else bm v0 v1 v2 v3 v4 v5 v6 v7 v8 v9 v10 v11 v12 v13 v14 v15 v16 v17 v18 v19 v20 y) = bm v0 v1 v2 v3 v4 v5 v6 v7 v8 v9 (some v) v11 v12 v13 v14 v15 v16 v17 v18 v19 v20 := by
  funext y
  by_cases h : y = ("row" : Str)
  · subst h; rw [if_pos rfl]; exact bg_row.symm
  · simp only [bm, if_neg h]
theorem b_ld_row (S : St hb L (bm v0 v1 v2 v3 v4 v5 v6 v7 v8 v9 v10 v11 v12 v13 v14 v15 v16 v17 v18 v19 v20) led imm own R s) (hv : v10 = some v) (h : Q v s) : wpAny (model prog w) A (eval (.Name "row" pos) (benv L)) Q NoE s := r_local (env := benv L) S (bg_row.trans hv) rfl bk_row (by decide) h
theorem b_ll_row (S : St hb L (bm v0 v1 v2 v3 v4 v5 v6 v7 v8 v9 v10 v11 v12 v13 v14 v15 v16 v17 v18 v19 v20) led imm own R s) (hv : v10 = some v) (h : Q v s) : wpAny (model prog w) A (loadName (benv L) "row") Q NoE s := r_loadLocal (env := benv L) S (bg_row.trans hv) rfl bk_row h
theorem b_st_row (S : St hb L (bm v0 v1 v2 v3 v4 v5 v6 v7 v8 v9 v10 v11 v12 v13 v14 v15 v16 v17 v18 v19 v20) led imm own R s) (h : ∀ s', St hb L (bm v0 v1 v2 v3 v4 v5 v6 v7 v8 v9 (some v) v11 v12 v13 v14 v15 v16 v17 v18 v19 v20) led imm own R s' → QU () s') : wpAny (model prog w) A (storeName (benv L) "row" v) QU NoE s := r_store (env := benv L) S bk_row (by rfl) bs_row h
theorem bk__ : (benv L).kindOf "_" = some .local := by rfl
theorem bg__ : bm v0 v1 v2 v3 v4 v5 v6 v7 v8 v9 v10 v11 v12 v13 v14 v15 v16 v17 v18 v19 v20 "_" = v11 := by rfl
theorem bs__ : (fun (y : Str) => if y = ("_" : Str) then some v else bm v0 v1 v2 v3 v4 v5 v6 v7 v8 v9 v10 v11 v12 v13 v14 v15 v16 v17 v18 v19 v20 y) = bm v0 v1 v2 v3 v4 v5 v6 v7 v8 v9 v10 (some v) v12 v13 v14 v15 v16 v17 v18 v19 v20 := by
  funext y
  by_cases h : y = ("_" : Str)
  · subst h; rw [if_pos rfl]; exact bg__.symm
  · simp only [bm, if_neg h]
theorem b_ld__ (S : St hb L (bm v0 v1 v2 v3 v4 v5 v6 v7 v8 v9 v10 v11 v12 v13 v14 v15 v16 v17 v18 v19 v20) led imm own R s) (hv : v11 = some v) (h : Q v s) : wpAny (model prog w) A (eval (.Name "_" pos) (benv L)) Q NoE s := r_local (env := benv L) S (bg__.trans hv) rfl bk__ (by decide) h
theorem b_ll__ (S : St hb L (bm v0 v1 v2 v3 v4 v5 v6 v7 v8 v9 v10 v11 v12 v13 v14 v15 v16 v17 v18 v19 v20) led imm own R s) (hv : v11 = some v) (h : Q v s) : wpAny (model prog w) A (loadName (benv L) "_") Q NoE s := r_loadLocal (env := benv L) S (bg__.trans hv) rfl bk__ h
theorem b_st__ (S : St hb L (bm v0 v1 v2 v3 v4 v5 v6 v7 v8 v9 v10 v11 v12 v13 v14 v15 v16 v17 v18 v19 v20) led imm own R s) (h : ∀ s', St hb L (bm v0 v1 v2 v3 v4 v5 v6 v7 v8 v9 v10 (some v) v12 v13 v14 v15 v16 v17 v18 v19 v20) led imm own R s' → QU () s') : wpAny (model prog w) A (storeName (benv L) "_" v) QU NoE s := r_store (env := benv L) S bk__ (by rfl) bs__ h
theorem bk_pick : (benv L).kindOf "pick" = some .local := by rfl
theorem bg_pick : bm v0 v1 v2 v3 v4 v5 v6 v7 v8 v9 v10 v11 v12 v13 v14 v15 v16 v17 v18 v19 v20 "pick" = v12 := by rfl
theorem bs_pick : (fun (y : Str) => if y = ("pick" : Str) then some v else bm v0 v1 v2 v3 v4 v5 v6 v7 v8 v9 v10 v11 v12 v13 v14 v15 v16 v17 v18 v19 v20 y) = bm v0 v1 v2 v3 v4 v5 v6 v7 v8 v9 v10 v11 (some v) v13 v14 v15 v16 v17 v18 v19 v20 := by
  funext y
  by_cases h : y = ("pick" : Str)
  · subst h; rw [if_pos rfl]; exact bg_pick.symm
  · simp only [bm, if_neg h]
theorem b_ld_pick (S : St hb L (bm v0 v1 v2 v3 v4 v5 v6 v7 v8 v9 v10 v11 v12 v13 v14 v15 v16 v17 v18 v19 v20) led imm own R s) (hv : v12 = some v) (h : Q v s) : wpAny (model prog w) A (eval (.Name "pick" pos) (benv L)) Q NoE s := r_local (env := benv L) S (bg_pick.trans hv) rfl bk_pick (by decide) h
theorem b_ll_pick (S : St hb L (bm v0 v1 v2 v3 v4 v5 v6 v7 v8 v9 v10 v11 v12 v13 v14 v15 v16 v17 v18 v19 v20) led imm own R s) (hv : v12 = some v) (h : Q v s) : wpAny (model prog w) A (loadName (benv L) "pick") Q NoE s := r_loadLocal (env := benv L) S (bg_pick.trans hv) rfl bk_pick h
theorem b_st_pick (S : St hb L (bm v0 v1 v2 v3 v4 v5 v6 v7 v8 v9 v10 v11 v12 v13 v14 v15 v16 v17 v18 v19 v20) led imm own R s) (h : ∀ s', St hb L (bm v0 v1 v2 v3 v4 v5 v6 v7 v8 v9 v10 v11 (some v) v13 v14 v15 v16 v17 v18 v19 v20) led imm own R s' → QU () s') : wpAny (model prog w) A (storeName (benv L) "pick" v) QU NoE s := r_store (env := benv L) S bk_pick (by rfl) bs_pick h
theorem bk_col : (benv L).kindOf "col" = some .local := by rfl
theorem bg_col : bm v0 v1 v2 v3 v4 v5 v6 v7 v8 v9 v10 v11 v12 v13 v14 v15 v16 v17 v18 v19 v20 "col" = v13 := by rfl
theorem bs_col : (fun (y : Str) => if y = ("col" : Str) then some v else bm v0 v1 v2 v3 v4 v5 v6 v7 v8 v9 v10 v11 v12 v13 v14 v15 v16 v17 v18 v19 v20 y) = bm v0 v1 v2 v3 v4 v5 v6 v7 v8 v9 v10 v11 v12 (some v) v14 v15 v16 v17 v18 v19 v20 := by
  funext y
  by_cases h : y = ("col" : Str)
  · subst h; rw [if_pos rfl]; exact bg_col.symm
  · simp only [bm, if_neg h]
theorem b_ld_col (S : St hb L (bm v0 v1 v2 v3 v4 v5 v6 v7 v8 v9 v10 v11 v12 v13 v14 v15 v16 v17 v18 v19 v20) led imm own R s) (hv : v13 = some v) (h : Q v s) : wpAny (model prog w) A (eval (.Name "col" pos) (benv L)) Q NoE s := r_local (env := benv L) S (bg_col.trans hv) rfl bk_col (by decide) h
theorem b_ll_col (S : St hb L (bm v0 v1 v2 v3 v4 v5 v6 v7 v8 v9 v10 v11 v12 v13 v14 v15 v16 v17 v18 v19 v20) led imm own R s) (hv : v13 = some v) (h : Q v s) : wpAny (model prog w) A (loadName (benv L) "col") Q NoE s := r_loadLocal (env := benv L) S (bg_col.trans hv) rfl bk_col h
theorem b_st_col (S : St hb L (bm v0 v1 v2 v3 v4 v5 v6 v7 v8 v9 v10 v11 v12 v13 v14 v15 v16 v17 v18 v19 v20) led imm own R s) (h : ∀ s', St hb L (bm v0 v1 v2 v3 v4 v5 v6 v7 v8 v9 v10 v11 v12 (some v) v14 v15 v16 v17 v18 v19 v20) led imm own R s' → QU () s') : wpAny (model prog w) A (storeName (benv L) "col" v) QU NoE s := r_store (env := benv L) S bk_col (by rfl) bs_col h
theorem bk_word : (benv L).kindOf "word" = some .local := by rfl
theorem bg_word : bm v0 v1 v2 v3 v4 v5 v6 v7 v8 v9 v10 v11 v12 v13 v14 v15 v16 v17 v18 v19 v20 "word" = v14 := by rfl
theorem bs_word : (fun (y : Str) => if y = ("word" : Str) then some v else bm v0 v1 v2 v3 v4 v5 v6 v7 v8 v9 v10 v11 v12 v13 v14 v15 v16 v17 v18 v19 v20 y) = bm v0 v1 v2 v3 v4 v5 v6 v7 v8 v9 v10 v11 v12 v13 (some v) v15 v16 v17 v18 v19 v20 := by
  funext y
  by_cases h : y = ("word" : Str)
  · subst h; rw [if_pos rfl]; exact bg_word.symm
  · simp only [bm, if_neg h]
theorem b_ld_word (S : St hb L (bm v0 v1 v2 v3 v4 v5 v6 v7 v8 v9 v10 v11 v12 v13 v14 v15 v16 v17 v18 v19 v20) led imm own R s) (hv : v14 = some v) (h : Q v s) : wpAny (model prog w) A (eval (.Name "word" pos) (benv L)) Q NoE s := r_local (env := benv L) S (bg_word.trans hv) rfl bk_word (by decide) h
theorem b_ll_word (S : St hb L (bm v0 v1 v2 v3 v4 v5 v6 v7 v8 v9 v10 v11 v12 v13 v14 v15 v16 v17 v18 v19 v20) led imm own R s) (hv : v14 = some v) (h : Q v s) : wpAny (model prog w) A (loadName (benv L) "word") Q NoE s := r_loadLocal (env := benv L) S (bg_word.trans hv) rfl bk_word h
theorem b_st_word (S : St hb L (bm v0 v1 v2 v3 v4 v5 v6 v7 v8 v9 v10 v11 v12 v13 v14 v15 v16 v17 v18 v19 v20) led imm own R s) (h : ∀ s', St hb L (bm v0 v1 v2 v3 v4 v5 v6 v7 v8 v9 v10 v11 v12 v13 (some v) v15 v16 v17 v18 v19 v20) led imm own R s' → QU () s') : wpAny (model prog w) A (storeName (benv L) "word" v) QU NoE s := r_store (env := benv L) S bk_word (by rfl) bs_word h
theorem bk_sign : (benv L).kindOf "sign" = some .local := by rfl
theorem bg_sign : bm v0 v1 v2 v3 v4 v5 v6 v7 v8 v9 v10 v11 v12 v13 v14 v15 v16 v17 v18 v19 v20 "sign" = v15 := by rfl
theorem bs_sign : (fun (y : Str) => if y = ("sign" : Str) then some v else bm v0 v1 v2 v3 v4 v5 v6 v7 v8 v9 v10 v11 v12 v13 v14 v15 v16 v17 v18 v19 v20 y) = bm v0 v1 v2 v3 v4 v5 v6 v7 v8 v9 v10 v11 v12 v13 v14 (some v) v16 v17 v18 v19 v20 := by
  funext y
  by_cases h : y = ("sign" : Str)
  · subst h; rw [if_pos rfl]; exact bg_sign.symm
  · simp only [bm, if_neg h]
theorem b_ld_sign (S : St hb L (bm v0 v1 v2 v3 v4 v5 v6 v7 v8 v9 v10 v11 v12 v13 v14 v15 v16 v17 v18 v19 v20) led imm own R s) (hv : v15 = some v) (h : Q v s) : wpAny (model prog w) A (eval (.Name "sign" pos) (benv L)) Q NoE s := r_local (env := benv L) S (bg_sign.trans hv) rfl bk_sign (by decide) h
theorem b_ll_sign (S : St hb L (bm v0 v1 v2 v3 v4 v5 v6 v7 v8 v9 v10 v11 v12 v13 v14 v15 v16 v17 v18 v19 v20) led imm own R s) (hv : v15 = some v) (h : Q v s) : wpAny (model prog w) A (loadName (benv L) "sign") Q NoE s := r_loadLocal (env := benv L) S (bg_sign.trans hv) rfl bk_sign h
theorem b_st_sign (S : St hb L (bm v0 v1 v2 v3 v4 v5 v6 v7 v8 v9 v10 v11 v12 v13 v14 v15 v16 v17 v18 v19 v20) led imm own R s) (h : ∀ s', St hb L (bm v0 v1 v2 v3 v4 v5 v6 v7 v8 v9 v10 v11 v12 v13 v14 (some v) v16 v17 v18 v19 v20) led imm own R s' → QU () s') : wpAny (model prog w) A (storeName (benv L) "sign" v) QU NoE s := r_store (env := benv L) S bk_sign (by rfl) bs_sign h
theorem bk_first : (benv L).kindOf "first" = some .local := by rfl
theorem bg_first : bm v0 v1 v2 v3 v4 v5 v6 v7 v8 v9 v10 v11 v12 v13 v14 v15 v16 v17 v18 v19 v20 "first" = v16 := by rfl
theorem bs_first : (fun (y : Str) => if y = ("first" : Str) then some v else bm v0 v1 v2 v3 v4 v5 v6 v7 v8 v9 v10 v11 v12 v13 v14 v15 v16 v17 v18 v19 v20 y) = bm v0 v1 v2 v3 v4 v5 v6 v7 v8 v9 v10 v11 v12 v13 v14 v15 (some v) v17 v18 v19 v20 := by
  funext y
  by_cases h : y = ("first" : Str)
  · subst h; rw [if_pos rfl]; exact bg_first.symm
  · simp only [bm, if_neg h]
theorem b_ld_first (S : St hb L (bm v0 v1 v2 v3 v4 v5 v6 v7 v8 v9 v10 v11 v12 v13 v14 v15 v16 v17 v18 v19 v20) led imm own R s) (hv : v16 = some v) (h : Q v s) : wpAny (model prog w) A (eval (.Name "first" pos) (benv L)) Q NoE s := r_local (env := benv L) S (bg_first.trans hv) rfl bk_first (by decide) h
theorem b_ll_first (S : St hb L (bm v0 v1 v2 v3 v4 v5 v6 v7 v8 v9 v10 v11 v12 v13 v14 v15 v16 v17 v18 v19 v20) led imm own R s) (hv : v16 = some v) (h : Q v s) : wpAny (model prog w) A (loadName (benv L) "first") Q NoE s := r_loadLocal (env := benv L) S (bg_first.trans hv) rfl bk_first h
theorem b_st_first (S : St hb L (bm v0 v1 v2 v3 v4 v5 v6 v7 v8 v9 v10 v11 v12 v13 v14 v15 v16 v17 v18 v19 v20) led imm own R s) (h : ∀ s', St hb L (bm v0 v1 v2 v3 v4 v5 v6 v7 v8 v9 v10 v11 v12 v13 v14 v15 (some v) v17 v18 v19 v20) led imm own R s' → QU () s') : wpAny (model prog w) A (storeName (benv L) "first" v) QU NoE s := r_store (env := benv L) S bk_first (by rfl) bs_first h
theorem bk_second : (benv L).kindOf "second" = some .local := by rfl
theorem bg_second : bm v0 v1 v2 v3 v4 v5 v6 v7 v8 v9 v10 v11 v12 v13 v14 v15 v16 v17 v18 v19 v20 "second" = v17 := by rfl
theorem bs_second : (fun (y : Str) => if y = ("second" : Str) then some v else bm v0 v1 v2 v3 v4 v5 v6 v7 v8 v9 v10 v11 v12 v13 v14 v15 v16 v17 v18 v19 v20 y) = bm v0 v1 v2 v3 v4 v5 v6 v7 v8 v9 v10 v11 v12 v13 v14 v15 v16 (some v) v18 v19 v20 := by
  funext y
  by_cases h : y = ("second" : Str)
  · subst h; rw [if_pos rfl]; exact bg_second.symm
  · simp only [bm, if_neg h]
theorem b_ld_second (S : St hb L (bm v0 v1 v2 v3 v4 v5 v6 v7 v8 v9 v10 v11 v12 v13 v14 v15 v16 v17 v18 v19 v20) led imm own R s) (hv : v17 = some v) (h : Q v s) : wpAny (model prog w) A (eval (.Name "second" pos) (benv L)) Q NoE s := r_local (env := benv L) S (bg_second.trans hv) rfl bk_second (by decide) h
theorem b_ll_second (S : St hb L (bm v0 v1 v2 v3 v4 v5 v6 v7 v8 v9 v10 v11 v12 v13 v14 v15 v16 v17 v18 v19 v20) led imm own R s) (hv : v17 = some v) (h : Q v s) : wpAny (model prog w) A (loadName (benv L) "second") Q NoE s := r_loadLocal (env := benv L) S (bg_second.trans hv) rfl bk_second h
theorem b_st_second (S : St hb L (bm v0 v1 v2 v3 v4 v5 v6 v7 v8 v9 v10 v11 v12 v13 v14 v15 v16 v17 v18 v19 v20) led imm own R s) (h : ∀ s', St hb L (bm v0 v1 v2 v3 v4 v5 v6 v7 v8 v9 v10 v11 v12 v13 v14 v15 v16 (some v) v18 v19 v20) led imm own R s' → QU () s') : wpAny (model prog w) A (storeName (benv L) "second" v) QU NoE s := r_store (env := benv L) S bk_second (by rfl) bs_second h
theorem bk_ending : (benv L).kindOf "ending" = some .local := by rfl
theorem bg_ending : bm v0 v1 v2 v3 v4 v5 v6 v7 v8 v9 v10 v11 v12 v13 v14 v15 v16 v17 v18 v19 v20 "ending" = v18 := by rfl
theorem bs_ending : (fun (y : Str) => if y = ("ending" : Str) then some v else bm v0 v1 v2 v3 v4 v5 v6 v7 v8 v9 v10 v11 v12 v13 v14 v15 v16 v17 v18 v19 v20 y) = bm v0 v1 v2 v3 v4 v5 v6 v7 v8 v9 v10 v11 v12 v13 v14 v15 v16 v17 (some v) v19 v20 := by
  funext y
  by_cases h : y = ("ending" : Str)
  · subst h; rw [if_pos rfl]; exact bg_ending.symm
  · simp only [bm, if_neg h]
theorem b_ld_ending (S : St hb L (bm v0 v1 v2 v3 v4 v5 v6 v7 v8 v9 v10 v11 v12 v13 v14 v15 v16 v17 v18 v19 v20) led imm own R s) (hv : v18 = some v) (h : Q v s) : wpAny (model prog w) A (eval (.Name "ending" pos) (benv L)) Q NoE s := r_local (env := benv L) S (bg_ending.trans hv) rfl bk_ending (by decide) h
theorem b_ll_ending (S : St hb L (bm v0 v1 v2 v3 v4 v5 v6 v7 v8 v9 v10 v11 v12 v13 v14 v15 v16 v17 v18 v19 v20) led imm own R s) (hv : v18 = some v) (h : Q v s) : wpAny (model prog w) A (loadName (benv L) "ending") Q NoE s := r_loadLocal (env := benv L) S (bg_ending.trans hv) rfl bk_ending h
theorem b_st_ending (S : St hb L (bm v0 v1 v2 v3 v4 v5 v6 v7 v8 v9 v10 v11 v12 v13 v14 v15 v16 v17 v18 v19 v20) led imm own R s) (h : ∀ s', St hb L (bm v0 v1 v2 v3 v4 v5 v6 v7 v8 v9 v10 v11 v12 v13 v14 v15 v16 v17 (some v) v19 v20) led imm own R s' → QU () s') : wpAny (model prog w) A (storeName (benv L) "ending" v) QU NoE s := r_store (env := benv L) S bk_ending (by rfl) bs_ending h
theorem bk_form : (benv L).kindOf "form" = some .local := by rfl
theorem bg_form : bm v0 v1 v2 v3 v4 v5 v6 v7 v8 v9 v10 v11 v12 v13 v14 v15 v16 v17 v18 v19 v20 "form" = v19 := by rfl
theorem bs_form : (fun (y : Str) => if y = ("form" : Str) then some v else bm v0 v1 v2 v3 v4 v5 v6 v7 v8 v9 v10 v11 v12 v13 v14 v15 v16 v17 v18 v19 v20 y) = bm v0 v1 v2 v3 v4 v5 v6 v7 v8 v9 v10 v11 v12 v13 v14 v15 v16 v17 v18 (some v) v20 := by
  funext y
  by_cases h : y = ("form" : Str)
  · subst h; rw [if_pos rfl]; exact bg_form.symm
  · simp only [bm, if_neg h]
theorem b_ld_form (S : St hb L (bm v0 v1 v2 v3 v4 v5 v6 v7 v8 v9 v10 v11 v12 v13 v14 v15 v16 v17 v18 v19 v20) led imm own R s) (hv : v19 = some v) (h : Q v s) : wpAny (model prog w) A (eval (.Name "form" pos) (benv L)) Q NoE s := r_local (env := benv L) S (bg_form.trans hv) rfl bk_form (by decide) h
theorem b_ll_form (S : St hb L (bm v0 v1 v2 v3 v4 v5 v6 v7 v8 v9 v10 v11 v12 v13 v14 v15 v16 v17 v18 v19 v20) led imm own R s) (hv : v19 = some v) (h : Q v s) : wpAny (model prog w) A (loadName (benv L) "form") Q NoE s := r_loadLocal (env := benv L) S (bg_form.trans hv) rfl bk_form h
theorem b_st_form (S : St hb L (bm v0 v1 v2 v3 v4 v5 v6 v7 v8 v9 v10 v11 v12 v13 v14 v15 v16 v17 v18 v19 v20) led imm own R s) (h : ∀ s', St hb L (bm v0 v1 v2 v3 v4 v5 v6 v7 v8 v9 v10 v11 v12 v13 v14 v15 v16 v17 v18 (some v) v20) led imm own R s' → QU () s') : wpAny (model prog w) A (storeName (benv L) "form" v) QU NoE s := r_store (env := benv L) S bk_form (by rfl) bs_form h
theorem bk_remark : (benv L).kindOf "remark" = some .local := by rfl
theorem bg_remark : bm v0 v1 v2 v3 v4 v5 v6 v7 v8 v9 v10 v11 v12 v13 v14 v15 v16 v17 v18 v19 v20 "remark" = v20 := by rfl
theorem bs_remark : (fun (y : Str) => if y = ("remark" : Str) then some v else bm v0 v1 v2 v3 v4 v5 v6 v7 v8 v9 v10 v11 v12 v13 v14 v15 v16 v17 v18 v19 v20 y) = bm v0 v1 v2 v3 v4 v5 v6 v7 v8 v9 v10 v11 v12 v13 v14 v15 v16 v17 v18 v19 (some v) := by
  funext y
  by_cases h : y = ("remark" : Str)
  · subst h; rw [if_pos rfl]; exact bg_remark.symm
  · simp only [bm, if_neg h]
theorem b_ld_remark (S : St hb L (bm v0 v1 v2 v3 v4 v5 v6 v7 v8 v9 v10 v11 v12 v13 v14 v15 v16 v17 v18 v19 v20) led imm own R s) (hv : v20 = some v) (h : Q v s) : wpAny (model prog w) A (eval (.Name "remark" pos) (benv L)) Q NoE s := r_local (env := benv L) S (bg_remark.trans hv) rfl bk_remark (by decide) h
theorem b_ll_remark (S : St hb L (bm v0 v1 v2 v3 v4 v5 v6 v7 v8 v9 v10 v11 v12 v13 v14 v15 v16 v17 v18 v19 v20) led imm own R s) (hv : v20 = some v) (h : Q v s) : wpAny (model prog w) A (loadName (benv L) "remark") Q NoE s := r_loadLocal (env := benv L) S (bg_remark.trans hv) rfl bk_remark h
theorem b_st_remark (S : St hb L (bm v0 v1 v2 v3 v4 v5 v6 v7 v8 v9 v10 v11 v12 v13 v14 v15 v16 v17 v18 v19 v20) led imm own R s) (h : ∀ s', St hb L (bm v0 v1 v2 v3 v4 v5 v6 v7 v8 v9 v10 v11 v12 v13 v14 v15 v16 v17 v18 v19 (some v)) led imm own R s' → QU () s') : wpAny (model prog w) A (storeName (benv L) "remark" v) QU NoE s := r_store (env := benv L) S bk_remark (by rfl) bs_remark h
end
end Mine

-- part M4
namespace Mine
open PySem PySem.W PyProof.Rows PySem.Calls

noncomputable abbrev KK (w : World) : Frag := hd.heap_39 w.params
noncomputable abbrev topLoose : List Str := looseW hd.view_39 [Str.ofString "tokenize"]

structure Bs (w : World) (A₀ : Around) (base : Heap) (outer : List Env) (hb : Heap) : Prop where
  B : Below A₀ base outer hb
  X : (KK w).In hb
  T : ∃ mean mg mb, Top hd.view_39 topLoose mean mg mb hb

structure Rmb (b : Nat) (A : Around) : Prop where
  h : A.handled = none
  u : A.units + 64 + b < cLine
  d : A.depth + b < recursionLimit
theorem Rmb.deeper {b : Nat} {A : Around} {e : Env} (r : Rmb (b + 3) A) : Rmb b (A.deeper e) :=
  ⟨r.h, by have := r.u; show A.units + 3 + 64 + b < cLine; omega, by have := r.d; show A.depth + 1 + b < recursionLimit; omega⟩

def retOf : Flow → Value
  | .ret v => v
  | _ => .none

section
variable {prog : Program} {w : World} {A A₀ : Around} {s : Shared} {env : Env} {base : Heap} {outer : List Env}
variable {hb : Heap} {L : Addr} {m : Str → Option Value} {led imm own : Led} {R : Rest}
variable {Q : Value → Shared → Prop}

theorem r_glob {x : Str} {pos : Pos} {v : Value} (BS : Bs w A₀ base outer hb) (S : St hb L m led imm own R s) (e : nsIn (KK w) mainGlobals x = some (some v))
    (hk : env.scope.kind = .function) (hx : env.kindOf x = some .globalImplicit) (hg : env.globals = mainGlobals) (hd : (x == ("__debug__" : Str)) = false) (h : Q v s) :
    wpAny (model prog w) A (eval (.Name x pos) env) Q NoE s := by
  obtain ⟨_, mg, mb, T⟩ := BS.T
  exact Name_function_global hk hx (loadGlobal_global (env := env) (hg ▸ T.g.keeps S.F.keep) (mg_of BS.X T.g e) h) hd
theorem r_built {x : Str} {pos : Pos} {v : Value} (BS : Bs w A₀ base outer hb) (S : St hb L m led imm own R s) (e : nsIn (KK w) mainGlobals x = some none) (hv : bootBuiltins x = some v) (hn : x ≠ "__name__")
    (hk : env.scope.kind = .function) (hx : env.kindOf x = some .globalImplicit) (hg : env.globals = mainGlobals) (hg2 : env.builtins = builtinsNs) (hd : (x == ("__debug__" : Str)) = false) (h : Q v s) :
    wpAny (model prog w) A (eval (.Name x pos) env) Q NoE s := by
  obtain ⟨_, mg, mb, T⟩ := BS.T
  exact Name_function_global hk hx (loadGlobal_builtin (env := env) (hg ▸ T.g.keeps S.F.keep) (mg_none_of BS.X T.g e) (hg2 ▸ T.b.keeps S.F.keep) ((T.builtins x hn).trans hv) h) hd

theorem r_call {name qual : Str} {params : Arguments} {body : List Stmt} {scope : Scope} {dV kV doc pm cdv ct oc : Value} {an od : Option Addr} {osl : Array (Option Value)} {f : Addr} {args : List Value} {binds : List (Str × Value)}
    (BS : Bs w A₀ base outer hb) (S : St hb env.locals m led imm own R s) (hA : A.frames = some (env :: outer)) (hf : env.frame = some env.locals) (hke : env.scope.kind = .function) {b : Nat} (hr : Rmb (b + 1) A)
    (ho : (KK w).lookup f = some ⟨oc, od, .func (fnOf name qual params body scope dV kV doc pm an cdv ct), osl⟩) (hcd : codeIn (KK w) cdv qual = true)
    (hbind : bindArgs (fnOf name qual params body scope dV kV doc pm an cdv ct) ⟨args, []⟩ = pure binds) (hloc : ∀ y ∈ binds, scope.names.lookup y.1 = some .local)
    (h : ∀ g L' s₁, Bs w A base (env :: outer) g → St g L' (fun y => binds.reverse.lookup y) led imm own R s₁ →
      wpAny (model prog w) (A.deeper (envOf qual scope L' f cdv)) (execs body (envOf qual scope L' f cdv))
        (fun fl s' => ∃ m' led' imm', St g L' m' led' imm' own R s' ∧ (St hb env.locals m led' imm' own R s' → Q (retOf fl) s')) NoE s₁)
    (hco : scope.isCoroutine = false) (hgen : scope.isGenerator = false) (hk : scope.kind = .function) (hcell : ∀ x ∈ scope.names, x.2 ≠ .cell) :
    wpAny (model prog w) A (call (.ref f) args) Q NoE s := by
  obtain ⟨mean, mg, mb, T⟩ := BS.T
  refine wpAny_call (code_def BS.B S.F BS.X S.N T hA hf hke ho hcd (by have := hr.d; omega) (BindsTo.of_eq hbind) hloc (fun g L' h₁ FG F' N' B' X' T' => ?_) hco hgen hk hcell)
  have S1 : St g L' (fun y => binds.reverse.lookup y) led imm own R { s with heap := h₁, toks := s.toks + binds.length } := ⟨F', N', S.nd, S.off, S.sep, S.r⟩
  refine wpAny_mono (h g L' _ ⟨B', X', _, _, _, T'⟩ S1) (fun fl s' hs => ?_) fun _ _ x => x.elim
  obtain ⟨m', led', imm', S', hq⟩ := hs
  refine ⟨L', m', _, S'.F, S'.N, fun F2 N2 => ?_⟩
  have := hq ⟨F2, N2, S'.nd, S'.off, S'.sep, S'.r⟩
  cases fl <;> exact this
end

-- the draws
/-- what the state list holds: the script's ints, the place, the seed -/
structure Draw (imm : Led) (o : Obj) : Prop where
  ex : ∃ (sl : Addr) (vs : List Value) (k : Nat) (ns : List Int) (i sd : Int) (ti ts : Tok) (n : Nat),
    o = listOf #[.ref sl, .int i ti, .int sd ts] n ∧ (sl, listOf vs.toArray k) ∈ imm ∧ IntsAre vs ns ∧ vs.length ≤ 1000 ∧ 0 ≤ i ∧ 0 ≤ sd ∧ sd < 2147483647
theorem Draw.mono {imm imm' : Led} {o : Obj} (h : Draw imm o) (hs : ∀ p ∈ imm, p ∈ imm') : Draw imm' o := by
  obtain ⟨sl, vs, k, ns, i, sd, ti, ts, n, a, b, c⟩ := h
  exact ⟨sl, vs, k, ns, i, sd, ti, ts, n, a, hs _ b, c⟩
end Mine

-- part M6
namespace Mine
open PySem PySem.W PyProof.Rows PySem.Calls

section
variable {prog : Program} {w : World} {A : Around} {s : Shared} {env : Env}
variable {hb : Heap} {m : Str → Option Value} {led imm own : Led} {R : Rest} {QF : Flow → Shared → Prop}

theorem loop_at {I : Addr} {fp : List Addr} {n : Nat} {P : Nat → Value → Prop} {Stw : Nat → Heap → Prop} {keep : Led} {x : Str} {body : List Stmt}
    (Inv : Nat → (Str → Option Value) → Led → Led → Prop)
    (W : Walks prog w A I fp [I] n P Stw) (hIf : I ∈ fp) (hfp : ∀ a ∈ fp, a = I ∨ ∃ lo, (a, lo) ∈ keep)
    (S : St hb env.locals m led imm own R s) (hI : ∀ p ∈ led ++ (imm ++ own), p.1 ≠ I) (hIb : hb.get? I = none) (hIL : env.locals ≠ I) (hst : Stw 0 s.heap)
    (hob : ∀ i h, Stw i h → ∃ o, h.get? I = some o)
    (hk : ∀ p ∈ keep, p ∈ imm) (h0 : Inv 0 m led imm)
    (turn : ∀ i v m led imm own' s, i < n → P i v → Inv i m led imm → (∀ p ∈ keep, p ∈ imm) → St hb env.locals (fun y => if y = x then some v else m y) led imm (own ++ own') R s →
      wpAny (model prog w) A (execs body env) (fun f s' => f = .next ∧ ∃ m' led' imm', St hb env.locals m' led' imm' (own ++ own') R s' ∧ (∀ p ∈ keep, p ∈ imm') ∧ Inv (i + 1) m' led' imm') NoE s)
    (done : ∀ m led imm s', Inv n m led imm → St hb env.locals m led imm own R s' → QF .next s') :
    LoopAtV prog w A hb env x body QF NoE (.ref I) s := by
  let J : Nat → (Str → Option Value) → Led → Prop := fun i m nx => ∃ led imm, nx = led ++ (imm ++ own) ∧ (led.map (·.1)).Nodup ∧ OwnOff (imm ++ own) (led.map (·.1)) ∧ (∀ p ∈ own, ∀ q ∈ imm, p.1 ≠ q.1) ∧ (∀ p ∈ keep, p ∈ imm) ∧ Inv i m led imm
  have hkn : ∀ p ∈ keep, hb.get? p.1 = none ∧ p.1 ≠ env.locals := fun p hp => ⟨(S.N p (by simp [hk p hp])).2.2, (S.N p (by simp [hk p hp])).2.1⟩
  refine ⟨I, fp, [I], n, P, Stw, m, led ++ (imm ++ own), J, rfl, W, ?_, ?_, ?_, hst, S.F, S.N, ⟨led, imm, rfl, S.nd, S.off, S.sep, hk, h0⟩, ?_, ?_⟩
  · intro hm
    rcases hfp _ hm with e | ⟨lo, hl⟩
    · exact hIL e
    · exact (hkn _ hl).2 rfl
  · intro b hbI
    rw [List.mem_singleton.mp hbI]; exact hIb
  · intro p hp hq
    exact hI p hp (List.mem_singleton.mp hq)
  · rintro i v m₁ nx s₁ ow ⟨h₁, tk, rfl⟩ hin hP ⟨led₁, imm₁, rfl, nd₁, off₁, sep₁, hk₁, hInv⟩ hoff hown hget hall hst₁ F₁ N₁
    -- the iterator's own part
    let ow' : Led := ow.filter fun p => decide (p.1 = I)
    have how' : ∀ p ∈ ow', p ∈ ow ∧ p.1 = I := fun p hp => by
      have := List.mem_filter.mp hp
      exact ⟨this.1, by simpa using this.2⟩
    have hIoff : ∀ p ∈ led₁ ++ (imm₁ ++ own), p.1 ≠ I := fun p hp e => hoff p hp (List.mem_singleton.mpr e)
    have S₁ : St hb env.locals (fun y => if y = x then some v else m₁ y) led₁ imm₁ (own ++ ow') R { s with heap := h₁, toks := tk } := by
      refine ⟨F₁, fun p hp => N₁ p ?_, nd₁, ?_, ?_, S.r⟩
      · simp only [List.mem_append] at hp ⊢
        rcases hp with a | a | a | a
        · exact .inr (.inl a)
        · exact .inr (.inr (.inl a))
        · exact .inr (.inr (.inr a))
        · exact .inl (how' p a).1
      · intro p hp b hb'
        simp only [List.mem_append] at hp
        rcases hp with a | a | a
        · exact off₁ p (by simp [a]) b hb'
        · exact off₁ p (by simp [a]) b hb'
        · obtain ⟨q, hq, rfl⟩ := List.mem_map.mp hb'
          rw [(how' p a).2]
          exact fun e => hIoff q (by simp [hq]) e.symm
      · intro p hp q hq
        rcases List.mem_append.mp hp with a | a
        · exact sep₁ p a q hq
        · rw [(how' p a).2]
          exact fun e => hIoff q (by simp [hq]) e.symm
    refine wpAny_mono (turn i v m₁ led₁ imm₁ ow' _ hin hP hInv hk₁ S₁) (fun f s₂ hf => ?_) fun _ _ e => e
    obtain ⟨rfl, m', led', imm', S', hk', hInv'⟩ := hf
    have hr : (s₂.gens, s₂.drawn, s₂.os) = (s.gens, s.drawn, s.os) := S'.r.trans S.r.symm
    obtain ⟨oI, hoI⟩ := hob _ _ hst₁
    have hIow : (I, oI) ∈ ow' := List.mem_filter.mpr ⟨hall I hIf hIb oI hoI, by simp⟩
    refine ⟨rfl, s₂.heap, s₂.toks, m', led' ++ (imm' ++ own), ?_, S'.F, ?_, ?_, led', imm', rfl, S'.nd, fun p hp => S'.off p (by simp only [List.mem_append] at hp ⊢; rcases hp with a | a <;> simp [a]), fun p hp => S'.sep p (by simp [hp]), hk', hInv'⟩
    · obtain ⟨h2, g2, d2, t2, o2⟩ := s₂
      simp only [Prod.mk.injEq] at hr
      obtain ⟨e1, e2, e3⟩ := hr
      subst e1 e2 e3
      rfl
    · intro p hp
      simp only [List.mem_append] at hp
      rcases hp with a | a | a | a
      · -- what the iterator reads
        rcases hfp _ (hown p a) with e | ⟨lo, hl⟩
        · exact S'.N p (by
            have : p ∈ ow' := List.mem_filter.mpr ⟨a, by simpa using e⟩
            simp [this])
        · have g1 : h₁.get? p.1 = some p.2 := hget p a
          have g2 : h₁.get? p.1 = some lo := (N₁ (p.1, lo) (by simp [hk₁ _ hl])).1
          have e : p = (p.1, lo) := Prod.ext rfl (Option.some.inj (g1.symm.trans g2))
          rw [e]
          exact S'.N _ (by simp [hk' _ hl])
      · exact S'.N p (by simp [a])
      · exact S'.N p (by simp [a])
      · exact S'.N p (by simp [a])
    · intro p hp hq
      have e := List.mem_singleton.mp hq
      simp only [List.mem_append] at hp
      rcases hp with a | a | a
      · exact S'.off (I, oI) (by simp [hIow]) p.1 (List.mem_map.mpr ⟨p, a, rfl⟩) e.symm
      · exact S'.sep (I, oI) (by simp [hIow]) p a e.symm
      · exact hIoff p (by simp [a]) e
  · rintro h' tk m' nx F' N' hoff ⟨led', imm', rfl, nd', off', sep', hk', hInv'⟩
    exact done m' led' imm' _ hInv' ⟨F', N', nd', off', sep', S.r⟩

-- ranges
abbrev rangeObj (n : Int) (t a b : Tok) : Obj := { cls := .type "range", data := .fields #[.int 0 a, .int n t, .int 1 b] }
theorem r_range {L : Addr} {Q : Value → Shared → Prop} {n : Int} {t : Tok} (S : St hb L m led imm own R s) (h : ∀ r a b s', St hb L m led ((r, rangeObj n t a b) :: imm) own R s' → Q (.ref r) s') :
    wpAny (model prog w) A (call (.type "range") [.int n t]) Q NoE s := call_range_1 (h _ _ _ _ (S.push _ _))
theorem loop_range {r : Addr} {n : Int} {t a b : Tok} {k : Nat} {x : Str} {body : List Stmt} (Inv : Nat → (Str → Option Value) → Led → Led → Prop)
    (hA : A.handled = none) (S : St hb env.locals m led imm own R s) (hm : (r, rangeObj n t a b) ∈ led ++ (imm ++ own)) (hk : n = k) (hk2 : k ≤ 100000) (h0 : Inv 0 m led imm)
    (turn : ∀ i t m led imm own' s, i < k → Inv i m led imm → St hb env.locals (fun y => if y = x then some (.int (i : Int) t) else m y) led imm (own ++ own') R s →
      wpAny (model prog w) A (execs body env) (fun f s' => f = .next ∧ ∃ m' led' imm', St hb env.locals m' led' imm' (own ++ own') R s' ∧ Inv (i + 1) m' led' imm') NoE s)
    (done : ∀ m led imm s', Inv k m led imm → St hb env.locals m led imm own R s' → QF .next s') :
    wpAny (model prog w) A (pyIter (.ref r)) (fun it s₂ => LoopAtV prog w A hb env x body QF NoE it s₂) NoE s := by
  have hr : IsRange s.heap r 0 n 1 a t b := S.mem hm
  refine wpAny_pyIter_range hr (small_one (by decide) (by decide) (by omega) (by omega)) ?_
  have hsz : Builtin.Range.rangeSize 0 n 1 = (k : Int) := by rw [rangeSize_one]; split <;> omega
  have hlt : ∀ p ∈ led ++ (imm ++ own), p.1 ≠ s.heap.objs.size := fun p hp => Nat.ne_of_lt (Heap.lt_size (S.N p hp).1)
  have S₁ : St hb env.locals m led imm own R { s with heap := s.heap.push { cls := .type "range_iterator", data := .fields #[rawInt 0, rawInt (Builtin.Range.rangeSize 0 n 1), rawInt 1] } } :=
    (S.push { cls := .type "range_iterator", data := .fields #[rawInt 0, rawInt (Builtin.Range.rangeSize 0 n 1), rawInt 1] } s.toks).less fun p hp => .tail _ hp
  have W := Walks.range (prog := prog) (w := w) hA s.heap.objs.size 0 1 k
  refine loop_at (keep := []) Inv W (List.mem_singleton.mpr rfl) (fun a ha => .inl (List.mem_singleton.mp ha)) S₁ hlt (next_is_new S.F) (Nat.ne_of_lt S.F.ns.lt) ?_ ?_ (fun _ h => (nomatch h)) h0 ?_ ?_
  · rw [hsz]
    have e1 : (0 : Int) + (0 : Nat) * 1 = 0 := by decide
    have e2 : (k : Int) - (0 : Nat) = k := by omega
    rw [e1, e2]
    exact Heap.get?_push_size _ rfl
  · intro i h hq
    exact ⟨_, hq⟩
  · rintro i v m led imm own' s hi ⟨t, rfl⟩ hInv _ S
    have e : (0 : Int) + (i : Int) * 1 = i := by omega
    rw [e] at S
    refine wpAny_mono (turn i t m led imm own' s hi hInv S) (fun f s' hf => ?_) fun _ _ x => x
    obtain ⟨a, m', led', imm', b, c⟩ := hf
    exact ⟨a, m', led', imm', b, (fun _ h => (nomatch h)), c⟩
  · exact fun m led imm s' => done m led imm s'
theorem x_for {x : Str} {px pos : Pos} {iter : Expr} {body rest : List Stmt} (S : St hb env.locals m led imm own R s) (hx : env.kindOf x = some .local)
    (hp : (env.scope.kind == .class || (env.scope.kind == .module && env.locals != env.globals)) = false)
    (h : wpAny (model prog w) A (eval iter env) (fun xv s₁ => wpAny (model prog w) A (pyIter xv) (fun it s₂ => LoopAtV prog w A hb env x body (Cont prog w A rest env QF) NoE it s₂) NoE s₁) NoE s)
    (hs : ∀ x, foldedSetIterable iter env x = pure x := by intro _; with_unfolding_all rfl) :
    wpAny (model prog w) A (execs (.For (.Name x px) iter body [] pos :: rest) env) QF NoE s :=
  wpAny_execs_cons (wpAny_mono (For_invVF (Q := Cont prog w A rest env QF) S.F hx hp h hs PassesOwn.never) (fun f s' hf => by cases f <;> exact hf) fun _ _ x => x)
-- reversed lists
theorem r_reversed {L l : Addr} {Q : Value → Shared → Prop} {vs : List Value} {n : Nat} (S : St hb L m led imm own R s) (hm : (l, listOf vs.toArray n) ∈ led ++ (imm ++ own))
    (h : ∀ D s', St hb L m led imm own R s' → (∀ p ∈ led ++ (imm ++ own), p.1 ≠ D) → s'.heap.get? D = some (revObj l ((vs.length : Int) - 1)) → hb.get? D = none → L ≠ D → Q (.ref D) s') :
    wpAny (model prog w) A (call (.type "reversed") [.ref l]) Q NoE s := by
  refine call_reversed_list ⟨_, S.mem hm, rfl, n, rfl⟩ ?_
  have e : ((vs.toArray.size : Nat) : Int) - 1 = (vs.length : Int) - 1 := by simp
  rw [e]
  exact h _ _ ((S.push _ s.toks).less fun p hp => .tail _ hp) (fun p hp => Nat.ne_of_lt (Heap.lt_size (S.N p hp).1)) (Heap.get?_push_size _ rfl) (next_is_new S.F) (Nat.ne_of_lt S.F.ns.lt)
theorem loop_rev {D l : Addr} {vs : List Value} {n : Nat} {x : Str} {body : List Stmt} (Inv : Nat → (Str → Option Value) → Led → Led → Prop)
    (hA : A.handled = none) (S : St hb env.locals m led imm own R s) (hm : (l, listOf vs.toArray n) ∈ imm) (hD : ∀ p ∈ led ++ (imm ++ own), p.1 ≠ D) (ho : s.heap.get? D = some (revObj l ((vs.length : Int) - 1))) (hbD : hb.get? D = none) (hL : env.locals ≠ D) (h0 : Inv 0 m led imm)
    (turn : ∀ i v m led imm own' s, vs[vs.length - 1 - i]? = some v → i < vs.length → Inv i m led imm → St hb env.locals (fun y => if y = x then some v else m y) led imm (own ++ own') R s → (l, listOf vs.toArray n) ∈ imm →
      wpAny (model prog w) A (execs body env) (fun f s' => f = .next ∧ ∃ m' led' imm', St hb env.locals m' led' imm' (own ++ own') R s' ∧ (l, listOf vs.toArray n) ∈ imm' ∧ Inv (i + 1) m' led' imm') NoE s)
    (done : ∀ m led imm s', Inv vs.length m led imm → St hb env.locals m led imm own R s' → QF .next s') :
    wpAny (model prog w) A (pyIter (.ref D)) (fun it s₂ => LoopAtV prog w A hb env x body QF NoE it s₂) NoE s := by
  have hit : s.heap.IsRevIter D l ((vs.length : Int) - 1) := ⟨_, ho, rfl, rfl⟩
  refine wpAny_pyIter_revIter hit ?_
  have hl : s.heap.IsList l vs.toArray := ⟨_, S.mem (p := (l, listOf vs.toArray n)) (by simp [hm]), rfl, n, rfl⟩
  have W := Walks.listRev (prog := prog) (w := w) hA D l (hD (l, listOf vs.toArray n) (by simp [hm])) vs.toArray
  have hlen : vs.toArray.size = vs.length := by simp
  rw [hlen] at W
  refine loop_at (keep := [(l, listOf vs.toArray n)]) Inv W (.head _) (fun a ha => ?_) S hD hbD hL ?_ ?_ (fun p hp => by rw [List.mem_singleton.mp hp]; exact hm) h0 ?_ ?_
  · rcases List.mem_cons.mp ha with e | e
    · exact .inl e
    · rw [List.mem_singleton.mp e]
      exact .inr ⟨_, .head _⟩
  · refine ⟨Nat.zero_le _, ?_, hl⟩
    have e : (vs.length : Int) - 1 - ((0 : Nat) : Int) = (vs.length : Int) - 1 := by omega
    rw [e]
    exact hit
  · rintro i h ⟨_, ⟨o, ho, _⟩, _⟩
    exact ⟨o, ho⟩
  · intro i v m led imm own' s hi hP hInv hk S
    refine wpAny_mono (turn i v m led imm own' s (by simpa using hP) hi hInv S (hk _ (.head _))) (fun f s' hf => ?_) fun _ _ x => x
    obtain ⟨a, m', led', imm', b, c, d⟩ := hf
    exact ⟨a, m', led', imm', b, (fun p hp => by rw [List.mem_singleton.mp hp]; exact c), d⟩
  · exact fun m led imm s' => done m led imm s'
end
end Mine

-- part M7
namespace Mine
open PySem PySem.W PyProof.Rows PySem.Calls
section
variable {prog : Program} {w : World} {A : Around} {s : Shared} {env : Env}
variable {hb : Heap} {L : Addr} {m : Str → Option Value} {led imm own : Led} {R : Rest}
variable {Q : Value → Shared → Prop} {QF : Flow → Shared → Prop} {QB : Bool → Shared → Prop} {QU : Unit → Shared → Prop} {QL : List Value → Shared → Prop}
theorem y_callN {id : Str} {p pos : Pos} {args : List Expr}
    (h : wpAny (model prog w) A (eval (.Name id p) env) (fun f s₁ => wpAny (model prog w) A (callWith pos f [] (backTo pos (starEach args env)) []) Q NoE s₁) NoE s) :
    wpAny (model prog w) A (eval (.Call (.Name id p) args [] pos) env) Q NoE s := Call_ h rfl
theorem y_callM {x : Str} {px : Pos} {name : Str} {apos pos : Pos} {args : List Expr} {pl : Sem Bool}
    (h : wpAny (model prog w) A (eval (.Name x px) env) (fun ov s₁ => wpAny (model prog w) A (getMethod ov name pl) (fun fx s₂ => wpAny (model prog w) A (callWith pos fx.fst fx.snd (backTo pos (starEach args env)) []) Q NoE s₂) NoE s₁) NoE s)
    (he : eval (.Call (.Attribute (.Name x px) name apos) args [] pos) env = (do
          let ov ← eval (.Name x px) env
          standAt apos.atName
          let __x ← holding [ov] (getMethod ov name pl)
          match __x with
            | (f, first) => callWith pos f first (backTo pos (starEach args env)) []) := by with_unfolding_all rfl) :
    wpAny (model prog w) A (eval (.Call (.Attribute (.Name x px) name apos) args [] pos) env) Q NoE s := MethodCall_ h he
theorem y_more {e : Expr} {rest : List Expr} {pos : Pos}
    (h : wpAny (model prog w) A (eval e env) (fun v s₁ => wpAny (model prog w) A (spliced (backTo pos (starEach rest env))) (fun vs s₂ => QL (v :: vs) s₂) NoE s₁) NoE s)
    (he : starEach (e :: rest) env = (false, eval e env) :: starEach rest env := by with_unfolding_all rfl) :
    wpAny (model prog w) A (spliced (backTo pos (starEach (e :: rest) env))) QL NoE s := spliced_more h he
theorem y_callB {pos : Pos} {id : String} {e : Expr} {rest : List Expr}
    (h : wpAny (model prog w) A (spliced (backTo pos (starEach (e :: rest) env))) (fun vs s₁ => wpAny (model prog w) A (call (.builtin id) vs) Q NoE s₁) NoE s)
    (h1 : starEach (e :: rest) env = (false, eval e env) :: starEach rest env := by with_unfolding_all rfl) (h2 : ((backTo pos (starEach rest env)).any fun x => x.fst) = false := by with_unfolding_all rfl) :
    wpAny (model prog w) A (callWith pos (.builtin id) [] (backTo pos (starEach (e :: rest) env)) []) Q NoE s := PyProof.Rows.callWith_builtin1 h h1 h2
theorem y_callT {pos : Pos} {T : String} {e : Expr} {rest : List Expr}
    (h : wpAny (model prog w) A (spliced (backTo pos (starEach (e :: rest) env))) (fun vs s₁ => wpAny (model prog w) A (call (.type T) vs) Q NoE s₁) NoE s)
    (h1 : starEach (e :: rest) env = (false, eval e env) :: starEach rest env := by with_unfolding_all rfl) (h2 : ((backTo pos (starEach rest env)).any fun x => x.fst) = false := by with_unfolding_all rfl) :
    wpAny (model prog w) A (callWith pos (.type T) [] (backTo pos (starEach (e :: rest) env)) []) Q NoE s := PyProof.Rows.callWith_type1 h h1 h2
theorem y_callM1 {pos : Pos} {id : String} {first : List Value} {e : Expr} {rest : List Expr}
    (h : wpAny (model prog w) A (spliced (backTo pos (starEach (e :: rest) env))) (fun vs s₁ => wpAny (model prog w) A (call (.builtin id) (first ++ vs)) Q NoE s₁) NoE s)
    (h1 : starEach (e :: rest) env = (false, eval e env) :: starEach rest env := by with_unfolding_all rfl) (h2 : ((backTo pos (starEach rest env)).any fun x => x.fst) = false := by with_unfolding_all rfl) :
    wpAny (model prog w) A (callWith pos (.builtin id) first (backTo pos (starEach (e :: rest) env)) []) Q NoE s := callWith_method1 h h1 h2
theorem y_callM0 {pos : Pos} {id : String} {first : List Value} (h : wpAny (model prog w) A (call (.builtin id) first) Q NoE s) :
    wpAny (model prog w) A (callWith pos (.builtin id) first (backTo pos (starEach [] env)) []) Q NoE s := callWith_method0 h
theorem y_append {D : Addr} {o : Obj} {e : Expr} {pos : Pos} {pl : Sem Bool} (S : St hb L m led imm own R s) (hm : (D, o) ∈ led ++ (imm ++ own))
    (h : wpAny (model prog w) A (eval e env) (fun x s₁ => wpAny (model prog w) A (call (.builtin "list.append") [.ref D, x]) Q NoE s₁) NoE s)
    (hc : o.cls = .type "list" := by with_unfolding_all rfl) (hd : o.dict = none := by with_unfolding_all rfl)
    (he : starEach [e] env = (false, eval e env) :: starEach [] env := by with_unfolding_all rfl) :
    wpAny (model prog w) A (getMethod (.ref D) "append" pl) (fun fx s₂ => wpAny (model prog w) A (callWith pos fx.fst fx.snd (backTo pos (starEach [e] env)) []) Q NoE s₂) NoE s := by
  refine r_getAppend S hm ?_ hc hd
  refine y_callM1 (first := [.ref D]) ?_ he rfl
  exact y_more (wpAny_mono h (fun x s₁ h₁ => spliced_none h₁) fun _ _ x => x) he
theorem y_isTrueCmp {l r : Expr} {op : CmpOp} {pos : Pos} {whole : Sem Value}
    (h : wpAny (model prog w) A (eval l env) (fun a s₁ => wpAny (model prog w) A (eval r env) (fun b s₂ => wpAny (model prog w) A (compareOp op a b) (fun c s₃ => wpAny (model prog w) A (truthy c) QB NoE s₃) NoE s₂) NoE s₁) NoE s)
    (hm : behindInMarks op r = false := by with_unfolding_all rfl) : wpAny (model prog w) A (isTrue (.Compare l [op] [r] pos) env whole) QB NoE s := wpAny_isTrue_Compare1 h hm
theorem y_isTrueName {x : Str} {px : Pos} {whole : Sem Value} (h : wpAny (model prog w) A whole (fun v s₁ => wpAny (model prog w) A (truthy v) QB NoE s₁) NoE s) :
    wpAny (model prog w) A (isTrue (.Name x px) env whole) QB NoE s := isTrue_plain h rfl
theorem y_isTrueCall {f : Expr} {as : List Expr} {ks : List Keyword} {px : Pos} {whole : Sem Value} (h : wpAny (model prog w) A whole (fun v s₁ => wpAny (model prog w) A (truthy v) QB NoE s₁) NoE s) :
    wpAny (model prog w) A (isTrue (.Call f as ks px) env whole) QB NoE s := isTrue_plain h rfl
theorem y_truthyInt {a : Int} {t : Tok} (h : QB (decide (a ≠ 0)) s) : wpAny (model prog w) A (truthy (.int a t)) QB NoE s := by
  have e : (a != 0) = decide (a ≠ 0) := by by_cases h : a = 0 <;> simp [h]
  exact truthy_int (e ▸ h)
-- items of written lists and tuples
theorem y_sub0 {value slice : Expr} {a : Addr} {x0 : Value} {l : List Value} {n : Nat} {u : Tok} (S : St hb L m led imm own R s) (hm : (a, listOf (x0 :: l).toArray n) ∈ led ++ (imm ++ own)) (h : Q x0 s)
    (hs : subscripted slice false (.ref a) (.int 0 u) = operate [.ref a, .int 0 u] (getItem (.ref a) (.int 0 u)) := by with_unfolding_all rfl) :
    wpAny (model prog w) A (subscriptTail value slice (.ref a) (.int 0 u)) Q NoE s := r_item S hm (by decide) (by decide) rfl h hs
theorem y_sub1 {value slice : Expr} {a : Addr} {x0 x1 : Value} {l : List Value} {n : Nat} {u : Tok} (S : St hb L m led imm own R s) (hm : (a, listOf (x0 :: x1 :: l).toArray n) ∈ led ++ (imm ++ own)) (h : Q x1 s)
    (hs : subscripted slice false (.ref a) (.int 1 u) = operate [.ref a, .int 1 u] (getItem (.ref a) (.int 1 u)) := by with_unfolding_all rfl) :
    wpAny (model prog w) A (subscriptTail value slice (.ref a) (.int 1 u)) Q NoE s := r_item S hm (by decide) (by decide) rfl h hs
theorem y_sub2 {value slice : Expr} {a : Addr} {x0 x1 x2 : Value} {l : List Value} {n : Nat} {u : Tok} (S : St hb L m led imm own R s) (hm : (a, listOf (x0 :: x1 :: x2 :: l).toArray n) ∈ led ++ (imm ++ own)) (h : Q x2 s)
    (hs : subscripted slice false (.ref a) (.int 2 u) = operate [.ref a, .int 2 u] (getItem (.ref a) (.int 2 u)) := by with_unfolding_all rfl) :
    wpAny (model prog w) A (subscriptTail value slice (.ref a) (.int 2 u)) Q NoE s := r_item S hm (by decide) (by decide) rfl h hs
-- the state list's cells
theorem y_set1 {D : Addr} {x y z v : Value} {n : Nat} {t : Tok} (S : St hb L m ((D, listOf #[x, y, z] n) :: led) imm own R s) (h : ∀ s', St hb L m ((D, listOf #[x, v, z] n) :: led) imm own R s' → QU () s') :
    wpAny (model prog w) A (setItem (.ref D) (.int 1 t) v) QU NoE s :=
  r_setItem (k := 0) (j := 1) S rfl (by decide) rfl (by simp) (by decide) rfl h
theorem y_set2 {D : Addr} {x y z v : Value} {n : Nat} {t : Tok} (S : St hb L m ((D, listOf #[x, y, z] n) :: led) imm own R s) (h : ∀ s', St hb L m ((D, listOf #[x, y, v] n) :: led) imm own R s' → QU () s') :
    wpAny (model prog w) A (setItem (.ref D) (.int 2 t) v) QU NoE s :=
  r_setItem (k := 0) (j := 2) S rfl (by decide) rfl (by simp) (by decide) rfl h
theorem y_fdiv7 {a : Int} {t u : Tok} {Q : Value → Shared → Prop} (S : St hb L m led imm own R s) (h : ∀ t s', St hb L m led imm own R s' → Q (.int (a.fdiv 7) t) s') :
    wpAny (model prog w) A (binaryOp .FloorDiv (.int a t) (.int 7 u)) Q NoE s := floordiv_int (by decide) (h _ _ (S.tok _)) (Or.inl (PyProof.noPylong_of_log2 (by decide +kernel)))
theorem y_mul31 {a : Int} {t u : Tok} {Q : Value → Shared → Prop} (S : St hb L m led imm own R s) (h : ∀ t s', St hb L m led imm own R s' → Q (.int (a * 31) t) s') :
    wpAny (model prog w) A (binaryOp .Mult (.int a t) (.int 31 u)) Q NoE s := r_mul S (PySem.IntMulOk.of_right (PySem.intBits_le_64 (by decide) (by decide))) h
theorem y_mulM {a : Int} {t u : Tok} {Q : Value → Shared → Prop} (S : St hb L m led imm own R s) (h : ∀ t s', St hb L m led imm own R s' → Q (.int (a * 48271) t) s') :
    wpAny (model prog w) A (binaryOp .Mult (.int a t) (.int 48271 u)) Q NoE s := r_mul S (PySem.IntMulOk.of_right (PySem.intBits_le_64 (by decide) (by decide))) h
theorem y_modM {a : Int} {t u : Tok} {Q : Value → Shared → Prop} (S : St hb L m led imm own R s) (h : ∀ t s', St hb L m led imm own R s' → Q (.int (a.fmod 2147483647) t) s') :
    wpAny (model prog w) A (binaryOp .Mod (.int a t) (.int 2147483647 u)) Q NoE s := r_mod S (by decide) h
theorem y_modP {a b : Int} {t u : Tok} {Q : Value → Shared → Prop} (hb0 : 0 < b) (S : St hb L m led imm own R s) (h : ∀ t s', St hb L m led imm own R s' → Q (.int (a.fmod b) t) s') :
    wpAny (model prog w) A (binaryOp .Mod (.int a t) (.int b u)) Q NoE s := r_mod S (by omega) h
theorem mem_l0 {p : Addr × Obj} {led r : Led} : p ∈ (p :: led) ++ r := List.mem_append_left _ (.head _)
theorem mem_l1 {a p : Addr × Obj} {led r : Led} : p ∈ (a :: p :: led) ++ r := List.mem_append_left _ (.tail _ (.head _))
theorem mem_l2 {a b p : Addr × Obj} {led r : Led} : p ∈ (a :: b :: p :: led) ++ r := List.mem_append_left _ (.tail _ (.tail _ (.head _)))
theorem mem_l3 {a b c p : Addr × Obj} {led r : Led} : p ∈ (a :: b :: c :: p :: led) ++ r := List.mem_append_left _ (.tail _ (.tail _ (.tail _ (.head _))))
theorem mem_l4 {a b c d p : Addr × Obj} {led r : Led} : p ∈ (a :: b :: c :: d :: p :: led) ++ r := List.mem_append_left _ (.tail _ (.tail _ (.tail _ (.tail _ (.head _)))))
theorem mem_i {p : Addr × Obj} {led imm own : Led} (h : p ∈ imm) : p ∈ led ++ (imm ++ own) := List.mem_append_right _ (List.mem_append_left _ h)
end
end Mine

-- part M8
namespace Mine
open PySem PySem.W PyProof.Rows PySem.Calls
local macro_rules | `(tactic| walk_at "clr") => `(tactic| ((rename St _ _ _ _ _ _ _ _ => Sx); clear Sx))
local macro_rules | `(tactic| walk_at "mem") => `(tactic| first
  | exact mem_l0
  | exact mem_l1
  | exact mem_l2
  | exact mem_l3
  | exact mem_l4
  | exact mem_i (by assumption)
  | exact mem_i (.head _)
  | exact mem_i (.tail _ (.head _))
  | exact mem_i (.tail _ (.tail _ (.head _)))
  | fail "mem")
local macro_rules | `(tactic| walk_at "go") => `(tactic| with_reducible first
  | (refine r_int (by assumption) ?_; walk_at "clr"; intro t s S)
  | refine y_more ?_
  | refine spliced_none ?_
  | refine wpAny_BinOp ?_
  | refine Subscript_ ?_
  | refine y_callN ?_
  | refine y_callB ?_
  | refine wpAny_truthy_bool ?_
  | (refine r_add (by assumption) ?_; walk_at "clr"; intro t s S)
  | refine y_sub0 (by assumption) (by walk_at "mem") ?_
  | refine y_sub1 (by assumption) (by walk_at "mem") ?_
  | refine y_sub2 (by assumption) (by walk_at "mem") ?_
  | refine x_assign ?_
  | refine y_isTrueCmp ?_
  | refine r_lt ?_
  | refine r_eqi ?_
  | refine r_nei ?_
  | (refine r_str (by assumption) ?_; walk_at "clr"; intro t s S)
  | (refine r_sub (by assumption) ?_; walk_at "clr"; intro t s S)
  | (refine r_abs (by assumption) ?_; walk_at "clr"; intro t s S)
  | refine x_return ?_
  | refine x_if ?_
  | refine x_setItem ?_
  | refine cont_next ?_
  | refine cont_ret ?_
  | refine x_nil ?_)
local macro_rules | `(tactic| walk_at "next") => `(tactic| with_reducible first
  | refine n_ld_state (by assumption) rfl ?_
  | refine n_ld_many (by assumption) rfl ?_
  | refine n_ld_found (by assumption) rfl ?_
  | (refine n_st_found (by assumption) ?_; walk_at "clr"; intro s S)
  | (refine y_set1 (by assumption) ?_; walk_at "clr"; intro s S)
  | (refine y_set2 (by assumption) ?_; walk_at "clr"; intro s S)
  | (refine y_mul31 (by assumption) ?_; walk_at "clr"; intro t s S)
  | (refine y_mulM (by assumption) ?_; walk_at "clr"; intro t s S)
  | (refine y_modM (by assumption) ?_; walk_at "clr"; intro t s S)
  | (refine y_modP (by assumption) (by assumption) ?_; walk_at "clr"; intro t s S)
  | (refine y_fdiv7 (by assumption) ?_; walk_at "clr"; intro t s S))

section
variable {prog : Program} {w : World} {A A₀ : Around} {s : Shared} {env : Env} {base : Heap} {outer : List Env}
variable {hb : Heap} {L : Addr} {m : Str → Option Value} {led imm imm0 own : Led} {R : Rest}
variable {Q : Value → Shared → Prop}
theorem nk_len : (nenv L).kindOf "len" = some .globalImplicit := by rfl
theorem nk_abs : (nenv L).kindOf "abs" = some .globalImplicit := by rfl
theorem bb_len : bootBuiltins "len" = some (.builtin "len") := by boot_by_name
theorem bb_abs : bootBuiltins "abs" = some (.builtin "abs") := by boot_by_name
theorem kk_len : nsIn (KK w) mainGlobals "len" = some none := by rfl
theorem kk_abs : nsIn (KK w) mainGlobals "abs" = some none := by rfl
theorem n_len {pos : Pos} (BS : Bs w A₀ base outer hb) (S : St hb L m led imm own R s) (h : Q (.builtin "len") s) : wpAny (model prog w) A (eval (.Name "len" pos) (nenv L)) Q NoE s :=
  r_built BS S kk_len bb_len (by decide) rfl nk_len rfl rfl (by decide) h
theorem n_abs {pos : Pos} (BS : Bs w A₀ base outer hb) (S : St hb L m led imm own R s) (h : Q (.builtin "abs") s) : wpAny (model prog w) A (eval (.Name "abs" pos) (nenv L)) Q NoE s :=
  r_built BS S kk_abs bb_abs (by decide) rfl nk_abs rfl rfl (by decide) h

theorem next_body {st : Addr} {o : Obj} {many : Int} {tm : Tok} {QF : Flow → Shared → Prop} (BS : Bs w A₀ base outer hb) (S : St hb L (nm (some (.ref st)) (some (.int many tm)) none) ((st, o) :: led) imm own R s) (D : Draw imm0 o) (hs : ∀ p ∈ imm0, p ∈ imm) (h0 : 0 < many)
    (h : ∀ r t o' m' s', 0 ≤ r → r < many → Draw imm0 o' → St hb L m' ((st, o') :: led) imm own R s' → QF (.ret (.int r t)) s') :
    wpAny (model prog w) A (execs nBody (nenv L)) QF NoE s := by
  obtain ⟨sl, vs, k, ns, i, sd, ti, ts, n, rfl, hsl, hI, hlen, hi, hs0, hs1⟩ := D
  have hsl' := hs _ hsl
  refine x_if ?_
  repeat (first | walk_at "go" | walk_at "next" | with_reducible refine n_len BS (by assumption) ?_)
  refine r_lenList (by assumption) (by walk_at "mem") (by simp only [List.size_toArray]; omega) ?_
  walk_at "clr"; intro t s S
  repeat (first | walk_at "go" | walk_at "next")
  refine b_dec (fun hlt => ?_) (fun hge => ?_)
  · simp only [List.size_toArray] at hlt
    obtain ⟨u, hx⟩ := hI.get i.toNat (ns[i.toNat]'(by rw [← hI.length]; omega)) (List.getElem?_eq_getElem _)
    generalize hf : (ns[i.toNat]'(by rw [← hI.length]; omega)) = found at hx
    repeat (first | walk_at "go" | walk_at "next" | with_reducible refine n_abs BS (by assumption) ?_)
    refine r_item (by assumption) (by walk_at "mem") hi (by omega) hx ?_
    repeat (first | walk_at "go" | walk_at "next")
    refine h _ _ _ _ _ (fmod_lo _ h0) (fmod_hi _ h0) ?_ (by assumption)
    exact ⟨sl, vs, k, ns, _, _, _, _, _, rfl, hsl, hI, hlen, by omega, fmod_lo _ (by decide), fmod_hi _ (by decide)⟩
  · repeat (first | walk_at "go" | walk_at "next")
    refine h _ _ _ _ _ (fmod_lo _ h0) (fmod_hi _ h0) ?_ (by assumption)
    exact ⟨sl, vs, k, ns, _, _, _, _, _, rfl, hsl, hI, hlen, by omega, fmod_lo _ (by decide), fmod_hi _ (by decide)⟩

theorem nm_binds {a b : Value} : (fun y => List.lookup y ([("state", a), ("many", b)] : List (Str × Value)).reverse) = nm (some a) (some b) none := by
  funext y
  show List.lookup y [(("many" : Str), b), ("state", a)] = _
  unfold nm
  by_cases h1 : y = ("state" : Str)
  · subst h1; rfl
  · by_cases h2 : y = ("many" : Str)
    · subst h2; rfl
    · have e1 : (y == ("state" : Str)) = false := by simpa using h1
      have e2 : (y == ("many" : Str)) = false := by simpa using h2
      simp only [List.lookup, e1, e2, if_neg h1, if_neg h2]
      split <;> rfl

theorem call_next {st : Addr} {o : Obj} {many : Int} {tm : Tok} (BS : Bs w A₀ base outer hb) (hr : Rmb 3 A) (hA : A.frames = some (env :: outer)) (hf : env.frame = some env.locals) (hke : env.scope.kind = .function)
    (S : St hb env.locals m ((st, o) :: led) imm own R s) (D : Draw imm0 o) (hs : ∀ p ∈ imm0, p ∈ imm) (h0 : 0 < many)
    (h : ∀ r t o' s', 0 ≤ r → r < many → Draw imm0 o' → St hb env.locals m ((st, o') :: led) imm own R s' → Q (.int r t) s') :
    wpAny (model prog w) A (call (.ref 50) [.ref st, .int many tm]) Q NoE s := by
  refine r_call (b := 2) (binds := [("state", .ref st), ("many", .int many tm)]) BS S hA hf hke hr (by exact rfl) (by rfl) (by rfl) ?_ (fun g L' s₁ BS' S' => ?_) (by rfl) (by rfl) (by rfl) ?_
  · exact locs rfl
  · rw [nm_binds] at S'
    refine next_body BS' S' D hs h0 fun r t o' m' s' h1 h2 D' S2 => ⟨m', _, _, S2, fun S3 => h r t o' s' h1 h2 D' S3⟩
  · decide

theorem keep50 : keepIn (KK w) (.ref 50) = true := by rfl
theorem kk_next : nsIn (KK w) mainGlobals "_law_next" = some (some (.ref 50)) := by rfl
/-- a draw, as the text writes it -/
theorem eval_next {st : Addr} {o : Obj} {many : Int} {k : Nat} {p1 p2 p3 pos : Pos} (BS : Bs w A₀ base outer hb) (hr : Rmb 3 A) (hA : A.frames = some (env :: outer)) (hf : env.frame = some env.locals) (hke : env.scope.kind = .function) (hgl : env.globals = mainGlobals)
    (hk1 : env.kindOf "_law_next" = some .globalImplicit) (hk2 : env.kindOf "state" = some .local) (hm : m "state" = some (.ref st))
    (S : St hb env.locals m ((st, o) :: led) imm own R s) (D : Draw imm0 o) (hs : ∀ p ∈ imm0, p ∈ imm) (h0 : 0 < many)
    (h : ∀ r t o' s', 0 ≤ r → r < many → Draw imm0 o' → St hb env.locals m ((st, o') :: led) imm own R s' → Q (.int r t) s') :
    wpAny (model prog w) A (eval (.Call (.Name "_law_next" p1) [.Name "state" p2, .Constant (.int many) k p3] [] pos) env) Q NoE s := by
  refine y_callN (r_glob BS S kk_next hke hk1 hgl (by decide) ?_)
  refine callWith_K BS.X keep50 ?_ (by rfl) (by rfl)
  refine y_more (r_local S hm hke hk2 (by decide) ?_) (by rfl)
  refine y_more (r_int S fun t s' S' => ?_) (by rfl)
  refine spliced_none ⟨BS.X.keeps S'.F.keep, ?_⟩
  exact call_next BS hr hA hf hke S' D hs h0 h
end
end Mine

-- part P2
namespace Mine
open PySem PySem.W PyProof.Rows PySem.Calls

/-- the generator's state -/
structure G where
  ps : Int
  pe : Int
  parens : Int
  comment : Bool
  bs : Option (Int × Int)
/-- a token, with the last row that it lies in -/
structure TkL where
  kind : Int
  text : Str
  sr : Int
  er : Int
  b : List Nat
def bsOf (er : Int) (b : List Nat) : Option (Int × Int) := if b.getLast? = some 92 then some (er, (b.length : Int) - 1) else none
def isIn (x y : Str) : Bool := !(Builtin.Str.occurrences x y 0 x.length 1).isEmpty
def delta (x : Str) : Int := if isIn "([{" x = true then 1 else if isIn ")]}" x = true then -1 else 0
def gy (g : G) (t : TkL) : List (Int × Int) := if t.sr ≠ g.ps ∧ g.parens ≠ 0 ∧ (g.comment || t.kind == 61) = false then g.bs.toList else []
def gs (g : G) (t : TkL) : G where
  ps := if t.er ≠ g.pe then t.er else t.sr
  pe := if t.er ≠ g.pe then t.er else g.pe
  parens := if t.kind = 54 then g.parens + delta t.text else g.parens
  comment := if t.sr ≠ g.ps then false else (g.comment || t.kind == 61)
  bs := if t.er ≠ g.pe then bsOf t.er t.b else g.bs
def gfin : G → List TkL → G
  | g, [] => g
  | g, t :: ts => gfin (gs g t) ts
def grun : G → List TkL → List (Int × Int)
  | _, [] => []
  | g, t :: ts => gy g t ++ grun (gs g t) ts
theorem gfin_snoc (ts : List TkL) (t : TkL) : ∀ g, gfin g (ts ++ [t]) = gs (gfin g ts) t := by
  induction ts with
  | nil => intro g; rfl
  | cons a r ih => intro g; exact ih _
theorem grun_snoc (ts : List TkL) (t : TkL) : ∀ g, grun g (ts ++ [t]) = grun g ts ++ gy (gfin g ts) t := by
  induction ts with
  | nil => intro g; simp [grun, gfin]
  | cons a r ih => intro g; simp only [List.cons_append, grun, gfin, ih, List.append_assoc]
def g0 : G := ⟨0, 0, 0, false, none⟩

/-- a token as it is built -/
structure Tk where
  kind : Int
  text : Str
  sr : Int
  sc : Int
  er : Int
  ec : Int
  a : Int
  b : Int
def tof (B : List (List Nat)) (t : Tk) : TkL := ⟨t.kind, t.text, t.sr, t.er, (B[(t.er - 1).toNat]?).getD []⟩
def tofs (B : List (List Nat)) (ts : List Tk) : List TkL := ts.map (tof B)
theorem tofs_snoc (B : List (List Nat)) (ts : List Tk) (t : Tk) : tofs B (ts ++ [t]) = tofs B ts ++ [tof B t] := by simp [tofs]
def inRows (n : Nat) (ts : List Tk) : Prop := ∀ t ∈ ts, 1 ≤ t.er ∧ t.er ≤ n
theorem tofs_more {B C : List (List Nat)} {ts : List Tk} (h : inRows B.length ts) : tofs (B ++ C) ts = tofs B ts := by
  unfold tofs
  refine List.map_congr_left fun t ht => ?_
  have := h t ht
  have e : (B ++ C)[(t.er - 1).toNat]? = B[(t.er - 1).toNat]? := List.getElem?_append_left (by omega)
  simp only [tof, e]
def pend (g : G) : List (Int × Int) := if g.parens ≠ 0 ∧ g.comment = false then g.bs.toList else []

/-- at a row's start: what is due is told, or told by the next token -/
def Ready (B : List (List Nat)) (ts : List Tk) (due : List (Int × Int)) (n : Nat) : Prop :=
  inRows B.length ts ∧ ∃ g, gfin g0 (tofs B ts) = g ∧ g.ps ≤ B.length ∧ g.pe ≤ B.length ∧ g.parens = n ∧ grun g0 (tofs B ts) ++ pend g = due
def Quiet (B : List (List Nat)) (ts : List Tk) : Prop := pend (gfin g0 (tofs B ts)) = []
/-- within a row, one token at least behind us -/
def Started (B : List (List Nat)) (ts : List Tk) (due : List (Int × Int)) (n : Nat) (c : Bool) : Prop :=
  inRows (B.length + 1) ts ∧ ∀ b, gfin g0 (tofs (B ++ [b]) ts) = ⟨(B.length : Int) + 1, (B.length : Int) + 1, n, c, bsOf ((B.length : Int) + 1) b⟩ ∧ grun g0 (tofs (B ++ [b]) ts) = due

theorem ready_nil : Ready [] [] [] 0 := ⟨fun _ h => (nomatch h), g0, rfl, by decide, by decide, rfl, rfl⟩
theorem quiet_nil : Quiet [] [] := rfl

theorem tof_last (B : List (List Nat)) (b : List Nat) (t : Tk) (h : t.er = (B.length : Int) + 1) : tof (B ++ [b]) t = ⟨t.kind, t.text, t.sr, t.er, b⟩ := by
  have e : (t.er - 1).toNat = B.length := by omega
  simp [tof, e]

theorem nat_delta {t : Tk} {n n' : Nat} (h : (n' : Int) = if t.kind = 54 then (n : Int) + delta t.text else n) : (if t.kind = 54 then (n : Int) + delta t.text else n) = (n' : Int) := h.symm

/-- the first token of a row -/
theorem ready_token {B : List (List Nat)} {ts : List Tk} {due : List (Int × Int)} {n n' : Nat} (t : Tk) (R : Ready B ts due n) (hs : t.sr = (B.length : Int) + 1) (he : t.er = (B.length : Int) + 1) (hk : t.kind ≠ 61)
    (hn : (n' : Int) = if t.kind = 54 then (n : Int) + delta t.text else n) : Started B (ts ++ [t]) due n' false := by
  obtain ⟨hin, g, hg, h1, h2, h3, h4⟩ := R
  refine ⟨fun u hu => ?_, fun b => ?_⟩
  · rcases List.mem_append.mp hu with hu | hu
    · have := hin u hu; omega
    · rw [List.mem_singleton.mp hu]; omega
  · rw [tofs_snoc, tofs_more hin, gfin_snoc, grun_snoc, hg, tof_last B b t he]
    have a1 : t.sr ≠ g.ps := by omega
    have a2 : t.er ≠ g.pe := by omega
    have a3 : (t.kind == 61) = false := by simpa using hk
    refine ⟨?_, ?_⟩
    · rw [he] at a2; simp only [gs, if_pos a1, he, if_pos a2, h3, ← hn]
    · rw [← h4]
      congr 1
      simp [gy, pend, a1, a3]
/-- the first token of a row, alone a remark -/
theorem quiet_remark {B : List (List Nat)} {ts : List Tk} {due : List (Int × Int)} {n : Nat} (t : Tk) (R : Ready B ts due n) (q : Quiet B ts) (hs : t.sr = (B.length : Int) + 1) (he : t.er = (B.length : Int) + 1) (hk : t.kind = 61) :
    Started B (ts ++ [t]) due n false := by
  obtain ⟨hin, g, hg, h1, h2, h3, h4⟩ := R
  refine ⟨fun u hu => ?_, fun b => ?_⟩
  · rcases List.mem_append.mp hu with hu | hu
    · have := hin u hu; omega
    · rw [List.mem_singleton.mp hu]; omega
  · rw [tofs_snoc, tofs_more hin, gfin_snoc, grun_snoc, hg, tof_last B b t he]
    have a1 : t.sr ≠ g.ps := by omega
    have a2 : t.er ≠ g.pe := by omega
    unfold Quiet at q
    rw [hg] at q
    refine ⟨?_, ?_⟩
    · rw [he] at a2; simp [gs, a1, he, a2, h3, hk]
    · rw [← h4, q]
      simp [gy, hk]
/-- a further token of the row -/
theorem started_token {B : List (List Nat)} {ts : List Tk} {due : List (Int × Int)} {n n' : Nat} {c : Bool} (t : Tk) (R : Started B ts due n c) (hs : t.sr = (B.length : Int) + 1) (he : t.er = (B.length : Int) + 1)
    (hn : (n' : Int) = if t.kind = 54 then (n : Int) + delta t.text else n) : Started B (ts ++ [t]) due n' (c || t.kind == 61) := by
  obtain ⟨hin, R⟩ := R
  refine ⟨fun u hu => ?_, fun b => ?_⟩
  · rcases List.mem_append.mp hu with hu | hu
    · have := hin u hu; omega
    · rw [List.mem_singleton.mp hu]; omega
  · obtain ⟨hg, hd⟩ := R b
    rw [tofs_snoc, gfin_snoc, grun_snoc, hg, hd, tof_last B b t he]
    refine ⟨?_, ?_⟩
    · simp only [gs, he, hs, ne_eq, not_true_eq_false, if_false, ← hn]
    · simp [gy, hs]
/-- a token over two rows -/
theorem ready_two {B : List (List Nat)} {ts : List Tk} {due : List (Int × Int)} {n : Nat} (b₁ : List Nat) (t : Tk) (R : Ready B ts due n) (hs : t.sr = (B.length : Int) + 1) (he : t.er = (B.length : Int) + 2) (hk : t.kind = 3) :
    Started (B ++ [b₁]) (ts ++ [t]) due n false := by
  obtain ⟨hin, g, hg, h1, h2, h3, h4⟩ := R
  refine ⟨fun u hu => ?_, fun b => ?_⟩
  · simp only [List.length_append, List.length_cons, List.length_nil]
    rcases List.mem_append.mp hu with hu | hu
    · have := hin u hu; omega
    · rw [List.mem_singleton.mp hu]; omega
  · have hl : ((B ++ [b₁]).length : Int) = (B.length : Int) + 1 := by simp
    rw [tofs_snoc, gfin_snoc, grun_snoc, tof_last (B ++ [b₁]) b t (by omega), List.append_assoc, tofs_more hin, hg]
    have a1 : t.sr ≠ g.ps := by omega
    have a2 : t.er ≠ g.pe := by omega
    refine ⟨?_, ?_⟩
    · have : (B.length : Int) + 1 + 1 = (B.length : Int) + 2 := by omega
      rw [he] at a2
      simp [gs, a1, hl, he, a2, hk, h3, this]
    · rw [← h4]
      congr 1
      simp [gy, pend, a1, hk]
theorem started_two {B : List (List Nat)} {ts : List Tk} {due : List (Int × Int)} {n : Nat} (b₁ : List Nat) (t : Tk) (R : Started B ts due n false) (hs : t.sr = (B.length : Int) + 1) (he : t.er = (B.length : Int) + 2) (hk : t.kind = 3) :
    Started (B ++ [b₁]) (ts ++ [t]) due n false := by
  obtain ⟨hin, R⟩ := R
  refine ⟨fun u hu => ?_, fun b => ?_⟩
  · simp only [List.length_append, List.length_cons, List.length_nil]
    rcases List.mem_append.mp hu with hu | hu
    · have := hin u hu; omega
    · rw [List.mem_singleton.mp hu]; omega
  · have hl : ((B ++ [b₁]).length : Int) = (B.length : Int) + 1 := by simp
    have hin' : inRows (B ++ [b₁]).length ts := by simpa using hin
    obtain ⟨hg, hd⟩ := R b₁
    rw [tofs_snoc, gfin_snoc, grun_snoc, tof_last (B ++ [b₁]) b t (by omega), tofs_more hin', hg, hd]
    have a2 : t.er ≠ (B.length : Int) + 1 := by omega
    refine ⟨?_, ?_⟩
    · have : (B.length : Int) + 1 + 1 = (B.length : Int) + 2 := by omega
      rw [he] at a2
      simp [gs, hl, he, a2, hk, hs, this]
    · simp [gy, hs]
/-- the row ends -/
theorem started_end {B : List (List Nat)} {ts : List Tk} {due : List (Int × Int)} {n : Nat} {c : Bool} (b : List Nat) (R : Started B ts due n c) : Ready (B ++ [b]) ts (due ++ (if n ≠ 0 ∧ c = false then (bsOf ((B.length : Int) + 1) b).toList else [])) n := by
  obtain ⟨hin, R⟩ := R
  obtain ⟨hg, hd⟩ := R b
  refine ⟨by simpa using hin, _, hg, by simp, by simp, rfl, ?_⟩
  rw [hd]
  simp [pend]
theorem started_quiet {B : List (List Nat)} {ts : List Tk} {due : List (Int × Int)} {n : Nat} {c : Bool} (b : List Nat) (R : Started B ts due n c) (h : c = true ∨ b.getLast? ≠ some 92) : Ready (B ++ [b]) ts due n ∧ Quiet (B ++ [b]) ts := by
  have e : (if n ≠ 0 ∧ c = false then (bsOf ((B.length : Int) + 1) b).toList else []) = [] := by
    rcases h with h | h
    · simp [h]
    · simp [bsOf, h]
  have R' := started_end b R
  rw [e, List.append_nil] at R'
  refine ⟨R', ?_⟩
  obtain ⟨hg, _⟩ := R.2 b
  unfold Quiet
  rw [hg]
  simp only [pend]
  rcases h with h | h
  · simp [h]
  · simp [bsOf, h]
/-- the last row's end -/
theorem started_last {B : List (List Nat)} {ts : List Tk} {due : List (Int × Int)} {n : Nat} {c : Bool} (b : List Nat) (R : Started B ts due n c) : inRows (B ++ [b]).length ts ∧ grun g0 (tofs (B ++ [b]) ts) = due :=
  ⟨by simpa using R.1, (R.2 b).2⟩
end Mine

-- part P1
namespace Mine
open PySem PySem.W PyProof.Rows PySem.Calls PySem.StrLaws PySem.Builtin.Str

def Plain (b : List Nat) : Prop := ∀ c ∈ b, 32 ≤ c ∧ c ≤ 126
/-- a row: its signs, and how it ends -/
structure RowOk (x : Str) (b : List Nat) : Prop where
  pl : Plain b
  ne : b ≠ []
  e : x.cps.toList = b ++ [10] ∨ x.cps.toList = b ++ [13, 10]
def LineOk (x : Str) (b : List Nat) : Prop := RowOk x b ∨ ∃ y z b', x = y ++ z ∧ RowOk y b' ∧ RowOk z b

theorem append_toList (x y : Str) : (x ++ y).cps.toList = x.cps.toList ++ y.cps.toList := by
  show (x.cps ++ y.cps).toList = _
  simp
theorem length_toList (x : Str) : x.cps.toList.length = x.length := by simp [Str.length]

/-- pre, the last row's signs, the row's end -/
theorem LineOk.cut {x : Str} {b : List Nat} (h : LineOk x b) : Plain b ∧ b ≠ [] ∧ ∃ pre e, x.cps.toList = pre ++ (b ++ e) ∧ (e = [10] ∨ e = [13, 10]) := by
  rcases h with h | ⟨y, z, b', rfl, hy, hz⟩
  · refine ⟨h.pl, h.ne, ?_⟩
    rcases h.e with e | e
    · exact ⟨[], [10], by simpa using e, .inl rfl⟩
    · exact ⟨[], [13, 10], by simpa using e, .inr rfl⟩
  · refine ⟨hz.pl, hz.ne, ?_⟩
    rw [append_toList]
    rcases hz.e with e | e
    · exact ⟨_, [10], by rw [e], .inl rfl⟩
    · exact ⟨_, [13, 10], by rw [e], .inr rfl⟩

theorem crlf_is (c : Nat) : (PySem.Str.ofString "\r\n").cps.contains c = (c == 13 || c == 10) := by
  have e : PySem.Str.ofString "\r\n" = PySem.Str.mk #[13, 10] := by decide +kernel
  rw [e]
  show (#[13, 10] : Array Nat).contains c = _
  by_cases h1 : c = 13 <;> by_cases h2 : c = 10 <;> simp [h1, h2]
theorem plain_last {b : List Nat} (h : Plain b) (hn : b ≠ []) : ∃ c, b.getLast? = some c ∧ 32 ≤ c ∧ c ≤ 126 :=
  ⟨b.getLast hn, List.getLast?_eq_some_getLast hn, h _ (List.getLast_mem hn)⟩

/-- the text cut behind the last row's signs, its last sign asked -/
theorem line_ends {x : Str} {b : List Nat} (h : LineOk x b) : Txt.endswith (Txt.rstripChars x "\r\n") "\\" = decide (b.getLast? = some 92) := by
  obtain ⟨hp, hn, pre, e, hx, he⟩ := h.cut
  obtain ⟨c, hc, c1, c2⟩ := plain_last hp hn
  have hbl : 0 < b.length := List.length_pos_iff.mpr hn
  have hlen : x.length = pre.length + b.length + e.length := by rw [← length_toList, hx]; simp; omega
  have hel : 0 < e.length := by rcases he with rfl | rfl <;> simp
  have hget : ∀ k, x.cps.getD k 0 = (pre ++ (b ++ e)).getD k 0 := fun k => by rw [← hx, getD_list]
  have hlast : x.cps.getD (pre.length + b.length - 1) 0 = c := by
    rw [hget, List.getD_eq_getElem?_getD, List.getElem?_append_right (by omega), List.getElem?_append_left (by omega)]
    have : pre.length + b.length - 1 - pre.length = b.length - 1 := by omega
    rw [this, ← List.getLast?_eq_getElem?, hc]
    rfl
  have hends : ∀ k, pre.length + b.length ≤ k → k < x.length → (PySem.Str.ofString "\r\n").cps.contains (x.cps.getD k 0) = true := by
    intro k h1 h2
    rw [hget, List.getD_eq_getElem?_getD, List.getElem?_append_right (by omega), List.getElem?_append_right (by omega), crlf_is]
    have hk : k - pre.length - b.length < e.length := by omega
    rw [List.getElem?_eq_getElem hk]
    have hm : e[k - pre.length - b.length] ∈ e := List.getElem_mem hk
    generalize e[k - pre.length - b.length] = q at hm
    have hq : q = 13 ∨ q = 10 := by rcases he with rfl | rfl <;> simp at hm <;> simp [hm]
    rcases hq with rfl | rfl <;> rfl
  have hi := hi_facts (PySem.Str.ofString "\r\n").cps.contains x 0 (Nat.zero_le _)
  generalize hH : stripHi (PySem.Str.ofString "\r\n").cps.contains true x 0 = H at hi
  obtain ⟨_, i2, i3, i4⟩ := hi
  have hHe : H = pre.length + b.length := by
    have a1 : pre.length + b.length - 1 < H := by
      apply Nat.lt_of_not_le
      intro hle
      have := i3 (pre.length + b.length - 1) hle (by omega)
      rw [hlast, crlf_is] at this
      simp only [Bool.or_eq_true, beq_iff_eq] at this
      omega
    have a2 : ¬ pre.length + b.length < H := by
      intro hlt
      rcases i4 with i4 | i4
      · omega
      · rw [hends (H - 1) (by omega) (by omega)] at i4; cases i4
    omega
  have hs : Txt.rstripChars x "\r\n" = strSub x 0 (pre.length + b.length) := by
    show Txt.stripBy _ false true x = _
    rw [PyProof.Rows.stripBy_eq]
    have : stripLo (PySem.Str.ofString "\r\n").cps.contains false x = 0 := by simp [stripLo]
    rw [this, hH, hHe]
  have hsl : (strSub x 0 (pre.length + b.length)).cps.toList = pre ++ b := by
    show (x.cps.extract 0 (pre.length + b.length)).toList = _
    rw [Array.toList_extract, hx]
    simp [List.extract, ← List.append_assoc]
  rw [hs]
  generalize strSub x 0 (pre.length + b.length) = y at hsl
  have hy : y.length = pre.length + b.length := by rw [← length_toList, hsl]; simp
  have eb : PySem.Str.ofString "\\" = PySem.Str.mk #[92] := by decide +kernel
  rw [eb]
  unfold Txt.endswith
  have h1 : (PySem.Str.mk #[92]).length = 1 := rfl
  rw [h1, hy]
  have h2 : decide (0 + 1 ≤ pre.length + b.length) = true := by simp; omega
  rw [h2, Bool.true_and]
  unfold subAt
  rw [h1]
  have h3 : pre.length + b.length - 1 + 1 = pre.length + b.length := by omega
  rw [h3]
  have h4 : (y.cps.extract (pre.length + b.length - 1) (pre.length + b.length)).toList = [c] := by
    have hb0 : b = b.dropLast ++ [c] := by
      have q := List.getLast?_eq_some_getLast hn
      rw [hc] at q
      rw [Option.some.inj q]
      exact (List.dropLast_concat_getLast hn).symm
    generalize b.dropLast = b0 at hb0
    subst hb0
    rw [Array.toList_extract, hsl, ← List.append_assoc]
    have e1 : pre.length + (b0 ++ [c]).length - 1 = (pre ++ b0).length := by simp <;> omega
    have e2 : pre.length + (b0 ++ [c]).length = (pre ++ b0).length + 1 := by simp <;> omega
    rw [e1, e2]
    simp [List.extract]
  have h5 : (y.cps.extract (pre.length + b.length - 1) (pre.length + b.length)) = #[c] := by
    apply Array.toList_inj.mp; simpa using h4
  rw [h5, hc]
  by_cases h6 : c = 92 <;> simp [h6]

-- the lines
theorem brk_plain : ∀ c : Nat, 32 ≤ c → c ≤ 126 → Unicode.isLineBreak c = false := by
  have h : ∀ c ∈ List.range 127, 32 ≤ c → Unicode.isLineBreak c = false := by decide +kernel
  intro c h1 h2
  exact h c (List.mem_range.mpr (by omega)) h1
theorem brk10 : Unicode.isLineBreak 10 = true := by decide +kernel
theorem brk13 : Unicode.isLineBreak 13 = true := by decide +kernel
def lsRun (s : Str) (i m : Nat) (st : LsSt) : LsSt := Id.run (forIn (m := Id) (List.range' i m) st (lsBody s))
theorem lsRun_zero (s : Str) (i : Nat) (st : LsSt) : lsRun s i 0 st = st := rfl
theorem lsRun_succ (s : Str) (i m : Nat) (st : LsSt) : lsRun s i (m + 1) st = lsRun s (i + 1) m (if (decide (st.snd ≤ i) && Unicode.isLineBreak (s.cps.getD i 0)) = true then (st.fst.push (st.snd, i, lsNext s i), lsNext s i) else st) := by
  unfold lsRun
  rw [List.range'_succ, List.forIn_cons]
  unfold lsBody
  by_cases h : (decide (st.snd ≤ i) && Unicode.isLineBreak (s.cps.getD i 0)) = true
  · simp only [h, if_true]; rfl
  · simp only [h, if_false, Bool.false_eq_true]; rfl
theorem lsRun_add (s : Str) : ∀ (m k i : Nat) (st : LsSt), lsRun s i (m + k) st = lsRun s (i + m) k (lsRun s i m st)
  | 0, k, i, st => by rw [Nat.zero_add, lsRun_zero]; rfl
  | m + 1, k, i, st => by
    have e : m + 1 + k = (m + k) + 1 := by omega
    rw [e, lsRun_succ, lsRun_add s m k, lsRun_succ]
    have e2 : i + 1 + m = i + (m + 1) := by omega
    rw [e2]
theorem lsRun_skip (s : Str) : ∀ (m i : Nat) (st : LsSt), (∀ k, i ≤ k → k < i + m → k < st.snd ∨ Unicode.isLineBreak (s.cps.getD k 0) = false) → lsRun s i m st = st
  | 0, i, st, _ => rfl
  | m + 1, i, st, h => by
    rw [lsRun_succ, if_neg, lsRun_skip s m (i + 1) st fun k h1 h2 => h k (by omega) (by omega)]
    intro hc
    simp only [Bool.and_eq_true, decide_eq_true_eq] at hc
    rcases h i (Nat.le_refl _) (by omega) with q | q
    · omega
    · rw [hc.2] at q; cases q
/-- one row of a text -/
theorem lsRun_row (x : Str) (pre b e post : List Nat) (hx : x.cps.toList = pre ++ (b ++ (e ++ post))) (hp : Plain b) (he : e = [10] ∨ e = [13, 10]) (L : Array (Nat × Nat × Nat)) :
    lsRun x pre.length (b.length + e.length) (L, pre.length) = (L.push (pre.length, pre.length + b.length, pre.length + b.length + e.length), pre.length + b.length + e.length) := by
  have hget : ∀ k, x.cps.getD k 0 = (pre ++ (b ++ (e ++ post))).getD k 0 := fun k => by rw [← hx, getD_list]
  rw [lsRun_add, lsRun_skip x b.length pre.length (L, pre.length) fun k h1 h2 => .inr (by
    rw [hget, List.getD_eq_getElem?_getD, List.getElem?_append_right (by omega), List.getElem?_append_left (by omega), List.getElem?_eq_getElem (by omega)]
    have := hp _ (List.getElem_mem (l := b) (n := k - pre.length) (by omega))
    exact brk_plain _ this.1 this.2)]
  have at0 : ∀ j, x.cps.getD (pre.length + b.length + j) 0 = (e ++ post).getD j 0 := fun j => by
    rw [hget, List.getD_eq_getElem?_getD, List.getD_eq_getElem?_getD, List.getElem?_append_right (by omega), List.getElem?_append_right (by omega)]
    congr 2
    omega
  have atq : ∀ j, x.cps[pre.length + b.length + j]? = (e ++ post)[j]? := fun j => by
    rw [← Array.getElem?_toList, hx, List.getElem?_append_right (by omega), List.getElem?_append_right (by omega)]
    congr 1
    omega
  have a0 := at0 0
  rw [Nat.add_zero] at a0
  have q1 := atq 1
  rcases he with rfl | rfl
  · show lsRun x _ 1 _ = _
    have b0 : x.cps.getD (pre.length + b.length) 0 = 10 := by rw [a0]; rfl
    have n0 : lsNext x (pre.length + b.length) = pre.length + b.length + 1 := by
      unfold lsNext
      rw [b0]
      rfl
    rw [lsRun_succ, lsRun_zero, b0, brk10, n0]
    simp
  · show lsRun x _ 2 _ = _
    have b0 : x.cps.getD (pre.length + b.length) 0 = 13 := by rw [a0]; rfl
    have n0 : lsNext x (pre.length + b.length) = pre.length + b.length + 2 := by
      unfold lsNext
      rw [b0, q1]
      rfl
    rw [lsRun_succ, b0, brk13, n0, lsRun_skip]
    · simp
    · intro k h1 h2
      left
      simp
      omega
theorem lineCuts_row {x : Str} {b : List Nat} (h : RowOk x b) : lineCuts x = [(0, b.length)] ∧ b.length < x.length := by
  obtain ⟨e, he, hx⟩ : ∃ e, (e = [10] ∨ e = [13, 10]) ∧ x.cps.toList = b ++ e := by
    rcases h.e with q | q
    · exact ⟨_, .inl rfl, q⟩
    · exact ⟨_, .inr rfl, q⟩
  have hl : x.length = b.length + e.length := by rw [← length_toList, hx]; simp
  have hel : 0 < e.length := by rcases he with rfl | rfl <;> simp
  have r := lsRun_row x [] b e [] (by simpa using hx) h.pl he #[]
  have hls : lineSpans x = [(0, b.length, b.length + e.length)] := by
    rw [ls_eq]
    show lsEnd x (lsRun x 0 x.length (#[], 0)) = _
    rw [hl]
    simp only [List.length_nil, Nat.zero_add] at r
    rw [r]
    simp [lsEnd, hl]
  refine ⟨?_, by omega⟩
  unfold lineCuts
  rw [hls]
  rfl
theorem lineCuts_two {y z : Str} {b' b : List Nat} (hy : RowOk y b') (hz : RowOk z b) : lineCuts (y ++ z) = [(0, b'.length), (y.length, y.length + b.length)] ∧ y.length + b.length < (y ++ z).length := by
  obtain ⟨e', he', hx'⟩ : ∃ e, (e = [10] ∨ e = [13, 10]) ∧ y.cps.toList = b' ++ e := by
    rcases hy.e with q | q
    · exact ⟨_, .inl rfl, q⟩
    · exact ⟨_, .inr rfl, q⟩
  obtain ⟨e, he, hx⟩ : ∃ e, (e = [10] ∨ e = [13, 10]) ∧ z.cps.toList = b ++ e := by
    rcases hz.e with q | q
    · exact ⟨_, .inl rfl, q⟩
    · exact ⟨_, .inr rfl, q⟩
  have hyl : y.length = b'.length + e'.length := by rw [← length_toList, hx']; simp
  have hzl : z.length = b.length + e.length := by rw [← length_toList, hx]; simp
  have hl : (y ++ z).length = (b'.length + e'.length) + (b.length + e.length) := by rw [← length_toList, append_toList, hx', hx]; simp; omega
  have hel : 0 < e.length := by rcases he with rfl | rfl <;> simp
  have r1 := lsRun_row (y ++ z) [] b' e' (b ++ e) (by rw [append_toList, hx', hx]; simp) hy.pl he' #[]
  have r2 := lsRun_row (y ++ z) (b' ++ e') b e [] (by rw [append_toList, hx', hx]; simp) hz.pl he (#[].push (0, b'.length, b'.length + e'.length))
  have hls : lineSpans (y ++ z) = [(0, b'.length, b'.length + e'.length), (b'.length + e'.length, b'.length + e'.length + b.length, b'.length + e'.length + b.length + e.length)] := by
    rw [ls_eq]
    show lsEnd (y ++ z) (lsRun (y ++ z) 0 (y ++ z).length (#[], 0)) = _
    rw [hl, lsRun_add]
    simp only [List.length_nil, Nat.zero_add, List.length_append] at r1 r2
    rw [r1, Nat.zero_add, r2]
    simp only [lsEnd, hl]
    rw [if_neg (by omega)]
    rfl
  refine ⟨?_, by omega⟩
  unfold lineCuts
  rw [hls, hyl]
  rfl
theorem sub_len (x : Str) (i j : Nat) (h : j ≤ x.length) : (strSub x i j).length = j - i := by
  show (x.cps.extract i j).size = _
  have : j ≤ x.cps.size := h
  simp
  omega
/-- the lines of a token's line: the last is the last row's signs -/
theorem line_last {x : Str} {b : List Nat} (h : LineOk x b) : (lineCuts x).length ≤ 2 ∧ ∃ z, (Txt.lines x).getLast? = some z ∧ z.length = b.length := by
  rcases h with h | ⟨y, z, b', rfl, hy, hz⟩
  · obtain ⟨hc, hl⟩ := lineCuts_row h
    refine ⟨by rw [hc]; simp, strSub x 0 b.length, ?_, by rw [sub_len _ _ _ (by omega)]; omega⟩
    have hne : (lineCuts x == [(0, x.length)]) = false := by
      rw [hc]
      simp
      omega
    unfold Txt.lines
    rw [hne]
    unfold linesOf
    rw [hc]
    rfl
  · obtain ⟨hc, hl⟩ := lineCuts_two hy hz
    refine ⟨by rw [hc]; simp, strSub (y ++ z) y.length (y.length + b.length), ?_, by rw [sub_len _ _ _ (by omega)]; omega⟩
    have hne : (lineCuts (y ++ z) == [(0, (y ++ z).length)]) = false := by
      rw [hc]
      simp
    unfold Txt.lines
    rw [hne]
    unfold linesOf
    rw [hc]
    rfl
end Mine

-- part P3
namespace Mine
open PySem PySem.W PyProof.Rows PySem.Calls

def datTk (t : Tk) : Dat := .list [.int t.kind, .str t.text, .tuple [.int t.sr, .int t.sc], .tuple [.int t.er, .int t.ec], .int t.a, .int t.b]
def msg : Str := "E502 the backslash is redundant between brackets"
def datDue (p : Int × Int) : Dat := .tuple [.tuple [.int p.1, .int p.2], .str msg]

structure Dats (imm : List (Addr × Obj)) (rv tv dv cv : List Value) (rows : List Str) (toks : List Tk) (due : List (Int × Int)) (clos : List Str) : Prop where
  r : DatAll imm rv (rows.map Dat.str)
  t : DatAll imm tv (toks.map datTk)
  d : DatAll imm dv (due.map datDue)
  c : DatAll imm cv (clos.map Dat.str)
theorem Dats.mono {imm imm' : List (Addr × Obj)} {rv tv dv cv : List Value} {rows : List Str} {toks : List Tk} {due : List (Int × Int)} {clos : List Str} (h : Dats imm rv tv dv cv rows toks due clos) (hs : ∀ p ∈ imm, p ∈ imm') :
    Dats imm' rv tv dv cv rows toks due clos := ⟨h.r.mono hs, h.t.mono hs, h.d.mono hs, h.c.mono hs⟩

structure TkOk (t : Tk) : Prop where
  b : t.b = t.er
  a : t.a = t.er ∨ (t.a = t.er - 1 ∧ 2 ≤ t.er)
def RowsOk (rows : List Str) (B : List (List Nat)) : Prop := rows.length = B.length ∧ ∀ (i : Nat) (x : Str) (b : List Nat), rows[i]? = some x → B[i]? = some b → RowOk x b
theorem RowsOk.snoc {rows : List Str} {B : List (List Nat)} {x : Str} {b : List Nat} (h : RowsOk rows B) (hx : RowOk x b) : RowsOk (rows ++ [x]) (B ++ [b]) := by
  refine ⟨by simp [h.1], fun i y c hy hc => ?_⟩
  by_cases hi : i < rows.length
  · rw [List.getElem?_append_left hi] at hy
    rw [List.getElem?_append_left (by rw [← h.1]; exact hi)] at hc
    exact h.2 i y c hy hc
  · have e : i = rows.length := by
      have := (List.getElem?_eq_some_iff.mp hy).1
      simp at this
      omega
    subst e
    rw [List.getElem?_concat_length] at hy
    rw [h.1, List.getElem?_concat_length] at hc
    cases hy
    cases hc
    exact hx
def Closers (clos : List Str) : Prop := ∀ c ∈ clos, c = ")" ∨ c = "]" ∨ c = "}"
structure Pu (K : Nat) (rows : List Str) (B : List (List Nat)) (toks : List Tk) (due : List (Int × Int)) (clos : List Str) : Prop where
  rb : RowsOk rows B
  short : ∀ x ∈ rows, x.length ≤ 1000
  tk : ∀ t ∈ toks, TkOk t
  cl : Closers clos
  kr : rows.length ≤ K
  kt : toks.length ≤ K
  kd : due.length ≤ K
  kc : clos.length ≤ K
theorem Pu.more {K K' : Nat} {rows : List Str} {B : List (List Nat)} {toks : List Tk} {due : List (Int × Int)} {clos : List Str} (h : Pu K rows B toks due clos) (hk : K ≤ K') : Pu K' rows B toks due clos :=
  ⟨h.rb, h.short, h.tk, h.cl, Nat.le_trans h.kr hk, Nat.le_trans h.kt hk, Nat.le_trans h.kd hk, Nat.le_trans h.kc hk⟩
theorem Pu.row {K : Nat} {rows : List Str} {B : List (List Nat)} {toks : List Tk} {due : List (Int × Int)} {clos : List Str} (h : Pu K rows B toks due clos) {x : Str} {b : List Nat} (hx : RowOk x b) (hs : x.length ≤ 1000) : Pu (K + 1) (rows ++ [x]) (B ++ [b]) toks due clos :=
  ⟨h.rb.snoc hx, fun y hy => by
    rcases List.mem_append.mp hy with hy | hy
    · exact h.short y hy
    · rw [List.mem_singleton.mp hy]; exact hs, h.tk, h.cl, by simpa using h.kr, by have := h.kt; omega, by have := h.kd; omega, by have := h.kc; omega⟩
theorem Pu.tok {K : Nat} {rows : List Str} {B : List (List Nat)} {toks : List Tk} {due : List (Int × Int)} {clos : List Str} (h : Pu K rows B toks due clos) {t : Tk} (ht : TkOk t) : Pu (K + 1) rows B (toks ++ [t]) due clos :=
  ⟨h.rb, h.short, fun y hy => by
    rcases List.mem_append.mp hy with hy | hy
    · exact h.tk y hy
    · rw [List.mem_singleton.mp hy]; exact ht, h.cl, by have := h.kr; omega, by simpa using h.kt, by have := h.kd; omega, by have := h.kc; omega⟩
theorem Pu.clos {K K' : Nat} {rows : List Str} {B : List (List Nat)} {toks : List Tk} {due : List (Int × Int)} {clos clos' : List Str} (h : Pu K rows B toks due clos) (hc : Closers clos') (hk : clos'.length ≤ K') (hK : K ≤ K') : Pu K' rows B toks due clos' :=
  ⟨h.rb, h.short, h.tk, hc, Nat.le_trans h.kr hK, Nat.le_trans h.kt hK, Nat.le_trans h.kd hK, hk⟩
theorem Pu.due {K : Nat} {rows : List Str} {B : List (List Nat)} {toks : List Tk} {due : List (Int × Int)} {clos : List Str} (h : Pu K rows B toks due clos) (p : Int × Int) : Pu (K + 1) rows B toks (due ++ [p]) clos :=
  ⟨h.rb, h.short, h.tk, h.cl, by have := h.kr; omega, by have := h.kt; omega, by simpa using h.kd, by have := h.kc; omega⟩

-- texts within a row
structure TextOk (k : Nat) (x : Str) : Prop where
  pl : Plain x.cps.toList
  la : x.cps.toList.getLast? ≠ some 92
  le : x.length ≤ k
structure WordOk (x : Str) : Prop where
  pl : Plain x.cps.toList
  ne : x.cps.toList ≠ []
  la : x.cps.toList.getLast? ≠ some 92
  le : x.length ≤ 4
theorem str_len_append (x y : Str) : (x ++ y).length = x.length + y.length := by rw [← length_toList, append_toList, List.length_append, length_toList, length_toList]
theorem last_append {a b : List Nat} (h : b ≠ []) : (a ++ b).getLast? = b.getLast? := by
  rw [List.getLast?_append]
  cases hb : b.getLast? with
  | none => rw [List.getLast?_eq_none_iff] at hb; exact absurd hb h
  | some c => rfl
theorem TextOk.word {k : Nat} {x y : Str} (h : TextOk k x) (hw : WordOk y) : TextOk (k + 4) (x ++ y) ∧ (x ++ y).cps.toList ≠ [] := by
  refine ⟨⟨?_, ?_, by rw [str_len_append]; have := h.le; have := hw.le; omega⟩, ?_⟩
  · rw [append_toList]
    intro c hc
    rcases List.mem_append.mp hc with hc | hc
    · exact h.pl c hc
    · exact hw.pl c hc
  · rw [append_toList, last_append hw.ne]; exact hw.la
  · rw [append_toList]
    intro e
    exact hw.ne (List.append_eq_nil_iff.mp e).2
theorem TextOk.more {k k' : Nat} {x : Str} (h : TextOk k x) (hk : k ≤ k') : TextOk k' x := ⟨h.pl, h.la, Nat.le_trans h.le hk⟩
theorem TextOk.blank {k : Nat} {x y : Str} (h : TextOk k x) (hy : y ∈ (["", " "] : List Str)) : TextOk (k + 1) (x ++ y) := by
  simp only [List.mem_cons, List.not_mem_nil, or_false] at hy
  have e0 : ("" : Str).cps.toList = [] := by decide +kernel
  have e1 : (" " : Str).cps.toList = [32] := by decide +kernel
  rcases hy with rfl | rfl
  · refine ⟨?_, ?_, ?_⟩
    · rw [append_toList, e0, List.append_nil]; exact h.pl
    · rw [append_toList, e0, List.append_nil]; exact h.la
    · rw [← length_toList, append_toList, e0, List.append_nil, length_toList]; have := h.le; omega
  · refine ⟨?_, ?_, ?_⟩
    · rw [append_toList, e1]
      intro c hc
      rcases List.mem_append.mp hc with hc | hc
      · exact h.pl c hc
      · rw [List.mem_singleton.mp hc]; omega
    · rw [append_toList, e1, last_append (by simp)]; simp
    · rw [← length_toList, append_toList, e1, List.length_append, length_toList]; have := h.le; simp; omega
theorem text_nil : TextOk 0 "" := by
  have e0 : ("" : Str).cps.toList = [] := by decide +kernel
  refine ⟨?_, ?_, by decide +kernel⟩
  · rw [e0]; intro c hc; cases hc
  · rw [e0]; simp
theorem wordOk_of (x : Str) (h : (x.cps.toList.all (fun c => decide (32 ≤ c) && decide (c ≤ 126)) && !x.cps.toList.isEmpty && decide (x.cps.toList.getLast? ≠ some 92) && decide (x.length ≤ 4)) = true) : WordOk x := by
  simp only [Bool.and_eq_true, decide_eq_true_eq, Bool.not_eq_true', List.all_eq_true] at h
  obtain ⟨⟨⟨a, b⟩, c⟩, d⟩ := h
  refine ⟨a, ?_, c, d⟩
  intro e
  rw [e] at b
  cases b

/-- within a row, before its token j -/
structure Mid (j : Nat) (B : List (List Nat)) (toks : List Tk) (due : List (Int × Int)) (n : Nat) (text : Str) : Prop where
  tx : TextOk (8 * j) text
  at0 : j = 0 → Ready B toks due n
  atS : j ≠ 0 → Started B toks due n false ∧ text.cps.toList ≠ []
theorem Mid.tok {j : Nat} {B : List (List Nat)} {toks : List Tk} {due : List (Int × Int)} {n n' : Nat} {text y word : Str} (h : Mid j B toks due n text) (hy : y ∈ (["", " "] : List Str)) (hw : WordOk word) (t : Tk)
    (hs : t.sr = (B.length : Int) + 1) (he : t.er = (B.length : Int) + 1) (hk : t.kind ≠ 61) (hn : (n' : Int) = if t.kind = 54 then (n : Int) + delta t.text else n) :
    Mid (j + 1) B (toks ++ [t]) due n' (text ++ y ++ word) := by
  have w := (h.tx.blank hy).word hw
  refine ⟨w.1.more (by omega), fun e => (by omega), fun _ => ⟨?_, w.2⟩⟩
  by_cases hj : j = 0
  · exact ready_token t (h.at0 hj) hs he hk hn
  · have := started_token t (h.atS hj).1 hs he hn
    have e : (false || t.kind == 61) = false := by simpa using hk
    rw [e] at this
    exact this
theorem Mid.two {j : Nat} {B : List (List Nat)} {toks : List Tk} {due : List (Int × Int)} {n : Nat} {text second : Str} (h : Mid j B toks due n text) (b₁ : List Nat) (hw : WordOk second) (t : Tk)
    (hs : t.sr = (B.length : Int) + 1) (he : t.er = (B.length : Int) + 2) (hk : t.kind = 3) :
    Mid (j + 1) (B ++ [b₁]) (toks ++ [t]) due n second := by
  refine ⟨⟨hw.pl, hw.la, by have := hw.le; omega⟩, fun e => (by omega), fun _ => ⟨?_, hw.ne⟩⟩
  by_cases hj : j = 0
  · exact ready_two b₁ t (h.at0 hj) hs he hk
  · exact started_two b₁ t (h.atS hj).1 hs he hk
theorem nl_is : ("\n" : Str).cps.toList = [10] := by decide +kernel
theorem crnl_is : ("\r\n" : Str).cps.toList = [13, 10] := by decide +kernel
/-- a row out of its text -/
theorem rowOk_of {x e : Str} (hp : Plain x.cps.toList) (hn : x.cps.toList ≠ []) (he : e ∈ (["\n", "\n", "\r\n"] : List Str)) : RowOk (x ++ e) x.cps.toList := by
  refine ⟨hp, hn, ?_⟩
  rw [append_toList]
  simp only [List.mem_cons, List.not_mem_nil, or_false] at he
  rcases he with rfl | rfl | rfl
  · rw [nl_is]; exact .inl rfl
  · rw [nl_is]; exact .inl rfl
  · rw [crnl_is]; exact .inr rfl
end Mine

-- part M9
namespace Mine
open PySem PySem.W PyProof.Rows PySem.Calls

section
variable {keep : Led} {prog : Program} {w : World} {A : Around} {s : Shared} {env : Env}
variable {hb : Heap} {L : Addr} {m : Str → Option Value} {led imm own : Led} {R : Rest}
variable {Q : Value → Shared → Prop} {QF : Flow → Shared → Prop} {QU : Unit → Shared → Prop}

theorem St.same (S : St hb L m led imm own R s) {h' : Heap} (F : Fr hb L h' m) (N : News hb L h' (led ++ (imm ++ own))) (k : Nat) : St hb L m led imm own R { s with heap := h', toks := k } :=
  ⟨F, N, S.nd, S.off, S.sep, S.r⟩

/-- an item of a list of texts, at a bounded place -/
theorem strs_get {vs : List Value} {xs : List Str} (hS : StrsAre vs xs) : ∀ {k : Nat}, k < xs.length → ∃ x t, vs[k]? = some (.str x t) ∧ x ∈ xs := by
  induction hS with
  | nil => intro k h; simp at h
  | cons y t r ih =>
    intro k h
    cases k with
    | zero => exact ⟨y, t, rfl, .head _⟩
    | succ k =>
      obtain ⟨x, u, a, b⟩ := ih (k := k) (by simpa using h)
      exact ⟨x, u, by simpa using a, .tail _ b⟩
theorem y_pick {value slice : Expr} {a : Addr} {vs : List Value} {xs : List Str} {n : Nat} {k : Int} {u : Tok} (S : St hb L m led ((a, listOf vs.toArray n) :: imm) own R s) (hS : StrsAre vs xs)
    (h0 : 0 ≤ k) (h1 : k < (xs.length : Int)) (h2 : xs.length ≤ 1000) (h : ∀ x t, x ∈ xs → St hb L m led imm own R s → Q (.str x t) s)
    (hs : subscripted slice false (.ref a) (.int k u) = operate [.ref a, .int k u] (getItem (.ref a) (.int k u)) := by with_unfolding_all rfl) :
    wpAny (model prog w) A (subscriptTail value slice (.ref a) (.int k u)) Q NoE s := by
  obtain ⟨x, t, hx, hmem⟩ := strs_get hS (k := k.toNat) (by omega)
  exact r_item S (mem_i (.head _)) h0 (by omega) hx (h x t hmem (S.less fun _ hp => .tail _ hp)) hs

-- lists of texts
theorem dat_strs {led : Led} : ∀ {vs : List Value} {xs : List Str}, DatAll led vs (xs.map Dat.str) → StrsAre vs xs
  | _, [], h => by cases h; exact .nil
  | _, x :: xs, h => by
    cases h with
    | cons a r => cases a with | str x t => exact .cons _ _ (dat_strs r)
theorem y_emptyNe {ca a : Addr} {cv : List Value} {n k : Nat} {clos : List Str} (S : St hb L m led ((a, listOf ([] : List Value).toArray k) :: imm) own R s) (hm1 : (ca, listOf cv.toArray n) ∈ led ++ (imm ++ own))
    (hc : DatAll imm cv (clos.map Dat.str)) (hok : ∀ c ∈ clos, PyData.strOk c = true) (hu : A.units + 64 < cLine) (h : St hb L m led imm own R s → Q (.bool (decide (clos ≠ []))) s) :
    wpAny (model prog w) A (compareOp .NotEq (.ref ca) (.ref a)) Q NoE s := by
  have S' := S.less fun _ hp => List.Mem.tail _ hp
  have hm1' : (ca, listOf cv.toArray n) ∈ led ++ (((a, listOf ([] : List Value).toArray k) :: imm) ++ own) := by
    simp only [List.mem_append, List.mem_cons] at hm1 ⊢
    rcases hm1 with h | h | h <;> simp [h]
  refine kqd_ne S.N hm1' rfl rfl hc (fun p hp => by simp [hp]) (mem_i (.head _)) rfl rfl (DatAll.nil (news := imm)) (fun p hp => by simp [hp]) ?_ (fun _ h => nomatch h) hu ?_
  · intro d hd
    obtain ⟨c, hc', rfl⟩ := List.mem_map.mp hd
    simp [kqdOk, hok c hc']
  · have h := h S'
    cases clos with
    | nil => simpa using h
    | cons c r => simpa using h
theorem y_emptyEq {ca a : Addr} {cv : List Value} {n k : Nat} {clos : List Str} (S : St hb L m led ((a, listOf ([] : List Value).toArray k) :: imm) own R s) (hm1 : (ca, listOf cv.toArray n) ∈ led ++ (imm ++ own))
    (hc : DatAll imm cv (clos.map Dat.str)) (hok : ∀ c ∈ clos, PyData.strOk c = true) (hu : A.units + 64 < cLine) (h : St hb L m led imm own R s → Q (.bool (decide (clos = []))) s) :
    wpAny (model prog w) A (compareOp .Eq (.ref ca) (.ref a)) Q NoE s := by
  have S' := S.less fun _ hp => List.Mem.tail _ hp
  have hm1' : (ca, listOf cv.toArray n) ∈ led ++ (((a, listOf ([] : List Value).toArray k) :: imm) ++ own) := by
    simp only [List.mem_append, List.mem_cons] at hm1 ⊢
    rcases hm1 with h | h | h <;> simp [h]
  refine kqd_eq S.N hm1' rfl rfl hc (fun p hp => by simp [hp]) (mem_i (.head _)) rfl rfl (DatAll.nil (news := imm)) (fun p hp => by simp [hp]) ?_ (fun _ h => nomatch h) hu ?_
  · intro d hd
    obtain ⟨c, hc', rfl⟩ := List.mem_map.mp hd
    simp [kqdOk, hok c hc']
  · have h := h S'
    cases clos with
    | nil => simpa using h
    | cons c r => simpa using h

-- slices
theorem y_slice {value : Expr} {lower upper : Option Expr} {p : Pos} {l : Addr} {its : Array Value} {n : Nat} {lo hi : Option Int} {zs : List Value}
    (h : wpAny (model prog w) A (evalPart lower env) (fun vl s₁ => wpAny (model prog w) A (evalPart upper env) (fun vu s₂ => ∃ m led imm own R, St hb L m led imm own R s₂ ∧ (l, listOf its n) ∈ led ++ (imm ++ own) ∧ IsPart vl lo ∧ IsPart vu hi ∧ its.size ≤ 1000000 ∧ kms_pick its.toList lo hi = zs ∧
      ∀ D s', St hb L m led ((D, listOf zs.toArray 0) :: imm) own R s' → (∀ q ∈ led ++ (imm ++ own), D ≠ q.1) → Q (.ref D) s') NoE s₁) NoE s)
    (hs : ∀ i, subscripted (.Slice lower upper none p) false (.ref l) i = operate [i, .ref l] (getItem (.ref l) i) := by intro _; with_unfolding_all rfl) :
    wpAny (model prog w) A (eval (.Slice lower upper none p) env) (fun i s₂ => wpAny (model prog w) A (subscriptTail value (.Slice lower upper none p) (.ref l) i) Q NoE s₂) NoE s := by
  refine wpAny_Slice (wpAny_mono h (fun vl s₁ h₁ => wpAny_mono h₁ (fun vu s₂ h₂ => wpAny_evalPart_none ?_) fun _ _ x => x) fun _ _ x => x)
  obtain ⟨m, led, imm, own, R, S, hm, pl, pu, hsz, e, k⟩ := h₂
  refine kba_turn (value' := .Name "_" default) (fun _ => rfl) ?_
  refine kms_slice_lit S.F S.N ⟨_, S.mem hm, rfl, n, rfl⟩ pl pu e (fun D h' F' N' hlt => ?_) (hs _) (fun _ => rfl) (by rw [sizeLine_eq]; omega)
  refine k D _ ⟨F', ?_, S.nd, ?_, ?_, S.r⟩ (fun q hq => Nat.ne_of_gt (hlt q hq))
  · intro q hq
    refine N' q ?_
    simp only [List.mem_append, List.mem_cons] at hq ⊢
    rcases hq with h | (h | h) | h <;> simp [h]
  · intro q hq b hb'
    have hq' : q = (D, listOf zs.toArray 0) ∨ q ∈ imm ++ own := by simpa using hq
    rcases hq' with rfl | hq'
    · obtain ⟨r, hr, rfl⟩ := List.mem_map.mp hb'
      exact Nat.ne_of_gt (hlt r (by simp [hr]))
    · exact S.off q hq' b hb'
  · intro q hq r hr
    rcases List.mem_cons.mp hr with rfl | hr
    · exact Nat.ne_of_lt (hlt q (by simp [hq]))
    · exact S.sep q hq r hr

-- unpacking a list
theorem y_unpackList {elts : List Expr} {k : Nat} {pos : Pos} {t : Addr} {vs : List Value} {n : Nat} (S : St hb L m led imm own R s) (hm : (t, listOf vs.toArray n) ∈ led ++ (imm ++ own)) (hh : A.handled = none)
    (hn : (assignEach elts env).length = vs.toArray.size) (hf : List.findIdx? (fun x => x.fst) (assignEach elts env) = none)
    (h : ∀ s', St hb L m led imm own R s' → wpAny (model prog w) A (assignInOrder (List.map (fun x => x.snd) (assignEach elts env)) vs) QU NoE s') :
    wpAny (model prog w) A (assign (.Tuple elts k pos) env (.ref t)) QU NoE s := by
  refine kun_list S.F S.N ⟨_, S.mem hm, rfl, n, rfl⟩ hh hn hf fun h' F' N' => ?_
  have := h _ (S.same F' N' s.toks)
  simpa using this
theorem y_unpackTup {elts : List Expr} {k : Nat} {pos : Pos} {t : Addr} {vs : List Value} {n : Nat} (S : St hb L m led imm own R s) (hm : (t, ({ cls := .type "tuple", data := .seq vs.toArray n } : Obj)) ∈ led ++ (imm ++ own)) (hh : A.handled = none)
    (hn : (assignEach elts env).length = vs.toArray.size) (hf : List.findIdx? (fun x => x.fst) (assignEach elts env) = none)
    (h : ∀ s', St hb L m led imm own R s' → wpAny (model prog w) A (assignInOrder (List.map (fun x => x.snd) (assignEach elts env)) vs) QU NoE s') :
    wpAny (model prog w) A (assign (.Tuple elts k pos) env (.ref t)) QU NoE s := by
  refine unpackN_ S.F S.N ⟨_, S.mem hm, rfl, n, rfl⟩ hh hn hf fun h' F' N' => ?_
  have := h _ (S.same F' N' s.toks)
  simpa using this
theorem x_assignT {elts : List Expr} {k : Nat} {tpos pos : Pos} {value : Expr} {rest : List Stmt}
    (h : wpAny (model prog w) A (eval value env) (fun v s₁ => wpAny (model prog w) A (assign (.Tuple elts k tpos) env v) (fun _ s₂ => wpAny (model prog w) A (execs rest env) QF NoE s₂) NoE s₁) NoE s)
    (h1 : swapsWithSole [Expr.Tuple elts k tpos] value pos.line env = pure false := by with_unfolding_all rfl) (h2 : swappedStores [Expr.Tuple elts k tpos] value env = pure none := by with_unfolding_all rfl) :
    wpAny (model prog w) A (execs (.Assign [.Tuple elts k tpos] value pos :: rest) env) QF NoE s := wpAny_execs_cons (Assign_Tuple h h1 h2)

theorem y_unpack2 {x y : Str} {px py pos : Pos} {k : Nat} {t : Addr} {a b : Value} {n : Nat} (S : St hb L m led imm own R s) (hm : (t, listOf #[a, b] n) ∈ led ++ (imm ++ own)) (hh : A.handled = none)
    (h : ∀ s', St hb L m led imm own R s' → wpAny (model prog w) A (storeName env x a) (fun _ s₁ => wpAny (model prog w) A (storeName env y b) QU NoE s₁) NoE s') :
    wpAny (model prog w) A (assign (.Tuple [.Name x px, .Name y py] k pos) env (.ref t)) QU NoE s := by
  refine y_unpackList (vs := [a, b]) S hm hh rfl rfl fun s' S' => ?_
  refine assignInOrder_cons (wpAny_assign_Name (wpAny_mono (h s' S') (fun _ s₁ h₁ => ?_) fun _ _ x => x))
  exact assignInOrder_cons (wpAny_assign_Name (wpAny_mono h₁ (fun _ s₂ h₂ => assignInOrder_nil h₂) fun _ _ x => x))
theorem y_unpack3 {x y z : Str} {px py pz pos : Pos} {k : Nat} {t : Addr} {a b c : Value} {n : Nat} (S : St hb L m led imm own R s) (hm : (t, ({ cls := .type "tuple", data := .seq #[a, b, c] n } : Obj)) ∈ led ++ (imm ++ own)) (hh : A.handled = none)
    (h : ∀ s', St hb L m led imm own R s' → wpAny (model prog w) A (storeName env x a) (fun _ s₁ => wpAny (model prog w) A (storeName env y b) (fun _ s₂ => wpAny (model prog w) A (storeName env z c) QU NoE s₂) NoE s₁) NoE s') :
    wpAny (model prog w) A (assign (.Tuple [.Name x px, .Name y py, .Name z pz] k pos) env (.ref t)) QU NoE s := by
  refine y_unpackTup (vs := [a, b, c]) S hm hh rfl rfl fun s' S' => ?_
  refine assignInOrder_cons (wpAny_assign_Name (wpAny_mono (h s' S') (fun _ s₁ h₁ => ?_) fun _ _ x => x))
  refine assignInOrder_cons (wpAny_assign_Name (wpAny_mono h₁ (fun _ s₂ h₂ => ?_) fun _ _ x => x))
  exact assignInOrder_cons (wpAny_assign_Name (wpAny_mono h₂ (fun _ s₃ h₃ => assignInOrder_nil h₃) fun _ _ x => x))
theorem ite_t {P P' : Prop} (h : P) : if true = true then P else P' := by rw [if_pos rfl]; exact h
theorem ite_f {P P' : Prop} (h : P') : if false = true then P else P' := by rw [if_neg Bool.false_ne_true]; exact h

-- appending, place by place
theorem y_app {D : Addr} {vs : List Value} {n k : Nat} {x : Value} {led' : Led} (S : St hb L m led imm own R s) (hk : led[k]? = some (D, listOf vs.toArray n)) (hsz : vs.length ≤ 1000000)
    (hl : led.set k (D, listOf (vs ++ [x]).toArray (n + 1)) = led')
    (h : ∀ s', St hb L m led' imm own R s' → Q .none s') : wpAny (model prog w) A (call (.builtin "list.append") [.ref D, x]) Q NoE s :=
  r_append S hk (by simpa using hsz) (by rw [← hl]; simp) h
theorem y_app1 {a D : Addr} {o : Obj} {vs : List Value} {n : Nat} {x : Value} {r : Led} (S : St hb L m ((a, o) :: (D, listOf vs.toArray n) :: r) imm own R s) (hsz : vs.length ≤ 1000000)
    (h : ∀ s', St hb L m ((a, o) :: (D, listOf (vs ++ [x]).toArray (n + 1)) :: r) imm own R s' → Q .none s') : wpAny (model prog w) A (call (.builtin "list.append") [.ref D, x]) Q NoE s := y_app (k := 1) S rfl hsz rfl h
theorem y_app2 {a b D : Addr} {o o2 : Obj} {vs : List Value} {n : Nat} {x : Value} {r : Led} (S : St hb L m ((a, o) :: (b, o2) :: (D, listOf vs.toArray n) :: r) imm own R s) (hsz : vs.length ≤ 1000000)
    (h : ∀ s', St hb L m ((a, o) :: (b, o2) :: (D, listOf (vs ++ [x]).toArray (n + 1)) :: r) imm own R s' → Q .none s') : wpAny (model prog w) A (call (.builtin "list.append") [.ref D, x]) Q NoE s := y_app (k := 2) S rfl hsz rfl h
theorem y_app3 {a b c D : Addr} {o o2 o3 : Obj} {vs : List Value} {n : Nat} {x : Value} {r : Led} (S : St hb L m ((a, o) :: (b, o2) :: (c, o3) :: (D, listOf vs.toArray n) :: r) imm own R s) (hsz : vs.length ≤ 1000000)
    (h : ∀ s', St hb L m ((a, o) :: (b, o2) :: (c, o3) :: (D, listOf (vs ++ [x]).toArray (n + 1)) :: r) imm own R s' → Q .none s') : wpAny (model prog w) A (call (.builtin "list.append") [.ref D, x]) Q NoE s := y_app (k := 3) S rfl hsz rfl h
theorem y_app4 {a b c d D : Addr} {o o2 o3 o4 : Obj} {vs : List Value} {n : Nat} {x : Value} {r : Led} (S : St hb L m ((a, o) :: (b, o2) :: (c, o3) :: (d, o4) :: (D, listOf vs.toArray n) :: r) imm own R s) (hsz : vs.length ≤ 1000000)
    (h : ∀ s', St hb L m ((a, o) :: (b, o2) :: (c, o3) :: (d, o4) :: (D, listOf (vs ++ [x]).toArray (n + 1)) :: r) imm own R s' → Q .none s') : wpAny (model prog w) A (call (.builtin "list.append") [.ref D, x]) Q NoE s := y_app (k := 4) S rfl hsz rfl h

/-- a new list takes the last place of the ledger -/
theorem St.swap4 {a b c d e e' : Addr} {o o2 o3 o4 o5 o5' : Obj} (S : St hb L m [(a, o), (b, o2), (c, o3), (d, o4), (e, o5)] ((e', o5') :: imm) own R s) (hn : ∀ q ∈ imm, e' ≠ q.1) :
    St hb L m [(a, o), (b, o2), (c, o3), (d, o4), (e', o5')] ((e, o5) :: imm) own R s := by
  have hne : ∀ p ∈ [(a, o), (b, o2), (c, o3), (d, o4), (e, o5)], e' ≠ p.1 := fun p hp => S.off (e', o5') (by simp) p.1 (List.mem_map.mpr ⟨p, hp, rfl⟩)
  have nd := S.nd
  simp only [List.map_cons, List.map_nil, List.nodup_cons, List.mem_cons, List.not_mem_nil, or_false, not_or, not_false_eq_true, List.nodup_nil, and_true] at nd
  simp only [List.mem_cons, List.not_mem_nil, or_false, forall_eq_or_imp, forall_eq] at hne
  refine ⟨S.F, fun p hp => S.N p ?_, ?_, ?_, ?_, S.r⟩
  · simp only [List.mem_append, List.mem_cons, List.not_mem_nil, or_false] at hp ⊢
    rcases hp with (h | h | h | h | h) | (h | h) | h <;> simp [h]
  · simp only [List.map_cons, List.map_nil, List.nodup_cons, List.mem_cons, List.not_mem_nil, or_false, not_or, not_false_eq_true, List.nodup_nil, and_true]
    refine ⟨⟨nd.1.1, nd.1.2.1, nd.1.2.2.1, fun h => hne.1 h.symm⟩, ⟨nd.2.1.1, nd.2.1.2.1, fun h => hne.2.1 h.symm⟩, ⟨nd.2.2.1.1, fun h => hne.2.2.1 h.symm⟩, fun h => hne.2.2.2.1 h.symm⟩
  · intro p hp q hq
    simp only [List.map_cons, List.map_nil, List.mem_cons, List.not_mem_nil, or_false] at hq
    have hp' : p = (e, o5) ∨ p ∈ imm ++ own := by simpa using hp
    rcases hp' with rfl | hp'
    · rcases hq with rfl | rfl | rfl | rfl | rfl
      · exact fun h => nd.1.2.2.2 h.symm
      · exact fun h => nd.2.1.2.2 h.symm
      · exact fun h => nd.2.2.1.2 h.symm
      · exact fun h => nd.2.2.2 h.symm
      · exact fun h => hne.2.2.2.2 h.symm
    · have o1 := S.off p (by simp only [List.mem_append, List.mem_cons] at hp' ⊢; rcases hp' with h | h <;> simp [h])
      simp only [List.map_cons, List.map_nil, List.mem_cons, List.not_mem_nil, or_false, forall_eq_or_imp, forall_eq] at o1
      rcases hq with rfl | rfl | rfl | rfl | rfl
      · exact o1.1
      · exact o1.2.1
      · exact o1.2.2.1
      · exact o1.2.2.2.1
      · rcases List.mem_append.mp hp' with h | h
        · exact fun e => hn p h e.symm
        · exact S.sep p h _ (.head _)
  · intro p hp q hq
    rcases List.mem_cons.mp hq with rfl | hq
    · exact S.off p (by simp [hp]) _ (by simp)
    · exact S.sep p hp q (.tail _ hq)

-- the table of pairs
def PairsAt (keep : Led) (prog : Program) (w : World) (imm : Led) (pd : Addr) : Prop :=
  (∀ p ∈ keep, p ∈ imm) ∧ ∃ o t1 t2 t3, (pd, o) ∈ imm ∧ (pd == sysModules) = false ∧ Obj.IsDictOf (PySem.strKind prog w) o [(("(" : Str), Value.str ")" t1), ("[", Value.str "]" t2), ("{", Value.str "}" t3)]
theorem PairsAt.mono {imm imm' : Led} {pd : Addr} (h : PairsAt keep prog w imm pd) (hs : ∀ p ∈ imm, p ∈ imm') : PairsAt keep prog w imm' pd := by
  obtain ⟨k, o, t1, t2, t3, a, b, c⟩ := h
  exact ⟨fun p hp => hs p (k p hp), o, t1, t2, t3, hs _ a, b, c⟩
def closeOf (x : Str) : Str := if x = "(" then ")" else if x = "[" then "]" else "}"
theorem flat_str (x : Str) (t : Tok) : PyProof.V.Flat (Value.str x t) (.str x) := fun _ => Reads.str x t
theorem y_pairs {value slice : Expr} {pd : Addr} {x : Str} {t : Tok} (S : St hb L m led imm own R s) (P : PairsAt keep prog w imm pd) (hx : x ∈ (["(", "[", "{"] : List Str)) (h : ∀ t s', St hb L m led imm own R s' → Q (.str (closeOf x) t) s')
    (hs : subscripted slice false (.ref pd) (.str x t) = operate [.ref pd, .str x t] (getItem (.ref pd) (.str x t)) := by with_unfolding_all rfl)
    (hg : ∀ r, letTemporaryGo value (.ref pd) r = pure () := by intro _; with_unfolding_all rfl) :
    wpAny (model prog w) A (subscriptTail value slice (.ref pd) (.str x t)) Q NoE s := by
  obtain ⟨_, o, t1, t2, t3, hm, hlo, hd⟩ := P
  have T : StrTab prog w s.heap pd [(.str "(", .str ")"), (.str "[", .str "]"), (.str "{", .str "}")] :=
    TabAt.ofNews S.N (mem_i hm) hlo hd (.cons (flat_str _ _) (.cons (flat_str _ _) (.cons (flat_str _ _) .nil)))
  have key : Spec.lookup (.str x) [(PyData.str "(", PyData.str ")"), (.str "[", .str "]"), (.str "{", .str "}")] = some (.str (closeOf x)) := by
    simp only [List.mem_cons, List.not_mem_nil, or_false] at hx
    rcases hx with rfl | rfl | rfl <;> rfl
  refine item_strTab T key (fun v hv => ?_) hs hg
  obtain ⟨u, rfl, _⟩ := reads_str_inv (hv s.heap)
  exact h _ _ (S.tok _)
theorem y_dict {k1 k2 k3 k4 k5 k6 : Nat} {p1 p2 p3 p4 p5 p6 pos : Pos} (S : St hb L m led imm own R s) (hbig : hb.NoLimit) (hkeep : ∀ p ∈ keep, p ∈ imm)
    (h : ∀ pd imm' s', St hb L m led imm' own R s' → (∀ p ∈ imm, p ∈ imm') → PairsAt keep prog w imm' pd → Q (.ref pd) s') :
    wpAny (model prog w) A (eval (.Dict [some (.Constant (.str "(") k1 p1), some (.Constant (.str "[") k2 p2), some (.Constant (.str "{") k3 p3)] [.Constant (.str ")") k4 p4, .Constant (.str "]") k5 p5, .Constant (.str "}") k6 p6] pos) env) Q NoE s := by
  refine kdn_str (by rfl) S.F S.N hbig (by rfl) (by rfl) (by simp) (by simp) (fun d h' o F' N' hlt hlo hd => ?_)
  refine pairTrees_cons_walk (Constant_str (Constant_str ?_))
  refine pairTrees_cons_walk (Constant_str (Constant_str ?_))
  refine pairTrees_cons_walk (Constant_str (Constant_str ?_))
  refine pairTrees_nil_walk ?_
  refine kdn_made_str F' N' (UpdF.head (fun p hp => Nat.ne_of_lt (hlt p hp))) hd (by rfl) ?_ (fun h2 o' F2 N2 hd2 => ?_)
  · show ([("(" : Str), "[", "{"] : List Str).Nodup
    decide +kernel
  · refine h d ((d, o') :: imm) _ ⟨F2, ?_, S.nd, ?_, ?_, S.r⟩ (fun p hp => .tail _ hp) ⟨fun p hp => .tail _ (hkeep p hp), o', _, _, _, .head _, hlo, hd2⟩
    · intro q hq
      refine N2 q ?_
      simp only [List.mem_append, List.mem_cons] at hq ⊢
      rcases hq with h | (h | h) | h <;> simp [h]
    · intro q hq b hb'
      have hq' : q = (d, o') ∨ q ∈ imm ++ own := by simpa using hq
      rcases hq' with rfl | hq'
      · obtain ⟨r, hr, rfl⟩ := List.mem_map.mp hb'
        exact Nat.ne_of_gt (hlt r (by simp [hr]))
      · exact S.off q hq' b hb'
    · intro q hq r hr
      rcases List.mem_cons.mp hr with rfl | hr
      · exact Nat.ne_of_lt (hlt q (by simp [hq]))
      · exact S.sep q hq r hr
end
end Mine

-- part M10
namespace Mine
open PySem PySem.W PyProof.Rows PySem.Calls

def outerFor : Stmt := nth bBody 8
def outerBody : List Stmt := dBody outerFor
def innerFor : Stmt := nth outerBody 2
def innerBody : List Stmt := dBody innerFor

section
variable {keep : Led} {prog : Program} {w : World} {A A₀ : Around} {s : Shared} {env : Env} {base : Heap} {outer : List Env}
variable {hb : Heap} {L : Addr} {m : Str → Option Value} {led imm imm0 own : Led} {R : Rest}
variable {Q : Value → Shared → Prop}
theorem bk_len : (benv L).kindOf "len" = some .globalImplicit := by rfl
theorem bk_range : (benv L).kindOf "range" = some .globalImplicit := by rfl
theorem bk_reversed : (benv L).kindOf "reversed" = some .globalImplicit := by rfl
theorem bk__law_next : (benv L).kindOf "_law_next" = some .globalImplicit := by rfl
theorem bb_range : bootBuiltins "range" = some (.type "range") := by boot_by_name
theorem bb_reversed : bootBuiltins "reversed" = some (.type "reversed") := by boot_by_name
theorem kk_range : nsIn (KK w) mainGlobals "range" = some none := by rfl
theorem kk_reversed : nsIn (KK w) mainGlobals "reversed" = some none := by rfl
theorem b_len {pos : Pos} (BS : Bs w A₀ base outer hb) (S : St hb L m led imm own R s) (h : Q (.builtin "len") s) : wpAny (model prog w) A (eval (.Name "len" pos) (benv L)) Q NoE s :=
  r_built BS S kk_len bb_len (by decide) rfl bk_len rfl rfl (by decide) h
theorem b_range {pos : Pos} (BS : Bs w A₀ base outer hb) (S : St hb L m led imm own R s) (h : Q (.type "range") s) : wpAny (model prog w) A (eval (.Name "range" pos) (benv L)) Q NoE s :=
  r_built BS S kk_range bb_range (by decide) rfl bk_range rfl rfl (by decide) h
theorem b_reversed {pos : Pos} (BS : Bs w A₀ base outer hb) (S : St hb L m led imm own R s) (h : Q (.type "reversed") s) : wpAny (model prog w) A (eval (.Name "reversed" pos) (benv L)) Q NoE s :=
  r_built BS S kk_reversed bb_reversed (by decide) rfl bk_reversed rfl rfl (by decide) h
/-- a draw within _law_build -/
theorem b_next {st : Addr} {o : Obj} {many : Int} {k : Nat} {p1 p2 p3 pos : Pos} {v1 v2 v3 v4 v5 v6 v7 v8 v9 v10 v11 v12 v13 v14 v15 v16 v17 v18 v19 v20 : Option Value}
    (BS : Bs w A₀ base outer hb) (hr : Rmb 3 A) (hA : A.frames = some (benv L :: outer))
    (S : St hb L (bm (some (.ref st)) v1 v2 v3 v4 v5 v6 v7 v8 v9 v10 v11 v12 v13 v14 v15 v16 v17 v18 v19 v20) ((st, o) :: led) imm own R s) (D : Draw imm0 o) (hs : ∀ p ∈ imm0, p ∈ imm) (h0 : 0 < many)
    (h : ∀ r t o' s', 0 ≤ r → r < many → Draw imm0 o' → St hb L (bm (some (.ref st)) v1 v2 v3 v4 v5 v6 v7 v8 v9 v10 v11 v12 v13 v14 v15 v16 v17 v18 v19 v20) ((st, o') :: led) imm own R s' → Q (.int r t) s') :
    wpAny (model prog w) A (eval (.Call (.Name "_law_next" p1) [.Name "state" p2, .Constant (.int many) k p3] [] pos) (benv L)) Q NoE s :=
  eval_next (env := benv L) BS hr hA rfl rfl rfl bk__law_next bk_state bg_state S D hs h0 h
end

local macro_rules | `(tactic| walk_at "clr") => `(tactic| ((rename St _ _ _ _ _ _ _ _ => Sx); clear Sx))
local macro_rules | `(tactic| walk_at "sub") => `(tactic| first
  | exact fun _ h => h
  | exact fun _ h => .tail _ h
  | exact fun _ h => .tail _ (.tail _ h)
  | exact fun _ h => .tail _ (.tail _ (.tail _ h))
  | exact fun _ h => .tail _ (.tail _ (.tail _ (.tail _ h)))
  | exact fun _ h => .tail _ (.tail _ (.tail _ (.tail _ (.tail _ h))))
  | exact fun _ h => .tail _ (.tail _ (.tail _ (.tail _ (.tail _ (.tail _ h))))))
local macro_rules | `(tactic| walk_at "mem") => `(tactic| first
  | exact mem_l0
  | exact mem_l1
  | exact mem_l2
  | exact mem_l3
  | exact mem_l4
  | exact mem_i (by assumption)
  | exact mem_i (.head _)
  | exact mem_i (.tail _ (.head _))
  | exact mem_i (.tail _ (.tail _ (.head _)))
  | fail "mem")
local macro_rules | `(tactic| walk_at "go") => `(tactic| with_reducible first
  | (refine r_int (by assumption) ?_; walk_at "clr"; intro t s S)
  | refine y_more ?_
  | refine spliced_none ?_
  | refine r_tuple ?_
  | (refine r_newTuple (by assumption) ?_; walk_at "clr"; intro a s S)
  | refine wpAny_BinOp ?_
  | refine Subscript_ ?_
  | refine y_callN (id := "len") ?_
  | refine y_callB ?_
  | refine y_callT ?_
  | refine y_callM1 ?_
  | refine wpAny_truthy_bool ?_
  | (refine r_add (by assumption) ?_; walk_at "clr"; intro t s S)
  | refine x_assign ?_
  | refine y_isTrueCmp ?_
  | refine r_lt ?_
  | refine r_eqi ?_
  | refine r_nei ?_
  | (refine r_str (by assumption) ?_; walk_at "clr"; intro t s S)
  | (refine r_sub (by assumption) ?_; walk_at "clr"; intro t s S)
  | refine r_list ?_
  | (refine r_newList (by assumption) ?_; walk_at "clr"; intro a s S hnew)
  | refine x_return ?_
  | refine x_expr ?_
  | ((show wpAny _ _ (eval (Expr.Call (Expr.Attribute (Expr.Name _ _) _ _) _ _ _) _) _ _ _); refine y_callM ?_)
  | refine y_append (by assumption) (by walk_at "mem") ?_
  | refine isTrue_and ?_
  | refine isTrue_and_nil ?_
  | refine ite_t ?_
  | refine ite_f ?_
  | refine x_assignT ?_
  | refine IfExp_ ?_
  | refine UnaryOp_ ?_
  | (refine r_neg (by assumption) ?_; walk_at "clr"; intro t s S)
  | refine cont_next ?_
  | refine x_nil ?_)
local macro_rules | `(tactic| walk_at "b") => `(tactic| with_reducible first
  | refine b_ld_text (by assumption) rfl ?_
  | refine b_ld_row (by assumption) rfl ?_
  | refine b_ld_col (by assumption) rfl ?_
  | refine b_ld_pick (by assumption) rfl ?_
  | refine b_ld_word (by assumption) rfl ?_
  | refine b_ld_sign (by assumption) rfl ?_
  | refine b_ld_tokens (by assumption) rfl ?_
  | refine b_ld_rows (by assumption) rfl ?_
  | refine b_ld_closers (by assumption) rfl ?_
  | refine b_ld_pairs (by assumption) rfl ?_
  | refine b_ld_first (by assumption) rfl ?_
  | refine b_ld_second (by assumption) rfl ?_
  | refine b_ld_due (by assumption) rfl ?_
  | refine b_ld_ahead (by assumption) rfl ?_
  | refine b_ld_at (by assumption) rfl ?_
  | refine b_ld_many (by assumption) rfl ?_
  | refine b_ld_ending (by assumption) rfl ?_
  | refine b_ld_form (by assumption) rfl ?_
  | refine b_ld_remark (by assumption) rfl ?_
  | (refine b_st_text (by assumption) ?_; walk_at "clr"; intro s S)
  | (refine b_st_row (by assumption) ?_; walk_at "clr"; intro s S)
  | (refine b_st_col (by assumption) ?_; walk_at "clr"; intro s S)
  | (refine b_st_pick (by assumption) ?_; walk_at "clr"; intro s S)
  | (refine b_st_word (by assumption) ?_; walk_at "clr"; intro s S)
  | (refine b_st_sign (by assumption) ?_; walk_at "clr"; intro s S)
  | (refine b_st_closers (by assumption) ?_; walk_at "clr"; intro s S)
  | (refine b_st_first (by assumption) ?_; walk_at "clr"; intro s S)
  | (refine b_st_second (by assumption) ?_; walk_at "clr"; intro s S)
  | (refine b_st_ahead (by assumption) ?_; walk_at "clr"; intro s S)
  | (refine b_st_ending (by assumption) ?_; walk_at "clr"; intro s S)
  | (refine b_st_form (by assumption) ?_; walk_at "clr"; intro s S)
  | (refine b_st_remark (by assumption) ?_; walk_at "clr"; intro s S)
  | (refine y_app1 (by assumption) (by omega) ?_; walk_at "clr"; intro s S)
  | (refine y_app2 (by assumption) (by omega) ?_; walk_at "clr"; intro s S)
  | (refine y_app3 (by assumption) (by omega) ?_; walk_at "clr"; intro s S)
  | (refine y_app4 (by assumption) (by omega) ?_; walk_at "clr"; intro s S)
  | (refine r_cat (by assumption) (by first | omega | decide +kernel) (by first | omega | decide +kernel) ?_; walk_at "clr"; intro t s S)
  | (refine r_lenStr (by assumption) (by omega) ?_; walk_at "clr"; intro t s S)
  | refine ⟨rfl, ?_⟩)

section
variable {keep : Led} {prog : Program} {w : World} {A A₀ : Around} {s : Shared} {base : Heap} {outer : List Env}
variable {hb : Heap} {L : Addr} {own : Led} {R : Rest}

/-- what holds between the turns of the inner loop -/
def InnerInv (keep : Led) (prog : Program) (w : World) (st ra ta da pd : Addr) (vahead vmany vat : Option Value) (K : Nat) (j : Nat) (m : Str → Option Value) (led imm : Led) : Prop :=
  ∃ (o : Obj) (rv : List Value) (n1 : Nat) (tv : List Value) (n2 : Nat) (dv : List Value) (n3 : Nat) (ca : Addr) (cv : List Value) (n4 : Nat)
    (rows : List Str) (B : List (List Nat)) (toks : List Tk) (due : List (Int × Int)) (clos : List Str) (text : Str) (tt tr : Tok) (v11 v12 v13 v14 v15 v16 v17 v18 v19 v20 : Option Value),
    m = bm (some (.ref st)) (some (.ref ra)) (some (.ref ta)) (some (.ref da)) (some (.ref ca)) (some (.str text tt)) vahead vmany (some (.ref pd)) vat (some (.int ((B.length : Int) + 1) tr)) v11 v12 v13 v14 v15 v16 v17 v18 v19 v20 ∧
    led = [(st, o), (ra, listOf rv.toArray n1), (ta, listOf tv.toArray n2), (da, listOf dv.toArray n3), (ca, listOf cv.toArray n4)] ∧
    Draw imm o ∧ PairsAt keep prog w imm pd ∧ Dats imm rv tv dv cv rows toks due clos ∧ Pu (K + j) rows B toks due clos ∧ Mid j B toks due clos.length text

theorem Dats.tok {imm imm' : Led} {rv tv dv cv : List Value} {rows : List Str} {toks : List Tk} {due : List (Int × Int)} {clos : List Str} (h : Dats imm rv tv dv cv rows toks due clos) (hs : ∀ p ∈ imm, p ∈ imm')
    {l p q : Addr} {k a b sr sc er ec : Int} {x : Str} {t1 t2 t3 t4 t5 t6 t7 t8 : Tok} (hl : (l, listOf #[.int k t1, .str x t2, .ref p, .ref q, .int a t3, .int b t4] 0) ∈ imm')
    (hp : (p, ({ cls := .type "tuple", data := .seq #[.int sr t5, .int sc t6] } : Obj)) ∈ imm') (hq : (q, ({ cls := .type "tuple", data := .seq #[.int er t7, .int ec t8] } : Obj)) ∈ imm') :
    Dats imm' rv (tv ++ [.ref l]) dv cv rows (toks ++ [⟨k, x, sr, sc, er, ec, a, b⟩]) due clos := by
  have h' := h.mono hs
  refine ⟨h'.r, ?_, h'.d, h'.c⟩
  rw [List.map_append]
  refine h'.t.append (.one ?_)
  exact .list (vs := [.int k t1, .str x t2, .ref p, .ref q, .int a t3, .int b t4]) hl (.cons (.int _ _) (.cons (.str _ _) (.cons (.tuple (vs := [.int sr t5, .int sc t6]) hp (.cons (.int _ _) (.cons (.int _ _) .nil)))
    (.cons (.tuple (vs := [.int er t7, .int ec t8]) hq (.cons (.int _ _) (.cons (.int _ _) .nil))) (.cons (.int _ _) (.cons (.int _ _) .nil))))))
theorem word_a : WordOk "a" := wordOk_of _ (by decide +kernel)
theorem word_b : WordOk "b1" := wordOk_of _ (by decide +kernel)
theorem word_t : WordOk "\"t\"" := wordOk_of _ (by decide +kernel)
theorem word_c : WordOk "c" := wordOk_of _ (by decide +kernel)
theorem word_comma : WordOk "," := wordOk_of _ (by decide +kernel)
theorem word_o1 : WordOk "(" := wordOk_of _ (by decide +kernel)
theorem word_o2 : WordOk "[" := wordOk_of _ (by decide +kernel)
theorem word_o3 : WordOk "{" := wordOk_of _ (by decide +kernel)
theorem word_c1 : WordOk ")" := wordOk_of _ (by decide +kernel)
theorem word_c2 : WordOk "]" := wordOk_of _ (by decide +kernel)
theorem word_c3 : WordOk "}" := wordOk_of _ (by decide +kernel)
theorem word_abt {x : Str} (h : x ∈ (["a", "b1", "\"t\""] : List Str)) : WordOk x := by
  simp only [List.mem_cons, List.not_mem_nil, or_false] at h
  rcases h with rfl | rfl | rfl
  · exact word_a
  · exact word_b
  · exact word_t
theorem word_open {x : Str} (h : x ∈ (["(", "[", "{"] : List Str)) : WordOk x ∧ delta x = 1 ∧ (closeOf x = ")" ∨ closeOf x = "]" ∨ closeOf x = "}") := by
  simp only [List.mem_cons, List.not_mem_nil, or_false] at h
  rcases h with rfl | rfl | rfl
  · exact ⟨word_o1, by decide +kernel, .inl (by decide +kernel)⟩
  · exact ⟨word_o2, by decide +kernel, .inr (.inl (by decide +kernel))⟩
  · exact ⟨word_o3, by decide +kernel, .inr (.inr (by decide +kernel))⟩
theorem word_close {x : Str} (h : x = ")" ∨ x = "]" ∨ x = "}") : WordOk x ∧ delta x = -1 ∧ PyData.strOk x = true := by
  rcases h with rfl | rfl | rfl
  · exact ⟨word_c1, by decide +kernel, by decide +kernel⟩
  · exact ⟨word_c2, by decide +kernel, by decide +kernel⟩
  · exact ⟨word_c3, by decide +kernel, by decide +kernel⟩
theorem delta_comma : delta "," = 0 := by decide +kernel

theorem plain_append {x y : Str} (h1 : Plain x.cps.toList) (h2 : Plain y.cps.toList) : Plain (x ++ y).cps.toList := by
  rw [append_toList]
  intro c hc
  rcases List.mem_append.mp hc with hc | hc
  · exact h1 c hc
  · exact h2 c hc
theorem ne_append {x y : Str} (h : y.cps.toList ≠ []) : (x ++ y).cps.toList ≠ [] := by
  rw [append_toList]
  intro e
  exact h (List.append_eq_nil_iff.mp e).2
theorem plain_of (x : Str) (h : (x.cps.toList.all (fun c => decide (32 ≤ c) && decide (c ≤ 126)) && !x.cps.toList.isEmpty) = true) : Plain x.cps.toList ∧ x.cps.toList ≠ [] := by
  simp only [Bool.and_eq_true, decide_eq_true_eq, Bool.not_eq_true', List.all_eq_true] at h
  refine ⟨h.1, ?_⟩
  intro e
  have := h.2
  rw [e] at this
  cases this
theorem first_1 : Plain ("\"\"\"p" : Str).cps.toList ∧ ("\"\"\"p" : Str).cps.toList ≠ [] := plain_of _ (by decide +kernel)
theorem first_2 : Plain ("\"r\\" : Str).cps.toList ∧ ("\"r\\" : Str).cps.toList ≠ [] := plain_of _ (by decide +kernel)
theorem word_s1 : WordOk "q\"\"\"" := wordOk_of _ (by decide +kernel)
theorem word_s2 : WordOk "s\"" := wordOk_of _ (by decide +kernel)
theorem len_first1 : ("\"\"\"p" : Str).length = 4 := by decide +kernel
theorem len_first2 : ("\"r\\" : Str).length = 3 := by decide +kernel
theorem len_nl : ("\n" : Str).length = 1 := by decide +kernel

theorem inner_close {st ra ta da pd : Addr} {vahead vmany vat : Option Value} {K j : Nat} {imm' imm0 : Led} {s : Shared}
    {o : Obj} {rv : List Value} {n1 : Nat} {tv : List Value} {n2 : Nat} {dv : List Value} {n3 : Nat} {ca : Addr} {cv : List Value} {n4 : Nat}
    {rows : List Str} {B : List (List Nat)} {toks : List Tk} {due : List (Int × Int)} {clos : List Str} {text : Str} {tt tr : Tok} {row : Int} {v11 v12 v13 v14 v15 v16 v17 v18 v19 v20 : Option Value}
    (S : St hb L (bm (some (.ref st)) (some (.ref ra)) (some (.ref ta)) (some (.ref da)) (some (.ref ca)) (some (.str text tt)) vahead vmany (some (.ref pd)) vat (some (.int row tr)) v11 v12 v13 v14 v15 v16 v17 v18 v19 v20)
      [(st, o), (ra, listOf rv.toArray n1), (ta, listOf tv.toArray n2), (da, listOf dv.toArray n3), (ca, listOf cv.toArray n4)] imm' own R s)
    (hrow : row = (B.length : Int) + 1) (D : Draw imm0 o) (P : PairsAt keep prog w imm0 pd) (hs : ∀ p ∈ imm0, p ∈ imm') (Da : Dats imm' rv tv dv cv rows toks due clos) (Pu : Pu (K + j + 1) rows B toks due clos) (Mi : Mid (j + 1) B toks due clos.length text) :
    ∃ m' led' imm', St hb L m' led' imm' own R s ∧ InnerInv keep prog w st ra ta da pd vahead vmany vat K (j + 1) m' led' imm' := by
  subst hrow
  exact ⟨_, _, _, S, o, rv, n1, tv, n2, dv, n3, ca, cv, n4, rows, B, toks, due, clos, text, tt, tr, v11, v12, v13, v14, v15, v16, v17, v18, v19, v20, rfl, rfl, D.mono hs, P.mono hs, Da, Pu, Mi⟩

/-- within a turn of the inner loop: the draw is made, the blank is laid -/
def InnerMid (keep : Led) (prog : Program) (w : World) (st ra ta da pd : Addr) (vahead vmany vat : Option Value) (K : Nat) (j : Nat) (pick : Int) (clos : List Str) (m : Str → Option Value) (led imm : Led) : Prop :=
  ∃ (o : Obj) (rv : List Value) (n1 : Nat) (tv : List Value) (n2 : Nat) (dv : List Value) (n3 : Nat) (ca : Addr) (cv : List Value) (n4 : Nat)
    (rows : List Str) (B : List (List Nat)) (toks : List Tk) (due : List (Int × Int)) (text bl : Str) (tt tr tp tc : Tok) (v11 v14 v15 v16 v17 v18 v19 v20 : Option Value),
    m = bm (some (.ref st)) (some (.ref ra)) (some (.ref ta)) (some (.ref da)) (some (.ref ca)) (some (.str (text ++ bl) tt)) vahead vmany (some (.ref pd)) vat (some (.int ((B.length : Int) + 1) tr)) v11 (some (.int pick tp)) (some (.int ((text ++ bl).length : Int) tc)) v14 v15 v16 v17 v18 v19 v20 ∧
    led = [(st, o), (ra, listOf rv.toArray n1), (ta, listOf tv.toArray n2), (da, listOf dv.toArray n3), (ca, listOf cv.toArray n4)] ∧
    Draw imm o ∧ PairsAt keep prog w imm pd ∧ Dats imm rv tv dv cv rows toks due clos ∧ Pu (K + j) rows B toks due clos ∧ Mid j B toks due clos.length text ∧ bl ∈ (["", " "] : List Str)

def if1 : Stmt := nth innerBody 3
def if2 : Stmt := nth (dElse if1) 0
def if3 : Stmt := nth (dElse if2) 0
def if4 : Stmt := nth (dElse if3) 0
def if5 : Stmt := nth (dElse if4) 0

set_option maxHeartbeats 4000000 in
theorem br_word {st ra ta da pd : Addr} {vahead vmany vat : Option Value} {K j : Nat} {m : Str → Option Value} {led imm : Led} {pick : Int} {clos : List Str}
    (BS : Bs w A₀ base outer hb) (hr : Rmb 3 A) (hA : A.frames = some (benv L :: outer)) (hK : K ≤ 1000) (hj : j < 3)
    (I : InnerMid keep prog w st ra ta da pd vahead vmany vat K j pick clos m led imm) (S : St hb L m led imm own R s) (p0 : 0 ≤ pick) (hp3 : pick < 3) :
    wpAny (model prog w) A (execs (dBody if1) (benv L)) (fun f s' => f = .next ∧ ∃ m' led' imm', St hb L m' led' imm' own R s' ∧ InnerInv keep prog w st ra ta da pd vahead vmany vat K (j + 1) m' led' imm') NoE s := by
  obtain ⟨o, rv, n1, tv, n2, dv, n3, ca, cv, n4, rows, B, toks, due, text, bl, tt, tr, tp, tc, v11, v14, v15, v16, v17, v18, v19, v20, rfl, rfl, D2, P, Da, Pu, Mi, hbl⟩ := I
  have lr := Da.r.length
  have lt := Da.t.length
  have ld := Da.d.length
  have lc := Da.c.length
  simp only [List.length_map] at lr lt ld lc
  have b1 := Pu.kr
  have b2 := Pu.kt
  have b3 := Pu.kd
  have b4 := Pu.kc
  have T1 := Mi.tx.blank hbl
  have l1 := T1.le
  refine x_assign ?_
  repeat (first | walk_at "go" | walk_at "b" | with_reducible refine b_len BS (by assumption) ?_)
  refine y_pick (by assumption) (.cons _ _ (.cons _ _ (.cons _ _ .nil))) p0 (by simpa using hp3) (by simp) fun word tw hw S => ?_
  have W := word_abt hw
  have l3 := W.le
  repeat (first | walk_at "go" | walk_at "b" | with_reducible refine b_len BS (by assumption) ?_)
  refine b_dec (fun hp2 => ?_) (fun hp2 => ?_)
  · repeat (first | walk_at "go" | walk_at "b" | with_reducible refine b_len BS (by assumption) ?_)
    exact inner_close (by assumption) rfl D2 P (by walk_at "sub") (Da.tok (by walk_at "sub") (.head _) (.tail _ (.tail _ (.head _))) (.tail _ (.head _))) (Pu.tok ⟨rfl, .inl rfl⟩) (Mi.tok hbl W _ rfl rfl (by simp) rfl)
  · repeat (first | walk_at "go" | walk_at "b" | with_reducible refine b_len BS (by assumption) ?_)
    exact inner_close (by assumption) rfl D2 P (by walk_at "sub") (Da.tok (by walk_at "sub") (.head _) (.tail _ (.tail _ (.head _))) (.tail _ (.head _))) (Pu.tok ⟨rfl, .inl rfl⟩) (Mi.tok hbl W _ rfl rfl (by simp) rfl)
set_option maxHeartbeats 4000000 in
theorem br_open {st ra ta da pd : Addr} {vahead vmany vat : Option Value} {K j : Nat} {m : Str → Option Value} {led imm : Led} {pick : Int} {clos : List Str}
    (BS : Bs w A₀ base outer hb) (hr : Rmb 3 A) (hA : A.frames = some (benv L :: outer)) (hK : K ≤ 1000) (hj : j < 3)
    (I : InnerMid keep prog w st ra ta da pd vahead vmany vat K j pick clos m led imm) (S : St hb L m led imm own R s) (hp3 : ¬ pick < 3) (hp6 : pick < 6) :
    wpAny (model prog w) A (execs (dBody if2) (benv L)) (fun f s' => f = .next ∧ ∃ m' led' imm', St hb L m' led' imm' own R s' ∧ InnerInv keep prog w st ra ta da pd vahead vmany vat K (j + 1) m' led' imm') NoE s := by
  obtain ⟨o, rv, n1, tv, n2, dv, n3, ca, cv, n4, rows, B, toks, due, text, bl, tt, tr, tp, tc, v11, v14, v15, v16, v17, v18, v19, v20, rfl, rfl, D2, P, Da, Pu, Mi, hbl⟩ := I
  have lr := Da.r.length
  have lt := Da.t.length
  have ld := Da.d.length
  have lc := Da.c.length
  simp only [List.length_map] at lr lt ld lc
  have b1 := Pu.kr
  have b2 := Pu.kt
  have b3 := Pu.kd
  have b4 := Pu.kc
  have T1 := Mi.tx.blank hbl
  have l1 := T1.le
  refine x_assign ?_
  repeat (first | walk_at "go" | walk_at "b" | with_reducible refine b_len BS (by assumption) ?_)
  refine y_pick (by assumption) (.cons _ _ (.cons _ _ (.cons _ _ .nil))) (by omega) (by simp; omega) (by simp) fun sign tw hw S => ?_
  obtain ⟨W, hdel, hclo⟩ := word_open hw
  have l3 := W.le
  repeat (first | walk_at "go" | walk_at "b" | with_reducible refine b_len BS (by assumption) ?_)
  refine y_pairs (by assumption) P hw (fun tc s S => ?_)
  repeat (first | walk_at "go" | walk_at "b" | with_reducible refine b_len BS (by assumption) ?_)
  have Da' : Dats imm rv tv dv (cv ++ [.str (closeOf sign) tc]) rows toks due (clos ++ [closeOf sign]) := ⟨Da.r, Da.t, Da.d, by rw [List.map_append]; exact Da.c.append (.one (.str _ _))⟩
  exact inner_close (by assumption) rfl D2 P (by walk_at "sub") (Da'.tok (by walk_at "sub") (.head _) (.tail _ (.tail _ (.head _))) (.tail _ (.head _)))
    ((Pu.tok ⟨rfl, .inl rfl⟩).clos (fun c hc => by
      rcases List.mem_append.mp hc with hc | hc
      · exact Pu.cl c hc
      · rw [List.mem_singleton.mp hc]; exact hclo) (by simp; omega) (Nat.le_refl _))
    (Mi.tok hbl W _ rfl rfl (by simp) (by simp [hdel]))
set_option maxHeartbeats 4000000 in
theorem br_comma {st ra ta da pd : Addr} {vahead vmany vat : Option Value} {K j : Nat} {m : Str → Option Value} {led imm : Led} {pick : Int} {clos : List Str}
    (BS : Bs w A₀ base outer hb) (hr : Rmb 3 A) (hA : A.frames = some (benv L :: outer)) (hK : K ≤ 1000) (hj : j < 3)
    (I : InnerMid keep prog w st ra ta da pd vahead vmany vat K j pick clos m led imm) (S : St hb L m led imm own R s) :
    wpAny (model prog w) A (execs (dBody if3) (benv L)) (fun f s' => f = .next ∧ ∃ m' led' imm', St hb L m' led' imm' own R s' ∧ InnerInv keep prog w st ra ta da pd vahead vmany vat K (j + 1) m' led' imm') NoE s := by
  obtain ⟨o, rv, n1, tv, n2, dv, n3, ca, cv, n4, rows, B, toks, due, text, bl, tt, tr, tp, tc, v11, v14, v15, v16, v17, v18, v19, v20, rfl, rfl, D2, P, Da, Pu, Mi, hbl⟩ := I
  have lr := Da.r.length
  have lt := Da.t.length
  have ld := Da.d.length
  have lc := Da.c.length
  simp only [List.length_map] at lr lt ld lc
  have b1 := Pu.kr
  have b2 := Pu.kt
  have b3 := Pu.kd
  have b4 := Pu.kc
  have T1 := Mi.tx.blank hbl
  have l1 := T1.le
  refine x_assign ?_
  repeat (first | walk_at "go" | walk_at "b" | with_reducible refine b_len BS (by assumption) ?_)
  exact inner_close (by assumption) rfl D2 P (by walk_at "sub") (Da.tok (by walk_at "sub") (.head _) (.tail _ (.tail _ (.head _))) (.tail _ (.head _))) (Pu.tok ⟨rfl, .inl rfl⟩) (Mi.tok hbl word_comma _ rfl rfl (by simp) (by simp [delta_comma]))
set_option maxHeartbeats 4000000 in
theorem br_c {st ra ta da pd : Addr} {vahead vmany vat : Option Value} {K j : Nat} {m : Str → Option Value} {led imm : Led} {pick : Int} {clos : List Str}
    (BS : Bs w A₀ base outer hb) (hr : Rmb 3 A) (hA : A.frames = some (benv L :: outer)) (hK : K ≤ 1000) (hj : j < 3)
    (I : InnerMid keep prog w st ra ta da pd vahead vmany vat K j pick clos m led imm) (S : St hb L m led imm own R s) :
    wpAny (model prog w) A (execs (dElse if5) (benv L)) (fun f s' => f = .next ∧ ∃ m' led' imm', St hb L m' led' imm' own R s' ∧ InnerInv keep prog w st ra ta da pd vahead vmany vat K (j + 1) m' led' imm') NoE s := by
  obtain ⟨o, rv, n1, tv, n2, dv, n3, ca, cv, n4, rows, B, toks, due, text, bl, tt, tr, tp, tc, v11, v14, v15, v16, v17, v18, v19, v20, rfl, rfl, D2, P, Da, Pu, Mi, hbl⟩ := I
  have lr := Da.r.length
  have lt := Da.t.length
  have ld := Da.d.length
  have lc := Da.c.length
  simp only [List.length_map] at lr lt ld lc
  have b1 := Pu.kr
  have b2 := Pu.kt
  have b3 := Pu.kd
  have b4 := Pu.kc
  have T1 := Mi.tx.blank hbl
  have l1 := T1.le
  refine x_assign ?_
  repeat (first | walk_at "go" | walk_at "b" | with_reducible refine b_len BS (by assumption) ?_)
  exact inner_close (by assumption) rfl D2 P (by walk_at "sub") (Da.tok (by walk_at "sub") (.head _) (.tail _ (.tail _ (.head _))) (.tail _ (.head _))) (Pu.tok ⟨rfl, .inl rfl⟩) (Mi.tok hbl word_c _ rfl rfl (by simp) rfl)
end
end Mine

-- part M11
namespace Mine
open PySem PySem.W PyProof.Rows PySem.Calls
local macro_rules | `(tactic| walk_at "clr") => `(tactic| ((rename St _ _ _ _ _ _ _ _ => Sx); clear Sx))
local macro_rules | `(tactic| walk_at "sub") => `(tactic| first
  | exact fun _ h => h
  | exact fun _ h => .tail _ h
  | exact fun _ h => .tail _ (.tail _ h)
  | exact fun _ h => .tail _ (.tail _ (.tail _ h))
  | exact fun _ h => .tail _ (.tail _ (.tail _ (.tail _ h)))
  | exact fun _ h => .tail _ (.tail _ (.tail _ (.tail _ (.tail _ h))))
  | exact fun _ h => .tail _ (.tail _ (.tail _ (.tail _ (.tail _ (.tail _ h))))))
local macro_rules | `(tactic| walk_at "mem") => `(tactic| first
  | exact mem_l0
  | exact mem_l1
  | exact mem_l2
  | exact mem_l3
  | exact mem_l4
  | exact mem_i (by assumption)
  | exact mem_i (.head _)
  | exact mem_i (.tail _ (.head _))
  | exact mem_i (.tail _ (.tail _ (.head _)))
  | fail "mem")
local macro_rules | `(tactic| walk_at "go") => `(tactic| with_reducible first
  | (refine r_int (by assumption) ?_; walk_at "clr"; intro t s S)
  | refine y_more ?_
  | refine spliced_none ?_
  | refine r_tuple ?_
  | (refine r_newTuple (by assumption) ?_; walk_at "clr"; intro a s S)
  | refine wpAny_BinOp ?_
  | refine Subscript_ ?_
  | refine y_callN (id := "len") ?_
  | refine y_callB ?_
  | refine y_callT ?_
  | refine y_callM1 ?_
  | refine wpAny_truthy_bool ?_
  | (refine r_add (by assumption) ?_; walk_at "clr"; intro t s S)
  | refine x_assign ?_
  | refine y_isTrueCmp ?_
  | refine r_lt ?_
  | refine r_eqi ?_
  | refine r_nei ?_
  | (refine r_str (by assumption) ?_; walk_at "clr"; intro t s S)
  | (refine r_sub (by assumption) ?_; walk_at "clr"; intro t s S)
  | refine r_list ?_
  | (refine r_newList (by assumption) ?_; walk_at "clr"; intro a s S hnew)
  | refine x_return ?_
  | refine x_expr ?_
  | ((show wpAny _ _ (eval (Expr.Call (Expr.Attribute (Expr.Name _ _) _ _) _ _ _) _) _ _ _); refine y_callM ?_)
  | refine y_append (by assumption) (by walk_at "mem") ?_
  | refine isTrue_and ?_
  | refine isTrue_and_nil ?_
  | refine ite_t ?_
  | refine ite_f ?_
  | refine x_assignT ?_
  | refine IfExp_ ?_
  | refine UnaryOp_ ?_
  | (refine r_neg (by assumption) ?_; walk_at "clr"; intro t s S)
  | refine cont_next ?_
  | refine x_nil ?_)
local macro_rules | `(tactic| walk_at "b") => `(tactic| with_reducible first
  | refine b_ld_text (by assumption) rfl ?_
  | refine b_ld_row (by assumption) rfl ?_
  | refine b_ld_col (by assumption) rfl ?_
  | refine b_ld_pick (by assumption) rfl ?_
  | refine b_ld_word (by assumption) rfl ?_
  | refine b_ld_sign (by assumption) rfl ?_
  | refine b_ld_tokens (by assumption) rfl ?_
  | refine b_ld_rows (by assumption) rfl ?_
  | refine b_ld_closers (by assumption) rfl ?_
  | refine b_ld_pairs (by assumption) rfl ?_
  | refine b_ld_first (by assumption) rfl ?_
  | refine b_ld_second (by assumption) rfl ?_
  | refine b_ld_due (by assumption) rfl ?_
  | refine b_ld_ahead (by assumption) rfl ?_
  | refine b_ld_at (by assumption) rfl ?_
  | refine b_ld_many (by assumption) rfl ?_
  | refine b_ld_ending (by assumption) rfl ?_
  | refine b_ld_form (by assumption) rfl ?_
  | refine b_ld_remark (by assumption) rfl ?_
  | (refine b_st_text (by assumption) ?_; walk_at "clr"; intro s S)
  | (refine b_st_row (by assumption) ?_; walk_at "clr"; intro s S)
  | (refine b_st_col (by assumption) ?_; walk_at "clr"; intro s S)
  | (refine b_st_pick (by assumption) ?_; walk_at "clr"; intro s S)
  | (refine b_st_word (by assumption) ?_; walk_at "clr"; intro s S)
  | (refine b_st_sign (by assumption) ?_; walk_at "clr"; intro s S)
  | (refine b_st_closers (by assumption) ?_; walk_at "clr"; intro s S)
  | (refine b_st_first (by assumption) ?_; walk_at "clr"; intro s S)
  | (refine b_st_second (by assumption) ?_; walk_at "clr"; intro s S)
  | (refine b_st_ahead (by assumption) ?_; walk_at "clr"; intro s S)
  | (refine b_st_ending (by assumption) ?_; walk_at "clr"; intro s S)
  | (refine b_st_form (by assumption) ?_; walk_at "clr"; intro s S)
  | (refine b_st_remark (by assumption) ?_; walk_at "clr"; intro s S)
  | (refine y_app1 (by assumption) (by omega) ?_; walk_at "clr"; intro s S)
  | (refine y_app2 (by assumption) (by omega) ?_; walk_at "clr"; intro s S)
  | (refine y_app3 (by assumption) (by omega) ?_; walk_at "clr"; intro s S)
  | (refine y_app4 (by assumption) (by omega) ?_; walk_at "clr"; intro s S)
  | (refine r_cat (by assumption) (by first | omega | decide +kernel) (by first | omega | decide +kernel) ?_; walk_at "clr"; intro t s S)
  | (refine r_lenStr (by assumption) (by first | omega | decide +kernel) ?_; walk_at "clr"; intro t s S)
  | refine ⟨rfl, ?_⟩)

theorem Pu.rowTok {K : Nat} {rows : List Str} {B : List (List Nat)} {toks : List Tk} {due : List (Int × Int)} {clos : List Str} (h : Pu K rows B toks due clos) {x : Str} {b : List Nat} {t : Tk} (hx : RowOk x b) (hs : x.length ≤ 1000) (ht : TkOk t) : Pu (K + 1) (rows ++ [x]) (B ++ [b]) (toks ++ [t]) due clos :=
  ⟨h.rb.snoc hx, (h.row hx hs).short, (h.tok ht).tk, h.cl, by simpa using h.kr, by simpa using h.kt, by have := h.kd; omega, by have := h.kc; omega⟩
theorem Dats.row {imm : Led} {rv tv dv cv : List Value} {rows : List Str} {toks : List Tk} {due : List (Int × Int)} {clos : List Str} (h : Dats imm rv tv dv cv rows toks due clos) (x : Str) (t : Tok) :
    Dats imm (rv ++ [.str x t]) tv dv cv (rows ++ [x]) toks due clos := ⟨by rw [List.map_append]; exact h.r.append (.one (.str _ _)), h.t, h.d, h.c⟩
theorem dat_snoc {imm : Led} {cv : List Value} {xs : List Str} {c : Str} (h : DatAll imm cv ((xs ++ [c]).map Dat.str)) : ∃ cv0 u, cv = cv0 ++ [.str c u] ∧ DatAll imm cv0 (xs.map Dat.str) := by
  rw [List.map_append] at h
  have hl := h.length
  have hn : cv ≠ [] := by intro e; rw [e] at hl; simp at hl
  obtain ⟨cv0, v, rfl⟩ : ∃ cv0 v, cv = cv0 ++ [v] := ⟨cv.dropLast, cv.getLast hn, (List.dropLast_concat_getLast hn).symm⟩
  obtain ⟨es, d, he, h1, h2⟩ := h.snoc
  have e2 : xs.map Dat.str = es ∧ Dat.str c = d := by
    have := List.append_inj' he rfl
    exact ⟨this.1, by simpa using this.2⟩
  obtain ⟨rfl, rfl⟩ := e2
  cases h2 with
  | str _ t => exact ⟨cv0, t, rfl, h1⟩
theorem back_get (cv0 : List Value) (v : Value) : (cv0 ++ [v])[((-1 : Int) + ((cv0 ++ [v]).length : Int)).toNat]? = some v := by
  have e : ((-1 : Int) + ((cv0 ++ [v]).length : Int)).toNat = cv0.length := by simp; omega
  rw [e, List.getElem?_concat_length]
theorem kms_back (cv0 : List Value) (v : Value) : kms_pick (cv0 ++ [v]).toArray.toList none (some (-1)) = cv0 := by
  unfold kms_pick kms_hi kms_lo
  simp
section
variable {keep : Led} {prog : Program} {w : World} {A A₀ : Around} {s : Shared} {base : Heap} {outer : List Env}
variable {hb : Heap} {L : Addr} {own : Led} {R : Rest}
set_option maxHeartbeats 4000000 in
theorem br_close {st ra ta da pd : Addr} {vahead vmany vat : Option Value} {K j : Nat} {m : Str → Option Value} {led imm : Led} {pick : Int} {clos : List Str}
    (BS : Bs w A₀ base outer hb) (hr : Rmb 3 A) (hA : A.frames = some (benv L :: outer)) (hK : K ≤ 1000) (hj : j < 3)
    (I : InnerMid keep prog w st ra ta da pd vahead vmany vat K j pick clos m led imm) (S : St hb L m led imm own R s) (hne : clos ≠ []) :
    wpAny (model prog w) A (execs (dBody if4) (benv L)) (fun f s' => f = .next ∧ ∃ m' led' imm', St hb L m' led' imm' own R s' ∧ InnerInv keep prog w st ra ta da pd vahead vmany vat K (j + 1) m' led' imm') NoE s := by
  obtain ⟨o, rv, n1, tv, n2, dv, n3, ca, cv, n4, rows, B, toks, due, text, bl, tt, tr, tp, tc, v11, v14, v15, v16, v17, v18, v19, v20, rfl, rfl, D2, P, Da, Pu, Mi, hbl⟩ := I
  have lr := Da.r.length
  have lt := Da.t.length
  have ld := Da.d.length
  have lc := Da.c.length
  simp only [List.length_map] at lr lt ld lc
  have b1 := Pu.kr
  have b2 := Pu.kt
  have b3 := Pu.kd
  have b4 := Pu.kc
  have T1 := Mi.tx.blank hbl
  have l1 := T1.le
  refine x_assign ?_
  repeat (first | walk_at "go" | walk_at "b" | with_reducible refine b_len BS (by assumption) ?_)
  obtain ⟨clos0, c, rfl⟩ : ∃ clos0 c, clos = clos0 ++ [c] := ⟨clos.dropLast, clos.getLast hne, (List.dropLast_concat_getLast hne).symm⟩
  obtain ⟨cv0, u, rfl, Dc0⟩ := dat_snoc Da.c
  have hc := Pu.cl c (by simp)
  obtain ⟨W, hdel, _⟩ := word_close hc
  have l3 := W.le
  refine r_back (by assumption) (by walk_at "mem") (by omega) (by simp; omega) (by omega) (back_get cv0 _) ?_
  repeat (first | walk_at "go" | walk_at "b" | with_reducible refine b_len BS (by assumption) ?_)
  refine y_slice (hb := hb) (L := L) (its := (cv0 ++ [Value.str c u]).toArray) (n := n4) (zs := cv0) (lo := none) (hi := some (-1)) (wpAny_evalPart_none (wpAny_evalPart_some ?_))
  repeat (first | walk_at "go" | walk_at "b" | with_reducible refine b_len BS (by assumption) ?_)
  refine ⟨_, _, _, _, _, (by assumption), (by walk_at "mem"), .none, .int _ _, (by simp at b4 lc ⊢; omega), kms_back cv0 _, fun D s S hD => ?_⟩
  replace S := S.swap4 fun q hq => hD q (mem_i hq)
  repeat (first | walk_at "go" | walk_at "b" | with_reducible refine b_len BS (by assumption) ?_)
  have Da' : Dats imm rv tv dv cv0 rows toks due clos0 := ⟨Da.r, Da.t, Da.d, Dc0⟩
  have cl0 : Closers clos0 := fun x hx => Pu.cl x (by simp [hx])
  exact inner_close (by assumption) rfl D2 P (by walk_at "sub") (Da'.tok (by walk_at "sub") (.head _) (.tail _ (.tail _ (.head _))) (.tail _ (.head _)))
    ((Pu.tok ⟨rfl, .inl rfl⟩).clos cl0 (by simp at b4; omega) (Nat.le_refl _))
    (Mi.tok hbl W _ rfl rfl (by simp) (by simp [hdel]; omega))
set_option maxHeartbeats 4000000 in
theorem br_two {st ra ta da pd : Addr} {vahead vmany vat : Option Value} {K j : Nat} {m : Str → Option Value} {led imm : Led} {pick : Int} {clos : List Str}
    (BS : Bs w A₀ base outer hb) (hr : Rmb 3 A) (hA : A.frames = some (benv L :: outer)) (hK : K ≤ 1000) (hj : j < 3)
    (I : InnerMid keep prog w st ra ta da pd vahead vmany vat K j pick clos m led imm) (S : St hb L m led imm own R s) :
    wpAny (model prog w) A (execs (dBody if5) (benv L)) (fun f s' => f = .next ∧ ∃ m' led' imm', St hb L m' led' imm' own R s' ∧ InnerInv keep prog w st ra ta da pd vahead vmany vat K (j + 1) m' led' imm') NoE s := by
  obtain ⟨o, rv, n1, tv, n2, dv, n3, ca, cv, n4, rows, B, toks, due, text, bl, tt, tr, tp, tc, v11, v14, v15, v16, v17, v18, v19, v20, rfl, rfl, D2, P, Da, Pu, Mi, hbl⟩ := I
  have lr := Da.r.length
  have lt := Da.t.length
  have ld := Da.d.length
  have lc := Da.c.length
  simp only [List.length_map] at lr lt ld lc
  have b1 := Pu.kr
  have b2 := Pu.kt
  have b3 := Pu.kd
  have b4 := Pu.kc
  have T1 := Mi.tx.blank hbl
  have l1 := T1.le
  refine x_assignT ?_
  repeat (first | walk_at "go" | walk_at "b" | with_reducible refine b_len BS (by assumption) ?_)
  refine b_next BS hr hA (by assumption) D2 (by walk_at "sub") (by decide) fun q tq o' s q0 q1 D2 S => ?_
  rcases (by omega : q = 0 ∨ q = 1) with rfl | rfl
  · refine y_sub0 S (mem_i (.head _)) ?_
    refine y_unpack2 S (mem_i (.tail _ (.tail _ (.head _)))) hr.h fun s S => ?_
    have l4 : (text ++ bl ++ "\"\"\"p").length ≤ 100 := by rw [str_len_append, len_first1]; omega
    have l5 : (text ++ bl ++ "\"\"\"p" ++ "\n").length ≤ 1000 := by rw [str_len_append, len_nl]; omega
    repeat (first | walk_at "go" | walk_at "b" | with_reducible refine b_len BS (by assumption) ?_)
    exact inner_close (B := B ++ [(text ++ bl ++ "\"\"\"p").cps.toList]) (by assumption) (by simp) D2 P (by walk_at "sub") ((Da.row _ _).tok (by walk_at "sub") (.head _) (.tail _ (.tail _ (.head _))) (.tail _ (.head _)))
      (Pu.rowTok (rowOk_of (plain_append T1.pl first_1.1) (ne_append first_1.2) (.head _)) l5 ⟨rfl, .inr ⟨by simp, by simp; omega⟩⟩)
      (Mi.two _ word_s1 _ rfl (by simp; omega) rfl)
  · refine y_sub1 S (mem_i (.head _)) ?_
    refine y_unpack2 S (mem_i (.tail _ (.head _))) hr.h fun s S => ?_
    have l4 : (text ++ bl ++ "\"r\\").length ≤ 100 := by rw [str_len_append, len_first2]; omega
    have l5 : (text ++ bl ++ "\"r\\" ++ "\n").length ≤ 1000 := by rw [str_len_append, len_nl]; omega
    repeat (first | walk_at "go" | walk_at "b" | with_reducible refine b_len BS (by assumption) ?_)
    exact inner_close (B := B ++ [(text ++ bl ++ "\"r\\").cps.toList]) (by assumption) (by simp) D2 P (by walk_at "sub") ((Da.row _ _).tok (by walk_at "sub") (.head _) (.tail _ (.tail _ (.head _))) (.tail _ (.head _)))
      (Pu.rowTok (rowOk_of (plain_append T1.pl first_2.1) (ne_append first_2.2) (.head _)) l5 ⟨rfl, .inr ⟨by simp, by simp; omega⟩⟩)
      (Mi.two _ word_s2 _ rfl (by simp; omega) rfl)
end
end Mine

-- part M12
namespace Mine
open PySem PySem.W PyProof.Rows PySem.Calls
local macro_rules | `(tactic| walk_at "clr") => `(tactic| ((rename St _ _ _ _ _ _ _ _ => Sx); clear Sx))
local macro_rules | `(tactic| walk_at "sub") => `(tactic| first
  | exact fun _ h => h
  | exact fun _ h => .tail _ h
  | exact fun _ h => .tail _ (.tail _ h)
  | exact fun _ h => .tail _ (.tail _ (.tail _ h))
  | exact fun _ h => .tail _ (.tail _ (.tail _ (.tail _ h)))
  | exact fun _ h => .tail _ (.tail _ (.tail _ (.tail _ (.tail _ h))))
  | exact fun _ h => .tail _ (.tail _ (.tail _ (.tail _ (.tail _ (.tail _ h))))))
local macro_rules | `(tactic| walk_at "mem") => `(tactic| first
  | exact mem_l0
  | exact mem_l1
  | exact mem_l2
  | exact mem_l3
  | exact mem_l4
  | exact mem_i (by assumption)
  | exact mem_i (.head _)
  | exact mem_i (.tail _ (.head _))
  | exact mem_i (.tail _ (.tail _ (.head _)))
  | fail "mem")
local macro_rules | `(tactic| walk_at "go") => `(tactic| with_reducible first
  | (refine r_int (by assumption) ?_; walk_at "clr"; intro t s S)
  | refine y_more ?_
  | refine spliced_none ?_
  | refine r_tuple ?_
  | (refine r_newTuple (by assumption) ?_; walk_at "clr"; intro a s S)
  | refine wpAny_BinOp ?_
  | refine Subscript_ ?_
  | refine y_callN (id := "len") ?_
  | refine y_callB ?_
  | refine y_callT ?_
  | refine y_callM1 ?_
  | refine wpAny_truthy_bool ?_
  | (refine r_add (by assumption) ?_; walk_at "clr"; intro t s S)
  | refine x_assign ?_
  | refine y_isTrueCmp ?_
  | refine r_lt ?_
  | refine r_eqi ?_
  | refine r_nei ?_
  | (refine r_str (by assumption) ?_; walk_at "clr"; intro t s S)
  | (refine r_sub (by assumption) ?_; walk_at "clr"; intro t s S)
  | refine r_list ?_
  | (refine r_newList (by assumption) ?_; walk_at "clr"; intro a s S hnew)
  | refine x_return ?_
  | refine x_expr ?_
  | ((show wpAny _ _ (eval (Expr.Call (Expr.Attribute (Expr.Name _ _) _ _) _ _ _) _) _ _ _); refine y_callM ?_)
  | refine y_append (by assumption) (by walk_at "mem") ?_
  | refine isTrue_and ?_
  | refine isTrue_and_nil ?_
  | refine ite_t ?_
  | refine ite_f ?_
  | refine x_assignT ?_
  | refine IfExp_ ?_
  | refine UnaryOp_ ?_
  | (refine r_neg (by assumption) ?_; walk_at "clr"; intro t s S)
  | refine cont_next ?_
  | refine x_nil ?_)
local macro_rules | `(tactic| walk_at "b") => `(tactic| with_reducible first
  | refine b_ld_text (by assumption) rfl ?_
  | refine b_ld_row (by assumption) rfl ?_
  | refine b_ld_col (by assumption) rfl ?_
  | refine b_ld_pick (by assumption) rfl ?_
  | refine b_ld_word (by assumption) rfl ?_
  | refine b_ld_sign (by assumption) rfl ?_
  | refine b_ld_tokens (by assumption) rfl ?_
  | refine b_ld_rows (by assumption) rfl ?_
  | refine b_ld_closers (by assumption) rfl ?_
  | refine b_ld_pairs (by assumption) rfl ?_
  | refine b_ld_first (by assumption) rfl ?_
  | refine b_ld_second (by assumption) rfl ?_
  | refine b_ld_due (by assumption) rfl ?_
  | refine b_ld_ahead (by assumption) rfl ?_
  | refine b_ld_at (by assumption) rfl ?_
  | refine b_ld_many (by assumption) rfl ?_
  | refine b_ld_ending (by assumption) rfl ?_
  | refine b_ld_form (by assumption) rfl ?_
  | refine b_ld_remark (by assumption) rfl ?_
  | (refine b_st_text (by assumption) ?_; walk_at "clr"; intro s S)
  | (refine b_st_row (by assumption) ?_; walk_at "clr"; intro s S)
  | (refine b_st_col (by assumption) ?_; walk_at "clr"; intro s S)
  | (refine b_st_pick (by assumption) ?_; walk_at "clr"; intro s S)
  | (refine b_st_word (by assumption) ?_; walk_at "clr"; intro s S)
  | (refine b_st_sign (by assumption) ?_; walk_at "clr"; intro s S)
  | (refine b_st_closers (by assumption) ?_; walk_at "clr"; intro s S)
  | (refine b_st_first (by assumption) ?_; walk_at "clr"; intro s S)
  | (refine b_st_second (by assumption) ?_; walk_at "clr"; intro s S)
  | (refine b_st_ahead (by assumption) ?_; walk_at "clr"; intro s S)
  | (refine b_st_ending (by assumption) ?_; walk_at "clr"; intro s S)
  | (refine b_st_form (by assumption) ?_; walk_at "clr"; intro s S)
  | (refine b_st_remark (by assumption) ?_; walk_at "clr"; intro s S)
  | (refine y_app1 (by assumption) (by omega) ?_; walk_at "clr"; intro s S)
  | (refine y_app2 (by assumption) (by omega) ?_; walk_at "clr"; intro s S)
  | (refine y_app3 (by assumption) (by omega) ?_; walk_at "clr"; intro s S)
  | (refine y_app4 (by assumption) (by omega) ?_; walk_at "clr"; intro s S)
  | (refine r_cat (by assumption) (by first | omega | decide +kernel) (by first | omega | decide +kernel) ?_; walk_at "clr"; intro t s S)
  | (refine r_lenStr (by assumption) (by first | omega | decide +kernel) ?_; walk_at "clr"; intro t s S)
  | refine ⟨rfl, ?_⟩)

section
variable {keep : Led} {prog : Program} {w : World} {A A₀ : Around} {s : Shared} {base : Heap} {outer : List Env}
variable {hb : Heap} {L : Addr} {own : Led} {R : Rest}
set_option maxHeartbeats 4000000 in
theorem inner_last {st ra ta da pd : Addr} {vahead vmany vat : Option Value} {K j : Nat} {m : Str → Option Value} {led imm : Led} {pick : Int} {clos : List Str}
    (BS : Bs w A₀ base outer hb) (hr : Rmb 3 A) (hA : A.frames = some (benv L :: outer)) (hK : K ≤ 1000) (hj : j < 3)
    (I : InnerMid keep prog w st ra ta da pd vahead vmany vat K j pick clos m led imm) (S : St hb L m led imm own R s) :
    wpAny (model prog w) A (execs [if5] (benv L)) (fun f s' => f = .next ∧ ∃ m' led' imm', St hb L m' led' imm' own R s' ∧ InnerInv keep prog w st ra ta da pd vahead vmany vat K (j + 1) m' led' imm') NoE s := by
  have I0 := I
  obtain ⟨o, rv, n1, tv, n2, dv, n3, ca, cv, n4, rows, B, toks, due, text, bl, tt, tr, tp, tc, v11, v14, v15, v16, v17, v18, v19, v20, rfl, rfl, D2, P, Da, Pu, Mi, hbl⟩ := I
  refine x_ifLast ?_
  repeat (first | walk_at "go" | walk_at "b")
  refine b_dec (fun h6 => ?_) (fun h6 => ?_)
  · exact br_two BS hr hA hK hj I0 (by assumption)
  · exact br_c BS hr hA hK hj I0 (by assumption)
set_option maxHeartbeats 4000000 in
theorem inner_chain {st ra ta da pd : Addr} {vahead vmany vat : Option Value} {K j : Nat} {m : Str → Option Value} {led imm : Led} {pick : Int} {clos : List Str}
    (BS : Bs w A₀ base outer hb) (hr : Rmb 3 A) (hA : A.frames = some (benv L :: outer)) (hK : K ≤ 1000) (hj : j < 3) (hp0 : 0 ≤ pick)
    (I : InnerMid keep prog w st ra ta da pd vahead vmany vat K j pick clos m led imm) (S : St hb L m led imm own R s) :
    wpAny (model prog w) A (execs [if1] (benv L)) (fun f s' => f = .next ∧ ∃ m' led' imm', St hb L m' led' imm' own R s' ∧ InnerInv keep prog w st ra ta da pd vahead vmany vat K (j + 1) m' led' imm') NoE s := by
  have I0 := I
  obtain ⟨o, rv, n1, tv, n2, dv, n3, ca, cv, n4, rows, B, toks, due, text, bl, tt, tr, tp, tc, v11, v14, v15, v16, v17, v18, v19, v20, rfl, rfl, D2, P, Da, Pu, Mi, hbl⟩ := I
  refine x_ifLast ?_
  repeat (first | walk_at "go" | walk_at "b")
  refine b_dec (fun h3 => ?_) (fun h3 => ?_)
  · exact br_word BS hr hA hK hj I0 (by assumption) hp0 h3
  show wpAny (model prog w) A (execs [if2] (benv L)) _ _ _
  refine x_ifLast ?_
  repeat (first | walk_at "go" | walk_at "b")
  refine b_dec (fun h6 => ?_) (fun h6 => ?_)
  · exact br_open BS hr hA hK hj I0 (by assumption) h3 h6
  show wpAny (model prog w) A (execs [if3] (benv L)) _ _ _
  refine x_ifLast ?_
  repeat (first | walk_at "go" | walk_at "b")
  refine b_dec (fun h6 => ?_) (fun h6 => ?_)
  · exact br_comma BS hr hA hK hj I0 (by assumption)
  show wpAny (model prog w) A (execs [if4] (benv L)) _ _ _
  refine x_ifLast ?_
  repeat (first | walk_at "go" | walk_at "b")
  refine b_dec (fun h6 => ?_) (fun h6 => ?_)
  · repeat (first | walk_at "go" | walk_at "b")
    refine y_emptyNe (by assumption) mem_l4 Da.c (fun c hc => (word_close (Pu.cl c hc)).2.2) (by have := hr.u; omega) fun S => ?_
    repeat (first | walk_at "go" | walk_at "b")
    refine b_dec (fun h7 => ?_) (fun h7 => ?_)
    · refine isTrue_and_nil ?_
      exact br_close BS hr hA hK hj I0 S h7
    · repeat (first | walk_at "go")
      exact inner_last BS hr hA hK hj I0 S
  · exact inner_last BS hr hA hK hj I0 (by assumption)
set_option maxHeartbeats 4000000 in
theorem inner_turn {st ra ta da pd : Addr} {vahead vmany vat : Option Value} {K j : Nat} {m : Str → Option Value} {led imm : Led} {v : Value}
    (BS : Bs w A₀ base outer hb) (hr : Rmb 3 A) (hA : A.frames = some (benv L :: outer)) (hK : K ≤ 1000) (hj : j < 3)
    (I : InnerInv keep prog w st ra ta da pd vahead vmany vat K j m led imm) (S : St hb L (fun y => if y = ("_" : Str) then some v else m y) led imm own R s) :
    wpAny (model prog w) A (execs innerBody (benv L)) (fun f s' => f = .next ∧ ∃ m' led' imm', St hb L m' led' imm' own R s' ∧ InnerInv keep prog w st ra ta da pd vahead vmany vat K (j + 1) m' led' imm') NoE s := by
  obtain ⟨o, rv, n1, tv, n2, dv, n3, ca, cv, n4, rows, B, toks, due, clos, text, tt, tr, v11, v12, v13, v14, v15, v16, v17, v18, v19, v20, rfl, rfl, D2, P, Da, Pu, Mi⟩ := I
  rw [bs__] at S
  have l1 := Mi.tx.le
  show wpAny (model prog w) A (execs [nth innerBody 0, nth innerBody 1, nth innerBody 2, if1] (benv L)) _ _ _
  refine x_assign ?_
  refine b_next BS hr hA S D2 (by walk_at "sub") (by decide) fun pick tq o' s p0 p9 D2 S => ?_
  clear ‹St hb L _ [(st, o), _, _, _, _] _ _ _ _›
  walk_at "b"
  refine x_assign ?_
  repeat (first | walk_at "go" | walk_at "b" | with_reducible refine b_len BS (by assumption) ?_)
  refine b_next BS hr hA (by assumption) D2 (by walk_at "sub") (by decide) fun q tq o' s q0 q2 D2 S => ?_
  refine y_pick S (.cons _ _ (.cons _ _ .nil)) q0 (by simpa using q2) (by simp) fun bl tw hbl S => ?_
  have T1 := Mi.tx.blank hbl
  have l2 := T1.le
  have l3 : bl.length ≤ 1 := by rw [str_len_append] at l2; simp only [List.mem_cons, List.not_mem_nil, or_false] at hbl; rcases hbl with rfl | rfl <;> decide +kernel
  repeat (first | walk_at "go" | walk_at "b" | with_reducible refine b_len BS (by assumption) ?_)
  refine x_assign ?_
  repeat (first | walk_at "go" | walk_at "b" | with_reducible refine b_len BS (by assumption) ?_)
  exact inner_chain BS hr hA hK hj p0 ⟨_, rv, n1, tv, n2, dv, n3, ca, cv, n4, rows, B, toks, due, text, bl, _, tr, _, _, _, v14, v15, v16, v17, v18, v19, v20, rfl, rfl, D2, P, Da, Pu, Mi, hbl⟩ (by assumption)
end
end Mine

-- part M13
namespace Mine
open PySem PySem.W PyProof.Rows PySem.Calls
local macro_rules | `(tactic| walk_at "clr") => `(tactic| ((rename St _ _ _ _ _ _ _ _ => Sx); clear Sx))
local macro_rules | `(tactic| walk_at "sub") => `(tactic| first
  | exact fun _ h => h
  | exact fun _ h => .tail _ h
  | exact fun _ h => .tail _ (.tail _ h)
  | exact fun _ h => .tail _ (.tail _ (.tail _ h))
  | exact fun _ h => .tail _ (.tail _ (.tail _ (.tail _ h)))
  | exact fun _ h => .tail _ (.tail _ (.tail _ (.tail _ (.tail _ h))))
  | exact fun _ h => .tail _ (.tail _ (.tail _ (.tail _ (.tail _ (.tail _ h))))))
local macro_rules | `(tactic| walk_at "mem") => `(tactic| first
  | exact mem_l0
  | exact mem_l1
  | exact mem_l2
  | exact mem_l3
  | exact mem_l4
  | exact mem_i (by assumption)
  | exact mem_i (.head _)
  | exact mem_i (.tail _ (.head _))
  | exact mem_i (.tail _ (.tail _ (.head _)))
  | fail "mem")
local macro_rules | `(tactic| walk_at "go") => `(tactic| with_reducible first
  | (refine r_int (by assumption) ?_; walk_at "clr"; intro t s S)
  | refine y_more ?_
  | refine spliced_none ?_
  | refine r_tuple ?_
  | (refine r_newTuple (by assumption) ?_; walk_at "clr"; intro a s S)
  | refine wpAny_BinOp ?_
  | refine Subscript_ ?_
  | refine y_callN (id := "len") ?_
  | refine y_callB ?_
  | refine y_callT ?_
  | refine y_callM1 ?_
  | refine wpAny_truthy_bool ?_
  | (refine r_add (by assumption) ?_; walk_at "clr"; intro t s S)
  | refine x_assign ?_
  | refine y_isTrueCmp ?_
  | refine r_lt ?_
  | refine r_eqi ?_
  | refine r_nei ?_
  | (refine r_str (by assumption) ?_; walk_at "clr"; intro t s S)
  | (refine r_sub (by assumption) ?_; walk_at "clr"; intro t s S)
  | refine r_list ?_
  | (refine r_newList (by assumption) ?_; walk_at "clr"; intro a s S hnew)
  | refine x_return ?_
  | refine x_expr ?_
  | ((show wpAny _ _ (eval (Expr.Call (Expr.Attribute (Expr.Name _ _) _ _) _ _ _) _) _ _ _); refine y_callM ?_)
  | refine y_append (by assumption) (by walk_at "mem") ?_
  | refine isTrue_and ?_
  | refine isTrue_and_nil ?_
  | refine ite_t ?_
  | refine ite_f ?_
  | refine x_assignT ?_
  | refine IfExp_ ?_
  | refine UnaryOp_ ?_
  | (refine r_neg (by assumption) ?_; walk_at "clr"; intro t s S)
  | refine cont_next ?_
  | refine x_nil ?_)
local macro_rules | `(tactic| walk_at "b") => `(tactic| with_reducible first
  | refine b_ld_text (by assumption) rfl ?_
  | refine b_ld_row (by assumption) rfl ?_
  | refine b_ld_col (by assumption) rfl ?_
  | refine b_ld_pick (by assumption) rfl ?_
  | refine b_ld_word (by assumption) rfl ?_
  | refine b_ld_sign (by assumption) rfl ?_
  | refine b_ld_tokens (by assumption) rfl ?_
  | refine b_ld_rows (by assumption) rfl ?_
  | refine b_ld_closers (by assumption) rfl ?_
  | refine b_ld_pairs (by assumption) rfl ?_
  | refine b_ld_first (by assumption) rfl ?_
  | refine b_ld_second (by assumption) rfl ?_
  | refine b_ld_due (by assumption) rfl ?_
  | refine b_ld_ahead (by assumption) rfl ?_
  | refine b_ld_at (by assumption) rfl ?_
  | refine b_ld_many (by assumption) rfl ?_
  | refine b_ld_ending (by assumption) rfl ?_
  | refine b_ld_form (by assumption) rfl ?_
  | refine b_ld_remark (by assumption) rfl ?_
  | (refine b_st_text (by assumption) ?_; walk_at "clr"; intro s S)
  | (refine b_st_row (by assumption) ?_; walk_at "clr"; intro s S)
  | (refine b_st_col (by assumption) ?_; walk_at "clr"; intro s S)
  | (refine b_st_pick (by assumption) ?_; walk_at "clr"; intro s S)
  | (refine b_st_word (by assumption) ?_; walk_at "clr"; intro s S)
  | (refine b_st_sign (by assumption) ?_; walk_at "clr"; intro s S)
  | (refine b_st_closers (by assumption) ?_; walk_at "clr"; intro s S)
  | (refine b_st_first (by assumption) ?_; walk_at "clr"; intro s S)
  | (refine b_st_second (by assumption) ?_; walk_at "clr"; intro s S)
  | (refine b_st_ahead (by assumption) ?_; walk_at "clr"; intro s S)
  | (refine b_st_ending (by assumption) ?_; walk_at "clr"; intro s S)
  | (refine b_st_form (by assumption) ?_; walk_at "clr"; intro s S)
  | (refine b_st_remark (by assumption) ?_; walk_at "clr"; intro s S)
  | (refine y_app1 (by assumption) (by first | omega | (simp only [List.length_append, List.length_cons, List.length_nil]; omega)) ?_; walk_at "clr"; intro s S)
  | (refine y_app2 (by assumption) (by first | omega | (simp only [List.length_append, List.length_cons, List.length_nil]; omega)) ?_; walk_at "clr"; intro s S)
  | (refine y_app3 (by assumption) (by first | omega | (simp only [List.length_append, List.length_cons, List.length_nil]; omega)) ?_; walk_at "clr"; intro s S)
  | (refine y_app4 (by assumption) (by first | omega | (simp only [List.length_append, List.length_cons, List.length_nil]; omega)) ?_; walk_at "clr"; intro s S)
  | (refine r_cat (by assumption) (by first | omega | decide +kernel) (by first | omega | decide +kernel) ?_; walk_at "clr"; intro t s S)
  | (refine r_lenStr (by assumption) (by first | omega | decide +kernel) ?_; walk_at "clr"; intro t s S)
  | refine ⟨rfl, ?_⟩)

section
variable {keep : Led} {prog : Program} {w : World} {A A₀ : Around} {s : Shared} {base : Heap} {outer : List Env}
variable {hb : Heap} {L : Addr} {own : Led} {R : Rest}

/-- at the inner loop -/
def Pre (keep : Led) (prog : Program) (w : World) (hb : Heap) (L : Addr) (own : Led) (R : Rest) (st ra ta da pd : Addr) (vmany vat : Option Value) (K : Nat) (s : Shared) : Prop :=
  ∃ (ah : Int) (tah : Tok) (m : Str → Option Value) (led imm : Led), St hb L m led imm own R s ∧ InnerInv keep prog w st ra ta da pd (some (.int ah tah)) vmany vat K 0 m led imm

theorem pre_mk {st ra ta da pd : Addr} {vmany vat : Option Value} {ah : Int} {tah : Tok} {K : Nat} {imm' imm0 : Led} {s : Shared}
    {o : Obj} {rv : List Value} {n1 : Nat} {tv : List Value} {n2 : Nat} {dv : List Value} {n3 : Nat} {ca : Addr} {cv : List Value} {n4 : Nat}
    {rows : List Str} {B : List (List Nat)} {toks : List Tk} {due : List (Int × Int)} {clos : List Str} {text : Str} {tt tr : Tok} {row : Int} {v11 v12 v13 v14 v15 v16 v17 v18 v19 v20 : Option Value}
    (S : St hb L (bm (some (.ref st)) (some (.ref ra)) (some (.ref ta)) (some (.ref da)) (some (.ref ca)) (some (.str text tt)) (some (.int ah tah)) vmany (some (.ref pd)) vat (some (.int row tr)) v11 v12 v13 v14 v15 v16 v17 v18 v19 v20)
      [(st, o), (ra, listOf rv.toArray n1), (ta, listOf tv.toArray n2), (da, listOf dv.toArray n3), (ca, listOf cv.toArray n4)] imm' own R s)
    (hrow : row = (B.length : Int) + 1) (D : Draw imm0 o) (P : PairsAt keep prog w imm0 pd) (hs : ∀ p ∈ imm0, p ∈ imm') (Da : Dats imm' rv tv dv cv rows toks due clos) (Pu : Pu K rows B toks due clos) (Mi : Mid 0 B toks due clos.length text) :
    Pre keep prog w hb L own R st ra ta da pd vmany vat K s := by
  subst hrow
  exact ⟨_, _, _, _, _, S, o, rv, n1, tv, n2, dv, n3, ca, cv, n4, rows, B, toks, due, clos, text, tt, tr, v11, v12, v13, v14, v15, v16, v17, v18, v19, v20, rfl, rfl, D.mono hs, P.mono hs, Da, Pu, Mi⟩
theorem row_r : RowOk "  # r\n" ("  # r" : Str).cps.toList := rowOk_of (x := "  # r") (plain_of "  # r" (by decide +kernel)).1 (plain_of "  # r" (by decide +kernel)).2 (.head _)
theorem last_r : ("  # r" : Str).cps.toList.getLast? ≠ some 92 := by decide +kernel
theorem len_r : ("  # r\n" : Str).length ≤ 1000 := by decide +kernel
theorem mid_zero {B : List (List Nat)} {toks : List Tk} {due : List (Int × Int)} {n : Nat} (h : Ready B toks due n) : Mid 0 B toks due n "" := ⟨text_nil, fun _ => h, fun e => absurd rfl e⟩

set_option maxHeartbeats 4000000 in
theorem out_remark {st ra ta da pd ca : Addr} {N : Nat} {i : Nat} {imm : Led} {o : Obj} {rv : List Value} {n1 : Nat} {tv : List Value} {n2 : Nat} {dv : List Value} {n3 : Nat} {cv : List Value} {n4 : Nat}
    {rows : List Str} {B : List (List Nat)} {toks : List Tk} {due : List (Int × Int)} {clos : List Str} {tt tah tn ti tr : Tok} {ah : Int} {v11 v12 v13 v14 v15 v16 v17 v18 v19 v20 : Option Value}
    (BS : Bs w A₀ base outer hb) (hr : Rmb 3 A) (hA : A.frames = some (benv L :: outer)) (hi : i ≤ 10)
    (D2 : Draw imm o) (P : PairsAt keep prog w imm pd) (Da : Dats imm rv tv dv cv rows toks due clos) (Pu : Pu (10 * i) rows B toks due clos) (Re : Ready B toks due clos.length) (Qu : ah ≠ 1 → Quiet B toks)
    (S : St hb L (bm (some (.ref st)) (some (.ref ra)) (some (.ref ta)) (some (.ref da)) (some (.ref ca)) (some (.str "" tt)) (some (.int ah tah)) (some (.int N tn)) (some (.ref pd)) (some (.int i ti)) (some (.int ((B.length : Int) + 1) tr)) v11 v12 v13 v14 v15 v16 v17 v18 v19 v20)
      [(st, o), (ra, listOf rv.toArray n1), (ta, listOf tv.toArray n2), (da, listOf dv.toArray n3), (ca, listOf cv.toArray n4)] imm own R s) :
    wpAny (model prog w) A (execs [nth outerBody 1] (benv L)) (fun f s' => f = .next ∧ Pre keep prog w hb L own R st ra ta da pd (some (.int N tn)) (some (.int i ti)) (10 * i + 1 + 1) s') NoE s := by
  have lr := Da.r.length
  have lt := Da.t.length
  simp only [List.length_map] at lr lt
  have b1 := Pu.kr
  have b2 := Pu.kt
  have stay : ∀ o s, Draw imm o → St hb L (bm (some (.ref st)) (some (.ref ra)) (some (.ref ta)) (some (.ref da)) (some (.ref ca)) (some (.str "" tt)) (some (.int ah tah)) (some (.int N tn)) (some (.ref pd)) (some (.int i ti)) (some (.int ((B.length : Int) + 1) tr)) v11 v12 v13 v14 v15 v16 v17 v18 v19 v20)
      [(st, o), (ra, listOf rv.toArray n1), (ta, listOf tv.toArray n2), (da, listOf dv.toArray n3), (ca, listOf cv.toArray n4)] imm own R s → wpAny (model prog w) A (execs (dElse (nth outerBody 1)) (benv L)) (fun f s' => f = .next ∧ Pre keep prog w hb L own R st ra ta da pd (some (.int N tn)) (some (.int i ti)) (10 * i + 1 + 1) s') NoE s := fun o s D S =>
    x_nil ⟨rfl, _, _, _, _, _, S, o, rv, n1, tv, n2, dv, n3, ca, cv, n4, rows, B, toks, due, clos, "", tt, tr, v11, v12, v13, v14, v15, v16, v17, v18, v19, v20, rfl, rfl, D, P, Da, Pu.more (by omega), mid_zero Re⟩
  refine x_ifLast ?_
  repeat (first | walk_at "go" | walk_at "b")
  refine y_emptyNe (by assumption) mem_l4 Da.c (fun c hc => (word_close (Pu.cl c hc)).2.2) (by have := hr.u; omega) fun S => ?_
  repeat (first | walk_at "go" | walk_at "b")
  refine b_dec (fun h7 => ?_) (fun h7 => stay _ _ D2 (by assumption))
  repeat (first | walk_at "go" | walk_at "b")
  refine b_dec (fun hah => ?_) (fun h7 => stay _ _ D2 (by assumption))
  repeat (first | walk_at "go" | walk_at "b")
  refine b_dec (fun hlt => ?_) (fun h7 => stay _ _ D2 (by assumption))
  repeat (first | walk_at "go" | walk_at "b")
  refine b_next BS hr hA (by assumption) D2 (by walk_at "sub") (by decide) fun q tq o' s q0 q1 D2 S => ?_
  repeat (first | walk_at "go" | walk_at "b")
  refine b_dec (fun hq => ?_) (fun h7 => stay _ _ D2 (by assumption))
  refine isTrue_and_nil ?_
  refine ite_t ?_
  refine x_expr ?_
  repeat (first | walk_at "go" | walk_at "b")
  have R1 := quiet_remark ⟨61, "# r", (B.length : Int) + 1, 2, (B.length : Int) + 1, 5, (B.length : Int) + 1, (B.length : Int) + 1⟩ Re (Qu hah) rfl rfl rfl
  have R2 := started_token ⟨62, "\n", (B.length : Int) + 1, 5, (B.length : Int) + 1, 6, (B.length : Int) + 1, (B.length : Int) + 1⟩ (n' := clos.length) R1 rfl rfl rfl
  exact pre_mk (B := B ++ [("  # r" : Str).cps.toList]) (by assumption) (by simp) D2 P (by walk_at "sub")
    (((Da.row _ _).tok (by walk_at "sub") (.head _) (.tail _ (.tail _ (.head _))) (.tail _ (.head _))).tok (by walk_at "sub") (.head _) (.tail _ (.tail _ (.head _))) (.tail _ (.head _)))
    ((Pu.rowTok row_r len_r ⟨rfl, .inl rfl⟩).tok ⟨rfl, .inl rfl⟩)
    (mid_zero (started_quiet _ R2 (.inr last_r)).1)
end
end Mine

-- part M14
namespace Mine
open PySem PySem.W PyProof.Rows PySem.Calls
theorem r_gt {prog : Program} {w : World} {A : Around} {s : Shared} {Q : Value → Shared → Prop} {a b : Int} {t u : Tok} (h : Q (.bool (decide (a > b))) s) : wpAny (model prog w) A (compareOp .Gt (.int a t) (.int b u)) Q NoE s := gt_int h
theorem b_t {c : Prop} [Decidable c] {P P' : Prop} (hc : c) (h : P) : if decide c = true then P else P' := by rw [if_pos (decide_eq_true hc)]; exact h
theorem b_f {c : Prop} [Decidable c] {P P' : Prop} (hc : ¬ c) (h : P') : if decide c = true then P else P' := by rw [if_neg (by simp [hc])]; exact h
theorem Dats.dueOne {imm imm' : Led} {rv tv dv cv : List Value} {rows : List Str} {toks : List Tk} {due : List (Int × Int)} {clos : List Str} (h : Dats imm rv tv dv cv rows toks due clos) (hs : ∀ p ∈ imm, p ∈ imm')
    {l p : Addr} {a b : Int} {t1 t2 t3 : Tok} (hl : (l, ({ cls := .type "tuple", data := .seq #[.ref p, .str msg t3] } : Obj)) ∈ imm')
    (hp : (p, ({ cls := .type "tuple", data := .seq #[.int a t1, .int b t2] } : Obj)) ∈ imm') :
    Dats imm' rv tv (dv ++ [.ref l]) cv rows toks (due ++ [(a, b)]) clos := by
  have h' := h.mono hs
  refine ⟨h'.r, h'.t, ?_, h'.c⟩
  rw [List.map_append]
  exact h'.d.append (.one (.tuple (vs := [.ref p, .str msg t3]) hl (.cons (.tuple (vs := [.int a t1, .int b t2]) hp (.cons (.int _ _) (.cons (.int _ _) .nil))) (.cons (.str _ _) .nil))))
local macro_rules | `(tactic| walk_at "clr") => `(tactic| ((rename St _ _ _ _ _ _ _ _ => Sx); clear Sx))
local macro_rules | `(tactic| walk_at "sub") => `(tactic| first
  | exact fun _ h => h
  | exact fun _ h => .tail _ h
  | exact fun _ h => .tail _ (.tail _ h)
  | exact fun _ h => .tail _ (.tail _ (.tail _ h))
  | exact fun _ h => .tail _ (.tail _ (.tail _ (.tail _ h)))
  | exact fun _ h => .tail _ (.tail _ (.tail _ (.tail _ (.tail _ h))))
  | exact fun _ h => .tail _ (.tail _ (.tail _ (.tail _ (.tail _ (.tail _ h))))))
local macro_rules | `(tactic| walk_at "mem") => `(tactic| first
  | exact mem_l0
  | exact mem_l1
  | exact mem_l2
  | exact mem_l3
  | exact mem_l4
  | exact mem_i (by assumption)
  | exact mem_i (.head _)
  | exact mem_i (.tail _ (.head _))
  | exact mem_i (.tail _ (.tail _ (.head _)))
  | fail "mem")
local macro_rules | `(tactic| walk_at "go") => `(tactic| with_reducible first
  | (refine r_int (by assumption) ?_; walk_at "clr"; intro t s S)
  | refine y_more ?_
  | refine spliced_none ?_
  | refine r_tuple ?_
  | (refine r_newTuple (by assumption) ?_; walk_at "clr"; intro a s S)
  | refine wpAny_BinOp ?_
  | refine Subscript_ ?_
  | refine y_callN (id := "len") ?_
  | refine y_callB ?_
  | refine y_callT ?_
  | refine y_callM1 ?_
  | refine wpAny_truthy_bool ?_
  | (refine r_add (by assumption) ?_; walk_at "clr"; intro t s S)
  | refine x_assign ?_
  | refine y_isTrueCmp ?_
  | refine r_lt ?_
  | refine r_eqi ?_
  | refine r_nei ?_
  | refine r_gt ?_
  | (refine r_str (by assumption) ?_; walk_at "clr"; intro t s S)
  | (refine r_sub (by assumption) ?_; walk_at "clr"; intro t s S)
  | refine r_list ?_
  | (refine r_newList (by assumption) ?_; walk_at "clr"; intro a s S hnew)
  | refine x_return ?_
  | refine x_expr ?_
  | ((show wpAny _ _ (eval (Expr.Call (Expr.Attribute (Expr.Name _ _) _ _) _ _ _) _) _ _ _); refine y_callM ?_)
  | refine y_append (by assumption) (by walk_at "mem") ?_
  | refine isTrue_and ?_
  | refine isTrue_and_nil ?_
  | refine ite_t ?_
  | refine ite_f ?_
  | refine x_assignT ?_
  | refine IfExp_ ?_
  | refine UnaryOp_ ?_
  | (refine r_neg (by assumption) ?_; walk_at "clr"; intro t s S)
  | refine cont_next ?_
  | refine x_nil ?_)
local macro_rules | `(tactic| walk_at "b") => `(tactic| with_reducible first
  | refine b_ld_text (by assumption) rfl ?_
  | refine b_ld_row (by assumption) rfl ?_
  | refine b_ld_col (by assumption) rfl ?_
  | refine b_ld_pick (by assumption) rfl ?_
  | refine b_ld_word (by assumption) rfl ?_
  | refine b_ld_sign (by assumption) rfl ?_
  | refine b_ld_tokens (by assumption) rfl ?_
  | refine b_ld_rows (by assumption) rfl ?_
  | refine b_ld_closers (by assumption) rfl ?_
  | refine b_ld_pairs (by assumption) rfl ?_
  | refine b_ld_first (by assumption) rfl ?_
  | refine b_ld_second (by assumption) rfl ?_
  | refine b_ld_due (by assumption) rfl ?_
  | refine b_ld_ahead (by assumption) rfl ?_
  | refine b_ld_at (by assumption) rfl ?_
  | refine b_ld_many (by assumption) rfl ?_
  | refine b_ld_ending (by assumption) rfl ?_
  | refine b_ld_form (by assumption) rfl ?_
  | refine b_ld_remark (by assumption) rfl ?_
  | (refine b_st_text (by assumption) ?_; walk_at "clr"; intro s S)
  | (refine b_st_row (by assumption) ?_; walk_at "clr"; intro s S)
  | (refine b_st_col (by assumption) ?_; walk_at "clr"; intro s S)
  | (refine b_st_pick (by assumption) ?_; walk_at "clr"; intro s S)
  | (refine b_st_word (by assumption) ?_; walk_at "clr"; intro s S)
  | (refine b_st_sign (by assumption) ?_; walk_at "clr"; intro s S)
  | (refine b_st_closers (by assumption) ?_; walk_at "clr"; intro s S)
  | (refine b_st_first (by assumption) ?_; walk_at "clr"; intro s S)
  | (refine b_st_second (by assumption) ?_; walk_at "clr"; intro s S)
  | (refine b_st_ahead (by assumption) ?_; walk_at "clr"; intro s S)
  | (refine b_st_ending (by assumption) ?_; walk_at "clr"; intro s S)
  | (refine b_st_form (by assumption) ?_; walk_at "clr"; intro s S)
  | (refine b_st_remark (by assumption) ?_; walk_at "clr"; intro s S)
  | (refine y_app1 (by assumption) (by first | omega | (simp only [List.length_append, List.length_cons, List.length_nil]; omega)) ?_; walk_at "clr"; intro s S)
  | (refine y_app2 (by assumption) (by first | omega | (simp only [List.length_append, List.length_cons, List.length_nil]; omega)) ?_; walk_at "clr"; intro s S)
  | (refine y_app3 (by assumption) (by first | omega | (simp only [List.length_append, List.length_cons, List.length_nil]; omega)) ?_; walk_at "clr"; intro s S)
  | (refine y_app4 (by assumption) (by first | omega | (simp only [List.length_append, List.length_cons, List.length_nil]; omega)) ?_; walk_at "clr"; intro s S)
  | (refine r_cat (by assumption) (by first | omega | decide +kernel) (by first | omega | decide +kernel) ?_; walk_at "clr"; intro t s S)
  | (refine r_lenStr (by assumption) (by first | omega | decide +kernel) ?_; walk_at "clr"; intro t s S)
  | refine ⟨rfl, ?_⟩)

section
variable {keep : Led} {prog : Program} {w : World} {A A₀ : Around} {s : Shared} {base : Heap} {outer : List Env}
variable {hb : Heap} {L : Addr} {own : Led} {R : Rest}

def OutC (keep : Led) (prog : Program) (w : World) (st ra ta da pd : Addr) (N i : Nat) (tx : Str) (m : Str → Option Value) (led imm : Led) : Prop :=
  ∃ (o : Obj) (rv : List Value) (n1 : Nat) (tv : List Value) (n2 : Nat) (dv : List Value) (n3 : Nat) (ca : Addr) (cv : List Value) (n4 : Nat)
    (rows : List Str) (B : List (List Nat)) (toks : List Tk) (due : List (Int × Int)) (clos : List Str) (ah : Int) (tt tah tn : Tok) (v9 v10 v11 v12 v13 v14 v15 v16 v17 v18 v19 v20 : Option Value),
    m = bm (some (.ref st)) (some (.ref ra)) (some (.ref ta)) (some (.ref da)) (some (.ref ca)) (some (.str tx tt)) (some (.int ah tah)) (some (.int N tn)) (some (.ref pd)) v9 v10 v11 v12 v13 v14 v15 v16 v17 v18 v19 v20 ∧
    led = [(st, o), (ra, listOf rv.toArray n1), (ta, listOf tv.toArray n2), (da, listOf dv.toArray n3), (ca, listOf cv.toArray n4)] ∧
    Draw imm o ∧ PairsAt keep prog w imm pd ∧ Dats imm rv tv dv cv rows toks due clos ∧
    ((i < N ∧ Pu (10 * i) rows B toks due clos ∧ Ready B toks due clos.length ∧ (ah ≠ 1 → Quiet B toks)) ∨ (i = N ∧ Pu 1000 rows B toks due clos ∧ clos = [] ∧ inRows B.length toks ∧ grun g0 (tofs B toks) = due))
/-- at the end of an outer turn -/
def Post (keep : Led) (prog : Program) (w : World) (hb : Heap) (L : Addr) (own : Led) (R : Rest) (st ra ta da pd : Addr) (N i : Nat) (s : Shared) : Prop :=
  ∃ tx m led imm, St hb L m led imm own R s ∧ OutC keep prog w st ra ta da pd N i tx m led imm

theorem post_more {st ra ta da pd ca : Addr} {N i K : Nat} {imm' imm0 : Led} {s : Shared}
    {o : Obj} {rv : List Value} {n1 : Nat} {tv : List Value} {n2 : Nat} {dv : List Value} {n3 : Nat} {cv : List Value} {n4 : Nat}
    {rows : List Str} {B : List (List Nat)} {toks : List Tk} {due : List (Int × Int)} {clos : List Str} {text : Str} {tt tah tn : Tok} {ah : Int} {v9 v10 v11 v12 v13 v14 v15 v16 v17 v18 v19 v20 : Option Value}
    (S : St hb L (bm (some (.ref st)) (some (.ref ra)) (some (.ref ta)) (some (.ref da)) (some (.ref ca)) (some (.str text tt)) (some (.int ah tah)) (some (.int N tn)) (some (.ref pd)) v9 v10 v11 v12 v13 v14 v15 v16 v17 v18 v19 v20)
      [(st, o), (ra, listOf rv.toArray n1), (ta, listOf tv.toArray n2), (da, listOf dv.toArray n3), (ca, listOf cv.toArray n4)] imm' own R s)
    (D : Draw imm0 o) (P : PairsAt keep prog w imm0 pd) (hs : ∀ p ∈ imm0, p ∈ imm') (Da : Dats imm' rv tv dv cv rows toks due clos) (hi : i < N) (hK : K ≤ 10 * i) (Pu : Pu K rows B toks due clos) (Re : Ready B toks due clos.length) (Qu : ah ≠ 1 → Quiet B toks) :
    Post keep prog w hb L own R st ra ta da pd N i s :=
  ⟨_, _, _, _, S, o, rv, n1, tv, n2, dv, n3, ca, cv, n4, rows, B, toks, due, clos, ah, tt, tah, tn, v9, v10, v11, v12, v13, v14, v15, v16, v17, v18, v19, v20, rfl, rfl, D.mono hs, P.mono hs, Da, .inl ⟨hi, Pu.more hK, Re, Qu⟩⟩

def elseB : List Stmt := dElse (nth outerBody 4)
theorem bs_is : Plain (" \\" : Str).cps.toList ∧ (" \\" : Str).cps.toList ≠ [] := plain_of _ (by decide +kernel)
theorem bs_last : (" \\" : Str).cps.toList.getLast? = some 92 := by decide +kernel
theorem bs_len : (" \\" : Str).length = 2 := by decide +kernel
theorem two_len : ("  " : Str).length = 2 := by decide +kernel
theorem two_is : Plain ("  " : Str).cps.toList ∧ ("  " : Str).cps.toList ≠ [] := plain_of _ (by decide +kernel)
theorem end_len {e : Str} (h : e ∈ (["\n", "\n", "\r\n"] : List Str)) : e.length ≤ 2 := by
  simp only [List.mem_cons, List.not_mem_nil, or_false] at h
  rcases h with rfl | rfl | rfl <;> decide +kernel
theorem remark_is {x : Str} (h : x ∈ (["# c", "# c \\"] : List Str)) : (Plain x.cps.toList ∧ x.cps.toList ≠ []) ∧ x.length ≤ 5 := by
  simp only [List.mem_cons, List.not_mem_nil, or_false] at h
  rcases h with rfl | rfl
  · exact ⟨plain_of _ (by decide +kernel), by decide +kernel⟩
  · exact ⟨plain_of _ (by decide +kernel), by decide +kernel⟩

theorem ready_bs {B : List (List Nat)} {ts : List Tk} {due : List (Int × Int)} {clos : List Str} {text : Str} (hn : clos ≠ []) (R : Started B ts due clos.length false) :
    Ready (B ++ [(text ++ " \\").cps.toList]) ts (due ++ [((B.length : Int) + 1, ((text ++ " \\").length : Int) - 1)]) clos.length := by
  have h := started_end (text ++ " \\").cps.toList R
  have e : (text ++ " \\").cps.toList.getLast? = some 92 := by rw [append_toList, last_append bs_is.2]; exact bs_last
  have hn' : clos.length ≠ 0 := by simpa using hn
  rw [if_pos ⟨hn', rfl⟩] at h
  unfold bsOf at h
  rw [if_pos e, length_toList] at h
  exact h
theorem ready_bs0 {B : List (List Nat)} {ts : List Tk} {due : List (Int × Int)} {b : List Nat} {clos : List Str} (hn : clos = []) (R : Started B ts due clos.length false) : Ready (B ++ [b]) ts due clos.length := by
  have h := started_end b R
  subst hn
  simpa using h
set_option maxHeartbeats 4000000 in
theorem out_form {st ra ta da pd ca : Addr} {N i K : Nat} {imm : Led} {o : Obj} {rv : List Value} {n1 : Nat} {tv : List Value} {n2 : Nat} {dv : List Value} {n3 : Nat} {cv : List Value} {n4 : Nat}
    {rows : List Str} {B : List (List Nat)} {toks : List Tk} {due : List (Int × Int)} {clos : List Str} {text e : Str} {tt te tf tn tr : Tok} {form : Int} {v6 v9 v11 v12 v13 v14 v15 v16 v17 v20 : Option Value}
    (BS : Bs w A₀ base outer hb) (hr : Rmb 3 A) (hA : A.frames = some (benv L :: outer))
    (D2 : Draw imm o) (P : PairsAt keep prog w imm pd) (Da : Dats imm rv tv dv cv rows toks due clos) (Pu : Pu K rows B toks due clos) (hK : K + 3 ≤ 10 * (i + 1)) (hK2 : K ≤ 1000) (hi : i + 1 < N)
    (Sd : Started B toks due clos.length false) (Tx : TextOk 24 text) (ne : text.cps.toList ≠ []) (he : e ∈ (["\n", "\n", "\r\n"] : List Str)) (f0 : 0 ≤ form) (f5 : form < 5) (hfc : clos = [] → form = 2)
    (S : St hb L (bm (some (.ref st)) (some (.ref ra)) (some (.ref ta)) (some (.ref da)) (some (.ref ca)) (some (.str text tt)) v6 (some (.int N tn)) (some (.ref pd)) v9 (some (.int ((B.length : Int) + 1) tr)) v11 v12 v13 v14 v15 v16 v17 (some (.str e te)) (some (.int form tf)) v20)
      [(st, o), (ra, listOf rv.toArray n1), (ta, listOf tv.toArray n2), (da, listOf dv.toArray n3), (ca, listOf cv.toArray n4)] imm own R s) :
    wpAny (model prog w) A (execs [nth elseB 1, nth elseB 2, nth elseB 3, nth elseB 4] (benv L)) (fun f s' => f = .next ∧ Post keep prog w hb L own R st ra ta da pd N (i + 1) s') NoE s := by
  have lr := Da.r.length
  have lt := Da.t.length
  have ld := Da.d.length
  simp only [List.length_map] at lr lt ld
  have b1 := Pu.kr
  have b2 := Pu.kt
  have b3 := Pu.kd
  have l1 := Tx.le
  have l2 := end_len he
  refine x_assign ?_
  repeat (first | walk_at "go" | walk_at "b" | with_reducible refine b_len BS (by assumption) ?_)
  refine b_dec (fun hf => ?_) (fun hf => ?_)
  · have l3 : (text ++ " \\").length ≤ 30 := by rw [str_len_append, bs_len]; omega
    have l4 : (text ++ " \\" ++ e).length ≤ 1000 := by rw [str_len_append]; omega
    repeat (first | walk_at "go" | walk_at "b" | with_reducible refine b_len BS (by assumption) ?_)
    refine x_if ?_
    repeat (first | walk_at "go" | walk_at "b" | with_reducible refine b_len BS (by assumption) ?_)
    refine b_t hf ?_
    refine x_assign ?_
    repeat (first | walk_at "go" | walk_at "b" | with_reducible refine b_len BS (by assumption) ?_)
    refine x_ifLast ?_
    repeat (first | walk_at "go" | walk_at "b" | with_reducible refine b_len BS (by assumption) ?_)
    refine y_emptyNe (by assumption) mem_l4 Da.c (fun c hc => (word_close (Pu.cl c hc)).2.2) (by have := hr.u; omega) fun S => ?_
    repeat (first | walk_at "go" | walk_at "b")
    refine b_dec (fun hc => ?_) (fun hc => ?_)
    · repeat (first | walk_at "go" | walk_at "b" | with_reducible refine b_len BS (by assumption) ?_)
      refine x_if ?_
      repeat (first | walk_at "go" | walk_at "b" | with_reducible refine b_len BS (by assumption) ?_)
      refine b_f (fun h => h hf) ?_
      refine x_nil ?_
      refine cont_next ?_
      refine x_expr ?_
      repeat (first | walk_at "go" | walk_at "b" | with_reducible refine b_len BS (by assumption) ?_)
      exact post_more (B := B ++ [(text ++ " \\").cps.toList]) (by assumption) D2 P (by walk_at "sub") ((Da.dueOne (by walk_at "sub") (.head _) (.tail _ (.head _))).row _ _) hi (by omega)
        ((Pu.due _).row (rowOk_of (plain_append Tx.pl bs_is.1) (ne_append bs_is.2) he) l4) (ready_bs (by simpa using hc) Sd) (fun h => absurd rfl h)
    · refine x_nil ?_
      refine cont_next ?_
      refine x_if ?_
      repeat (first | walk_at "go" | walk_at "b" | with_reducible refine b_len BS (by assumption) ?_)
      refine b_f (fun h => h hf) ?_
      refine x_nil ?_
      refine cont_next ?_
      refine x_expr ?_
      repeat (first | walk_at "go" | walk_at "b" | with_reducible refine b_len BS (by assumption) ?_)
      exact post_more (B := B ++ [(text ++ " \\").cps.toList]) (by assumption) D2 P (by walk_at "sub") (Da.row _ _) hi (by omega)
        ((Pu.more (Nat.le_succ K)).row (rowOk_of (plain_append Tx.pl bs_is.1) (ne_append bs_is.2) he) l4) (ready_bs0 (by simpa using hc) Sd) (fun h => absurd rfl h)
  · repeat (first | walk_at "go" | walk_at "b" | with_reducible refine b_len BS (by assumption) ?_)
    refine x_if ?_
    repeat (first | walk_at "go" | walk_at "b" | with_reducible refine b_len BS (by assumption) ?_)
    refine b_f hf ?_
    refine x_ifLast ?_
    repeat (first | walk_at "go" | walk_at "b" | with_reducible refine b_len BS (by assumption) ?_)
    refine b_dec (fun hg => ?_) (fun hg => ?_)
    · refine x_assign ?_
      repeat (first | walk_at "go" | walk_at "b" | with_reducible refine b_len BS (by assumption) ?_)
      refine y_pick (by assumption) (.cons _ _ (.cons _ _ .nil)) (by omega) (by simp; omega) (by simp) fun re tw hre S => ?_
      obtain ⟨hr1, hr2⟩ := remark_is hre
      have l3 : (text ++ "  ").length ≤ 30 := by rw [str_len_append, two_len]; omega
      have l4 : (text ++ "  " ++ re).length ≤ 40 := by rw [str_len_append]; omega
      have l5 : (text ++ "  " ++ re ++ e).length ≤ 1000 := by rw [str_len_append]; omega
      repeat (first | walk_at "go" | walk_at "b" | with_reducible refine b_len BS (by assumption) ?_)
      refine x_if ?_
      repeat (first | walk_at "go" | walk_at "b" | with_reducible refine b_len BS (by assumption) ?_)
      refine b_t hf ?_
      refine x_expr ?_
      repeat (first | walk_at "go" | walk_at "b" | with_reducible refine b_len BS (by assumption) ?_)
      refine x_expr ?_
      repeat (first | walk_at "go" | walk_at "b" | with_reducible refine b_len BS (by assumption) ?_)
      have R1 := started_token ⟨61, re, (B.length : Int) + 1, (text.length : Int) + 2, (B.length : Int) + 1, (text.length : Int) + 2 + re.length, (B.length : Int) + 1, (B.length : Int) + 1⟩ (n' := clos.length) Sd rfl rfl rfl
      have R2 := started_token ⟨62, "\n", (B.length : Int) + 1, ((text ++ "  " ++ re).length : Int), (B.length : Int) + 1, ((text ++ "  " ++ re).length : Int) + 1, (B.length : Int) + 1, (B.length : Int) + 1⟩ (n' := clos.length) R1 rfl rfl rfl
      have R3 := started_quiet (text ++ "  " ++ re).cps.toList R2 (.inl rfl)
      exact post_more (B := B ++ [(text ++ "  " ++ re).cps.toList]) (by assumption) D2 P (by walk_at "sub")
        (((Da.tok (by walk_at "sub") (.head _) (.tail _ (.tail _ (.head _))) (.tail _ (.head _))).tok (by walk_at "sub") (.head _) (.tail _ (.tail _ (.head _))) (.tail _ (.head _))).row _ _) hi (by omega)
        (((Pu.tok ⟨rfl, .inl rfl⟩).tok ⟨rfl, .inl rfl⟩).row (rowOk_of (plain_append (plain_append Tx.pl two_is.1) hr1.1) (ne_append hr1.2) he) l5) R3.1 (fun _ => R3.2)
    · have l5 : (text ++ e).length ≤ 1000 := by rw [str_len_append]; omega
      refine x_nil ?_
      refine cont_next ?_
      refine x_if ?_
      repeat (first | walk_at "go" | walk_at "b" | with_reducible refine b_len BS (by assumption) ?_)
      refine b_t hf ?_
      refine x_expr ?_
      repeat (first | walk_at "go" | walk_at "b" | with_reducible refine b_len BS (by assumption) ?_)
      refine x_expr ?_
      repeat (first | walk_at "go" | walk_at "b" | with_reducible refine b_len BS (by assumption) ?_)
      have R2 := started_token ⟨62, "\n", (B.length : Int) + 1, (text.length : Int), (B.length : Int) + 1, (text.length : Int) + 1, (B.length : Int) + 1, (B.length : Int) + 1⟩ (n' := clos.length) Sd rfl rfl rfl
      have R3 := started_quiet text.cps.toList R2 (.inr Tx.la)
      exact post_more (B := B ++ [text.cps.toList]) (by assumption) D2 P (by walk_at "sub")
        ((Da.tok (by walk_at "sub") (.head _) (.tail _ (.tail _ (.head _))) (.tail _ (.head _))).row _ _) hi (by omega)
        ((Pu.tok ⟨rfl, .inl rfl⟩).row (rowOk_of Tx.pl ne he) l5) R3.1 (fun _ => R3.2)
end
end Mine

-- part M15
namespace Mine
open PySem PySem.W PyProof.Rows PySem.Calls
local macro_rules | `(tactic| walk_at "clr") => `(tactic| ((rename St _ _ _ _ _ _ _ _ => Sx); clear Sx))
local macro_rules | `(tactic| walk_at "sub") => `(tactic| first
  | exact fun _ h => h
  | exact fun _ h => .tail _ h
  | exact fun _ h => .tail _ (.tail _ h)
  | exact fun _ h => .tail _ (.tail _ (.tail _ h))
  | exact fun _ h => .tail _ (.tail _ (.tail _ (.tail _ h)))
  | exact fun _ h => .tail _ (.tail _ (.tail _ (.tail _ (.tail _ h))))
  | exact fun _ h => .tail _ (.tail _ (.tail _ (.tail _ (.tail _ (.tail _ h))))))
local macro_rules | `(tactic| walk_at "mem") => `(tactic| first
  | exact mem_l0
  | exact mem_l1
  | exact mem_l2
  | exact mem_l3
  | exact mem_l4
  | exact mem_i (by assumption)
  | exact mem_i (.head _)
  | exact mem_i (.tail _ (.head _))
  | exact mem_i (.tail _ (.tail _ (.head _)))
  | fail "mem")
local macro_rules | `(tactic| walk_at "go") => `(tactic| with_reducible first
  | (refine r_int (by assumption) ?_; walk_at "clr"; intro t s S)
  | refine y_more ?_
  | refine spliced_none ?_
  | refine r_tuple ?_
  | (refine r_newTuple (by assumption) ?_; walk_at "clr"; intro a s S)
  | refine wpAny_BinOp ?_
  | refine Subscript_ ?_
  | refine y_callN (id := "len") ?_
  | refine y_callB ?_
  | refine y_callT ?_
  | refine y_callM1 ?_
  | refine wpAny_truthy_bool ?_
  | (refine r_add (by assumption) ?_; walk_at "clr"; intro t s S)
  | refine x_assign ?_
  | refine y_isTrueCmp ?_
  | refine r_lt ?_
  | refine r_eqi ?_
  | refine r_nei ?_
  | refine r_gt ?_
  | (refine r_str (by assumption) ?_; walk_at "clr"; intro t s S)
  | (refine r_sub (by assumption) ?_; walk_at "clr"; intro t s S)
  | refine r_list ?_
  | (refine r_newList (by assumption) ?_; walk_at "clr"; intro a s S hnew)
  | refine x_return ?_
  | refine x_expr ?_
  | ((show wpAny _ _ (eval (Expr.Call (Expr.Attribute (Expr.Name _ _) _ _) _ _ _) _) _ _ _); refine y_callM ?_)
  | refine y_append (by assumption) (by walk_at "mem") ?_
  | refine isTrue_and ?_
  | refine isTrue_and_nil ?_
  | refine ite_t ?_
  | refine ite_f ?_
  | refine x_assignT ?_
  | refine IfExp_ ?_
  | refine UnaryOp_ ?_
  | (refine r_neg (by assumption) ?_; walk_at "clr"; intro t s S)
  | refine cont_next ?_
  | refine x_nil ?_)
local macro_rules | `(tactic| walk_at "b") => `(tactic| with_reducible first
  | refine b_ld_text (by assumption) rfl ?_
  | refine b_ld_row (by assumption) rfl ?_
  | refine b_ld_col (by assumption) rfl ?_
  | refine b_ld_pick (by assumption) rfl ?_
  | refine b_ld_word (by assumption) rfl ?_
  | refine b_ld_sign (by assumption) rfl ?_
  | refine b_ld_tokens (by assumption) rfl ?_
  | refine b_ld_rows (by assumption) rfl ?_
  | refine b_ld_closers (by assumption) rfl ?_
  | refine b_ld_pairs (by assumption) rfl ?_
  | refine b_ld_first (by assumption) rfl ?_
  | refine b_ld_second (by assumption) rfl ?_
  | refine b_ld_due (by assumption) rfl ?_
  | refine b_ld_ahead (by assumption) rfl ?_
  | refine b_ld_at (by assumption) rfl ?_
  | refine b_ld_many (by assumption) rfl ?_
  | refine b_ld_ending (by assumption) rfl ?_
  | refine b_ld_form (by assumption) rfl ?_
  | refine b_ld_remark (by assumption) rfl ?_
  | (refine b_st_text (by assumption) ?_; walk_at "clr"; intro s S)
  | (refine b_st_row (by assumption) ?_; walk_at "clr"; intro s S)
  | (refine b_st_col (by assumption) ?_; walk_at "clr"; intro s S)
  | (refine b_st_pick (by assumption) ?_; walk_at "clr"; intro s S)
  | (refine b_st_word (by assumption) ?_; walk_at "clr"; intro s S)
  | (refine b_st_sign (by assumption) ?_; walk_at "clr"; intro s S)
  | (refine b_st_closers (by assumption) ?_; walk_at "clr"; intro s S)
  | (refine b_st_first (by assumption) ?_; walk_at "clr"; intro s S)
  | (refine b_st_second (by assumption) ?_; walk_at "clr"; intro s S)
  | (refine b_st_ahead (by assumption) ?_; walk_at "clr"; intro s S)
  | (refine b_st_ending (by assumption) ?_; walk_at "clr"; intro s S)
  | (refine b_st_form (by assumption) ?_; walk_at "clr"; intro s S)
  | (refine b_st_remark (by assumption) ?_; walk_at "clr"; intro s S)
  | (refine y_app1 (by assumption) (by first | omega | (simp only [List.length_append, List.length_cons, List.length_nil]; omega)) ?_; walk_at "clr"; intro s S)
  | (refine y_app2 (by assumption) (by first | omega | (simp only [List.length_append, List.length_cons, List.length_nil]; omega)) ?_; walk_at "clr"; intro s S)
  | (refine y_app3 (by assumption) (by first | omega | (simp only [List.length_append, List.length_cons, List.length_nil]; omega)) ?_; walk_at "clr"; intro s S)
  | (refine y_app4 (by assumption) (by first | omega | (simp only [List.length_append, List.length_cons, List.length_nil]; omega)) ?_; walk_at "clr"; intro s S)
  | (refine r_cat (by assumption) (by first | omega | decide +kernel) (by first | omega | decide +kernel) ?_; walk_at "clr"; intro t s S)
  | (refine r_lenStr (by assumption) (by first | omega | decide +kernel) ?_; walk_at "clr"; intro t s S)
  | refine ⟨rfl, ?_⟩)

section
variable {keep : Led} {prog : Program} {w : World} {A A₀ : Around} {s : Shared} {base : Heap} {outer : List Env}
variable {hb : Heap} {L : Addr} {m : Str → Option Value} {led imm own : Led} {R : Rest}

theorem St.toImm {l1 : Led} {e : Addr × Obj} (S : St hb L m (l1 ++ [e]) imm own R s) : St hb L m l1 (e :: imm) own R s := by
  have nd := S.nd
  rw [List.map_append, List.nodup_append] at nd
  refine ⟨S.F, fun p hp => S.N p ?_, nd.1, ?_, ?_, S.r⟩
  · simp only [List.mem_append, List.mem_cons, List.not_mem_nil, or_false] at hp ⊢
    rcases hp with h | (h | h) | h <;> simp [h]
  · intro p hp b hb'
    have hp' : p = e ∨ p ∈ imm ++ own := by simpa using hp
    rcases hp' with rfl | hp'
    · exact fun h => nd.2.2 b hb' p.1 (by simp) h.symm
    · exact S.off p hp' b (by simp only [List.map_append, List.mem_append]; exact .inl hb')
  · intro p hp q hq
    rcases List.mem_cons.mp hq with rfl | hq
    · exact S.off p (by simp [hp]) q.1 (by simp)
    · exact S.sep p hp q hq
theorem St.toLed {l1 : Led} {e : Addr × Obj} (S : St hb L m l1 (e :: imm) own R s) (hn : ∀ q ∈ imm, e.1 ≠ q.1) : St hb L m (l1 ++ [e]) imm own R s := by
  refine ⟨S.F, fun p hp => S.N p ?_, ?_, ?_, fun p hp q hq => S.sep p hp q (.tail _ hq), S.r⟩
  · simp only [List.mem_append, List.mem_cons, List.not_mem_nil, or_false] at hp ⊢
    rcases hp with (h | h) | h | h <;> simp [h]
  · rw [List.map_append, List.nodup_append]
    refine ⟨S.nd, by simp, fun a ha b hb' => ?_⟩
    have : b = e.1 := by simpa using hb'
    subst this
    exact fun h => S.off e (by simp) a ha h.symm
  · intro p hp b hb'
    rw [List.map_append] at hb'
    rcases List.mem_append.mp hb' with hb' | hb'
    · exact S.off p (by simp only [List.mem_append, List.mem_cons] at hp ⊢; rcases hp with h | h <;> simp [h]) b hb'
    · have : b = e.1 := by simpa using hb'
      subst this
      rcases List.mem_append.mp hp with h | h
      · exact fun h' => hn p h h'.symm
      · exact S.sep p h e (.head _)

theorem post_last {st ra ta da pd ca : Addr} {N i : Nat} {imm' imm0 : Led} {s : Shared}
    {o : Obj} {rv : List Value} {n1 : Nat} {tv : List Value} {n2 : Nat} {dv : List Value} {n3 : Nat} {cv : List Value} {n4 : Nat}
    {rows : List Str} {B : List (List Nat)} {toks : List Tk} {due : List (Int × Int)} {text : Str} {tt tah tn : Tok} {ah : Int} {v9 v10 v11 v12 v13 v14 v15 v16 v17 v18 v19 v20 : Option Value}
    (S : St hb L (bm (some (.ref st)) (some (.ref ra)) (some (.ref ta)) (some (.ref da)) (some (.ref ca)) (some (.str text tt)) (some (.int ah tah)) (some (.int N tn)) (some (.ref pd)) v9 v10 v11 v12 v13 v14 v15 v16 v17 v18 v19 v20)
      [(st, o), (ra, listOf rv.toArray n1), (ta, listOf tv.toArray n2), (da, listOf dv.toArray n3), (ca, listOf cv.toArray n4)] imm' own R s)
    (D : Draw imm0 o) (P : PairsAt keep prog w imm0 pd) (hs : ∀ p ∈ imm0, p ∈ imm') (Da : Dats imm' rv tv dv cv rows toks due []) (hi : i = N) (Pu : Pu 1000 rows B toks due []) (Re : inRows B.length toks ∧ grun g0 (tofs B toks) = due) :
    Post keep prog w hb L own R st ra ta da pd N i s :=
  ⟨_, _, _, _, S, o, rv, n1, tv, n2, dv, n3, ca, cv, n4, rows, B, toks, due, [], ah, tt, tah, tn, v9, v10, v11, v12, v13, v14, v15, v16, v17, v18, v19, v20, rfl, rfl, D.mono hs, P.mono hs, Da, .inr ⟨hi, Pu, rfl, Re⟩⟩

def lastB : List Stmt := dBody (nth outerBody 4)
def lastFor : Stmt := nth lastB 0
def lastBody : List Stmt := dBody lastFor

def RevInv (keep : Led) (prog : Program) (w : World) (st ra ta da pd ca : Addr) (o : Obj) (rv : List Value) (n1 : Nat) (dv : List Value) (n3 : Nat) (cv : List Value) (n4 : Nat) (rows : List Str) (B : List (List Nat)) (due : List (Int × Int)) (clos : List Str) (K : Nat)
    (v6 v7 v9 : Option Value) (tr : Tok) (v11 v12 v13 v14 v16 v17 v18 v19 v20 : Option Value) (k : Nat) (m : Str → Option Value) (led imm : Led) : Prop :=
  ∃ (tv : List Value) (n2 : Nat) (toks : List Tk) (text : Str) (tt : Tok) (v15 : Option Value),
    m = bm (some (.ref st)) (some (.ref ra)) (some (.ref ta)) (some (.ref da)) (some (.ref ca)) (some (.str text tt)) v6 v7 (some (.ref pd)) v9 (some (.int ((B.length : Int) + 1) tr)) v11 v12 v13 v14 v15 v16 v17 v18 v19 v20 ∧
    led = [(st, o), (ra, listOf rv.toArray n1), (ta, listOf tv.toArray n2), (da, listOf dv.toArray n3)] ∧ Draw imm o ∧ PairsAt keep prog w imm pd ∧ Dats imm rv tv dv cv rows toks due clos ∧
    Pu (K + k) rows B toks due clos ∧ Started B toks due (clos.length - k) false ∧ Plain text.cps.toList ∧ text.cps.toList ≠ [] ∧ text.length ≤ 24 + 4 * k

set_option maxHeartbeats 4000000 in
theorem rev_turn {st ra ta da pd ca : Addr} {o : Obj} {rv : List Value} {n1 : Nat} {dv : List Value} {n3 : Nat} {cv : List Value} {n4 : Nat} {rows : List Str} {B : List (List Nat)} {due : List (Int × Int)} {clos : List Str} {K : Nat}
    {v6 v7 v9 : Option Value} {tr : Tok} {v11 v12 v13 v14 v16 v17 v18 v19 v20 : Option Value} {k : Nat} {v : Value}
    (BS : Bs w A₀ base outer hb) (hK : K ≤ 200) (hc : clos.length ≤ K) (hv : cv[cv.length - 1 - k]? = some v) (hk : k < cv.length)
    (I : RevInv keep prog w st ra ta da pd ca o rv n1 dv n3 cv n4 rows B due clos K v6 v7 v9 tr v11 v12 v13 v14 v16 v17 v18 v19 v20 k m led imm)
    (S : St hb L (fun y => if y = ("sign" : Str) then some v else m y) led imm own R s) (hm : (ca, listOf cv.toArray n4) ∈ imm) :
    wpAny (model prog w) A (execs lastBody (benv L)) (fun f s' => f = .next ∧ ∃ m' led' imm', St hb L m' led' imm' own R s' ∧ (ca, listOf cv.toArray n4) ∈ imm' ∧
      RevInv keep prog w st ra ta da pd ca o rv n1 dv n3 cv n4 rows B due clos K v6 v7 v9 tr v11 v12 v13 v14 v16 v17 v18 v19 v20 (k + 1) m' led' imm') NoE s := by
  obtain ⟨tv, n2, toks, text, tt, v15, rfl, rfl, D, P, Da, Pu, Sd, pl, ne, le⟩ := I
  rw [bs_sign] at S
  have lt := Da.t.length
  have lc := Da.c.length
  simp only [List.length_map] at lt lc
  have b2 := Pu.kt
  have b4 := Pu.kc
  obtain ⟨x, u, hx, hmem⟩ := strs_get (dat_strs Da.c) (k := cv.length - 1 - k) (by omega)
  rw [hv] at hx
  cases hx
  obtain ⟨W, hdel, _⟩ := word_close (Pu.cl x hmem)
  have l3 := W.le
  show wpAny (model prog w) A (execs [nth lastBody 0, nth lastBody 1] (benv L)) _ _ _
  refine x_expr ?_
  repeat (first | walk_at "go" | walk_at "b" | with_reducible refine b_len BS (by assumption) ?_)
  refine x_assign ?_
  repeat (first | walk_at "go" | walk_at "b" | with_reducible refine b_len BS (by assumption) ?_)
  have R2 := started_token ⟨54, x, (B.length : Int) + 1, (text.length : Int), (B.length : Int) + 1, (text.length : Int) + 1, (B.length : Int) + 1, (B.length : Int) + 1⟩ (n' := clos.length - (k + 1)) Sd rfl rfl (by
    rw [if_pos rfl]
    show ((clos.length - (k + 1) : Nat) : Int) = ((clos.length - k : Nat) : Int) + delta x
    rw [hdel]
    omega)
  exact ⟨_, _, _, (by assumption), .tail _ (.tail _ (.tail _ hm)), _, _, _, _, _, _, rfl, rfl, D.mono (by walk_at "sub"), P.mono (by walk_at "sub"),
    Da.tok (by walk_at "sub") (.head _) (.tail _ (.tail _ (.head _))) (.tail _ (.head _)), Pu.tok ⟨rfl, .inl rfl⟩, R2, plain_append pl W.pl, ne_append W.ne, by rw [str_len_append]; omega⟩

set_option maxHeartbeats 4000000 in
theorem out_last {st ra ta da pd ca : Addr} {N i K : Nat} {imm : Led} {o : Obj} {rv : List Value} {n1 : Nat} {tv : List Value} {n2 : Nat} {dv : List Value} {n3 : Nat} {cv : List Value} {n4 : Nat}
    {rows : List Str} {B : List (List Nat)} {toks : List Tk} {due : List (Int × Int)} {clos : List Str} {text e : Str} {ah : Int} {tt te tn tr tah : Tok} {v9 v11 v12 v13 v14 v15 v16 v17 v19 v20 : Option Value}
    (BS : Bs w A₀ base outer hb) (hr : Rmb 3 A) (hA : A.frames = some (benv L :: outer))
    (D2 : Draw imm o) (P : PairsAt keep prog w imm pd) (Da : Dats imm rv tv dv cv rows toks due clos) (Pu : Pu K rows B toks due clos) (hK2 : K ≤ 200) (hi : i = N)
    (Sd : Started B toks due clos.length false) (Tx : TextOk 24 text) (ne : text.cps.toList ≠ []) (he : e ∈ (["\n", "\n", "\r\n"] : List Str))
    (S : St hb L (bm (some (.ref st)) (some (.ref ra)) (some (.ref ta)) (some (.ref da)) (some (.ref ca)) (some (.str text tt)) (some (.int ah tah)) (some (.int N tn)) (some (.ref pd)) v9 (some (.int ((B.length : Int) + 1) tr)) v11 v12 v13 v14 v15 v16 v17 (some (.str e te)) v19 v20)
      [(st, o), (ra, listOf rv.toArray n1), (ta, listOf tv.toArray n2), (da, listOf dv.toArray n3), (ca, listOf cv.toArray n4)] imm own R s) :
    wpAny (model prog w) A (execs lastB (benv L)) (fun f s' => f = .next ∧ Post keep prog w hb L own R st ra ta da pd N i s') NoE s := by
  have l2 := end_len he
  have b0 := Pu.kc
  have lc := Da.c.length
  simp only [List.length_map] at lc
  replace S := St.toImm (l1 := [(st, o), (ra, listOf rv.toArray n1), (ta, listOf tv.toArray n2), (da, listOf dv.toArray n3)]) S
  show wpAny (model prog w) A (execs [lastFor, nth lastB 1, nth lastB 2, nth lastB 3] (benv L)) _ _ _
  refine x_for S bk_sign (by rfl) ?_
  refine y_callN (b_reversed BS S ?_)
  refine y_callT ?_
  repeat (first | walk_at "go" | walk_at "b" | with_reducible refine b_len BS (by assumption) ?_)
  refine r_reversed S (mem_i (.head _)) (fun D s S hD ho hbD hL => ?_)
  refine loop_rev (RevInv keep prog w st ra ta da pd ca o rv n1 dv n3 cv n4 rows B due clos K (some (.int ah tah)) (some (.int N tn)) v9 tr v11 v12 v13 v14 v16 v17 (some (.str e te)) v19 v20) hr.h S (.head _) hD ho hbD hL ?_ ?_ ?_
  · exact ⟨tv, n2, toks, text, tt, v15, rfl, rfl, D2.mono (by walk_at "sub"), P.mono (by walk_at "sub"), Da.mono (by walk_at "sub"), Pu, Sd, Tx.pl, ne, Tx.le⟩
  · intro k v m led imm own' s hv hk I S hm
    exact rev_turn BS hK2 b0 hv hk I S hm
  · rintro m led imm s ⟨tv, n2, toks, text, tt, v15, rfl, rfl, D2, P, Da, Pu, Sd, pl, ne, le⟩ S
    have lr := Da.r.length
    have lt := Da.t.length
    simp only [List.length_map] at lr lt
    have b1 := Pu.kr
    have b2 := Pu.kt
    have b4 := Pu.kc
    have l5 : (text ++ e).length ≤ 1000 := by rw [str_len_append]; omega
    refine cont_next ?_
    refine x_assign ?_
    refine r_list (spliced_none ?_)
    refine r_newList S fun a s S hnew => ?_
    replace S : St hb L _ [(st, o), (ra, listOf rv.toArray n1), (ta, listOf tv.toArray n2), (da, listOf dv.toArray n3), (a, listOf ([] : List Value).toArray 0)] imm own R s := S.toLed hnew
    repeat (first | walk_at "go" | walk_at "b" | with_reducible refine b_len BS (by assumption) ?_)
    refine x_expr ?_
    repeat (first | walk_at "go" | walk_at "b" | with_reducible refine b_len BS (by assumption) ?_)
    refine x_expr ?_
    repeat (first | walk_at "go" | walk_at "b" | with_reducible refine b_len BS (by assumption) ?_)
    have e0 : clos.length - cv.length = 0 := by omega
    rw [e0] at Sd
    have R2 := started_token ⟨4, "\n", (B.length : Int) + 1, (text.length : Int), (B.length : Int) + 1, (text.length : Int) + 1, (B.length : Int) + 1, (B.length : Int) + 1⟩ (n' := 0) Sd rfl rfl rfl
    have Da' : Dats imm rv tv dv [] rows toks due [] := ⟨Da.r, Da.t, Da.d, .nil⟩
    exact post_last (B := B ++ [text.cps.toList]) (by assumption) D2 P (by walk_at "sub")
      ((Da'.tok (by walk_at "sub") (.head _) (.tail _ (.tail _ (.head _))) (.tail _ (.head _))).row _ _) hi
      ((((Pu.clos (K' := K + cv.length) (clos' := []) (fun c hc => nomatch hc) (Nat.zero_le _) (Nat.le_refl _)).tok ⟨rfl, .inl rfl⟩).row (rowOk_of pl ne he) l5).more (by omega)) (started_last _ R2)
end
end Mine

-- part M16
namespace Mine
open PySem PySem.W PyProof.Rows PySem.Calls
local macro_rules | `(tactic| walk_at "clr") => `(tactic| ((rename St _ _ _ _ _ _ _ _ => Sx); clear Sx))
local macro_rules | `(tactic| walk_at "sub") => `(tactic| first
  | exact fun _ h => h
  | exact fun _ h => .tail _ h
  | exact fun _ h => .tail _ (.tail _ h)
  | exact fun _ h => .tail _ (.tail _ (.tail _ h))
  | exact fun _ h => .tail _ (.tail _ (.tail _ (.tail _ h)))
  | exact fun _ h => .tail _ (.tail _ (.tail _ (.tail _ (.tail _ h))))
  | exact fun _ h => .tail _ (.tail _ (.tail _ (.tail _ (.tail _ (.tail _ h))))))
local macro_rules | `(tactic| walk_at "mem") => `(tactic| first
  | exact mem_l0
  | exact mem_l1
  | exact mem_l2
  | exact mem_l3
  | exact mem_l4
  | exact mem_i (by assumption)
  | exact mem_i (.head _)
  | exact mem_i (.tail _ (.head _))
  | exact mem_i (.tail _ (.tail _ (.head _)))
  | fail "mem")
local macro_rules | `(tactic| walk_at "go") => `(tactic| with_reducible first
  | (refine r_int (by assumption) ?_; walk_at "clr"; intro t s S)
  | refine y_more ?_
  | refine spliced_none ?_
  | refine r_tuple ?_
  | (refine r_newTuple (by assumption) ?_; walk_at "clr"; intro a s S)
  | refine wpAny_BinOp ?_
  | refine Subscript_ ?_
  | refine y_callN (id := "len") ?_
  | refine y_callB ?_
  | refine y_callT ?_
  | refine y_callM1 ?_
  | refine wpAny_truthy_bool ?_
  | (refine r_add (by assumption) ?_; walk_at "clr"; intro t s S)
  | refine x_assign ?_
  | refine y_isTrueCmp ?_
  | refine r_lt ?_
  | refine r_eqi ?_
  | refine r_nei ?_
  | refine r_gt ?_
  | (refine r_str (by assumption) ?_; walk_at "clr"; intro t s S)
  | (refine r_sub (by assumption) ?_; walk_at "clr"; intro t s S)
  | refine r_list ?_
  | (refine r_newList (by assumption) ?_; walk_at "clr"; intro a s S hnew)
  | refine x_return ?_
  | refine x_expr ?_
  | ((show wpAny _ _ (eval (Expr.Call (Expr.Attribute (Expr.Name _ _) _ _) _ _ _) _) _ _ _); refine y_callM ?_)
  | refine y_append (by assumption) (by walk_at "mem") ?_
  | refine isTrue_and ?_
  | refine isTrue_and_nil ?_
  | refine ite_t ?_
  | refine ite_f ?_
  | refine x_assignT ?_
  | refine IfExp_ ?_
  | refine UnaryOp_ ?_
  | (refine r_neg (by assumption) ?_; walk_at "clr"; intro t s S)
  | refine cont_next ?_
  | refine x_nil ?_)
local macro_rules | `(tactic| walk_at "b") => `(tactic| with_reducible first
  | refine b_ld_text (by assumption) rfl ?_
  | refine b_ld_row (by assumption) rfl ?_
  | refine b_ld_col (by assumption) rfl ?_
  | refine b_ld_pick (by assumption) rfl ?_
  | refine b_ld_word (by assumption) rfl ?_
  | refine b_ld_sign (by assumption) rfl ?_
  | refine b_ld_tokens (by assumption) rfl ?_
  | refine b_ld_rows (by assumption) rfl ?_
  | refine b_ld_closers (by assumption) rfl ?_
  | refine b_ld_pairs (by assumption) rfl ?_
  | refine b_ld_first (by assumption) rfl ?_
  | refine b_ld_second (by assumption) rfl ?_
  | refine b_ld_due (by assumption) rfl ?_
  | refine b_ld_ahead (by assumption) rfl ?_
  | refine b_ld_at (by assumption) rfl ?_
  | refine b_ld_many (by assumption) rfl ?_
  | refine b_ld_ending (by assumption) rfl ?_
  | refine b_ld_form (by assumption) rfl ?_
  | refine b_ld_remark (by assumption) rfl ?_
  | (refine b_st_text (by assumption) ?_; walk_at "clr"; intro s S)
  | (refine b_st_row (by assumption) ?_; walk_at "clr"; intro s S)
  | (refine b_st_col (by assumption) ?_; walk_at "clr"; intro s S)
  | (refine b_st_pick (by assumption) ?_; walk_at "clr"; intro s S)
  | (refine b_st_word (by assumption) ?_; walk_at "clr"; intro s S)
  | (refine b_st_sign (by assumption) ?_; walk_at "clr"; intro s S)
  | (refine b_st_closers (by assumption) ?_; walk_at "clr"; intro s S)
  | (refine b_st_first (by assumption) ?_; walk_at "clr"; intro s S)
  | (refine b_st_second (by assumption) ?_; walk_at "clr"; intro s S)
  | (refine b_st_ahead (by assumption) ?_; walk_at "clr"; intro s S)
  | (refine b_st_ending (by assumption) ?_; walk_at "clr"; intro s S)
  | (refine b_st_form (by assumption) ?_; walk_at "clr"; intro s S)
  | (refine b_st_remark (by assumption) ?_; walk_at "clr"; intro s S)
  | (refine y_app1 (by assumption) (by first | omega | (simp only [List.length_append, List.length_cons, List.length_nil]; omega)) ?_; walk_at "clr"; intro s S)
  | (refine y_app2 (by assumption) (by first | omega | (simp only [List.length_append, List.length_cons, List.length_nil]; omega)) ?_; walk_at "clr"; intro s S)
  | (refine y_app3 (by assumption) (by first | omega | (simp only [List.length_append, List.length_cons, List.length_nil]; omega)) ?_; walk_at "clr"; intro s S)
  | (refine y_app4 (by assumption) (by first | omega | (simp only [List.length_append, List.length_cons, List.length_nil]; omega)) ?_; walk_at "clr"; intro s S)
  | (refine r_cat (by assumption) (by first | omega | decide +kernel) (by first | omega | decide +kernel) ?_; walk_at "clr"; intro t s S)
  | (refine r_lenStr (by assumption) (by first | omega | decide +kernel) ?_; walk_at "clr"; intro t s S)
  | refine ⟨rfl, ?_⟩)

section
variable {keep : Led} {prog : Program} {w : World} {A A₀ : Around} {s : Shared} {base : Heap} {outer : List Env}
variable {hb : Heap} {L : Addr} {m : Str → Option Value} {led imm own : Led} {R : Rest}

set_option maxHeartbeats 4000000 in
theorem out_if {st ra ta da pd ca : Addr} {N i j : Nat} {imm : Led} {o : Obj} {rv : List Value} {n1 : Nat} {tv : List Value} {n2 : Nat} {dv : List Value} {n3 : Nat} {cv : List Value} {n4 : Nat}
    {rows : List Str} {B : List (List Nat)} {toks : List Tk} {due : List (Int × Int)} {clos : List Str} {text e : Str} {ah : Int} {tt te tn tr tah ti : Tok} {v11 v12 v13 v14 v15 v16 v17 v19 v20 : Option Value}
    (BS : Bs w A₀ base outer hb) (hr : Rmb 3 A) (hA : A.frames = some (benv L :: outer))
    (D2 : Draw imm o) (P : PairsAt keep prog w imm pd) (Da : Dats imm rv tv dv cv rows toks due clos) (Pu : Pu (10 * i + 1 + 1 + j) rows B toks due clos) (h1 : 1 ≤ j) (h3 : j ≤ 3) (hi : i < N) (hN : N ≤ 10) (Mi : Mid j B toks due clos.length text)
    (he : e ∈ (["\n", "\n", "\r\n"] : List Str))
    (S : St hb L (bm (some (.ref st)) (some (.ref ra)) (some (.ref ta)) (some (.ref da)) (some (.ref ca)) (some (.str text tt)) (some (.int ah tah)) (some (.int N tn)) (some (.ref pd)) (some (.int i ti)) (some (.int ((B.length : Int) + 1) tr)) v11 v12 v13 v14 v15 v16 v17 (some (.str e te)) v19 v20)
      [(st, o), (ra, listOf rv.toArray n1), (ta, listOf tv.toArray n2), (da, listOf dv.toArray n3), (ca, listOf cv.toArray n4)] imm own R s) :
    wpAny (model prog w) A (execs [nth outerBody 4] (benv L)) (fun f s' => f = .next ∧ Post keep prog w hb L own R st ra ta da pd N (i + 1) s') NoE s := by
  obtain ⟨Sd, ne⟩ := Mi.atS (by omega)
  have Tx : TextOk 24 text := Mi.tx.more (by omega)
  refine x_ifLast ?_
  repeat (first | walk_at "go" | walk_at "b" | with_reducible refine b_len BS (by assumption) ?_)
  refine b_dec (fun hl => ?_) (fun hl => ?_)
  · exact out_last BS hr hA D2 P Da Pu (by omega) (by omega) Sd Tx ne he (by assumption)
  · show wpAny (model prog w) A (execs [nth elseB 0, nth elseB 1, nth elseB 2, nth elseB 3, nth elseB 4] (benv L)) _ _ _
    have hi2 : i + 1 < N := by omega
    refine x_assign ?_
    repeat (first | walk_at "go" | walk_at "b" | with_reducible refine b_len BS (by assumption) ?_)
    refine y_emptyEq (by assumption) mem_l4 Da.c (fun c hc => (word_close (Pu.cl c hc)).2.2) (by have := hr.u; omega) fun S => ?_
    repeat (first | walk_at "go" | walk_at "b" | with_reducible refine b_len BS (by assumption) ?_)
    refine b_dec (fun hc => ?_) (fun hc => ?_)
    · repeat (first | walk_at "go" | walk_at "b" | with_reducible refine b_len BS (by assumption) ?_)
      exact out_form BS hr hA D2 P Da Pu (by omega) (by omega) hi2 Sd Tx ne he (by decide) (by decide) (fun _ => rfl) (by assumption)
    · refine b_next BS hr hA S D2 (by walk_at "sub") (by decide) fun form tq o' s f0 f5 D2 S => ?_
      clear ‹St hb L _ [(st, o), _, _, _, _] _ _ _ _›
      walk_at "b"
      exact out_form BS hr hA D2 P Da Pu (by omega) (by omega) hi2 Sd Tx ne he f0 f5 (fun h => absurd h hc) (by assumption)

set_option maxHeartbeats 4000000 in
theorem out_turn {st ra ta da pd : Addr} {N i : Nat} {ti : Tok}
    (BS : Bs w A₀ base outer hb) (hr : Rmb 3 A) (hA : A.frames = some (benv L :: outer)) (hi : i < N) (hN : N ≤ 10)
    (I : OutC keep prog w st ra ta da pd N i "" m led imm) (S : St hb L (fun y => if y = ("at" : Str) then some (.int i ti) else m y) led imm own R s) :
    wpAny (model prog w) A (execs outerBody (benv L)) (fun f s' => f = .next ∧ ∃ m' led' imm', St hb L m' led' imm' own R s' ∧ OutC keep prog w st ra ta da pd N (i + 1) "" m' led' imm') NoE s := by
  obtain ⟨o, rv, n1, tv, n2, dv, n3, ca, cv, n4, rows, B, toks, due, clos, ah, tt, tah, tn, v9, v10, v11, v12, v13, v14, v15, v16, v17, v18, v19, v20, rfl, rfl, D2, P, Da, hc⟩ := I
  rcases hc with ⟨_, Pu, Re, Qu⟩ | ⟨h, _⟩
  · rw [bs_at] at S
    have lr := Da.r.length
    simp only [List.length_map] at lr
    have b1 := Pu.kr
    have e0 : ((rv.toArray.size : Nat) : Int) = (B.length : Int) := by rw [List.size_toArray, lr, Pu.rb.1]
    show wpAny (model prog w) A (execs [nth outerBody 0, nth outerBody 1, innerFor, nth outerBody 3, nth outerBody 4, nth outerBody 5] (benv L)) _ _ _
    refine x_assign ?_
    repeat (first | walk_at "go" | walk_at "b" | with_reducible refine b_len BS (by assumption) ?_)
    refine r_lenList S (by walk_at "mem") (by simp only [List.size_toArray]; omega) ?_
    rw [e0]
    clear S
    intro t s S
    repeat (first | walk_at "go" | walk_at "b" | with_reducible refine b_len BS (by assumption) ?_)
    refine x_cut _ (out_remark BS hr hA (by omega) D2 P Da Pu Re Qu (by assumption)) ?_
    clear Pu b1 lr e0 Da D2 P Re Qu
    rintro s ⟨ah, tah, m, led, imm, S, o, rv, n1, tv, n2, dv, n3, ca, cv, n4, rows, B, toks, due, clos, text, tt, tr, v11, v12, v13, v14, v15, v16, v17, v18, v19, v20, rfl, rfl, D2, P, Da, Pu, Mi⟩
    refine x_for S bk__ (by rfl) ?_
    refine y_callN (b_range BS S ?_)
    refine y_callT ?_
    refine y_more ?_
    refine wpAny_BinOp ?_
    refine r_int S fun t1 s S => ?_
    refine b_next BS hr hA S D2 (by walk_at "sub") (by decide) fun q tq o' s q0 q3 D2 S => ?_
    refine r_add S fun t s S => ?_
    refine spliced_none ?_
    refine r_range S fun r a b s S => ?_
    refine loop_range (InnerInv keep prog w st ra ta da pd (some (.int ah tah)) (some (.int N tn)) (some (.int i ti)) (10 * i + 1 + 1)) (k := (1 + q).toNat) hr.h S (mem_i (.head _)) (by omega) (by omega)
      ⟨o', rv, n1, tv, n2, dv, n3, ca, cv, n4, rows, B, toks, due, clos, text, tt, tr, v11, v12, v13, v14, v15, v16, v17, v18, v19, v20, rfl, rfl, D2.mono (by walk_at "sub"), P.mono (by walk_at "sub"), Da.mono (by walk_at "sub"), Pu, Mi⟩
      (fun j t m led imm own' s hj I S => inner_turn BS hr hA (by omega) (by omega) I S) ?_
    clear S Da P D2 Pu Mi
    rintro m led imm s ⟨o, rv, n1, tv, n2, dv, n3, ca, cv, n4, rows, B, toks, due, clos, text, tt, tr, v11, v12, v13, v14, v15, v16, v17, v18, v19, v20, rfl, rfl, D2, P, Da, Pu, Mi⟩ S
    replace S : St hb L _ _ imm own R s := S
    refine cont_next ?_
    refine x_assign ?_
    repeat (first | walk_at "go" | walk_at "b" | with_reducible refine b_len BS (by assumption) ?_)
    refine b_next BS hr hA (by assumption) D2 (by walk_at "sub") (by decide) fun q' tq o' s q0' q3' D2 S => ?_
    refine y_pick S (.cons _ _ (.cons _ _ (.cons _ _ .nil))) q0' (by simpa using q3') (by simp) fun e te he S => ?_
    repeat (first | walk_at "go" | walk_at "b" | with_reducible refine b_len BS (by assumption) ?_)
    refine x_cut _ (out_if BS hr hA D2 P Da Pu (by omega) (by omega) hi hN Mi he (by assumption)) ?_
    clear Pu Da D2 P Mi
    rintro s ⟨tx, m, led, imm, S, o, rv, n1, tv, n2, dv, n3, ca, cv, n4, rows, B, toks, due, clos, ah, tt, tah, tn, v9, v10, v11, v12, v13, v14, v15, v16, v17, v18, v19, v20, rfl, rfl, D2, P, Da, hc⟩
    refine x_assign ?_
    refine r_str S fun t s S => ?_
    refine b_st_text S fun s S => ?_
    exact x_nil ⟨rfl, _, _, _, S, o, rv, n1, tv, n2, dv, n3, ca, cv, n4, rows, B, toks, due, clos, ah, _, tah, tn, v9, v10, v11, v12, v13, v14, v15, v16, v17, v18, v19, v20, rfl, rfl, D2, P, Da, hc⟩
  · omega
end
end Mine

-- part M17
namespace Mine
open PySem PySem.W PyProof.Rows PySem.Calls
local macro_rules | `(tactic| walk_at "clr") => `(tactic| ((rename St _ _ _ _ _ _ _ _ => Sx); clear Sx))
local macro_rules | `(tactic| walk_at "sub") => `(tactic| first
  | exact fun _ h => h
  | exact fun _ h => .tail _ h
  | exact fun _ h => .tail _ (.tail _ h)
  | exact fun _ h => .tail _ (.tail _ (.tail _ h))
  | exact fun _ h => .tail _ (.tail _ (.tail _ (.tail _ h)))
  | exact fun _ h => .tail _ (.tail _ (.tail _ (.tail _ (.tail _ h))))
  | exact fun _ h => .tail _ (.tail _ (.tail _ (.tail _ (.tail _ (.tail _ h))))))
local macro_rules | `(tactic| walk_at "mem") => `(tactic| first
  | exact mem_l0
  | exact mem_l1
  | exact mem_l2
  | exact mem_l3
  | exact mem_l4
  | exact mem_i (by assumption)
  | exact mem_i (.head _)
  | exact mem_i (.tail _ (.head _))
  | exact mem_i (.tail _ (.tail _ (.head _)))
  | fail "mem")
local macro_rules | `(tactic| walk_at "go") => `(tactic| with_reducible first
  | (refine r_int (by assumption) ?_; walk_at "clr"; intro t s S)
  | refine y_more ?_
  | refine spliced_none ?_
  | refine r_tuple ?_
  | (refine r_newTuple (by assumption) ?_; walk_at "clr"; intro a s S)
  | refine wpAny_BinOp ?_
  | refine Subscript_ ?_
  | refine y_callN (id := "len") ?_
  | refine y_callB ?_
  | refine y_callT ?_
  | refine y_callM1 ?_
  | refine wpAny_truthy_bool ?_
  | (refine r_add (by assumption) ?_; walk_at "clr"; intro t s S)
  | refine x_assign ?_
  | refine y_isTrueCmp ?_
  | refine r_lt ?_
  | refine r_eqi ?_
  | refine r_nei ?_
  | refine r_gt ?_
  | (refine r_str (by assumption) ?_; walk_at "clr"; intro t s S)
  | (refine r_sub (by assumption) ?_; walk_at "clr"; intro t s S)
  | refine r_list ?_
  | (refine r_newList (by assumption) ?_; walk_at "clr"; intro a s S hnew)
  | refine x_return ?_
  | refine x_expr ?_
  | ((show wpAny _ _ (eval (Expr.Call (Expr.Attribute (Expr.Name _ _) _ _) _ _ _) _) _ _ _); refine y_callM ?_)
  | refine y_append (by assumption) (by walk_at "mem") ?_
  | refine isTrue_and ?_
  | refine isTrue_and_nil ?_
  | refine ite_t ?_
  | refine ite_f ?_
  | refine x_assignT ?_
  | refine IfExp_ ?_
  | refine UnaryOp_ ?_
  | (refine r_neg (by assumption) ?_; walk_at "clr"; intro t s S)
  | refine cont_next ?_
  | refine x_nil ?_)
local macro_rules | `(tactic| walk_at "b") => `(tactic| with_reducible first
  | refine b_ld_text (by assumption) rfl ?_
  | refine b_ld_row (by assumption) rfl ?_
  | refine b_ld_col (by assumption) rfl ?_
  | refine b_ld_pick (by assumption) rfl ?_
  | refine b_ld_word (by assumption) rfl ?_
  | refine b_ld_sign (by assumption) rfl ?_
  | refine b_ld_tokens (by assumption) rfl ?_
  | refine b_ld_rows (by assumption) rfl ?_
  | refine b_ld_closers (by assumption) rfl ?_
  | refine b_ld_pairs (by assumption) rfl ?_
  | refine b_ld_first (by assumption) rfl ?_
  | refine b_ld_second (by assumption) rfl ?_
  | refine b_ld_due (by assumption) rfl ?_
  | refine b_ld_ahead (by assumption) rfl ?_
  | refine b_ld_at (by assumption) rfl ?_
  | refine b_ld_many (by assumption) rfl ?_
  | refine b_ld_ending (by assumption) rfl ?_
  | refine b_ld_form (by assumption) rfl ?_
  | refine b_ld_remark (by assumption) rfl ?_
  | (refine b_st_text (by assumption) ?_; walk_at "clr"; intro s S)
  | (refine b_st_row (by assumption) ?_; walk_at "clr"; intro s S)
  | (refine b_st_col (by assumption) ?_; walk_at "clr"; intro s S)
  | (refine b_st_pick (by assumption) ?_; walk_at "clr"; intro s S)
  | (refine b_st_word (by assumption) ?_; walk_at "clr"; intro s S)
  | (refine b_st_sign (by assumption) ?_; walk_at "clr"; intro s S)
  | (refine b_st_closers (by assumption) ?_; walk_at "clr"; intro s S)
  | (refine b_st_first (by assumption) ?_; walk_at "clr"; intro s S)
  | (refine b_st_second (by assumption) ?_; walk_at "clr"; intro s S)
  | (refine b_st_ahead (by assumption) ?_; walk_at "clr"; intro s S)
  | (refine b_st_ending (by assumption) ?_; walk_at "clr"; intro s S)
  | (refine b_st_form (by assumption) ?_; walk_at "clr"; intro s S)
  | (refine b_st_remark (by assumption) ?_; walk_at "clr"; intro s S)
  | (refine y_app1 (by assumption) (by first | omega | (simp only [List.length_append, List.length_cons, List.length_nil]; omega)) ?_; walk_at "clr"; intro s S)
  | (refine y_app2 (by assumption) (by first | omega | (simp only [List.length_append, List.length_cons, List.length_nil]; omega)) ?_; walk_at "clr"; intro s S)
  | (refine y_app3 (by assumption) (by first | omega | (simp only [List.length_append, List.length_cons, List.length_nil]; omega)) ?_; walk_at "clr"; intro s S)
  | (refine y_app4 (by assumption) (by first | omega | (simp only [List.length_append, List.length_cons, List.length_nil]; omega)) ?_; walk_at "clr"; intro s S)
  | (refine r_cat (by assumption) (by first | omega | decide +kernel) (by first | omega | decide +kernel) ?_; walk_at "clr"; intro t s S)
  | (refine r_lenStr (by assumption) (by first | omega | decide +kernel) ?_; walk_at "clr"; intro t s S)
  | refine ⟨rfl, ?_⟩)

section
variable {keep : Led} {prog : Program} {w : World} {A A₀ : Around} {s : Shared} {env : Env} {base : Heap} {outer : List Env}
variable {hb : Heap} {L : Addr} {m : Str → Option Value} {led imm imm0 own : Led} {R : Rest}

/-- what _law_build gives back -/
def Built (keep : Led) (st r : Addr) (led imm : Led) : Prop :=
  (∀ p ∈ keep, p ∈ imm) ∧ ∃ (o : Obj) (ra : Addr) (rv : List Value) (n1 : Nat) (ta : Addr) (tv : List Value) (n2 : Nat) (da : Addr) (dv : List Value) (n3 : Nat) (ca : Addr) (cv : List Value) (n4 : Nat)
    (rows : List Str) (B : List (List Nat)) (toks : List Tk) (due : List (Int × Int)),
    led = [(st, o), (ra, listOf rv.toArray n1), (ta, listOf tv.toArray n2), (da, listOf dv.toArray n3), (ca, listOf cv.toArray n4)] ∧
    (r, ({ cls := .type "tuple", data := .seq #[.ref ra, .ref ta, .ref da] } : Obj)) ∈ imm ∧ Draw imm o ∧ Dats imm rv tv dv cv rows toks due [] ∧ Pu 1000 rows B toks due [] ∧ inRows B.length toks ∧ grun g0 (tofs B toks) = due

set_option maxHeartbeats 4000000 in
theorem build_body {st : Addr} {o : Obj} (BS : Bs w A₀ base outer hb) (hr : Rmb 3 A) (hA : A.frames = some (benv L :: outer))
    (D : Draw imm0 o) (hs : ∀ p ∈ imm0, p ∈ imm) (hkeep : ∀ p ∈ keep, p ∈ imm)
    (S : St hb L (bm (some (.ref st)) none none none none none none none none none none none none none none none none none none none none) [(st, o)] imm own R s) :
    wpAny (model prog w) A (execs bBody (benv L)) (fun f s' => ∃ r m' led' imm', f = .ret (.ref r) ∧ St hb L m' led' imm' own R s' ∧ Built keep st r led' imm') NoE s := by
  obtain ⟨_, mg, mb, T⟩ := BS.T
  have hbig : hb.NoLimit := T.nolimit
  show wpAny (model prog w) A (execs [nth bBody 0, nth bBody 1, nth bBody 2, nth bBody 3, nth bBody 4, nth bBody 5, nth bBody 6, nth bBody 7, outerFor, nth bBody 9] (benv L)) _ _ _
  refine x_assign (r_list (spliced_none (r_newList S fun ra s S h1 => ?_)))
  replace S : St hb L _ [(st, o), (ra, listOf ([] : List Value).toArray 0)] imm own R s := S.toLed h1
  refine b_st_rows S fun s S => ?_
  refine x_assign (r_list (spliced_none (r_newList S fun ta s S h2 => ?_)))
  replace S : St hb L _ [(st, o), (ra, listOf ([] : List Value).toArray 0), (ta, listOf ([] : List Value).toArray 0)] imm own R s := S.toLed h2
  refine b_st_tokens S fun s S => ?_
  refine x_assign (r_list (spliced_none (r_newList S fun da s S h3 => ?_)))
  replace S : St hb L _ [(st, o), (ra, listOf ([] : List Value).toArray 0), (ta, listOf ([] : List Value).toArray 0), (da, listOf ([] : List Value).toArray 0)] imm own R s := S.toLed h3
  refine b_st_due S fun s S => ?_
  refine x_assign (r_list (spliced_none (r_newList S fun ca s S h4 => ?_)))
  replace S : St hb L _ [(st, o), (ra, listOf ([] : List Value).toArray 0), (ta, listOf ([] : List Value).toArray 0), (da, listOf ([] : List Value).toArray 0), (ca, listOf ([] : List Value).toArray 0)] imm own R s := S.toLed h4
  refine b_st_closers S fun s S => ?_
  refine x_assign (r_str S fun tt s S => b_st_text S fun s S => ?_)
  refine x_assign (r_int S fun ta' s S => b_st_ahead S fun s S => ?_)
  refine x_assign (wpAny_BinOp (r_int S fun t2 s S => b_next BS hr hA S D hs (by decide) fun q tq o' s q0 q5 D S => r_add S fun tn s S => ?_))
  obtain ⟨N, hN⟩ : ∃ N : Nat, (2 : Int) + q = N := ⟨(2 + q).toNat, by omega⟩
  rw [hN]
  refine b_st_many S fun s S => ?_
  refine x_assign (y_dict S hbig hkeep fun pd imm s S hsub P => ?_)
  refine b_st_pairs S fun s S => ?_
  refine x_for S bk_at (by rfl) ?_
  refine y_callN (b_range BS S ?_)
  refine y_callT ?_
  refine y_more (b_ld_many S rfl (spliced_none ?_))
  refine r_range S fun r a b s S => ?_
  refine loop_range (fun i => OutC keep prog w st ra ta da pd N i "") (k := N) hr.h S (mem_i (.head _)) rfl (by omega) ?_ (fun i t m led imm own' s hi I S => out_turn BS hr hA hi (by omega) I S) ?_
  · exact ⟨o', [], 0, [], 0, [], 0, ca, [], 0, [], [], [], [], [], 0, tt, ta', tn, none, none, none, none, none, none, none, none, none, none, none, none, rfl, rfl, D.mono fun p hp => .tail _ (hsub p (hs p hp)), P.mono (by walk_at "sub"),
      ⟨.nil, .nil, .nil, .nil⟩, .inl ⟨by omega, ⟨⟨rfl, fun i x b h => (nomatch h)⟩, fun x h => (nomatch h), fun x h => (nomatch h), fun x h => (nomatch h), Nat.zero_le _, Nat.zero_le _, Nat.zero_le _, Nat.zero_le _⟩, ready_nil, fun _ => quiet_nil⟩⟩
  · rintro m led imm s ⟨o, rv, n1, tv, n2, dv, n3, ca, cv, n4, rows, B, toks, due, clos, ah, tt, tah, tn, v9, v10, v11, v12, v13, v14, v15, v16, v17, v18, v19, v20, rfl, rfl, D, P, Da, hc⟩ S
    rcases hc with ⟨h, _⟩ | ⟨_, Pu, rfl, hin, hdue⟩
    · exact absurd h (Nat.lt_irrefl _)
    replace S : St hb L _ _ imm own R s := S
    refine cont_next ?_
    refine x_return (r_tuple ?_)
    refine y_more (b_ld_rows S rfl (y_more (b_ld_tokens S rfl (y_more (b_ld_due S rfl (spliced_none ?_))))))
    refine r_newTuple S fun r s S => ?_
    exact ⟨r, _, _, _, rfl, S, fun p hp => .tail _ (P.1 p hp), o, ra, rv, n1, ta, tv, n2, da, dv, n3, ca, cv, n4, rows, B, toks, due, rfl, .head _, D.mono (by walk_at "sub"), Da.mono (by walk_at "sub"), Pu, hin, hdue⟩

theorem bm_binds {a : Value} : (fun y => List.lookup y ([("state", a)] : List (Str × Value)).reverse) = bm (some a) none none none none none none none none none none none none none none none none none none none none := by
  funext y
  show List.lookup y [(("state" : Str), a)] = _
  unfold bm
  by_cases h1 : y = ("state" : Str)
  · subst h1; rfl
  · have e1 : (y == ("state" : Str)) = false := by simpa using h1
    simp only [List.lookup, e1, if_neg h1, ite_self]
theorem call_build {st : Addr} {o : Obj} {Q : Value → Shared → Prop} (BS : Bs w A₀ base outer hb) (hr : Rmb 6 A) (hA : A.frames = some (env :: outer)) (hf : env.frame = some env.locals) (hke : env.scope.kind = .function)
    (S : St hb env.locals m [(st, o)] imm own R s) (D : Draw imm0 o) (hs : ∀ p ∈ imm0, p ∈ imm) (hkeep : ∀ p ∈ keep, p ∈ imm)
    (h : ∀ r led' imm' s', St hb env.locals m led' imm' own R s' → Built keep st r led' imm' → Q (.ref r) s') :
    wpAny (model prog w) A (call (.ref 57) [.ref st]) Q NoE s := by
  refine r_call (b := 5) (binds := [("state", .ref st)]) BS S hA hf hke hr (by exact rfl) (by rfl) (by rfl) ?_ (fun g L' s₁ BS' S' => ?_) (by rfl) (by rfl) (by rfl) ?_
  · exact locs rfl
  · rw [bm_binds] at S'
    refine wpAny_mono (build_body (keep := keep) BS' (Rmb.deeper hr) (by show Option.map _ A.frames = _; rw [hA]; rfl) D hs hkeep S') (fun f s' hf => ?_) fun _ _ x => x
    obtain ⟨r, m', led', imm', rfl, S2, hB⟩ := hf
    exact ⟨m', led', imm', S2, fun S3 => h r led' imm' s' S3 hB⟩
  · decide
end
end Mine

-- part G1
namespace Mine
open PySem PySem.W PyProof.Rows PySem.Calls

section
variable {prog : Program} {w : World} {A : Around} {s : Shared} {hb : Heap} {L : Addr} {led imm own : Led} {R : Rest} {v : Value}
variable {Q : Value → Shared → Prop} {QU : Unit → Shared → Prop} {pos : Pos}

def gScope : Scope := dScope (top 2)
def gBody : List Stmt := dBody (top 2)
def genv (L : Addr) : Env := envOf "explicit_line_join" gScope L 43 (.ref 42)
def gm (v0 v1 v2 v3 v4 v5 v6 v7 v8 v9 v10 v11 : Option Value) : Str → Option Value := fun x =>
  if x = "logical_line" then v0 else if x = "tokens" then v1 else if x = "prev_start" then v2 else if x = "prev_end" then v3 else if x = "parens" then v4 else if x = "comment" then v5 else if x = "backslash" then v6 else if x = "token_type" then v7 else if x = "text" then v8 else if x = "start" then v9 else if x = "end" then v10 else if x = "line" then v11 else none
variable {v0 v1 v2 v3 v4 v5 v6 v7 v8 v9 v10 v11 : Option Value}
theorem gk_logical_line : (genv L).kindOf "logical_line" = some .local := by rfl
theorem gg_logical_line : gm v0 v1 v2 v3 v4 v5 v6 v7 v8 v9 v10 v11 "logical_line" = v0 := by rfl
theorem gs_logical_line : (fun (y : Str) => if y = ("logical_line" : Str) then some v else gm v0 v1 v2 v3 v4 v5 v6 v7 v8 v9 v10 v11 y) = gm (some v) v1 v2 v3 v4 v5 v6 v7 v8 v9 v10 v11 := by
  funext y
  by_cases h : y = ("logical_line" : Str)
  · subst h; rw [if_pos rfl]; exact gg_logical_line.symm
  · simp only [gm, if_neg h]
theorem g_ld_logical_line (S : St hb L (gm v0 v1 v2 v3 v4 v5 v6 v7 v8 v9 v10 v11) led imm own R s) (hv : v0 = some v) (h : Q v s) : wpAny (model prog w) A (eval (.Name "logical_line" pos) (genv L)) Q NoE s := r_local (env := genv L) S (gg_logical_line.trans hv) rfl gk_logical_line (by decide) h
theorem g_ll_logical_line (S : St hb L (gm v0 v1 v2 v3 v4 v5 v6 v7 v8 v9 v10 v11) led imm own R s) (hv : v0 = some v) (h : Q v s) : wpAny (model prog w) A (loadName (genv L) "logical_line") Q NoE s := r_loadLocal (env := genv L) S (gg_logical_line.trans hv) rfl gk_logical_line h
theorem g_st_logical_line (S : St hb L (gm v0 v1 v2 v3 v4 v5 v6 v7 v8 v9 v10 v11) led imm own R s) (h : ∀ s', St hb L (gm (some v) v1 v2 v3 v4 v5 v6 v7 v8 v9 v10 v11) led imm own R s' → QU () s') : wpAny (model prog w) A (storeName (genv L) "logical_line" v) QU NoE s := r_store (env := genv L) S gk_logical_line (by rfl) gs_logical_line h
theorem gk_tokens : (genv L).kindOf "tokens" = some .local := by rfl
theorem gg_tokens : gm v0 v1 v2 v3 v4 v5 v6 v7 v8 v9 v10 v11 "tokens" = v1 := by rfl
theorem gs_tokens : (fun (y : Str) => if y = ("tokens" : Str) then some v else gm v0 v1 v2 v3 v4 v5 v6 v7 v8 v9 v10 v11 y) = gm v0 (some v) v2 v3 v4 v5 v6 v7 v8 v9 v10 v11 := by
  funext y
  by_cases h : y = ("tokens" : Str)
  · subst h; rw [if_pos rfl]; exact gg_tokens.symm
  · simp only [gm, if_neg h]
theorem g_ld_tokens (S : St hb L (gm v0 v1 v2 v3 v4 v5 v6 v7 v8 v9 v10 v11) led imm own R s) (hv : v1 = some v) (h : Q v s) : wpAny (model prog w) A (eval (.Name "tokens" pos) (genv L)) Q NoE s := r_local (env := genv L) S (gg_tokens.trans hv) rfl gk_tokens (by decide) h
theorem g_ll_tokens (S : St hb L (gm v0 v1 v2 v3 v4 v5 v6 v7 v8 v9 v10 v11) led imm own R s) (hv : v1 = some v) (h : Q v s) : wpAny (model prog w) A (loadName (genv L) "tokens") Q NoE s := r_loadLocal (env := genv L) S (gg_tokens.trans hv) rfl gk_tokens h
theorem g_st_tokens (S : St hb L (gm v0 v1 v2 v3 v4 v5 v6 v7 v8 v9 v10 v11) led imm own R s) (h : ∀ s', St hb L (gm v0 (some v) v2 v3 v4 v5 v6 v7 v8 v9 v10 v11) led imm own R s' → QU () s') : wpAny (model prog w) A (storeName (genv L) "tokens" v) QU NoE s := r_store (env := genv L) S gk_tokens (by rfl) gs_tokens h
theorem gk_prev_start : (genv L).kindOf "prev_start" = some .local := by rfl
theorem gg_prev_start : gm v0 v1 v2 v3 v4 v5 v6 v7 v8 v9 v10 v11 "prev_start" = v2 := by rfl
theorem gs_prev_start : (fun (y : Str) => if y = ("prev_start" : Str) then some v else gm v0 v1 v2 v3 v4 v5 v6 v7 v8 v9 v10 v11 y) = gm v0 v1 (some v) v3 v4 v5 v6 v7 v8 v9 v10 v11 := by
  funext y
  by_cases h : y = ("prev_start" : Str)
  · subst h; rw [if_pos rfl]; exact gg_prev_start.symm
  · simp only [gm, if_neg h]
theorem g_ld_prev_start (S : St hb L (gm v0 v1 v2 v3 v4 v5 v6 v7 v8 v9 v10 v11) led imm own R s) (hv : v2 = some v) (h : Q v s) : wpAny (model prog w) A (eval (.Name "prev_start" pos) (genv L)) Q NoE s := r_local (env := genv L) S (gg_prev_start.trans hv) rfl gk_prev_start (by decide) h
theorem g_ll_prev_start (S : St hb L (gm v0 v1 v2 v3 v4 v5 v6 v7 v8 v9 v10 v11) led imm own R s) (hv : v2 = some v) (h : Q v s) : wpAny (model prog w) A (loadName (genv L) "prev_start") Q NoE s := r_loadLocal (env := genv L) S (gg_prev_start.trans hv) rfl gk_prev_start h
theorem g_st_prev_start (S : St hb L (gm v0 v1 v2 v3 v4 v5 v6 v7 v8 v9 v10 v11) led imm own R s) (h : ∀ s', St hb L (gm v0 v1 (some v) v3 v4 v5 v6 v7 v8 v9 v10 v11) led imm own R s' → QU () s') : wpAny (model prog w) A (storeName (genv L) "prev_start" v) QU NoE s := r_store (env := genv L) S gk_prev_start (by rfl) gs_prev_start h
theorem gk_prev_end : (genv L).kindOf "prev_end" = some .local := by rfl
theorem gg_prev_end : gm v0 v1 v2 v3 v4 v5 v6 v7 v8 v9 v10 v11 "prev_end" = v3 := by rfl
theorem gs_prev_end : (fun (y : Str) => if y = ("prev_end" : Str) then some v else gm v0 v1 v2 v3 v4 v5 v6 v7 v8 v9 v10 v11 y) = gm v0 v1 v2 (some v) v4 v5 v6 v7 v8 v9 v10 v11 := by
  funext y
  by_cases h : y = ("prev_end" : Str)
  · subst h; rw [if_pos rfl]; exact gg_prev_end.symm
  · simp only [gm, if_neg h]
theorem g_ld_prev_end (S : St hb L (gm v0 v1 v2 v3 v4 v5 v6 v7 v8 v9 v10 v11) led imm own R s) (hv : v3 = some v) (h : Q v s) : wpAny (model prog w) A (eval (.Name "prev_end" pos) (genv L)) Q NoE s := r_local (env := genv L) S (gg_prev_end.trans hv) rfl gk_prev_end (by decide) h
theorem g_ll_prev_end (S : St hb L (gm v0 v1 v2 v3 v4 v5 v6 v7 v8 v9 v10 v11) led imm own R s) (hv : v3 = some v) (h : Q v s) : wpAny (model prog w) A (loadName (genv L) "prev_end") Q NoE s := r_loadLocal (env := genv L) S (gg_prev_end.trans hv) rfl gk_prev_end h
theorem g_st_prev_end (S : St hb L (gm v0 v1 v2 v3 v4 v5 v6 v7 v8 v9 v10 v11) led imm own R s) (h : ∀ s', St hb L (gm v0 v1 v2 (some v) v4 v5 v6 v7 v8 v9 v10 v11) led imm own R s' → QU () s') : wpAny (model prog w) A (storeName (genv L) "prev_end" v) QU NoE s := r_store (env := genv L) S gk_prev_end (by rfl) gs_prev_end h
theorem gk_parens : (genv L).kindOf "parens" = some .local := by rfl
theorem gg_parens : gm v0 v1 v2 v3 v4 v5 v6 v7 v8 v9 v10 v11 "parens" = v4 := by rfl
theorem gs_parens : (fun (y : Str) => if y = ("parens" : Str) then some v else gm v0 v1 v2 v3 v4 v5 v6 v7 v8 v9 v10 v11 y) = gm v0 v1 v2 v3 (some v) v5 v6 v7 v8 v9 v10 v11 := by
  funext y
  by_cases h : y = ("parens" : Str)
  · subst h; rw [if_pos rfl]; exact gg_parens.symm
  · simp only [gm, if_neg h]
theorem g_ld_parens (S : St hb L (gm v0 v1 v2 v3 v4 v5 v6 v7 v8 v9 v10 v11) led imm own R s) (hv : v4 = some v) (h : Q v s) : wpAny (model prog w) A (eval (.Name "parens" pos) (genv L)) Q NoE s := r_local (env := genv L) S (gg_parens.trans hv) rfl gk_parens (by decide) h
theorem g_ll_parens (S : St hb L (gm v0 v1 v2 v3 v4 v5 v6 v7 v8 v9 v10 v11) led imm own R s) (hv : v4 = some v) (h : Q v s) : wpAny (model prog w) A (loadName (genv L) "parens") Q NoE s := r_loadLocal (env := genv L) S (gg_parens.trans hv) rfl gk_parens h
theorem g_st_parens (S : St hb L (gm v0 v1 v2 v3 v4 v5 v6 v7 v8 v9 v10 v11) led imm own R s) (h : ∀ s', St hb L (gm v0 v1 v2 v3 (some v) v5 v6 v7 v8 v9 v10 v11) led imm own R s' → QU () s') : wpAny (model prog w) A (storeName (genv L) "parens" v) QU NoE s := r_store (env := genv L) S gk_parens (by rfl) gs_parens h
theorem gk_comment : (genv L).kindOf "comment" = some .local := by rfl
theorem gg_comment : gm v0 v1 v2 v3 v4 v5 v6 v7 v8 v9 v10 v11 "comment" = v5 := by rfl
theorem gs_comment : (fun (y : Str) => if y = ("comment" : Str) then some v else gm v0 v1 v2 v3 v4 v5 v6 v7 v8 v9 v10 v11 y) = gm v0 v1 v2 v3 v4 (some v) v6 v7 v8 v9 v10 v11 := by
  funext y
  by_cases h : y = ("comment" : Str)
  · subst h; rw [if_pos rfl]; exact gg_comment.symm
  · simp only [gm, if_neg h]
theorem g_ld_comment (S : St hb L (gm v0 v1 v2 v3 v4 v5 v6 v7 v8 v9 v10 v11) led imm own R s) (hv : v5 = some v) (h : Q v s) : wpAny (model prog w) A (eval (.Name "comment" pos) (genv L)) Q NoE s := r_local (env := genv L) S (gg_comment.trans hv) rfl gk_comment (by decide) h
theorem g_ll_comment (S : St hb L (gm v0 v1 v2 v3 v4 v5 v6 v7 v8 v9 v10 v11) led imm own R s) (hv : v5 = some v) (h : Q v s) : wpAny (model prog w) A (loadName (genv L) "comment") Q NoE s := r_loadLocal (env := genv L) S (gg_comment.trans hv) rfl gk_comment h
theorem g_st_comment (S : St hb L (gm v0 v1 v2 v3 v4 v5 v6 v7 v8 v9 v10 v11) led imm own R s) (h : ∀ s', St hb L (gm v0 v1 v2 v3 v4 (some v) v6 v7 v8 v9 v10 v11) led imm own R s' → QU () s') : wpAny (model prog w) A (storeName (genv L) "comment" v) QU NoE s := r_store (env := genv L) S gk_comment (by rfl) gs_comment h
theorem gk_backslash : (genv L).kindOf "backslash" = some .local := by rfl
theorem gg_backslash : gm v0 v1 v2 v3 v4 v5 v6 v7 v8 v9 v10 v11 "backslash" = v6 := by rfl
theorem gs_backslash : (fun (y : Str) => if y = ("backslash" : Str) then some v else gm v0 v1 v2 v3 v4 v5 v6 v7 v8 v9 v10 v11 y) = gm v0 v1 v2 v3 v4 v5 (some v) v7 v8 v9 v10 v11 := by
  funext y
  by_cases h : y = ("backslash" : Str)
  · subst h; rw [if_pos rfl]; exact gg_backslash.symm
  · simp only [gm, if_neg h]
theorem g_ld_backslash (S : St hb L (gm v0 v1 v2 v3 v4 v5 v6 v7 v8 v9 v10 v11) led imm own R s) (hv : v6 = some v) (h : Q v s) : wpAny (model prog w) A (eval (.Name "backslash" pos) (genv L)) Q NoE s := r_local (env := genv L) S (gg_backslash.trans hv) rfl gk_backslash (by decide) h
theorem g_ll_backslash (S : St hb L (gm v0 v1 v2 v3 v4 v5 v6 v7 v8 v9 v10 v11) led imm own R s) (hv : v6 = some v) (h : Q v s) : wpAny (model prog w) A (loadName (genv L) "backslash") Q NoE s := r_loadLocal (env := genv L) S (gg_backslash.trans hv) rfl gk_backslash h
theorem g_st_backslash (S : St hb L (gm v0 v1 v2 v3 v4 v5 v6 v7 v8 v9 v10 v11) led imm own R s) (h : ∀ s', St hb L (gm v0 v1 v2 v3 v4 v5 (some v) v7 v8 v9 v10 v11) led imm own R s' → QU () s') : wpAny (model prog w) A (storeName (genv L) "backslash" v) QU NoE s := r_store (env := genv L) S gk_backslash (by rfl) gs_backslash h
theorem gk_token_type : (genv L).kindOf "token_type" = some .local := by rfl
theorem gg_token_type : gm v0 v1 v2 v3 v4 v5 v6 v7 v8 v9 v10 v11 "token_type" = v7 := by rfl
theorem gs_token_type : (fun (y : Str) => if y = ("token_type" : Str) then some v else gm v0 v1 v2 v3 v4 v5 v6 v7 v8 v9 v10 v11 y) = gm v0 v1 v2 v3 v4 v5 v6 (some v) v8 v9 v10 v11 := by
  funext y
  by_cases h : y = ("token_type" : Str)
  · subst h; rw [if_pos rfl]; exact gg_token_type.symm
  · simp only [gm, if_neg h]
theorem g_ld_token_type (S : St hb L (gm v0 v1 v2 v3 v4 v5 v6 v7 v8 v9 v10 v11) led imm own R s) (hv : v7 = some v) (h : Q v s) : wpAny (model prog w) A (eval (.Name "token_type" pos) (genv L)) Q NoE s := r_local (env := genv L) S (gg_token_type.trans hv) rfl gk_token_type (by decide) h
theorem g_ll_token_type (S : St hb L (gm v0 v1 v2 v3 v4 v5 v6 v7 v8 v9 v10 v11) led imm own R s) (hv : v7 = some v) (h : Q v s) : wpAny (model prog w) A (loadName (genv L) "token_type") Q NoE s := r_loadLocal (env := genv L) S (gg_token_type.trans hv) rfl gk_token_type h
theorem g_st_token_type (S : St hb L (gm v0 v1 v2 v3 v4 v5 v6 v7 v8 v9 v10 v11) led imm own R s) (h : ∀ s', St hb L (gm v0 v1 v2 v3 v4 v5 v6 (some v) v8 v9 v10 v11) led imm own R s' → QU () s') : wpAny (model prog w) A (storeName (genv L) "token_type" v) QU NoE s := r_store (env := genv L) S gk_token_type (by rfl) gs_token_type h
theorem gk_text : (genv L).kindOf "text" = some .local := by rfl
theorem gg_text : gm v0 v1 v2 v3 v4 v5 v6 v7 v8 v9 v10 v11 "text" = v8 := by rfl
theorem gs_text : (fun (y : Str) => if y = ("text" : Str) then some v else gm v0 v1 v2 v3 v4 v5 v6 v7 v8 v9 v10 v11 y) = gm v0 v1 v2 v3 v4 v5 v6 v7 (some v) v9 v10 v11 := by
  funext y
  by_cases h : y = ("text" : Str)
  · subst h; rw [if_pos rfl]; exact gg_text.symm
  · simp only [gm, if_neg h]
theorem g_ld_text (S : St hb L (gm v0 v1 v2 v3 v4 v5 v6 v7 v8 v9 v10 v11) led imm own R s) (hv : v8 = some v) (h : Q v s) : wpAny (model prog w) A (eval (.Name "text" pos) (genv L)) Q NoE s := r_local (env := genv L) S (gg_text.trans hv) rfl gk_text (by decide) h
theorem g_ll_text (S : St hb L (gm v0 v1 v2 v3 v4 v5 v6 v7 v8 v9 v10 v11) led imm own R s) (hv : v8 = some v) (h : Q v s) : wpAny (model prog w) A (loadName (genv L) "text") Q NoE s := r_loadLocal (env := genv L) S (gg_text.trans hv) rfl gk_text h
theorem g_st_text (S : St hb L (gm v0 v1 v2 v3 v4 v5 v6 v7 v8 v9 v10 v11) led imm own R s) (h : ∀ s', St hb L (gm v0 v1 v2 v3 v4 v5 v6 v7 (some v) v9 v10 v11) led imm own R s' → QU () s') : wpAny (model prog w) A (storeName (genv L) "text" v) QU NoE s := r_store (env := genv L) S gk_text (by rfl) gs_text h
theorem gk_start : (genv L).kindOf "start" = some .local := by rfl
theorem gg_start : gm v0 v1 v2 v3 v4 v5 v6 v7 v8 v9 v10 v11 "start" = v9 := by rfl
theorem gs_start : (fun (y : Str) => if y = ("start" : Str) then some v else gm v0 v1 v2 v3 v4 v5 v6 v7 v8 v9 v10 v11 y) = gm v0 v1 v2 v3 v4 v5 v6 v7 v8 (some v) v10 v11 := by
  funext y
  by_cases h : y = ("start" : Str)
  · subst h; rw [if_pos rfl]; exact gg_start.symm
  · simp only [gm, if_neg h]
theorem g_ld_start (S : St hb L (gm v0 v1 v2 v3 v4 v5 v6 v7 v8 v9 v10 v11) led imm own R s) (hv : v9 = some v) (h : Q v s) : wpAny (model prog w) A (eval (.Name "start" pos) (genv L)) Q NoE s := r_local (env := genv L) S (gg_start.trans hv) rfl gk_start (by decide) h
theorem g_ll_start (S : St hb L (gm v0 v1 v2 v3 v4 v5 v6 v7 v8 v9 v10 v11) led imm own R s) (hv : v9 = some v) (h : Q v s) : wpAny (model prog w) A (loadName (genv L) "start") Q NoE s := r_loadLocal (env := genv L) S (gg_start.trans hv) rfl gk_start h
theorem g_st_start (S : St hb L (gm v0 v1 v2 v3 v4 v5 v6 v7 v8 v9 v10 v11) led imm own R s) (h : ∀ s', St hb L (gm v0 v1 v2 v3 v4 v5 v6 v7 v8 (some v) v10 v11) led imm own R s' → QU () s') : wpAny (model prog w) A (storeName (genv L) "start" v) QU NoE s := r_store (env := genv L) S gk_start (by rfl) gs_start h
theorem gk_end : (genv L).kindOf "end" = some .local := by rfl
theorem gg_end : gm v0 v1 v2 v3 v4 v5 v6 v7 v8 v9 v10 v11 "end" = v10 := by rfl
theorem gs_end : (fun (y : Str) => if y = ("end" : Str) then some v else gm v0 v1 v2 v3 v4 v5 v6 v7 v8 v9 v10 v11 y) = gm v0 v1 v2 v3 v4 v5 v6 v7 v8 v9 (some v) v11 := by
  funext y
  by_cases h : y = ("end" : Str)
  · subst h; rw [if_pos rfl]; exact gg_end.symm
  · simp only [gm, if_neg h]
theorem g_ld_end (S : St hb L (gm v0 v1 v2 v3 v4 v5 v6 v7 v8 v9 v10 v11) led imm own R s) (hv : v10 = some v) (h : Q v s) : wpAny (model prog w) A (eval (.Name "end" pos) (genv L)) Q NoE s := r_local (env := genv L) S (gg_end.trans hv) rfl gk_end (by decide) h
theorem g_ll_end (S : St hb L (gm v0 v1 v2 v3 v4 v5 v6 v7 v8 v9 v10 v11) led imm own R s) (hv : v10 = some v) (h : Q v s) : wpAny (model prog w) A (loadName (genv L) "end") Q NoE s := r_loadLocal (env := genv L) S (gg_end.trans hv) rfl gk_end h
theorem g_st_end (S : St hb L (gm v0 v1 v2 v3 v4 v5 v6 v7 v8 v9 v10 v11) led imm own R s) (h : ∀ s', St hb L (gm v0 v1 v2 v3 v4 v5 v6 v7 v8 v9 (some v) v11) led imm own R s' → QU () s') : wpAny (model prog w) A (storeName (genv L) "end" v) QU NoE s := r_store (env := genv L) S gk_end (by rfl) gs_end h
theorem gk_line : (genv L).kindOf "line" = some .local := by rfl
theorem gg_line : gm v0 v1 v2 v3 v4 v5 v6 v7 v8 v9 v10 v11 "line" = v11 := by rfl
theorem gs_line : (fun (y : Str) => if y = ("line" : Str) then some v else gm v0 v1 v2 v3 v4 v5 v6 v7 v8 v9 v10 v11 y) = gm v0 v1 v2 v3 v4 v5 v6 v7 v8 v9 v10 (some v) := by
  funext y
  by_cases h : y = ("line" : Str)
  · subst h; rw [if_pos rfl]; exact gg_line.symm
  · simp only [gm, if_neg h]
theorem g_ld_line (S : St hb L (gm v0 v1 v2 v3 v4 v5 v6 v7 v8 v9 v10 v11) led imm own R s) (hv : v11 = some v) (h : Q v s) : wpAny (model prog w) A (eval (.Name "line" pos) (genv L)) Q NoE s := r_local (env := genv L) S (gg_line.trans hv) rfl gk_line (by decide) h
theorem g_ll_line (S : St hb L (gm v0 v1 v2 v3 v4 v5 v6 v7 v8 v9 v10 v11) led imm own R s) (hv : v11 = some v) (h : Q v s) : wpAny (model prog w) A (loadName (genv L) "line") Q NoE s := r_loadLocal (env := genv L) S (gg_line.trans hv) rfl gk_line h
theorem g_st_line (S : St hb L (gm v0 v1 v2 v3 v4 v5 v6 v7 v8 v9 v10 v11) led imm own R s) (h : ∀ s', St hb L (gm v0 v1 v2 v3 v4 v5 v6 v7 v8 v9 v10 (some v)) led imm own R s' → QU () s') : wpAny (model prog w) A (storeName (genv L) "line" v) QU NoE s := r_store (env := genv L) S gk_line (by rfl) gs_line h
end
end Mine

-- part G2
namespace Mine
open PySem PySem.W PyProof.Rows PySem.Calls
local macro_rules | `(tactic| walk_at "clr") => `(tactic| ((rename St _ _ _ _ _ _ _ _ => Sx); clear Sx))
local macro_rules | `(tactic| walk_at "sub") => `(tactic| first
  | exact fun _ h => h
  | exact fun _ h => .tail _ h
  | exact fun _ h => .tail _ (.tail _ h)
  | exact fun _ h => .tail _ (.tail _ (.tail _ h))
  | exact fun _ h => .tail _ (.tail _ (.tail _ (.tail _ h)))
  | exact fun _ h => .tail _ (.tail _ (.tail _ (.tail _ (.tail _ h))))
  | exact fun _ h => .tail _ (.tail _ (.tail _ (.tail _ (.tail _ (.tail _ h))))))
local macro_rules | `(tactic| walk_at "mem") => `(tactic| first
  | exact mem_l0
  | exact mem_l1
  | exact mem_l2
  | exact mem_l3
  | exact mem_l4
  | exact mem_i (by assumption)
  | exact mem_i (.head _)
  | exact mem_i (.tail _ (.head _))
  | exact mem_i (.tail _ (.tail _ (.head _)))
  | fail "mem")
local macro_rules | `(tactic| walk_at "go") => `(tactic| with_reducible first
  | (refine r_int (by assumption) ?_; walk_at "clr"; intro t s S)
  | refine y_more ?_
  | refine spliced_none ?_
  | refine r_tuple ?_
  | (refine r_newTuple (by assumption) ?_; walk_at "clr"; intro a s S)
  | refine wpAny_BinOp ?_
  | refine Subscript_ ?_
  | refine y_callN (id := "len") ?_
  | refine y_callB ?_
  | refine y_callT ?_
  | refine y_callM1 ?_
  | refine wpAny_truthy_bool ?_
  | (refine r_add (by assumption) ?_; walk_at "clr"; intro t s S)
  | refine x_assign ?_
  | refine y_isTrueCmp ?_
  | refine r_lt ?_
  | refine r_eqi ?_
  | refine r_nei ?_
  | refine r_gt ?_
  | (refine r_str (by assumption) ?_; walk_at "clr"; intro t s S)
  | (refine r_sub (by assumption) ?_; walk_at "clr"; intro t s S)
  | refine r_list ?_
  | (refine r_newList (by assumption) ?_; walk_at "clr"; intro a s S hnew)
  | refine x_return ?_
  | refine x_expr ?_
  | ((show wpAny _ _ (eval (Expr.Call (Expr.Attribute (Expr.Name _ _) _ _) _ _ _) _) _ _ _); refine y_callM ?_)
  | refine y_append (by assumption) (by walk_at "mem") ?_
  | refine isTrue_and ?_
  | refine isTrue_and_nil ?_
  | refine ite_t ?_
  | refine ite_f ?_
  | refine x_assignT ?_
  | refine IfExp_ ?_
  | refine UnaryOp_ ?_
  | (refine r_neg (by assumption) ?_; walk_at "clr"; intro t s S)
  | refine cont_next ?_
  | refine x_nil ?_)
local macro_rules | `(tactic| walk_at "g") => `(tactic| with_reducible first
  | refine g_ld_token_type (by assumption) rfl ?_
  | refine g_ld_text (by assumption) rfl ?_
  | refine g_ld_start (by assumption) rfl ?_
  | refine g_ld_end (by assumption) rfl ?_
  | refine g_ld_line (by assumption) rfl ?_
  | refine g_ld_prev_start (by assumption) rfl ?_
  | refine g_ld_prev_end (by assumption) rfl ?_
  | refine g_ld_parens (by assumption) rfl ?_
  | refine g_ld_comment (by assumption) rfl ?_
  | refine g_ld_backslash (by assumption) rfl ?_
  | (refine g_st_comment (by assumption) ?_; walk_at "clr"; intro s S)
  | (refine g_st_backslash (by assumption) ?_; walk_at "clr"; intro s S)
  | (refine g_st_prev_start (by assumption) ?_; walk_at "clr"; intro s S)
  | (refine g_st_prev_end (by assumption) ?_; walk_at "clr"; intro s S)
  | (refine g_st_parens (by assumption) ?_; walk_at "clr"; intro s S)
  | refine g_ll_comment (by assumption) rfl ?_
  | refine g_ll_backslash (by assumption) rfl ?_
  | refine g_ll_prev_start (by assumption) rfl ?_
  | refine g_ll_prev_end (by assumption) rfl ?_
  | refine g_ll_parens (by assumption) rfl ?_
  | refine x_aug ?_
  | (refine r_iadd (by assumption) ?_; walk_at "clr"; intro t s S)
  | (refine r_isub (by assumption) ?_; walk_at "clr"; intro t s S)
  | refine y_isTrueName ?_
  | refine y_truthyInt ?_
  | refine isTrue_not ?_
  | refine Constant_bool ?_
  | refine Constant_none ?_
  | refine ⟨rfl, ?_⟩)
section
variable {prog : Program} {w : World} {A A₀ : Around} {s : Shared} {env : Env} {base : Heap} {outer : List Env}
variable {hb : Heap} {L : Addr} {m : Str → Option Value} {led imm own : Led} {R : Rest}
variable {Q : Value → Shared → Prop} {QB : Bool → Shared → Prop} {QF : Flow → Shared → Prop}

abbrev tup2 (a b : Int) (t u : Tok) (n : Nat := 0) : Obj := { cls := .type "tuple", data := .seq #[.int a t, .int b u] n }
def BsIs (imm : Led) : Option (Int × Int) → Value → Prop
  | none, v => v = .none
  | some p, v => ∃ b t1 t2, v = .ref b ∧ (b, tup2 p.1 p.2 t1 t2) ∈ imm
theorem BsIs.mono {imm' : Led} {p : Option (Int × Int)} {v : Value} (h : BsIs imm p v) (hs : ∀ q ∈ imm, q ∈ imm') : BsIs imm' p v := by
  cases p with
  | none => exact h
  | some p => obtain ⟨b, t1, t2, e, hm⟩ := h; exact ⟨b, t1, t2, e, hs _ hm⟩
def GM (tl : Addr) (g : G) (imm : Led) (m : Str → Option Value) : Prop :=
  ∃ (v0 : Option Value) (t1 t2 t3 : Tok) (bv : Value) (v7 v8 v9 v10 v11 : Option Value),
    m = gm v0 (some (.ref tl)) (some (.int g.ps t1)) (some (.int g.pe t2)) (some (.int g.parens t3)) (some (.bool g.comment)) (some bv) v7 v8 v9 v10 v11 ∧ BsIs imm g.bs bv
def GT (tl : Addr) (g : G) (t : TkL) (imm : Led) (m : Str → Option Value) : Prop :=
  ∃ (v0 : Option Value) (t1 t2 t3 : Tok) (bv : Value) (a b : Addr) (line : Str) (t7 t8 t11 : Tok) (sc ec : Int) (u1 u2 u3 u4 : Tok) (n1 n2 : Nat),
    m = gm v0 (some (.ref tl)) (some (.int g.ps t1)) (some (.int g.pe t2)) (some (.int g.parens t3)) (some (.bool g.comment)) (some bv) (some (.int t.kind t7)) (some (.str t.text t8)) (some (.ref a)) (some (.ref b)) (some (.str line t11)) ∧
    BsIs imm g.bs bv ∧ (a, tup2 t.sr sc u1 u2 n1) ∈ imm ∧ (b, tup2 t.er ec u3 u4 n2) ∈ imm ∧ LineOk line t.b ∧ line.length ≤ 5000
def genBody : List Stmt := dBody (nth gBody 3)
def gTest : Expr := match nth genBody 1 with | .If t _ _ _ => t | _ => default
def gc (g : G) (t : TkL) : G := { g with comment := g.comment || t.kind == 61 }

theorem kk_tokenize : nsIn (KK w) mainGlobals "tokenize" = some (some (.ref 32)) := by rfl
theorem gk_tokenize : (genv L).kindOf "tokenize" = some .globalImplicit := by rfl
theorem gk_len : (genv L).kindOf "len" = some .globalImplicit := by rfl
theorem g_len {pos : Pos} (BS : Bs w A₀ base outer hb) (S : St hb L m led imm own R s) (h : Q (.builtin "len") s) : wpAny (model prog w) A (eval (.Name "len" pos) (genv L)) Q NoE s :=
  r_built BS S kk_len bb_len (by decide) rfl gk_len rfl rfl (by decide) h
theorem g_COMMENT {p1 p2 : Pos} (BS : Bs w A₀ base outer hb) (S : St hb L m led imm own R s) (h : ∀ t s', St hb L m led imm own R s' → Q (.int 61 t) s') :
    wpAny (model prog w) A (eval (.Attribute (.Name "tokenize" p1) "COMMENT" p2) (genv L)) Q NoE s := by
  refine Attribute_Name_ (r_glob BS S kk_tokenize rfl gk_tokenize rfl (by decide) ?_) (by with_unfolding_all rfl)
  refine cls_val S.F BS.X (by rfl) (by rfl) (by rfl) (by rfl) ?_
  exact h _ _ (S.tok _)
theorem g_OP {p1 p2 : Pos} (BS : Bs w A₀ base outer hb) (S : St hb L m led imm own R s) (h : ∀ t s', St hb L m led imm own R s' → Q (.int 54 t) s') :
    wpAny (model prog w) A (eval (.Attribute (.Name "tokenize" p1) "OP" p2) (genv L)) Q NoE s := by
  refine Attribute_Name_ (r_glob BS S kk_tokenize rfl gk_tokenize rfl (by decide) ?_) (by with_unfolding_all rfl)
  refine cls_val S.F BS.X (by rfl) (by rfl) (by rfl) (by rfl) ?_
  exact h _ _ (S.tok _)
theorem y_tup0 {value slice : Expr} {a : Addr} {i j : Int} {t u k : Tok} {n : Nat} (S : St hb L m led imm own R s) (hm : (a, tup2 i j t u n) ∈ imm) (h : Q (.int i t) s)
    (hs : subscripted slice false (.ref a) (.int 0 k) = operate [.ref a, .int 0 k] (getItem (.ref a) (.int 0 k)) := by with_unfolding_all rfl) :
    wpAny (model prog w) A (subscriptTail value slice (.ref a) (.int 0 k)) Q NoE s :=
  r_itemT (l := [.int i t, .int j u]) S (mem_i hm) (by decide) (by simp) (by simp) rfl h hs
theorem y_truthyBs {p : Option (Int × Int)} {v : Value} (S : St hb L m led imm own R s) (hb' : BsIs imm p v) (h : ∀ s', St hb L m led imm own R s' → QB p.isSome s') : wpAny (model prog w) A (truthy v) QB NoE s := by
  cases p with
  | none => cases hb'; exact truthy_none (h _ S)
  | some p =>
    obtain ⟨b, t1, t2, rfl, hm⟩ := hb'
    exact truthy_tuple (t := b) (items := #[.int p.1 t1, .int p.2 t2]) ⟨_, S.mem (mem_i hm), rfl, 0, rfl⟩ (by simp) (h _ (S.tok _))
theorem x_assign2 {x y : Str} {px py : Pos} {value : Expr} {pos : Pos} {rest : List Stmt}
    (h : wpAny (model prog w) A (eval value env) (fun v s₁ => wpAny (model prog w) A (storeName env x v) (fun _ s₂ => wpAny (model prog w) A (storeName env y v) (fun _ s₃ => wpAny (model prog w) A (execs rest env) QF NoE s₃) NoE s₂) NoE s₁) NoE s)
    (he : (assignEach [.Name x px, .Name y py] env).map (·.2) = [assign (.Name x px) env, assign (.Name y py) env] := by with_unfolding_all rfl)
    (hw : swappedStores [.Name x px, .Name y py] value env = pure none := by with_unfolding_all rfl) :
    wpAny (model prog w) A (execs (.Assign [.Name x px, .Name y py] value pos :: rest) env) QF NoE s :=
  wpAny_execs_cons (wpAny_Assign_two (wpAny_mono h (fun v s₁ h₁ => wpAny_assign_Name (wpAny_mono h₁ (fun _ s₂ h₂ => wpAny_assign_Name h₂) fun _ _ x => x)) fun _ _ x => x) he hw)
theorem x_assign3 {x y z : Str} {px py pz : Pos} {value : Expr} {pos : Pos} {rest : List Stmt}
    (h : wpAny (model prog w) A (eval value env) (fun v s₁ => wpAny (model prog w) A (storeName env x v) (fun _ s₂ => wpAny (model prog w) A (storeName env y v) (fun _ s₃ => wpAny (model prog w) A (storeName env z v) (fun _ s₄ => wpAny (model prog w) A (execs rest env) QF NoE s₄) NoE s₃) NoE s₂) NoE s₁) NoE s)
    (he : (assignEach [.Name x px, .Name y py, .Name z pz] env).map (·.2) = [assign (.Name x px) env, assign (.Name y py) env, assign (.Name z pz) env] := by with_unfolding_all rfl)
    (hw : swappedStores [.Name x px, .Name y py, .Name z pz] value env = pure none := by with_unfolding_all rfl) :
    wpAny (model prog w) A (execs (.Assign [.Name x px, .Name y py, .Name z pz] value pos :: rest) env) QF NoE s :=
  wpAny_execs_cons (wpAny_Assign_three (wpAny_mono h (fun v s₁ h₁ => wpAny_assign_Name (wpAny_mono h₁ (fun _ s₂ h₂ => wpAny_assign_Name (wpAny_mono h₂ (fun _ s₃ h₃ => wpAny_assign_Name h₃) fun _ _ x => x)) fun _ _ x => x)) fun _ _ x => x) he hw)

theorem gA {tl : Addr} {g : G} {t : TkL} (BS : Bs w A₀ base outer hb) (I : GT tl g t imm m) (S : St hb L m led imm own R s) :
    wpAny (model prog w) A (execs [nth genBody 0] (genv L)) (fun f s' => f = .next ∧ ∃ m', St hb L m' led imm own R s' ∧ GT tl (gc g t) t imm m') NoE s := by
  obtain ⟨v0, t1, t2, t3, bv, a, b, line, t7, t8, t11, sc, ec, u1, u2, u3, u4, n1, n2, rfl, hbv, ha, hb', hl, hlen⟩ := I
  refine x_ifLast ?_
  repeat (first | walk_at "go" | walk_at "g")
  refine g_COMMENT BS (by assumption) fun t12 s S => ?_
  repeat (first | walk_at "go" | walk_at "g")
  refine b_dec (fun hk => ?_) (fun hk => ?_)
  · refine x_assign ?_
    repeat (first | walk_at "go" | walk_at "g")
    have e : (gc g t).comment = true := by simp [gc, hk]
    exact ⟨_, (by assumption), v0, t1, t2, t3, bv, a, b, line, t7, t8, t11, sc, ec, u1, u2, u3, u4, n1, n2, by rw [e]; rfl, hbv, ha, hb', hl, hlen⟩
  · have e : (gc g t).comment = g.comment := by simp [gc, hk]
    exact x_nil ⟨rfl, _, S, v0, t1, t2, t3, bv, a, b, line, t7, t8, t11, sc, ec, u1, u2, u3, u4, n1, n2, by rw [e]; rfl, hbv, ha, hb', hl, hlen⟩

def gcond (g : G) (t : TkL) : Bool := decide (t.sr ≠ g.ps) && decide (g.parens ≠ 0) && g.bs.isSome && !g.comment
theorem gB {tl : Addr} {g : G} {t : TkL} (BS : Bs w A₀ base outer hb) (I : GT tl g t imm m) (S : St hb L m led imm own R s) :
    wpAny (model prog w) A (isTrue gTest (genv L) (eval gTest (genv L))) (fun c s' => c = gcond g t ∧ St hb L m led imm own R s') NoE s := by
  obtain ⟨v0, t1, t2, t3, bv, a, b, line, t7, t8, t11, sc, ec, u1, u2, u3, u4, n1, n2, rfl, hbv, ha, hb', hl, hlen⟩ := I
  unfold gcond
  refine isTrue_and ?_
  repeat (first | walk_at "go" | walk_at "g")
  refine y_tup0 (by assumption) ha ?_
  repeat (first | walk_at "go" | walk_at "g")
  refine b_dec (fun h1 => ?_) (fun h1 => ⟨by simp [h1], by assumption⟩)
  refine isTrue_and ?_
  repeat (first | walk_at "go" | walk_at "g")
  refine b_dec (fun h2 => ?_) (fun h2 => ⟨by simp [h2], by assumption⟩)
  refine isTrue_and ?_
  repeat (first | walk_at "go" | walk_at "g")
  refine y_truthyBs (by assumption) hbv fun s S => ?_
  cases hbs : g.bs.isSome with
  | false => exact ⟨by simp, S⟩
  | true =>
    refine ite_t ?_
    refine isTrue_and ?_
    repeat (first | walk_at "go" | walk_at "g")
    split <;> rename_i hc
    · exact isTrue_and_nil ⟨by simp only [hc]; simp [h1, h2], S⟩
    · have hc' : (!g.comment) = false := by simpa using hc
      exact ⟨by simp only [hc']; simp, S⟩
end
end Mine

-- part G3
namespace Mine
open PySem PySem.W PyProof.Rows PySem.Calls
local macro_rules | `(tactic| walk_at "clr") => `(tactic| ((rename St _ _ _ _ _ _ _ _ => Sx); clear Sx))
local macro_rules | `(tactic| walk_at "sub") => `(tactic| first
  | exact fun _ h => h
  | exact fun _ h => .tail _ h
  | exact fun _ h => .tail _ (.tail _ h)
  | exact fun _ h => .tail _ (.tail _ (.tail _ h))
  | exact fun _ h => .tail _ (.tail _ (.tail _ (.tail _ h)))
  | exact fun _ h => .tail _ (.tail _ (.tail _ (.tail _ (.tail _ h))))
  | exact fun _ h => .tail _ (.tail _ (.tail _ (.tail _ (.tail _ (.tail _ h))))))
local macro_rules | `(tactic| walk_at "mem") => `(tactic| first
  | exact mem_l0
  | exact mem_l1
  | exact mem_l2
  | exact mem_l3
  | exact mem_l4
  | exact mem_i (by assumption)
  | exact mem_i (.head _)
  | exact mem_i (.tail _ (.head _))
  | exact mem_i (.tail _ (.tail _ (.head _)))
  | fail "mem")
local macro_rules | `(tactic| walk_at "go") => `(tactic| with_reducible first
  | (refine r_int (by assumption) ?_; walk_at "clr"; intro t s S)
  | refine y_more ?_
  | refine spliced_none ?_
  | refine r_tuple ?_
  | (refine r_newTuple (by assumption) ?_; walk_at "clr"; intro a s S)
  | refine wpAny_BinOp ?_
  | refine Subscript_ ?_
  | refine y_callN (id := "len") ?_
  | refine y_callB ?_
  | refine y_callT ?_
  | refine y_callM1 ?_
  | refine wpAny_truthy_bool ?_
  | (refine r_add (by assumption) ?_; walk_at "clr"; intro t s S)
  | refine x_assign ?_
  | refine y_isTrueCmp ?_
  | refine r_lt ?_
  | refine r_eqi ?_
  | refine r_nei ?_
  | refine r_gt ?_
  | (refine r_str (by assumption) ?_; walk_at "clr"; intro t s S)
  | (refine r_sub (by assumption) ?_; walk_at "clr"; intro t s S)
  | refine r_list ?_
  | (refine r_newList (by assumption) ?_; walk_at "clr"; intro a s S hnew)
  | refine x_return ?_
  | refine x_expr ?_
  | ((show wpAny _ _ (eval (Expr.Call (Expr.Attribute (Expr.Name _ _) _ _) _ _ _) _) _ _ _); refine y_callM ?_)
  | refine y_append (by assumption) (by walk_at "mem") ?_
  | refine isTrue_and ?_
  | refine isTrue_and_nil ?_
  | refine ite_t ?_
  | refine ite_f ?_
  | refine x_assignT ?_
  | refine IfExp_ ?_
  | refine UnaryOp_ ?_
  | (refine r_neg (by assumption) ?_; walk_at "clr"; intro t s S)
  | refine cont_next ?_
  | refine x_nil ?_)
local macro_rules | `(tactic| walk_at "g") => `(tactic| with_reducible first
  | refine g_ld_token_type (by assumption) rfl ?_
  | refine g_ld_text (by assumption) rfl ?_
  | refine g_ld_start (by assumption) rfl ?_
  | refine g_ld_end (by assumption) rfl ?_
  | refine g_ld_line (by assumption) rfl ?_
  | refine g_ld_prev_start (by assumption) rfl ?_
  | refine g_ld_prev_end (by assumption) rfl ?_
  | refine g_ld_parens (by assumption) rfl ?_
  | refine g_ld_comment (by assumption) rfl ?_
  | refine g_ld_backslash (by assumption) rfl ?_
  | (refine g_st_comment (by assumption) ?_; walk_at "clr"; intro s S)
  | (refine g_st_backslash (by assumption) ?_; walk_at "clr"; intro s S)
  | (refine g_st_prev_start (by assumption) ?_; walk_at "clr"; intro s S)
  | (refine g_st_prev_end (by assumption) ?_; walk_at "clr"; intro s S)
  | (refine g_st_parens (by assumption) ?_; walk_at "clr"; intro s S)
  | refine g_ll_comment (by assumption) rfl ?_
  | refine g_ll_backslash (by assumption) rfl ?_
  | refine g_ll_prev_start (by assumption) rfl ?_
  | refine g_ll_prev_end (by assumption) rfl ?_
  | refine g_ll_parens (by assumption) rfl ?_
  | refine x_aug ?_
  | (refine r_iadd (by assumption) ?_; walk_at "clr"; intro t s S)
  | (refine r_isub (by assumption) ?_; walk_at "clr"; intro t s S)
  | refine y_isTrueName ?_
  | refine y_truthyInt ?_
  | refine isTrue_not ?_
  | refine Constant_bool ?_
  | refine Constant_none ?_
  | refine ⟨rfl, ?_⟩)
section
variable {prog : Program} {w : World} {A A₀ : Around} {s : Shared} {env : Env} {base : Heap} {outer : List Env}
variable {hb : Heap} {L : Addr} {m : Str → Option Value} {led imm own : Led} {R : Rest}
variable {Q : Value → Shared → Prop} {QB : Bool → Shared → Prop} {QF : Flow → Shared → Prop}

theorem St.pushed (S : St hb L m led imm own R s) {D : Addr} {o : Obj} {h' : Heap} (tk : Nat) (hD : s.heap.objs.size ≤ D) (F : Fr hb L h' m) (N : News hb L h' ((D, o) :: (led ++ (imm ++ own)))) : St hb L m led ((D, o) :: imm) own R { s with heap := h', toks := tk } := by
  have hlt : ∀ p ∈ led ++ (imm ++ own), p.1 ≠ D := fun p hp => Nat.ne_of_lt (Nat.lt_of_lt_of_le (Heap.lt_size (S.N p hp).1) hD)
  refine ⟨F, fun p hp => N p ?_, S.nd, ?_, ?_, S.r⟩
  · simp only [List.mem_append, List.mem_cons] at hp ⊢
    rcases hp with h | (h | h) | h <;> simp [h]
  · intro p hp b hb'
    have hp' : p = (D, o) ∨ p ∈ imm ++ own := by simpa using hp
    rcases hp' with rfl | hp'
    · obtain ⟨q, hq, rfl⟩ := List.mem_map.mp hb'
      exact (hlt q (by simp [hq])).symm
    · exact S.off p hp' b hb'
  · intro p hp q hq
    rcases List.mem_cons.mp hq with rfl | hq
    · exact hlt p (by simp [hp])
    · exact S.sep p hp q hq
theorem r_splitlines {x : Str} {t : Tok} (S : St hb L m led imm own R s) (h1 : x.length ≤ 1000000) (h2 : (lineCuts x).length ≤ 1000000)
    (h : ∀ D l s', l.map (·.1) = Txt.lines x → St hb L m led ((D, listOf (strValues l).toArray 0) :: imm) own R s' → Q (.ref D) s') : wpAny (model prog w) A (call (.builtin "str.splitlines") [.str x t]) Q NoE s :=
  splitlinesN S.F S.N (fun l h' k e F' N' => h _ l _ e (S.pushed k (Nat.le_refl _) F' N')) (by rw [sizeLine_eq]; omega) (by rw [sizeLine_eq]; omega)
theorem strValues_back {l : List (Str × Tok)} {x z : Str} (e : l.map (·.1) = Txt.lines x) (hz : (Txt.lines x).getLast? = some z) : ∃ u, (strValues l)[((-1 : Int) + ((strValues l).length : Int)).toNat]? = some (.str z u) := by
  rw [← e, List.getLast?_map] at hz
  cases hl : l.getLast? with
  | none => rw [hl] at hz; cases hz
  | some p =>
    rw [hl] at hz
    have hz' : p.1 = z := by simpa using hz
    refine ⟨p.2, ?_⟩
    have en : ((-1 : Int) + ((strValues l).length : Int)).toNat = l.length - 1 := by simp only [strValues, List.length_map]; omega
    rw [en]
    rw [List.getLast?_eq_getElem?] at hl
    simp only [strValues, List.getElem?_map, hl, Option.map_some, hz']
theorem lines_len {x : Str} : (Txt.lines x).length ≤ (lineCuts x).length + 1 := by
  unfold Txt.lines
  split
  · simp
  · simp [linesOf]
theorem lineOk_len {x : Str} {b : List Nat} (h : LineOk x b) : b.length ≤ x.length := by
  obtain ⟨_, _, pre, e, hx, _⟩ := h.cut
  rw [← length_toList, hx]
  simp
  omega
theorem y_callC {f : Expr} {as : List Expr} {cp : Pos} {name : Str} {apos pos : Pos} {args : List Expr} {pl : Sem Bool}
    (h : wpAny (model prog w) A (eval (.Call f as [] cp) env) (fun ov s₁ => wpAny (model prog w) A (getMethod ov name pl) (fun fx s₂ => wpAny (model prog w) A (callWith pos fx.fst fx.snd (backTo pos (starEach args env)) []) Q NoE s₂) NoE s₁) NoE s)
    (he : eval (.Call (.Attribute (.Call f as [] cp) name apos) args [] pos) env = (do
          let ov ← eval (.Call f as [] cp) env
          standAt apos.atName
          let __x ← holding [ov] (getMethod ov name pl)
          match __x with
            | (f, first) => callWith pos f first (backTo pos (starEach args env)) []) := by with_unfolding_all rfl) :
    wpAny (model prog w) A (eval (.Call (.Attribute (.Call f as [] cp) name apos) args [] pos) env) Q NoE s := MethodCall_ h he

def gc2 (g : G) (t : TkL) : G := { g with comment := if t.sr ≠ g.ps then false else g.comment }
theorem gC2 {tl : Addr} {g : G} {t : TkL} (I : GT tl g t imm m) (S : St hb L m led imm own R s) :
    wpAny (model prog w) A (execs [nth genBody 2] (genv L)) (fun f s' => f = .next ∧ ∃ m', St hb L m' led imm own R s' ∧ GT tl (gc2 g t) t imm m') NoE s := by
  obtain ⟨v0, t1, t2, t3, bv, a, b, line, t7, t8, t11, sc, ec, u1, u2, u3, u4, n1, n2, rfl, hbv, ha, hb', hl, hlen⟩ := I
  refine x_ifLast ?_
  repeat (first | walk_at "go" | walk_at "g")
  refine y_tup0 (by assumption) ha ?_
  repeat (first | walk_at "go" | walk_at "g")
  refine b_dec (fun hk => ?_) (fun hk => ?_)
  · refine x_assign ?_
    repeat (first | walk_at "go" | walk_at "g")
    have e : (gc2 g t).comment = false := by simp only [gc2, if_pos hk]
    exact ⟨_, (by assumption), v0, t1, t2, t3, bv, a, b, line, t7, t8, t11, sc, ec, u1, u2, u3, u4, n1, n2, by rw [e]; rfl, hbv, ha, hb', hl, hlen⟩
  · have e : (gc2 g t).comment = g.comment := by simp only [gc2, if_neg hk]
    exact x_nil ⟨rfl, _, (by assumption), v0, t1, t2, t3, bv, a, b, line, t7, t8, t11, sc, ec, u1, u2, u3, u4, n1, n2, by rw [e]; rfl, hbv, ha, hb', hl, hlen⟩
def gc4 (g : G) (t : TkL) : G := { g with parens := if t.kind = 54 then g.parens + delta t.text else g.parens }
theorem gC4 {tl : Addr} {g : G} {t : TkL} (BS : Bs w A₀ base outer hb) (I : GT tl g t imm m) (S : St hb L m led imm own R s) :
    wpAny (model prog w) A (execs [nth genBody 4] (genv L)) (fun f s' => f = .next ∧ ∃ m', St hb L m' led imm own R s' ∧ GT tl (gc4 g t) t imm m') NoE s := by
  obtain ⟨v0, t1, t2, t3, bv, a, b, line, t7, t8, t11, sc, ec, u1, u2, u3, u4, n1, n2, rfl, hbv, ha, hb', hl, hlen⟩ := I
  refine x_ifLast ?_
  repeat (first | walk_at "go" | walk_at "g")
  refine g_OP BS (by assumption) fun t12 s S => ?_
  repeat (first | walk_at "go" | walk_at "g")
  refine b_dec (fun hk => ?_) (fun hk => ?_)
  · refine x_ifLast ?_
    repeat (first | walk_at "go" | walk_at "g")
    refine r_in ?_
    show wpAny _ _ (truthy (.bool (isIn "([{" t.text))) _ _ _
    repeat (first | walk_at "go" | walk_at "g")
    cases h1 : isIn "([{" t.text with
    | true =>
      refine ite_t ?_
      refine x_aug ?_
      repeat (first | walk_at "go" | walk_at "g")
      have e : (gc4 g t).parens = g.parens + 1 := by simp only [gc4, if_pos hk, delta, h1, if_true]
      exact ⟨_, (by assumption), v0, t1, t2, _, bv, a, b, line, t7, t8, t11, sc, ec, u1, u2, u3, u4, n1, n2, by rw [e]; rfl, hbv, ha, hb', hl, hlen⟩
    | false =>
      refine ite_f ?_
      refine x_ifLast ?_
      repeat (first | walk_at "go" | walk_at "g")
      refine r_in ?_
      show wpAny _ _ (truthy (.bool (isIn ")]}" t.text))) _ _ _
      repeat (first | walk_at "go" | walk_at "g")
      cases h2 : isIn ")]}" t.text with
      | true =>
        refine ite_t ?_
        refine x_aug ?_
        repeat (first | walk_at "go" | walk_at "g")
        have e : (gc4 g t).parens = g.parens - 1 := by
          simp only [gc4, if_pos hk, delta, h1, h2, if_true, Bool.false_eq_true, if_false]
          omega
        exact ⟨_, (by assumption), v0, t1, t2, _, bv, a, b, line, t7, t8, t11, sc, ec, u1, u2, u3, u4, n1, n2, by rw [e]; rfl, hbv, ha, hb', hl, hlen⟩
      | false =>
        refine ite_f ?_
        have e : (gc4 g t).parens = g.parens := by
          simp only [gc4, if_pos hk, delta, h1, h2, Bool.false_eq_true, if_false]
          omega
        exact x_nil ⟨rfl, _, (by assumption), v0, t1, t2, t3, bv, a, b, line, t7, t8, t11, sc, ec, u1, u2, u3, u4, n1, n2, by rw [e]; rfl, hbv, ha, hb', hl, hlen⟩
  · have e : (gc4 g t).parens = g.parens := by simp only [gc4, if_neg hk]
    exact x_nil ⟨rfl, _, (by assumption), v0, t1, t2, t3, bv, a, b, line, t7, t8, t11, sc, ec, u1, u2, u3, u4, n1, n2, by rw [e]; rfl, hbv, ha, hb', hl, hlen⟩
def gc3 (g : G) (t : TkL) : G := { g with ps := if t.er ≠ g.pe then t.er else t.sr, pe := if t.er ≠ g.pe then t.er else g.pe, bs := if t.er ≠ g.pe then bsOf t.er t.b else g.bs }
set_option maxHeartbeats 4000000 in
theorem gC3 {tl : Addr} {g : G} {t : TkL} (BS : Bs w A₀ base outer hb) (I : GT tl g t imm m) (S : St hb L m led imm own R s) :
    wpAny (model prog w) A (execs [nth genBody 3] (genv L)) (fun f s' => f = .next ∧ ∃ m' imm', (∀ p ∈ imm, p ∈ imm') ∧ St hb L m' led imm' own R s' ∧ GT tl (gc3 g t) t imm' m') NoE s := by
  obtain ⟨v0, t1, t2, t3, bv, a, b, line, t7, t8, t11, sc, ec, u1, u2, u3, u4, n1, n2, rfl, hbv, ha, hb', hl, hlen⟩ := I
  refine x_ifLast ?_
  repeat (first | walk_at "go" | walk_at "g")
  refine y_tup0 (by assumption) hb' ?_
  repeat (first | walk_at "go" | walk_at "g")
  refine b_dec (fun hk => ?_) (fun hk => ?_)
  · refine x_if ?_
    refine y_isTrueCall ?_
    refine y_callC ?_
    refine y_callM ?_
    repeat (first | walk_at "go" | walk_at "g")
    refine GM.rstrip ?_
    repeat (first | walk_at "go" | walk_at "g")
    refine SC.rstripChars (fun t' k => ?_) (by rw [sizeLine_eq]; omega)
    rename_i S9
    replace S9 := S9.tok k
    refine GM.endswith ?_
    repeat (first | walk_at "go" | walk_at "g")
    refine SC.endswith ?_
    rw [line_ends hl]
    repeat (first | walk_at "go" | walk_at "g")
    obtain ⟨hcut, z, hz, hzl⟩ := line_last hl
    have hbl := lineOk_len hl
    refine b_dec (fun h92 => ?_) (fun h92 => ?_)
    · refine x_assign ?_
      repeat (first | walk_at "go" | walk_at "g" | with_reducible refine g_len BS (by assumption) ?_)
      refine y_tup0 (by assumption) hb' ?_
      repeat (first | walk_at "go" | walk_at "g" | with_reducible refine g_len BS (by assumption) ?_)
      refine GM.splitlines ?_
      refine y_callM0 ?_
      refine r_splitlines (by assumption) (by omega) (by omega) fun D l s hlm S => ?_
      have hll : l.length ≤ 10 := by
        have h1 := lines_len (x := line)
        rw [← hlm, List.length_map] at h1
        omega
      have hll2 : (strValues l).length = l.length := by simp [strValues]
      have hl0 : 0 < l.length := by
        rcases Nat.eq_zero_or_pos l.length with h | h
        · rw [← hlm, List.length_eq_zero_iff.mp h] at hz; cases hz
        · exact h
      obtain ⟨u, hu⟩ := strValues_back hlm hz
      repeat (first | walk_at "go" | walk_at "g" | with_reducible refine g_len BS (by assumption) ?_)
      refine r_back (by assumption) (mem_i (.head _)) (by decide) (by omega) (by omega) hu ?_
      repeat (first | walk_at "go" | walk_at "g" | with_reducible refine g_len BS (by assumption) ?_)
      refine r_lenStr (by assumption) (by omega) fun t20 s S => ?_

      repeat (first | walk_at "go" | walk_at "g" | with_reducible refine g_len BS (by assumption) ?_)
      refine cont_next ?_
      refine x_assign2 ?_
      repeat (first | walk_at "go" | walk_at "g" | with_reducible refine g_len BS (by assumption) ?_)
      refine y_tup0 (by assumption) (.tail _ (.tail _ hb')) ?_
      repeat (first | walk_at "go" | walk_at "g" | with_reducible refine g_len BS (by assumption) ?_)
      have e1 : gc3 g t = { g with ps := t.er, pe := t.er, bs := some (t.er, (t.b.length : Int) - 1) } := by simp only [gc3, if_pos hk, bsOf, if_pos h92]
      rw [e1]
      rw [← hzl]
      exact ⟨_, _, fun _ h => .tail _ (.tail _ h), (by assumption), v0, u3, u3, t3, _, a, b, line, t7, t8, t11, sc, ec, u1, u2, u3, u4, n1, n2, rfl, ⟨_, _, _, rfl, .head _⟩, .tail _ (.tail _ ha), .tail _ (.tail _ hb'), hl, hlen⟩
    · refine x_assign ?_
      repeat (first | walk_at "go" | walk_at "g" | with_reducible refine g_len BS (by assumption) ?_)
      refine x_assign2 ?_
      repeat (first | walk_at "go" | walk_at "g" | with_reducible refine g_len BS (by assumption) ?_)
      refine y_tup0 (by assumption) hb' ?_
      repeat (first | walk_at "go" | walk_at "g" | with_reducible refine g_len BS (by assumption) ?_)
      have e1 : gc3 g t = { g with ps := t.er, pe := t.er, bs := none } := by simp only [gc3, if_pos hk, bsOf, if_neg h92]
      rw [e1]
      exact ⟨_, imm, fun _ h => h, (by assumption), v0, u3, u3, t3, _, a, b, line, t7, t8, t11, sc, ec, u1, u2, u3, u4, n1, n2, rfl, rfl, ha, hb', hl, hlen⟩
  · have e1 : gc3 g t = { g with ps := t.sr } := by simp only [gc3, if_neg hk]
    rw [e1]
    refine x_assign ?_
    repeat (first | walk_at "go" | walk_at "g")
    refine y_tup0 (by assumption) ha ?_
    repeat (first | walk_at "go" | walk_at "g")
    exact ⟨_, imm, fun _ h => h, (by assumption), v0, _, t2, t3, bv, a, b, line, t7, t8, t11, sc, ec, u1, u2, u3, u4, n1, n2, rfl, hbv, ha, hb', hl, hlen⟩
end
end Mine

-- part G4
namespace Mine
open PySem PySem.W PyProof.Rows PySem.Calls

section
variable {prog : Program} {w : World} {A : Around} {RR : GenEnd} {Y : Protocol} {n : Nat} {s₀ : Shared} {c : Code} {fs : List Frame} {s : Shared} {env : Env}
  {K : Flow → Sem Fin} {H : Value → Sem Fin} {gd : Bool → Bool} {lv : List Value → List Value}

theorem seg_plain {st : Stmt} {rest : List Stmt}
    (h : wpAny (model prog w) (A.over c fs) (execs [st] env) (fun f s' => f = .next ∧ Seg (model prog w) A RR Y n s₀ c ((execs rest env).wrap K H gd lv) fs s') NoE s) :
    Seg (model prog w) A RR Y n s₀ c ((execs (st :: rest) env).wrap K H gd lv) fs s := by
  refine seg_execs_cons (seg_wrap ?_)
  have key : wpAny (model prog w) (A.over c fs) (exec st env) (fun f s' => f = .next ∧ Seg (model prog w) A RR Y n s₀ c ((execs rest env).wrap K H gd lv) fs s') NoE s := by
    intro Γ p hΓ
    have := h Γ p hΓ
    rw [execs_cons, Sem.wp_bind'] at this
    refine Sem.wp_mono _ Γ _ (fun f p' s' hf => ?_) (fun _ _ _ x => x) p s this
    cases f with
    | next => exact hf
    | _ => exact hf
  refine wpAny_mono key (fun f s' hf => ?_) fun _ _ x => x.elim
  obtain ⟨rfl, hf⟩ := hf
  exact hf
theorem seg_If {test : Expr} {body orelse : List Stmt} {pos : Pos}
    (h : wpAny (model prog w) (A.over c fs) (isTrue test env (eval test env)) (fun b s' => if b = true then Seg (model prog w) A RR Y n s₀ c ((execs body env).wrap K H gd lv) fs s' else Seg (model prog w) A RR Y n s₀ c ((execs orelse env).wrap K H gd lv) fs s') NoE s) :
    Seg (model prog w) A RR Y n s₀ c ((exec (.If test body orelse pos) env).wrap K H gd lv) fs s := by
  show Seg _ A RR Y n s₀ c (.at pos fun _ => ((isTrue test env (eval test env) >>= fun b => if b = true then execs body env else execs orelse env)).wrap K H gd lv) fs s
  refine seg_at (seg_bind_wrap (wpAny_mono h (fun b s' hb => ?_) fun _ _ x => x.elim))
  cases b with
  | true => exact hb
  | false => exact hb
theorem seg_For {target iter : Expr} {body orelse : List Stmt} {pos : Pos}
    (h : wpAny (model prog w) (A.over c fs) (eval iter env) (fun x s₁ => wpAny (model prog w) (A.over c fs) (pyIter x) (fun it s₂ => ∀ (p : Pos) (kf : Result → Sem Fin), kf (.ok .next) = K .next →
      Seg (model prog w) A RR Y n s₀ (.forLoop target it body orelse env) ((model prog w).den (.forLoop target it body orelse env)) (.ret kf none (gd false) (lv []) c p [] :: fs) s₂) NoE s₁) NoE s)
    (hs : ∀ x, foldedSetIterable iter env x = pure x := by intro _; rfl) :
    Seg (model prog w) A RR Y n s₀ c ((exec (.For target iter body orelse pos) env).wrap K H gd lv) fs s := by
  rw [exec_For]
  show Seg _ A RR Y n s₀ c (.at pos fun _ => ((eval iter env >>= fun y => foldedSetIterable iter env y >>= fun x => standAt iter.pos >>= fun _ => holding [x] (pyIter x) >>= fun it => runOwn (.forLoop target it body orelse env) env)).wrap K H gd lv) fs s
  refine seg_at (seg_bind_wrap (wpAny_mono h (fun x s₁ h₁ => ?_) fun _ _ x => x.elim))
  refine seg_bind_wrap (wpAny_of_eq (hs x) ?_)
  refine seg_bind_wrap (wpAny_standAt ?_)
  refine seg_bind_wrap (wpAny_holding (wpAny_mono h₁ (fun it s₂ h₂ => ?_) fun _ _ x => x.elim))
  unfold runOwn run
  rw [Sem.onRaise_eq_wrap]
  simp only [Sem.wrap]
  exact seg_call fun p => h₂ p _ rfl
def Kb (target : Expr) (it : Value) (body orelse : List Stmt) (env : Env) : Flow → Sem Fin
  | .next | .cont => .pure (.again (.forLoop target it body orelse env))
  | .brk => .pure (.done .next)
  | .ret v => .pure (.done (.ret v))
theorem seg_forLoop {target : Expr} {it : Value} {body orelse : List Stmt}
    (h : wpAny (model prog w) (A.over (.forLoop target it body orelse env) fs) (pyNext it) (fun r s₁ => match r with
      | none => Seg (model prog w) A RR Y n s₀ (.forLoop target it body orelse env) (.pure (.again (.block orelse env))) fs s₁
      | some v => wpAny (model prog w) (A.over (.forLoop target it body orelse env) fs) (letOwnedTupleGo target it v) (fun _ s₂ =>
          wpAny (model prog w) (A.over (.forLoop target it body orelse env) fs) (assign target env v) (fun _ s₃ => ∀ H : Value → Sem Fin,
            Seg (model prog w) A RR Y n s₀ (.forLoop target it body orelse env) ((execs body env).wrap (Kb target it body orelse env) H id id) fs s₃) NoE s₂) NoE s₁) NoE s) :
    Seg (model prog w) A RR Y n s₀ (.forLoop target it body orelse env) ((model prog w).den (.forLoop target it body orelse env)) fs s := by
  show Seg _ A RR Y n s₀ _ ((forTurn target it body orelse env).onRaise (fun x => do noteFrame x env; theTreesLotGoes x)) fs s
  unfold forTurn
  rw [Sem.onRaise_eq_wrap]
  refine seg_bind_wrap (wpAny_standAt ?_)
  refine seg_bind_wrap (wpAny_onRaise (wpAny_mono h (fun r s₁ h₁ => ?_) fun _ _ x => x.elim))
  cases r with
  | none => exact h₁
  | some v =>
    refine seg_bind_wrap (wpAny_mono h₁ (fun _ s₂ h₂ => ?_) fun _ _ x => x.elim)
    refine seg_bind_wrap (wpAny_mono h₂ (fun _ s₃ h₃ => ?_) fun _ _ x => x.elim)
    rw [Sem.bind_eq_wrap', Sem.wrap_wrap]
    rw [Sem.wrap_congr (execs body env) _ _ (K' := Kb target it body orelse env) (fun f => by cases f <;> rfl) (fun _ => rfl)]
    exact h₃ _
end
end Mine

-- part G5
namespace Mine
open PySem PySem.W PyProof.Rows PySem.Calls
local macro_rules | `(tactic| walk_at "clr") => `(tactic| ((rename St _ _ _ _ _ _ _ _ => Sx); clear Sx))
local macro_rules | `(tactic| walk_at "sub") => `(tactic| first
  | exact fun _ h => h
  | exact fun _ h => .tail _ h
  | exact fun _ h => .tail _ (.tail _ h)
  | exact fun _ h => .tail _ (.tail _ (.tail _ h))
  | exact fun _ h => .tail _ (.tail _ (.tail _ (.tail _ h)))
  | exact fun _ h => .tail _ (.tail _ (.tail _ (.tail _ (.tail _ h))))
  | exact fun _ h => .tail _ (.tail _ (.tail _ (.tail _ (.tail _ (.tail _ h))))))
local macro_rules | `(tactic| walk_at "mem") => `(tactic| first
  | exact mem_l0
  | exact mem_l1
  | exact mem_l2
  | exact mem_l3
  | exact mem_l4
  | exact mem_i (by assumption)
  | exact mem_i (.head _)
  | exact mem_i (.tail _ (.head _))
  | exact mem_i (.tail _ (.tail _ (.head _)))
  | fail "mem")
local macro_rules | `(tactic| walk_at "go") => `(tactic| with_reducible first
  | (refine r_int (by assumption) ?_; walk_at "clr"; intro t s S)
  | refine y_more ?_
  | refine spliced_none ?_
  | refine r_tuple ?_
  | (refine r_newTuple (by assumption) ?_; walk_at "clr"; intro a s S)
  | refine wpAny_BinOp ?_
  | refine Subscript_ ?_
  | refine y_callN (id := "len") ?_
  | refine y_callB ?_
  | refine y_callT ?_
  | refine y_callM1 ?_
  | refine wpAny_truthy_bool ?_
  | (refine r_add (by assumption) ?_; walk_at "clr"; intro t s S)
  | refine x_assign ?_
  | refine y_isTrueCmp ?_
  | refine r_lt ?_
  | refine r_eqi ?_
  | refine r_nei ?_
  | refine r_gt ?_
  | (refine r_str (by assumption) ?_; walk_at "clr"; intro t s S)
  | (refine r_sub (by assumption) ?_; walk_at "clr"; intro t s S)
  | refine r_list ?_
  | (refine r_newList (by assumption) ?_; walk_at "clr"; intro a s S hnew)
  | refine x_return ?_
  | refine x_expr ?_
  | ((show wpAny _ _ (eval (Expr.Call (Expr.Attribute (Expr.Name _ _) _ _) _ _ _) _) _ _ _); refine y_callM ?_)
  | refine y_append (by assumption) (by walk_at "mem") ?_
  | refine isTrue_and ?_
  | refine isTrue_and_nil ?_
  | refine ite_t ?_
  | refine ite_f ?_
  | refine x_assignT ?_
  | refine IfExp_ ?_
  | refine UnaryOp_ ?_
  | (refine r_neg (by assumption) ?_; walk_at "clr"; intro t s S)
  | refine cont_next ?_
  | refine x_nil ?_)
local macro_rules | `(tactic| walk_at "g") => `(tactic| with_reducible first
  | refine g_ld_token_type (by assumption) rfl ?_
  | refine g_ld_text (by assumption) rfl ?_
  | refine g_ld_start (by assumption) rfl ?_
  | refine g_ld_end (by assumption) rfl ?_
  | refine g_ld_line (by assumption) rfl ?_
  | refine g_ld_prev_start (by assumption) rfl ?_
  | refine g_ld_prev_end (by assumption) rfl ?_
  | refine g_ld_parens (by assumption) rfl ?_
  | refine g_ld_comment (by assumption) rfl ?_
  | refine g_ld_backslash (by assumption) rfl ?_
  | (refine g_st_comment (by assumption) ?_; walk_at "clr"; intro s S)
  | (refine g_st_backslash (by assumption) ?_; walk_at "clr"; intro s S)
  | (refine g_st_prev_start (by assumption) ?_; walk_at "clr"; intro s S)
  | (refine g_st_prev_end (by assumption) ?_; walk_at "clr"; intro s S)
  | (refine g_st_parens (by assumption) ?_; walk_at "clr"; intro s S)
  | refine g_ll_comment (by assumption) rfl ?_
  | refine g_ll_backslash (by assumption) rfl ?_
  | refine g_ll_prev_start (by assumption) rfl ?_
  | refine g_ll_prev_end (by assumption) rfl ?_
  | refine g_ll_parens (by assumption) rfl ?_
  | refine x_aug ?_
  | (refine r_iadd (by assumption) ?_; walk_at "clr"; intro t s S)
  | (refine r_isub (by assumption) ?_; walk_at "clr"; intro t s S)
  | refine y_isTrueName ?_
  | refine y_truthyInt ?_
  | refine isTrue_not ?_
  | refine Constant_bool ?_
  | refine Constant_none ?_
  | refine ⟨rfl, ?_⟩)
section
variable {prog : Program} {w : World} {A A₀ : Around} {s : Shared} {env : Env} {base : Heap} {outer : List Env}
variable {hb : Heap} {L : Addr} {m : Str → Option Value} {led imm own : Led} {R : Rest}
variable {QU : Unit → Shared → Prop}

def TokAt (imm : Led) (v : Value) (t : TkL) : Prop :=
  ∃ (p a b : Addr) (line : Str) (t7 t8 t11 : Tok) (sc ec : Int) (u1 u2 u3 u4 : Tok) (n1 n2 : Nat), v = .ref p ∧
    (p, ({ cls := .type "tuple", data := .seq #[.int t.kind t7, .str t.text t8, .ref a, .ref b, .str line t11] } : Obj)) ∈ imm ∧ (a, tup2 t.sr sc u1 u2 n1) ∈ imm ∧ (b, tup2 t.er ec u3 u4 n2) ∈ imm ∧ LineOk line t.b ∧ line.length ≤ 5000
theorem TokAt.mono {imm' : Led} {v : Value} {t : TkL} (h : TokAt imm v t) (hs : ∀ q ∈ imm, q ∈ imm') : TokAt imm' v t := by
  obtain ⟨p, a, b, line, t7, t8, t11, sc, ec, u1, u2, u3, u4, n1, n2, e, h1, h2, h3, h4⟩ := h
  exact ⟨p, a, b, line, t7, t8, t11, sc, ec, u1, u2, u3, u4, n1, n2, e, hs _ h1, hs _ h2, hs _ h3, h4⟩
def ToksAt (imm : Led) (vs : List Value) (ts : List TkL) : Prop := vs.length = ts.length ∧ ∀ (i : Nat) (t : TkL), ts[i]? = some t → ∃ v, vs[i]? = some v ∧ TokAt imm v t
theorem ToksAt.mono {imm' : Led} {vs : List Value} {ts : List TkL} (h : ToksAt imm vs ts) (hs : ∀ q ∈ imm, q ∈ imm') : ToksAt imm' vs ts :=
  ⟨h.1, fun i t ht => by obtain ⟨v, a, b⟩ := h.2 i t ht; exact ⟨v, a, b.mono hs⟩⟩

theorem g_unpack {tl p : Addr} {g : G} {t : TkL} {k : Nat} {pos : Pos} (hh : A.handled = none) {p1 p2 p3 p4 p5 : Pos} (I : GM tl g imm m) (T : TokAt imm (.ref p) t) (S : St hb L m led imm own R s)
    (h : ∀ m' s', St hb L m' led imm own R s' → GT tl g t imm m' → QU () s') :
    wpAny (model prog w) A (assign (.Tuple [.Name "token_type" p1, .Name "text" p2, .Name "start" p3, .Name "end" p4, .Name "line" p5] k pos) (genv L) (.ref p)) QU NoE s := by
  obtain ⟨v0, t1, t2, t3, bv, v7, v8, v9, v10, v11, rfl, hbv⟩ := I
  obtain ⟨p', a, b, line, t7, t8, t11, sc, ec, u1, u2, u3, u4, n1, n2, e, hp, ha, hb', hl, hlen⟩ := T
  cases e
  refine y_unpackTup (vs := [.int t.kind t7, .str t.text t8, .ref a, .ref b, .str line t11]) S (mem_i hp) hh rfl rfl fun s S => ?_
  refine assignInOrder_cons (wpAny_assign_Name (g_st_token_type S fun s S => ?_))
  refine assignInOrder_cons (wpAny_assign_Name (g_st_text S fun s S => ?_))
  refine assignInOrder_cons (wpAny_assign_Name (g_st_start S fun s S => ?_))
  refine assignInOrder_cons (wpAny_assign_Name (g_st_end S fun s S => ?_))
  refine assignInOrder_cons (wpAny_assign_Name (g_st_line S fun s S => ?_))
  exact assignInOrder_nil (h _ _ S ⟨v0, t1, t2, t3, bv, a, b, line, t7, t8, t11, sc, ec, u1, u2, u3, u4, n1, n2, rfl, hbv, ha, hb', hl, hlen⟩)

theorem St.lose {l1 : Led} {I : Addr} {o : Obj} {h' : Heap} (S : St hb L m (l1 ++ [(I, o)]) imm own R s) (tk : Nat) (hx : Heap.ExtBut I s.heap h') : St hb L m l1 imm own R { s with heap := h', toks := tk } := by
  have S' := S.toImm
  have z := S.N (I, o) (by simp)
  have nd := S.nd
  rw [List.map_append, List.nodup_append] at nd
  refine ⟨⟨S.F.ns.at' fun o e => hx L o (Ne.symm z.2.1) e, fun b o e => hx b o (fun hI => by rw [hI] at e; rw [z.2.2] at e; cases e) (S.F.keep b o e), S.F.above⟩, ?_, S'.nd, fun p hp => S'.off p (by
    simp only [List.mem_append, List.mem_cons] at hp ⊢; rcases hp with h | h <;> simp [h]), fun p hp q hq => S.sep p hp q hq, S.r⟩
  intro p hp
  have hne : p.1 ≠ I := by
    simp only [List.mem_append] at hp
    rcases hp with h | h | h
    · exact nd.2.2 p.1 (List.mem_map.mpr ⟨p, h, rfl⟩) I (by simp)
    · exact S.off p (by simp [h]) I (by simp)
    · exact S.off p (by simp [h]) I (by simp)
  have y := S.N p (by
    simp only [List.mem_append] at hp ⊢
    rcases hp with h | h | h <;> simp [h])
  exact ⟨hx p.1 p.2 hne y.1, y.2⟩

/-- the rows of the generator's life, as its reader sees them -/
def YY (hb : Heap) (Lg S : Addr) (own keep : Led) (ys : List (Int × Int)) : Protocol := fun m s₀ v s kap =>
  (s.gens, s.drawn, s.os) = (s₀.gens, s₀.drawn, s₀.os) ∧ m < ys.length ∧ ∃ (acc : List Value) (n : Nat) (mg : Str → Option Value) (rest imm : Led),
    St hb Lg mg ((S, listOf acc.toArray n) :: rest) imm own (s.gens, s.drawn, s.os) s ∧ (∀ p ∈ keep, p ∈ imm) ∧ acc.length + 1 + m = ys.length ∧ DatAll imm (acc ++ [v]) ((ys.take (ys.length - m)).map datDue) ∧
    ∀ (s'' : Shared) (n' : Nat), St hb Lg mg ((S, listOf (acc ++ [v]).toArray n') :: rest) imm own (s''.gens, s''.drawn, s''.os) s'' → kap (.send .none) s''
def PP (hb : Heap) (Lg S : Addr) (own keep : Led) (ys : List (Int × Int)) : Nat → Shared → Shared → Prop := fun m s₀ s =>
  (s.gens, s.drawn, s.os) = (s₀.gens, s₀.drawn, s₀.os) ∧ m = 0 ∧ ∃ (acc : List Value) (n : Nat) (mg : Str → Option Value) (rest imm : Led),
    St hb Lg mg ((S, listOf acc.toArray n) :: rest) imm own (s.gens, s.drawn, s.os) s ∧ (∀ p ∈ keep, p ∈ imm) ∧ acc.length = ys.length ∧ DatAll imm acc (ys.map datDue)

theorem letOwned_iter {target : Expr} {I q tl : Addr} {o : Obj} {i : Nat} (ho : s.heap.get? I = some o) (hc : o.cls = .type "list_iterator") (hd : o.data = .fields #[.ref tl, .int i 0]) (h : QU () s) :
    wpAny (model prog w) A (letOwnedTupleGo target (.ref I) (.ref q)) QU NoE s := by
  unfold letOwnedTupleGo
  split
  · refine wpAny_bind (wpAny_load ho ?_)
    rw [hc, hd]
    show wpAny _ _ (if (false && _) = true then _ else _) _ _ _
    simp only [Bool.false_and, Bool.false_eq_true, if_false]
    exact wpAny_pure h
  · refine wpAny_bind (wpAny_load ho ?_)
    rw [hc, hd]
    show wpAny _ _ (if (false && _) = true then _ else _) _ _ _
    simp only [Bool.false_and, Bool.false_eq_true, if_false]
    exact wpAny_pure h
  · exact wpAny_pure h
theorem gt_gm {tl : Addr} {g : G} {t : TkL} (h : GT tl g t imm m) : GM tl g imm m := by
  obtain ⟨v0, t1, t2, t3, bv, a, b, line, t7, t8, t11, sc, ec, u1, u2, u3, u4, n1, n2, e, hbv, _⟩ := h
  exact ⟨v0, t1, t2, t3, bv, _, _, _, _, _, e, hbv⟩
theorem gy_cond {g : G} {t : TkL} : gy g t = if gcond (gc g t) t = true then (gc g t).bs.toList else [] := by
  unfold gy gcond gc
  cases hb : g.bs with
  | none => simp
  | some p =>
    simp only [Option.isSome_some, Option.toList_some, Bool.and_true]
    by_cases h1 : t.sr = g.ps <;> by_cases h2 : g.parens = 0 <;> cases h3 : (g.comment || t.kind == 61) <;> simp [h1, h2, h3]
theorem gs_eq {g : G} {t : TkL} : gc4 (gc3 (gc2 (gc g t) t) t) t = gs g t := by
  unfold gc4 gc3 gc2 gc gs
  rfl

def gFor : Stmt := nth gBody 3
def gTarget : Expr := match gFor with | .For t _ _ _ _ => t | _ => default
def gYield : Stmt := match nth genBody 1 with | .If _ b _ _ => nth b 0 | _ => default

set_option maxHeartbeats 4000000 in
theorem seg_gen {Lg S tl I : Addr} {keep : Led} {ys : List (Int × Int)} {tv : List Value} {tn : Nat} {ts0 : List TkL} {fs : List Frame}
    (BS : Bs w A₀ base outer hb) (hsp : splitAtGen fs = none) (hfg : fs.any Frame.guarded = false) (hh : (A.over (.forLoop gTarget (.ref I) genBody [] (genv Lg)) fs).handled = none)
    (hend : ∀ s₀ s, PP hb Lg S own keep ys 0 s₀ s → Seg (model prog w) A (fun n s₀ r s₁ => r = .ok (.ret .none) ∧ PP hb Lg S own keep ys n s₀ s₁) (YY hb Lg S own keep ys) 0 s₀ (.block [] (genv Lg)) (leafOf (.ok .next)) fs s)
    (hlen : ts0.length ≤ 5000) :
    ∀ (k i : Nat) (ts : List TkL) (g : G) (pre : List (Int × Int)) (acc : List Value) (n : Nat) (m : Str → Option Value) (imm : Led) (oI : Obj) (s₀ s : Shared), ts = ts0.drop i → i + k = ts0.length →
      (s.gens, s.drawn, s.os) = (s₀.gens, s₀.drawn, s₀.os) → St hb Lg m [(S, listOf acc.toArray n), (I, oI)] imm own (s.gens, s.drawn, s.os) s → GM tl g imm m → (∀ p ∈ keep, p ∈ imm) →
      (tl, listOf tv.toArray tn) ∈ imm → ToksAt imm tv ts0 → oI.cls = .type "list_iterator" → oI.data = .fields #[.ref tl, .int i 0] → DatAll imm acc (pre.map datDue) → pre ++ grun g ts = ys →
      Seg (model prog w) A (fun n s₀ r s₁ => r = .ok (.ret .none) ∧ PP hb Lg S own keep ys n s₀ s₁) (YY hb Lg S own keep ys) (grun g ts).length s₀
        (.forLoop gTarget (.ref I) genBody [] (genv Lg)) ((model prog w).den (.forLoop gTarget (.ref I) genBody [] (genv Lg))) fs s := by
  intro k
  induction k with
  | zero =>
    intro i ts g pre acc n m imm oI s₀ s hts hi hg0 St1 hM hkeep htl hT hc hd hacc hys
    have e0 : ts = [] := by rw [hts]; exact List.drop_of_length_le (by omega)
    subst e0
    have hys' : pre = ys := by simpa [grun] using hys
    subst hys'
    refine seg_forLoop ?_
    have zI := St1.mem (p := (I, oI)) (by simp)
    have hit : s.heap.IsListIter I tl i := ⟨oI, zI, hc, hd⟩
    have hl : s.heap.IsList tl tv.toArray := ⟨_, St1.mem (mem_i htl), rfl, tn, rfl⟩
    refine wpAny_pyNext_list_end hh hit hl (by simp; have := hT.1; omega) fun h' hx => ?_
    refine seg_again rfl (hend s₀ _ ⟨hg0, rfl, acc, n, m, [], imm, ?_, hkeep, ?_, hacc⟩)
    · exact St.lose (l1 := [(S, listOf acc.toArray n)]) St1 s.toks hx
    · have := hacc.length
      simpa using this
  | succ k ih =>
    intro i ts g pre acc n m imm oI s₀ s hts hi hg0 St1 hM hkeep htl hT hc hd hacc hys
    obtain ⟨t, ht⟩ : ∃ t, ts0[i]? = some t := ⟨ts0[i]'(by omega), List.getElem?_eq_getElem _⟩
    have ets : ts = t :: ts0.drop (i + 1) := by
      rw [hts, List.drop_eq_getElem_cons (by omega)]
      have := (List.getElem?_eq_some_iff.mp ht).2
      rw [this]
    subst ets
    obtain ⟨v, hv, hTv⟩ := hT.2 i t ht
    have hTv0 := hTv
    obtain ⟨p, _, _, _, _, _, _, _, _, _, _, _, _, _, _, rfl, _⟩ := hTv0
    refine seg_forLoop ?_
    have zI := St1.mem (p := (I, oI)) (by simp)
    have hit : s.heap.IsListIter I tl i := ⟨oI, zI, hc, hd⟩
    have hl : s.heap.IsList tl tv.toArray := ⟨_, St1.mem (mem_i htl), rfl, tn, rfl⟩
    refine wpAny_pyNext_list_item hit hl (x := .ref p) (by simpa using hv) fun h' hit' hs' => ?_
    obtain ⟨oI', ho', hc', hd'⟩ := hit'
    have St2 := St1.turn (k := 1) s.toks rfl hs' ho'
    replace St2 : St hb Lg m [(S, listOf acc.toArray n), (I, oI')] imm own (s.gens, s.drawn, s.os) _ := St2
    show wpAny _ _ (letOwnedTupleGo gTarget (.ref I) (.ref p)) _ _ _
    refine letOwned_iter ho' hc' hd' ?_
    refine g_unpack hh hM hTv St2 fun m3 s3 St3 hT3 => ?_
    intro H
    show Seg _ _ _ _ _ _ _ ((execs [nth genBody 0, nth genBody 1, nth genBody 2, nth genBody 3, nth genBody 4] (genv Lg)).wrap _ _ _ _) _ _
    have hg3 : (s3.gens, s3.drawn, s3.os) = (s₀.gens, s₀.drawn, s₀.os) := St3.r.trans hg0
    -- the tail
    have tail : ∀ (s₀ s : Shared) (imm' : Led) (acc : List Value) (n : Nat) (pre : List (Int × Int)) (m : Str → Option Value), (s.gens, s.drawn, s.os) = (s₀.gens, s₀.drawn, s₀.os) →
        St hb Lg m [(S, listOf acc.toArray n), (I, oI')] imm' own (s.gens, s.drawn, s.os) s → GT tl (gc g t) t imm' m → (∀ p ∈ imm, p ∈ imm') → DatAll imm' acc (pre.map datDue) → pre ++ grun (gs g t) (ts0.drop (i + 1)) = ys →
        Seg (model prog w) A (fun n s₀ r s₁ => r = .ok (.ret .none) ∧ PP hb Lg S own keep ys n s₀ s₁) (YY hb Lg S own keep ys) (grun (gs g t) (ts0.drop (i + 1))).length s₀
          (.forLoop gTarget (.ref I) genBody [] (genv Lg)) ((execs [nth genBody 2, nth genBody 3, nth genBody 4] (genv Lg)).wrap (Kb gTarget (.ref I) genBody [] (genv Lg)) H id id) fs s := by
      intro s₀ s imm' acc n pre m hg St4 hT4 hsub hacc hys
      refine seg_plain (wpAny_mono (gC2 hT4 St4) (fun f s' hf => ?_) fun _ _ x => x)
      obtain ⟨rfl, m5, St5, hT5⟩ := hf
      refine ⟨rfl, seg_plain (wpAny_mono (gC3 BS hT5 St5) (fun f s' hf => ?_) fun _ _ x => x)⟩
      obtain ⟨rfl, m6, imm6, hsub6, St6, hT6⟩ := hf
      refine ⟨rfl, seg_plain (wpAny_mono (gC4 BS hT6 St6) (fun f s' hf => ?_) fun _ _ x => x)⟩
      obtain ⟨rfl, m7, St7, hT7⟩ := hf
      refine ⟨rfl, seg_execs_nil (seg_again rfl ?_)⟩
      have hsub' : ∀ p ∈ imm, p ∈ imm6 := fun p hp => hsub6 p (hsub p hp)
      have e7 := St7.r
      exact ih (i + 1) _ (gs g t) pre acc n m7 imm6 oI' s₀ _ rfl (by omega) (e7.trans hg) (by rw [e7]; exact St7) (by rw [← gs_eq]; exact gt_gm hT7) (fun p hp => hsub' p (hkeep p hp)) (hsub' _ htl) (hT.mono hsub') hc' hd' (hacc.mono hsub6) hys
    refine seg_plain (wpAny_mono (gA BS hT3 St3) (fun f s' hf => ?_) fun _ _ x => x)
    obtain ⟨rfl, m4, St4, hT4⟩ := hf
    refine ⟨rfl, seg_execs_cons ?_⟩
    have hgy := gy_cond (g := g) (t := t)
    have hrun : grun g (t :: ts0.drop (i + 1)) = gy g t ++ grun (gs g t) (ts0.drop (i + 1)) := rfl
    refine seg_If (test := gTest) (body := [gYield]) (orelse := []) (wpAny_mono (gB BS hT4 St4) (fun b s' hb' => ?_) fun _ _ x => x)
    obtain ⟨hbe, St5⟩ := hb'
    have e5 := St5.r
    cases hcond : gcond (gc g t) t with
    | false =>
      rw [hcond] at hbe
      subst hbe
      rw [hcond] at hgy
      have hgy' : gy g t = [] := hgy
      rw [hrun, hgy', List.nil_append] at hys ⊢
      refine ite_f (seg_execs_nil ?_)
      exact tail s₀ s' imm acc n pre m4 (e5.trans hg0) (by rw [e5]; exact St5) hT4 (fun _ h => h) hacc hys
    | true =>
      rw [hcond] at hbe
      subst hbe
      rw [hcond] at hgy
      have hsome : (gc g t).bs.isSome = true := by
        unfold gcond at hcond
        simp only [Bool.and_eq_true] at hcond
        exact hcond.1.2
      obtain ⟨y, hy⟩ := Option.isSome_iff_exists.mp hsome
      have hgy' : gy g t = [y] := by rw [hgy, hy]; rfl
      have hlen1 : (grun g (t :: ts0.drop (i + 1))).length = (grun (gs g t) (ts0.drop (i + 1))).length + 1 := by rw [hrun, hgy']; simp
      rw [hlen1]
      rw [hrun, hgy'] at hys
      refine ite_t (seg_execs_cons (seg_Expr_Yield hsp rfl hfg (wpAny_mono (Q := fun v s' => ∃ r t6, v = .ref r ∧ ∃ bv, BsIs imm (gc g t).bs bv ∧
        St hb Lg m4 [(S, listOf acc.toArray n), (I, oI')] ((r, ({ cls := .type "tuple", data := .seq #[bv, .str msg t6] } : Obj)) :: imm) own (s.gens, s.drawn, s.os) s') ?_ (fun v s6 h6 => ?_) fun _ _ x => False.elim x)))
      · obtain ⟨v0, t1, t2, t3, bv, a, b, line, t7, t8, t11, sc, ec, u1, u2, u3, u4, n1, n2, rfl, hbv, _⟩ := hT4
        refine r_tuple (y_more (g_ld_backslash St5 rfl (y_more (r_str St5 fun t6 s6 St6 => spliced_none ?_))))
        exact r_newTuple St6 fun r s7 St7 => ⟨r, t6, rfl, bv, hbv, St7⟩
      · obtain ⟨r, t6, rfl, bv, hbv, St6⟩ := h6
        intro kap hkap
        have e6 := St6.r
        have hlen2 := congrArg List.length hys
        simp only [List.length_append, List.length_cons, List.length_nil] at hlen2
        have hal := hacc.length
        rw [List.length_map] at hal
        have htake : ys.take (ys.length - (grun (gs g t) (ts0.drop (i + 1))).length) = pre ++ [y] := by
          rw [← hys, ← List.append_assoc]
          exact List.take_left' (by simp only [List.length_append, List.length_cons, List.length_nil]; omega)
        rw [hy] at hbv
        obtain ⟨b, u1, u2, rfl, hbm⟩ := hbv
        have hacc' : DatAll ((r, ({ cls := .type "tuple", data := .seq #[.ref b, .str msg t6] } : Obj)) :: imm) (acc ++ [.ref r]) ((pre ++ [y]).map datDue) := by
          rw [List.map_append]
          exact (hacc.mono fun _ h => .tail _ h).append (.one (.tuple (vs := [.ref b, .str msg t6]) (.head _) (.cons (.tuple (vs := [.int y.1 u1, .int y.2 u2]) (.tail _ hbm) (.cons (.int _ _) (.cons (.int _ _) .nil))) (.cons (.str _ _) .nil))))
        refine ⟨e6.trans hg0, by omega, acc, n, m4, [(I, oI')], _, by rw [e6]; exact St6, fun p hp => .tail _ (hkeep p hp), by omega, by rw [htake]; exact hacc', fun s7 n' St7 => ?_⟩
        refine hkap .none s7 (seg_execs_nil ?_)
        refine tail s7 s7 _ (acc ++ [.ref r]) n' (pre ++ [y]) m4 rfl St7 ?_ (fun _ h => .tail _ h) hacc' (by rw [← hys]; simp)
        obtain ⟨v0, t1, t2, t3, bv, a, b, line, t7, t8, t11, sc, ec, u1, u2, u3, u4, n1, n2, e, hbv, ha, hb', hl⟩ := hT4
        exact ⟨v0, t1, t2, t3, bv, a, b, line, t7, t8, t11, sc, ec, u1, u2, u3, u4, n1, n2, e, hbv.mono (fun _ h => .tail _ h), .tail _ ha, .tail _ hb', hl⟩
end
end Mine

-- part G6
namespace Mine
open PySem PySem.W PyProof.Rows PySem.Calls

section
variable {prog : Program} {w : World} {A A₀ : Around} {s : Shared} {env : Env} {base : Heap} {outer : List Env}
variable {hb : Heap} {L : Addr} {m : Str → Option Value} {led imm own : Led} {R : Rest}

theorem St.gens (S : St hb L m led imm own R s) (s' : Shared) (h : s'.heap = s.heap) : St hb L m led imm own (s'.gens, s'.drawn, s'.os) s' := by
  refine ⟨by rw [h]; exact S.F, by rw [h]; exact S.N, S.nd, S.off, S.sep, rfl⟩
theorem St.keeps (S : St hb L m led imm own R s) (s' : Shared) (h : ∀ b o, s.heap.get? b = some o → s'.heap.get? b = some o) : St hb L m led imm own (s'.gens, s'.drawn, s'.os) s' :=
  ⟨S.F.keeps h, fun p hp => ⟨h _ _ (S.N p hp).1, (S.N p hp).2⟩, S.nd, S.off, S.sep, rfl⟩

set_option maxHeartbeats 4000000 in
theorem seg_start {Lg S tl : Addr} {keep : Led} {tv : List Value} {tn n : Nat} {ts0 : List TkL} {v0 : Option Value} {s₀ : Shared}
    (BS : Bs w A₀ base outer hb) (hA : A.handled = none) (hlen : ts0.length ≤ 5000)
    (St0 : St hb Lg (gm v0 (some (.ref tl)) none none none none none none none none none none) [(S, listOf ([] : List Value).toArray n)] imm own (s.gens, s.drawn, s.os) s) (hg : (s.gens, s.drawn, s.os) = (s₀.gens, s₀.drawn, s₀.os))
    (hkeep : ∀ p ∈ keep, p ∈ imm) (htl : (tl, listOf tv.toArray tn) ∈ imm) (hT : ToksAt imm tv ts0) :
    Seg (model prog w) A (fun n s₀ r s₁ => r = .ok (.ret .none) ∧ PP hb Lg S own keep (grun g0 ts0) n s₀ s₁) (YY hb Lg S own keep (grun g0 ts0)) (grun g0 ts0).length s₀
      (.func gBody (genv Lg)) ((model prog w).den (.func gBody (genv Lg))) [] s := by
  refine seg_func ?_
  show Seg _ _ _ _ _ _ _ ((execs [nth gBody 0, nth gBody 1, nth gBody 2, gFor] (genv Lg)).wrap _ _ _ _) _ _
  refine seg_plain ?_
  refine x_assign3 (r_int St0 fun t s St1 => g_st_prev_start St1 fun s St1 => g_st_prev_end St1 fun s St1 => g_st_parens St1 fun s St1 => x_nil ⟨rfl, ?_⟩)
  refine seg_plain ?_
  refine x_assign (Constant_bool (g_st_comment St1 fun s St1 => x_nil ⟨rfl, ?_⟩))
  refine seg_plain ?_
  refine x_assign (Constant_none (g_st_backslash St1 fun s St1 => x_nil ⟨rfl, ?_⟩))
  refine seg_execs_cons ?_
  refine seg_For (target := gTarget) (body := genBody) (orelse := []) (g_ld_tokens St1 rfl ?_)
  have hl : s.heap.IsList tl tv.toArray := ⟨_, St1.mem (mem_i htl), rfl, tn, rfl⟩
  refine wpAny_pyIter_list hl ?_
  intro p kf hkf
  have St2 := (St1.push { cls := .type "list_iterator", data := .fields #[.ref tl, .int 0 0] } s.toks).toLed (fun q hq => Nat.ne_of_gt (Heap.lt_size (St1.N q (by simp [hq])).1))
  have e1 := St2.r
  refine seg_gen (pre := []) BS rfl rfl ?_ ?_ hlen ts0.length 0 ts0 g0 [] n _ imm _ s₀ _ rfl (by omega) (e1.trans hg) (by rw [e1]; exact St2) ⟨v0, t, t, t, .none, _, _, _, _, _, rfl, rfl⟩ hkeep htl hT rfl rfl .nil rfl
  · exact hA
  · intro s₁ s₂ hP
    refine seg_leaf (.ok .next) ?_
    rw [hkf]
    refine seg_execs_nil ?_
    exact seg_end (.ok (.ret .none)) ⟨rfl, hP⟩
end
end Mine

-- part G7
namespace Mine
open PySem PySem.W PyProof.Rows PySem.Calls

section
variable {prog : Program} {w : World} {A A₀ : Around} {s : Shared} {env : Env} {base : Heap} {outer : List Env}
variable {hb : Heap} {L : Addr} {m : Str → Option Value} {led imm own : Led} {R : Rest}

abbrev genObj (g : Nat) (x y : Value) : Obj := { cls := .type "generator", data := .fields #[.int g 0, x, y] }
theorem isGen_of {a : Addr} {g : Nat} {x y : Value} (S : St hb L m led imm own R s) (ha : (a, genObj g x y) ∈ own) : s.heap.IsGen a g :=
  ⟨_, x, y, S.mem (p := (a, genObj g x y)) (by simp [ha]), rfl, rfl, rfl⟩
theorem St.pushSeq {S : Addr} {acc : List Value} {n : Nat} {rest : Led} (X : St hb L m ((S, listOf acc.toArray n) :: rest) imm own R s) (f : Array Value → Array Value) {acc' : List Value} (hf : f acc.toArray = acc'.toArray) (G : Array GenState) :
    ∃ n', St hb L m ((S, listOf acc'.toArray n') :: rest) imm own (G, s.drawn, s.os) { s with heap := s.heap.update S (Obj.mapSeq f), gens := G } := by
  have hS : s.heap.get? S = some (listOf acc.toArray n) := X.mem (p := (S, listOf acc.toArray n)) (by simp)
  have h1 := Heap.get?_update_self (Obj.mapSeq f) hS rfl
  have e : ∃ n', Obj.mapSeq f (listOf acc.toArray n) = listOf acc'.toArray n' := ⟨_, by rw [← hf]; rfl⟩
  obtain ⟨n', e⟩ := e
  rw [e] at h1
  have X' := X.turn (k := 0) s.toks rfl (Heap.SameBut.update ..) h1
  exact ⟨n', X'.gens { s with heap := s.heap.update S (Obj.mapSeq f), gens := G } rfl⟩

def Goer (prog : Program) (w : World) (A : Around) (hb : Heap) (Lg S : Addr) (own keep : Led) (ys : List (Int × Int)) (k : Nat) (gs : GenState) (s : Shared) : Prop :=
  gs.Goes (model prog w) A (fun n s₀ r s₁ => r = .ok (.ret .none) ∧ PP hb Lg S own keep ys n s₀ s₁) (YY hb Lg S own keep ys) k (.send .none) s

theorem ext_loop {R : Result → Shared → Prop} {Lg S a : Addr} {g : Nat} {x y res : Value} {keep : Led} {ys : List (Int × Int)} (hA : A.handled = none) (hroom : A.depth < recursionLimit) (ha : (a, genObj g x y) ∈ own) (hlim : hb.NoLimit) (hys : ys.length ≤ 100000) :
    ∀ (k : Nat) (s : Shared) (acc : List Value) (n : Nat) (mg : Str → Option Value) (rest imm : Led) (gs : GenState), St hb Lg mg ((S, listOf acc.toArray n) :: rest) imm own (s.gens, s.drawn, s.os) s → s.gens[g]? = some gs →
      (∀ s'' : Shared, St hb Lg mg ((S, listOf acc.toArray n) :: rest) imm own (s''.gens, s''.drawn, s''.os) s'' → Goer prog w A.in1.in1 hb Lg S own keep ys k gs s'') →
      (∀ (s' : Shared) (acc' : List Value) (n' : Nat) (mg' : Str → Option Value) (rest' imm' : Led), St hb Lg mg' ((S, listOf acc'.toArray n') :: rest') imm' own (s'.gens, s'.drawn, s'.os) s' → (∀ p ∈ keep, p ∈ imm') → DatAll imm' acc' (ys.map datDue) →
        GenOnly g s.gens s'.gens → s'.gens[g]? = some .finished → s'.drawn = s.drawn → s'.os = s.os → R (.ok (.ret res)) s') →
      codeAny (model prog w) A (.builtin "list.extend.loop" ⟨[.ref S, .ref a, res], []⟩) R s := by
  intro k
  induction k with
  | zero =>
    intro s acc n mg rest imm gs St1 hgs hgo hR
    refine codeAny_builtin F.entry_extend_loop ?_
    rw [Around.under_plainId F.plain_extend_loop _]
    show wpAny _ A.in1 (pyNext (.ref a) >>= _) _ _ s
    refine wpAny_bind (wpAny_pyNext_gen (n := 0) hA (hlim.keeps St1.F.keep) hroom (isGen_of St1 ha) hgs (hgo (s.setGen g .running) (St1.gens _ rfl)) (fun v s₁ gs' hv => ?_) (fun s₁ hp h' hk => ?_))
    · obtain ⟨_, _, acc', n', mg', rest', imm', X, _, _, _, kap⟩ := hv
      obtain ⟨n'', X'⟩ := X.pushSeq (·.push v) (acc' := acc' ++ [v]) (by simp) s₁.gens
      exact (kap { s₁ with heap := s₁.heap.update S (Obj.mapSeq (·.push v)) } n'' X').elim
    · obtain ⟨e, _, acc', n', mg', rest', imm', X, hkeep, _, hD⟩ := hp
      refine wpAny_pure (hR _ acc' n' mg' rest' imm' (X.keeps _ hk) hkeep hD ?_ ?_ ?_ ?_)
      · have e1 : s₁.gens = (s.setGen g .running).gens := congrArg Prod.fst e
        have := GenOnly.setGen s₁ g .finished
        rw [e1] at this
        exact (GenOnly.setGen s g .running).trans this
      · have e1 : s₁.gens = (s.setGen g .running).gens := congrArg Prod.fst e
        have h2 : s₁.gens[g]? = some .running := by rw [e1]; exact setGen_self hgs
        exact setGen_self h2
      · exact congrArg (fun q => q.2.1) e
      · exact congrArg (fun q => q.2.2) e
  | succ k ih =>
    intro s acc n mg rest imm gs St1 hgs hgo hR
    refine codeAny_builtin F.entry_extend_loop ?_
    rw [Around.under_plainId F.plain_extend_loop _]
    show wpAny _ A.in1 (pyNext (.ref a) >>= _) _ _ s
    refine wpAny_bind (wpAny_pyNext_gen (n := k + 1) hA (hlim.keeps St1.F.keep) hroom (isGen_of St1 ha) hgs (hgo (s.setGen g .running) (St1.gens _ rfl)) (fun v s₁ gs' hv => ?_) (fun s₁ hp h' hk => ?_))
    · obtain ⟨e, hk, acc', n', mg', rest', imm', X, hkeep, hl, hD, kap⟩ := hv
      obtain ⟨n'', X'⟩ := X.pushSeq (·.push v) (acc' := acc' ++ [v]) (by simp) (s₁.setGen g gs').gens
      have e1 : s₁.gens = (s.setGen g .running).gens := congrArg Prod.fst e
      have h2 : s₁.gens[g]? = some .running := by rw [e1]; exact setGen_self hgs
      show wpAny _ A.in1 (updateSeq S (·.push v) >>= _) _ _ _
      refine wpAny_bind (wpAny_updateSeq (s := s₁.setGen g gs') (X.mem (p := (S, listOf acc'.toArray n')) (by simp)) rfl (wpAny_pure ⟨plainId_quiet F.plain_extend_loop _, ?_⟩) (by rw [sizeLine_eq]; simp; omega) (by rw [sizeLine_eq]; simp; omega))
      refine ih _ (acc' ++ [v]) n'' mg' rest' imm' gs' X' (setGen_self h2) (fun s'' X'' => kap s'' n'' X'') (fun s' acc2 n2 mg2 rest2 imm2 X2 hk2 hD2 hG hf hd ho => hR s' acc2 n2 mg2 rest2 imm2 X2 hk2 hD2 ?_ hf ?_ ?_)
      · have h3 := GenOnly.setGen s₁ g gs'
        rw [e1] at h3
        exact ((GenOnly.setGen s g .running).trans h3).trans hG
      · exact hd.trans (congrArg (fun q => q.2.1) e)
      · exact ho.trans (congrArg (fun q => q.2.2) e)
    · obtain ⟨_, h0, _⟩ := hp
      cases h0
end
end Mine

-- part G8
namespace Mine
open PySem PySem.W PyProof.Rows PySem.Calls

section
variable {prog : Program} {w : World} {A A₀ : Around} {s : Shared} {env : Env} {base : Heap} {outer : List Env}
variable {hb : Heap} {L : Addr} {m : Str → Option Value} {led imm own : Led} {R : Rest}

theorem list_init_my {Rr : Result → Shared → Prop} {Lg S a : Addr} {g : Nat} {x y : Value} {keep : Led} {ys : List (Int × Int)} (hA : A.handled = none) (hroom : A.depth < recursionLimit) (ha : (a, genObj g x y) ∈ own) (hlim : hb.NoLimit) (hys : ys.length ≤ 100000)
    {mg : Str → Option Value} {gs : GenState} {n : Nat} (St1 : St hb Lg mg [(S, listOf ([] : List Value).toArray n)] imm own (s.gens, s.drawn, s.os) s) (hgs : s.gens[g]? = some gs)
    (hgo : ∀ (s'' : Shared) (n : Nat), St hb Lg mg [(S, listOf ([] : List Value).toArray n)] imm own (s''.gens, s''.drawn, s''.os) s'' → Goer prog w A.in1.in1 hb Lg S own keep ys ys.length gs s'')
    (hR : ∀ (s' : Shared) (acc' : List Value) (n' : Nat) (mg' : Str → Option Value) (rest' imm' : Led), St hb Lg mg' ((S, listOf acc'.toArray n') :: rest') imm' own (s'.gens, s'.drawn, s'.os) s' → (∀ p ∈ keep, p ∈ imm') → DatAll imm' acc' (ys.map datDue) →
        GenOnly g s.gens s'.gens → s'.gens[g]? = some .finished → s'.drawn = s.drawn → s'.os = s.os → Rr (.ok (.ret .none)) s') :
    wpAny (model prog w) A.in1 (Builtin.«list.__init__» ⟨[.ref S, .ref a], []⟩)
      (fun fin s' => match fin with | .done f => Rr (.ok f) s' | .again c' => c'.quiet = true ∧ codeAny (model prog w) A c' Rr s') (fun e s' => Rr (.error e) s') s := by
  have hS : s.heap.get? S = some (listOf ([] : List Value).toArray n) := St1.mem (p := (S, listOf ([] : List Value).toArray n)) (by simp)
  have hSa : S ≠ a := fun e => St1.off (a, genObj g x y) (by simp [ha]) S (by simp) e.symm
  show wpAny _ A.in1 (do let old ← Builtin.List.listItems (.ref S); Builtin.List.listUpdate (.ref S) (fun _ => #[]); letGo old.toList.reverse; Builtin.List.listExtendWith (.ref S) (.ref a) .none) _ _ s
  refine wpAny_bind ?_
  unfold Builtin.List.listItems
  refine wpAny_bind (wpAny_seqItems hS rfl (wpAny_pure ?_))
  show wpAny _ A.in1 (updateSeq S (fun _ => #[]) >>= fun _ => letGo (#[] : Array Value).toList.reverse >>= fun _ => Builtin.List.listExtendWith (.ref S) (.ref a) .none) _ _ s
  refine wpAny_bind (wpAny_updateSeq hS rfl ?_)
  obtain ⟨n2, St2⟩ := St1.pushSeq (fun _ => #[]) (acc' := []) rfl s.gens
  refine wpAny_bind (wpAny_letGo ?_)
  unfold Builtin.List.listExtendWith
  refine wpAny_bind (wpAny_typeOf (isGen_of St2 ha).typeIs ?_)
  have h1 : Builtin.List.listSameRef (.ref S) (.ref a) = false := by simp [Builtin.List.listSameRef, hSa]
  have h2 : (Value.type "generator" == Value.type "list") = false := by decide
  have h3 : (Value.type "generator" == Value.type "tuple") = false := by decide
  simp only [h1, h2, h3, Bool.or_false, Bool.false_eq_true, if_false]
  refine wpAny_bind (wpAny_pyIter_gen (isGen_of St2 ha) ?_)
  refine wpAny_bind (wpAny_holding ?_)
  unfold Builtin.List.listLengthHint
  refine wpAny_bind (wpAny_specialOf (isGen_of St2 ha).typeIs F.gen_no_len ?_)
  show wpAny _ A.in1 (specialOf (Value.ref a) (Str.ofString "__length_hint__") >>= _) _ _ _
  refine wpAny_bind (wpAny_specialOf (isGen_of St2 ha).typeIs F.gen_no_hint ?_)
  refine wpAny_pure ?_
  show wpAny _ A.in1 (rule "list.extend.makes-room" >>= fun _ => Builtin.List.listTouch (.ref S) >>= fun _ =>
    again (.builtin "list.extend.loop" ⟨[.ref S, .ref a, .none], []⟩)) _ _ _
  refine wpAny_bind (wpAny_rule ?_)
  refine wpAny_bind ?_
  show wpAny _ A.in1 (updateSeq S (·.push .none) >>= fun _ => updateSeq S (·.pop)) _ _ _
  refine wpAny_bind (wpAny_updateSeq (St2.mem (p := (S, listOf ([] : List Value).toArray n2)) (by simp)) rfl ?_)
  obtain ⟨n3, St3⟩ := St2.pushSeq (·.push .none) (acc' := [.none]) rfl s.gens
  refine wpAny_updateSeq (St3.mem (p := (S, listOf [Value.none].toArray n3)) (by simp)) rfl ?_ (by rw [sizeLine_eq]; simp) (by rw [sizeLine_eq]; simp)
  obtain ⟨n4, St4⟩ := St3.pushSeq (·.pop) (acc' := []) rfl s.gens
  refine wpAny_pure ⟨plainId_quiet F.plain_extend_loop _, ?_⟩
  exact ext_loop hA hroom ha hlim hys ys.length _ [] n4 mg [] imm gs St4 hgs (fun s'' X => hgo s'' n4 X) hR

theorem call_list_my {Q : Value → Shared → Prop} {Lg a tl : Addr} {g : Nat} {x y : Value} {keep : Led} {tv : List Value} {tn : Nat} {ts0 : List TkL} {v0 : Option Value} (BS : Bs w A₀ base outer hb) (hA : A.handled = none) (hroom : A.depth < recursionLimit) (ha : (a, genObj g x y) ∈ own)
    (hlen : ts0.length ≤ 5000) (hys : (grun g0 ts0).length ≤ 100000)
    (St1 : St hb Lg (gm v0 (some (.ref tl)) none none none none none none none none none none) [] imm own (s.gens, s.drawn, s.os) s) (hgs : s.gens[g]? = some (.fresh (.func gBody (genv Lg))))
    (hkeep : ∀ p ∈ keep, p ∈ imm) (htl : (tl, listOf tv.toArray tn) ∈ imm) (hT : ToksAt imm tv ts0)
    (h : ∀ (s' : Shared) (S : Addr) (acc : List Value) (n : Nat) (mg : Str → Option Value) (rest imm' : Led), St hb Lg mg ((S, listOf acc.toArray n) :: rest) imm' own (s'.gens, s'.drawn, s'.os) s' → (∀ p ∈ keep, p ∈ imm') → DatAll imm' acc ((grun g0 ts0).map datDue) →
        GenOnly g s.gens s'.gens → s'.gens[g]? = some .finished → s'.drawn = s.drawn → s'.os = s.os → Q (.ref S) s') :
    wpAny (model prog w) A (call (.type "list") [.ref a]) Q NoE s := by
  obtain ⟨_, _, _, T⟩ := BS.T
  refine callType_codes (Q₁ := fun obj s₁ => obj = .ref s.heap.objs.size ∧ s₁ = { s with heap := s.heap.push { cls := .type "list", data := .seq #[] } }) F.called_list (F.typeCall_list_1 _) F.entry_list_init
    (code_list_new _ ⟨rfl, rfl⟩) fun obj s₁ h₁ => ?_
  obtain ⟨rfl, rfl⟩ := h₁
  have hS : (s.heap.push { cls := .type "list", data := .seq #[] }).get? s.heap.objs.size = some { cls := .type "list", data := .seq #[] } := Heap.get?_push_size _ rfl
  have St2 := (St1.push (listOf ([] : List Value).toArray 0) s.toks).toLed (fun q hq => Nat.ne_of_gt (Heap.lt_size (St1.N q (by simp [hq])).1))
  refine ⟨⟨_, hS, rfl⟩, F.args_list_init_2 _ _, list_init_my (keep := keep) (ys := grun g0 ts0) (imm := imm) (own := own) hA hroom ha T.nolimit hys St2 hgs (fun s'' n' X => ?_) (fun s' acc n mg rest imm' X hk hD hG hf hd ho => ?_)⟩
  · exact ⟨rfl, seg_start BS hA hlen X rfl hkeep htl hT⟩
  · exact ⟨rfl, h s' _ acc n mg rest imm' X hk hD hG hf hd ho⟩
end
end Mine

-- part G9
namespace Mine
open PySem PySem.W PyProof.Rows PySem.Calls

section
variable {prog : Program} {w : World} {A A₀ : Around} {s : Shared} {env : Env} {base : Heap} {outer : List Env}
variable {hb : Heap} {L : Addr} {m : Str → Option Value} {led imm own : Led} {R : Rest}

theorem gm_binds {a b : Value} : (fun y => List.lookup y ([("logical_line", a), ("tokens", b)] : List (Str × Value)).reverse) = gm (some a) (some b) none none none none none none none none none none := by
  funext y
  show List.lookup y [(("tokens" : Str), b), ("logical_line", a)] = _
  unfold gm
  by_cases h1 : y = ("logical_line" : Str)
  · subst h1; rfl
  · by_cases h2 : y = ("tokens" : Str)
    · subst h2; rfl
    · have e1 : (y == ("logical_line" : Str)) = false := by simpa using h1
      have e2 : (y == ("tokens" : Str)) = false := by simpa using h2
      simp only [List.lookup, e1, e2, if_neg h1, if_neg h2, ite_self]

theorem none_above {b : Addr} (h : hb.objs.size ≤ b) : hb.get? b = none := by
  cases hq : hb.get? b with
  | none => rfl
  | some o => exact absurd (Nat.lt_of_lt_of_le (Heap.lt_size hq) h) (Nat.lt_irrefl _)

theorem r_gencall' {Q : Value → Shared → Prop} {name qual : Str} {params : Arguments} {body : List Stmt} {scope : Scope} {dV kV doc pm cdv ct oc : Value} {an od : Option Addr} {osl : Array (Option Value)} {f : Addr} {args : List Value} {binds : List (Str × Value)}
    (BS : Bs w A₀ base outer hb) (S : St hb L m led imm own R s) (hroom : A.depth < recursionLimit)
    (ho : (KK w).lookup f = some ⟨oc, od, .func (fnOf name qual params body scope dV kV doc pm an cdv ct), osl⟩) (hcd : codeIn (KK w) cdv qual = true)
    (hbind : bindArgs (fnOf name qual params body scope dV kV doc pm an cdv ct) ⟨args, []⟩ = pure binds) (hloc : ∀ y ∈ binds, scope.names.lookup y.1 = some .local)
    (hco : scope.isCoroutine = false) (hgen : scope.isGenerator = true) (hk : scope.kind = .function) (hcell : ∀ x ∈ scope.names, x.2 ≠ .cell)
    (h : ∀ (s' : Shared) (Lg a : Addr) (x y : Value) (oL : Obj), s'.gens = s.gens.push (.fresh (.func body (envOf qual scope Lg f cdv))) → s'.drawn = s.drawn → s'.os = s.os → s.heap.get? L = some oL →
      (∀ b o, s.heap.get? b = some o → s'.heap.get? b = some o) →
      St hb Lg (fun y => binds.reverse.lookup y) [] imm ((a, genObj s.gens.size x y) :: (L, oL) :: (led ++ own)) (s'.gens, s'.drawn, s'.os) s' → Q (.ref a) s') :
    wpAny (model prog w) A (call (.ref f) args) Q NoE s := by
  obtain ⟨_, _, _, T⟩ := BS.T
  obtain ⟨oL, _, _, hoL, _⟩ := id S.F.ns
  have hLlt : L < s.heap.objs.size := Heap.lt_size hoL
  refine wpAny_call ?_
  refine codeAny_call_generator (fd := fnOf name qual params body scope dV kV doc pm an cdv ct) (body := body) hroom ((BS.X.keeps S.F.keep) _ _ ho) rfl hco hgen rfl (codeRec_of (BS.X.keeps S.F.keep) hcd) ?_
  rw [hbind]
  refine wpAny_pure ?_
  refine wpAny_newFunctionEnv hcell hloc (fun h₁ hns hsb => ⟨?_, ?_⟩) hk
  · exact (T.nolimit.keeps S.F.keep).fresh _ hsb
  · have up : ∀ b o, s.heap.get? b = some o → h₁.get? b = some o := fun b o e => hsb.extBut b o (Nat.ne_of_lt (Heap.lt_size e)) (Heap.get?_push_of_some _ e)
    have hLg : s.heap.objs.size < h₁.objs.size := hns.lt
    have hab := S.F.above
    refine h _ s.heap.objs.size h₁.objs.size (.str name (s.toks + binds.length)) (.str qual (s.toks + binds.length + 1)) oL rfl rfl rfl hoL (fun b o e => Heap.get?_push_of_some _ (up b o e)) ?_
    refine ⟨⟨hns.keeps fun b o e => Heap.get?_push_of_some _ e, fun b o e => Heap.get?_push_of_some _ (up b o (S.F.keep b o e)), Nat.le_trans hab (Nat.le_of_lt hLlt)⟩, ?_, by simp, fun p hp b hb' => (nomatch hb'), ?_, rfl⟩
    · have old : ∀ (o' : Obj), ∀ p ∈ led ++ (imm ++ own), (h₁.push o').get? p.1 = some p.2 ∧ p.1 ≠ s.heap.objs.size ∧ hb.get? p.1 = none := fun _ p hp =>
        ⟨Heap.get?_push_of_some _ (up _ _ (S.N p hp).1), Nat.ne_of_lt (Heap.lt_size (S.N p hp).1), (S.N p hp).2.2⟩
      intro p hp
      simp only [List.nil_append, List.mem_append, List.mem_cons] at hp
      rcases hp with hp | rfl | rfl | hp | hp
      · exact old _ p (by simp [hp])
      · exact ⟨Heap.get?_push_size _ rfl, Nat.ne_of_gt hLg, none_above (Nat.le_trans (Nat.le_trans hab (Nat.le_of_lt hLlt)) (Nat.le_of_lt hLg))⟩
      · exact ⟨Heap.get?_push_of_some _ (up _ _ hoL), Nat.ne_of_lt hLlt, none_above hab⟩
      · exact old _ p (by simp [hp])
      · exact old _ p (by simp [hp])
    · intro p hp q hq
      have hql := Heap.lt_size (S.N q (by simp [hq])).1
      simp only [List.mem_append, List.mem_cons] at hp
      rcases hp with rfl | rfl | hp | hp
      · show h₁.objs.size ≠ q.1
        exact Nat.ne_of_gt (Nat.lt_trans hql hLg)
      · exact fun e => (S.N q (by simp [hq])).2.1 e.symm
      · exact fun e => S.off q (by simp [hq]) p.1 (List.mem_map.mpr ⟨p, hp, rfl⟩) e.symm
      · exact S.sep p hp q hq

theorem back_caller {Lg a Sa : Addr} {go oL oS : Obj} {mg : Str → Option Value} {rest imm' : Led} {R' : Rest} {s' : Shared} (S : St hb L m led imm own R s) (hoL : s.heap.get? L = some oL)
    (X : St hb Lg mg ((Sa, oS) :: rest) imm' ((a, go) :: (L, oL) :: (led ++ own)) R' s') : St hb L m led ((Sa, oS) :: imm') own R' s' := by
  have zL := X.N (L, oL) (by simp)
  refine ⟨⟨S.F.ns.at' fun o e => ?_, X.F.keep, S.F.above⟩, ?_, S.nd, ?_, ?_, X.r⟩
  · rw [hoL] at e; cases e; exact zL.1
  · intro p hp
    simp only [List.mem_append, List.mem_cons] at hp
    rcases hp with hp | (rfl | hp) | hp
    · have z := X.N p (by simp [hp])
      exact ⟨z.1, (S.N p (by simp [hp])).2.1, z.2.2⟩
    · have z := X.N (Sa, oS) (by simp)
      exact ⟨z.1, fun e => X.off (L, oL) (by simp) Sa (by simp) e.symm, z.2.2⟩
    · have z := X.N p (by simp [hp])
      exact ⟨z.1, fun e => X.sep (L, oL) (by simp) p hp e.symm, z.2.2⟩
    · have z := X.N p (by simp [hp])
      exact ⟨z.1, (S.N p (by simp [hp])).2.1, z.2.2⟩
  · intro p hp b hb'
    obtain ⟨q, hq, rfl⟩ := List.mem_map.mp hb'
    simp only [List.mem_append, List.mem_cons] at hp
    rcases hp with (rfl | hp) | hp
    · exact fun e => X.off q (by simp [hq]) Sa (by simp) e.symm
    · exact fun e => X.sep q (by simp [hq]) p hp e.symm
    · exact S.off p (by simp [hp]) q.1 (List.mem_map.mpr ⟨q, hq, rfl⟩)
  · intro p hp q hq
    rcases List.mem_cons.mp hq with rfl | hq
    · exact X.off p (by simp [hp]) Sa (by simp)
    · exact X.sep p (by simp [hp]) q hq

/-- all generators are done -/
def AllDone (G : Array GenState) : Prop := ∀ (i : Nat) (x : GenState), G[i]? = some x → x = .finished
theorem AllDone.clean {G : Array GenState} (h : AllDone G) : leftWithCleanup G = false := by
  unfold leftWithCleanup
  rw [Array.any_eq_false]
  intro i hi
  have := h i G[i] (by simp [hi])
  rw [this]
  simp
theorem AllDone.next {G G' : Array GenState} {x : GenState} (h : AllDone G) (hG : GenOnly G.size (G.push x) G') (hf : G'[G.size]? = some .finished) : AllDone G' := by
  intro i y hy
  by_cases e : i = G.size
  · subst e
    rw [hf] at hy
    exact (Option.some.inj hy).symm
  · have h2 := hG.2 i e
    rw [hy] at h2
    rw [Array.getElem?_push, if_neg e] at h2
    exact h i y h2.symm

/-- list(explicit_line_join('x', tokens)) -/
theorem r_listgen {Q : Value → Shared → Prop} {tl : Addr} {v0 : Value} {tv : List Value} {tn : Nat} {ts0 : List TkL} {G : Array GenState} {dr : Drawn} {os : OsState} (BS : Bs w A₀ base outer hb) (hA : A.handled = none) (hroom : A.depth < recursionLimit)
    (S : St hb L m led imm own (G, dr, os) s) (hG : AllDone G) (hlen : ts0.length ≤ 5000) (hys : (grun g0 ts0).length ≤ 100000) (htl : (tl, listOf tv.toArray tn) ∈ imm) (hT : ToksAt imm tv ts0)
    (h : ∀ (s' : Shared) (D : Addr) (acc : List Value) (n : Nat) (imm' : Led) (G' : Array GenState), AllDone G' → St hb L m led ((D, listOf acc.toArray n) :: imm') own (G', dr, os) s' → (∀ p ∈ imm, p ∈ imm') → (∀ p ∈ imm', D ≠ p.1) → DatAll imm' acc ((grun g0 ts0).map datDue) → Q (.ref D) s') :
    wpAny (model prog w) A (call (.ref 43) [v0, .ref tl]) (fun v s₁ => wpAny (model prog w) A (call (.type "list") [v]) Q NoE s₁) NoE s := by
  have hr := S.r
  simp only [Prod.mk.injEq] at hr
  obtain ⟨e1, e2, e3⟩ := hr
  refine r_gencall' (binds := [("logical_line", v0), ("tokens", .ref tl)]) BS S hroom (by exact rfl) (by rfl) (by rfl) (locs rfl) (by rfl) (by rfl) (by rfl) (by decide) (fun s' Lg a x y oL hg hd ho hoL hup X => ?_)
  rw [gm_binds] at X
  have hgs : s'.gens[s.gens.size]? = some (.fresh (.func gBody (genv Lg))) := by rw [hg]; exact Array.getElem?_push_size
  refine call_list_my (keep := imm) BS hA hroom (.head _) hlen hys X hgs (fun _ h => h) htl hT (fun s2 D acc n mg rest imm' X2 hk hD hGo hf hd2 ho2 => ?_)
  have Y := back_caller S hoL X2
  have Y' : St hb L m led ((D, listOf acc.toArray n) :: imm') own (s2.gens, dr, os) s2 := by
    rw [hd2, ho2, hd, ho, e2, e3] at Y
    exact Y
  refine h s2 D acc n imm' s2.gens ?_ Y' hk (fun p hp e => X2.off p (by simp [hp]) D (by simp) e.symm) hD
  rw [hg] at hGo
  rw [← e1] at hG
  exact hG.next hGo hf
end
end Mine

-- part L1
namespace Mine
open PySem PySem.W PyProof.Rows PySem.Calls

section
variable {prog : Program} {w : World} {A : Around} {s : Shared} {hb : Heap} {L : Addr} {led imm own : Led} {R : Rest} {v : Value}
variable {Q : Value → Shared → Prop} {QU : Unit → Shared → Prop} {pos : Pos}

def lScope : Scope := dScope (top 6)
def lBody : List Stmt := dBody (top 6)
def lenv (L fa : Addr) (cd : Value) : Env := envOfC "law" lScope L fa cd
variable {fa : Addr} {cd : Value}
def lm (v0 v1 v2 v3 v4 v5 v6 v7 : Option Value) : Str → Option Value := fun x =>
  if x = "script" then v0 else if x = "state" then v1 else if x = "told" then v2 else if x = "due" then v3 else if x = "_" then v4 else if x = "plain" then v5 else if x = "places" then v6 else if x = "tokens" then v7 else none
variable {v0 v1 v2 v3 v4 v5 v6 v7 : Option Value}
theorem lk_script : (lenv L fa cd).kindOf "script" = some .local := by rfl
theorem lg_script : lm v0 v1 v2 v3 v4 v5 v6 v7 "script" = v0 := by rfl
theorem ls_script : (fun (y : Str) => if y = ("script" : Str) then some v else lm v0 v1 v2 v3 v4 v5 v6 v7 y) = lm (some v) v1 v2 v3 v4 v5 v6 v7 := by
  funext y
  by_cases h : y = ("script" : Str)
  · subst h; rw [if_pos rfl]; exact lg_script.symm
  · simp only [lm, if_neg h]
theorem l_ld_script (S : St hb L (lm v0 v1 v2 v3 v4 v5 v6 v7) led imm own R s) (hv : v0 = some v) (h : Q v s) : wpAny (model prog w) A (eval (.Name "script" pos) (lenv L fa cd)) Q NoE s := r_local (env := lenv L fa cd) S (lg_script.trans hv) rfl lk_script (by decide) h
theorem l_ll_script (S : St hb L (lm v0 v1 v2 v3 v4 v5 v6 v7) led imm own R s) (hv : v0 = some v) (h : Q v s) : wpAny (model prog w) A (loadName (lenv L fa cd) "script") Q NoE s := r_loadLocal (env := lenv L fa cd) S (lg_script.trans hv) rfl lk_script h
theorem l_st_script (S : St hb L (lm v0 v1 v2 v3 v4 v5 v6 v7) led imm own R s) (h : ∀ s', St hb L (lm (some v) v1 v2 v3 v4 v5 v6 v7) led imm own R s' → QU () s') : wpAny (model prog w) A (storeName (lenv L fa cd) "script" v) QU NoE s := r_store (env := lenv L fa cd) S lk_script (by rfl) ls_script h
theorem lk_state : (lenv L fa cd).kindOf "state" = some .local := by rfl
theorem lg_state : lm v0 v1 v2 v3 v4 v5 v6 v7 "state" = v1 := by rfl
theorem ls_state : (fun (y : Str) => if y = ("state" : Str) then some v else lm v0 v1 v2 v3 v4 v5 v6 v7 y) = lm v0 (some v) v2 v3 v4 v5 v6 v7 := by
  funext y
  by_cases h : y = ("state" : Str)
  · subst h; rw [if_pos rfl]; exact lg_state.symm
  · simp only [lm, if_neg h]
theorem l_ld_state (S : St hb L (lm v0 v1 v2 v3 v4 v5 v6 v7) led imm own R s) (hv : v1 = some v) (h : Q v s) : wpAny (model prog w) A (eval (.Name "state" pos) (lenv L fa cd)) Q NoE s := r_local (env := lenv L fa cd) S (lg_state.trans hv) rfl lk_state (by decide) h
theorem l_ll_state (S : St hb L (lm v0 v1 v2 v3 v4 v5 v6 v7) led imm own R s) (hv : v1 = some v) (h : Q v s) : wpAny (model prog w) A (loadName (lenv L fa cd) "state") Q NoE s := r_loadLocal (env := lenv L fa cd) S (lg_state.trans hv) rfl lk_state h
theorem l_st_state (S : St hb L (lm v0 v1 v2 v3 v4 v5 v6 v7) led imm own R s) (h : ∀ s', St hb L (lm v0 (some v) v2 v3 v4 v5 v6 v7) led imm own R s' → QU () s') : wpAny (model prog w) A (storeName (lenv L fa cd) "state" v) QU NoE s := r_store (env := lenv L fa cd) S lk_state (by rfl) ls_state h
theorem lk_told : (lenv L fa cd).kindOf "told" = some .local := by rfl
theorem lg_told : lm v0 v1 v2 v3 v4 v5 v6 v7 "told" = v2 := by rfl
theorem ls_told : (fun (y : Str) => if y = ("told" : Str) then some v else lm v0 v1 v2 v3 v4 v5 v6 v7 y) = lm v0 v1 (some v) v3 v4 v5 v6 v7 := by
  funext y
  by_cases h : y = ("told" : Str)
  · subst h; rw [if_pos rfl]; exact lg_told.symm
  · simp only [lm, if_neg h]
theorem l_ld_told (S : St hb L (lm v0 v1 v2 v3 v4 v5 v6 v7) led imm own R s) (hv : v2 = some v) (h : Q v s) : wpAny (model prog w) A (eval (.Name "told" pos) (lenv L fa cd)) Q NoE s := r_local (env := lenv L fa cd) S (lg_told.trans hv) rfl lk_told (by decide) h
theorem l_ll_told (S : St hb L (lm v0 v1 v2 v3 v4 v5 v6 v7) led imm own R s) (hv : v2 = some v) (h : Q v s) : wpAny (model prog w) A (loadName (lenv L fa cd) "told") Q NoE s := r_loadLocal (env := lenv L fa cd) S (lg_told.trans hv) rfl lk_told h
theorem l_st_told (S : St hb L (lm v0 v1 v2 v3 v4 v5 v6 v7) led imm own R s) (h : ∀ s', St hb L (lm v0 v1 (some v) v3 v4 v5 v6 v7) led imm own R s' → QU () s') : wpAny (model prog w) A (storeName (lenv L fa cd) "told" v) QU NoE s := r_store (env := lenv L fa cd) S lk_told (by rfl) ls_told h
theorem lk_due : (lenv L fa cd).kindOf "due" = some .local := by rfl
theorem lg_due : lm v0 v1 v2 v3 v4 v5 v6 v7 "due" = v3 := by rfl
theorem ls_due : (fun (y : Str) => if y = ("due" : Str) then some v else lm v0 v1 v2 v3 v4 v5 v6 v7 y) = lm v0 v1 v2 (some v) v4 v5 v6 v7 := by
  funext y
  by_cases h : y = ("due" : Str)
  · subst h; rw [if_pos rfl]; exact lg_due.symm
  · simp only [lm, if_neg h]
theorem l_ld_due (S : St hb L (lm v0 v1 v2 v3 v4 v5 v6 v7) led imm own R s) (hv : v3 = some v) (h : Q v s) : wpAny (model prog w) A (eval (.Name "due" pos) (lenv L fa cd)) Q NoE s := r_local (env := lenv L fa cd) S (lg_due.trans hv) rfl lk_due (by decide) h
theorem l_ll_due (S : St hb L (lm v0 v1 v2 v3 v4 v5 v6 v7) led imm own R s) (hv : v3 = some v) (h : Q v s) : wpAny (model prog w) A (loadName (lenv L fa cd) "due") Q NoE s := r_loadLocal (env := lenv L fa cd) S (lg_due.trans hv) rfl lk_due h
theorem l_st_due (S : St hb L (lm v0 v1 v2 v3 v4 v5 v6 v7) led imm own R s) (h : ∀ s', St hb L (lm v0 v1 v2 (some v) v4 v5 v6 v7) led imm own R s' → QU () s') : wpAny (model prog w) A (storeName (lenv L fa cd) "due" v) QU NoE s := r_store (env := lenv L fa cd) S lk_due (by rfl) ls_due h
theorem lk__ : (lenv L fa cd).kindOf "_" = some .local := by rfl
theorem lg__ : lm v0 v1 v2 v3 v4 v5 v6 v7 "_" = v4 := by rfl
theorem ls__ : (fun (y : Str) => if y = ("_" : Str) then some v else lm v0 v1 v2 v3 v4 v5 v6 v7 y) = lm v0 v1 v2 v3 (some v) v5 v6 v7 := by
  funext y
  by_cases h : y = ("_" : Str)
  · subst h; rw [if_pos rfl]; exact lg__.symm
  · simp only [lm, if_neg h]
theorem l_ld__ (S : St hb L (lm v0 v1 v2 v3 v4 v5 v6 v7) led imm own R s) (hv : v4 = some v) (h : Q v s) : wpAny (model prog w) A (eval (.Name "_" pos) (lenv L fa cd)) Q NoE s := r_local (env := lenv L fa cd) S (lg__.trans hv) rfl lk__ (by decide) h
theorem l_ll__ (S : St hb L (lm v0 v1 v2 v3 v4 v5 v6 v7) led imm own R s) (hv : v4 = some v) (h : Q v s) : wpAny (model prog w) A (loadName (lenv L fa cd) "_") Q NoE s := r_loadLocal (env := lenv L fa cd) S (lg__.trans hv) rfl lk__ h
theorem l_st__ (S : St hb L (lm v0 v1 v2 v3 v4 v5 v6 v7) led imm own R s) (h : ∀ s', St hb L (lm v0 v1 v2 v3 (some v) v5 v6 v7) led imm own R s' → QU () s') : wpAny (model prog w) A (storeName (lenv L fa cd) "_" v) QU NoE s := r_store (env := lenv L fa cd) S lk__ (by rfl) ls__ h
theorem lk_plain : (lenv L fa cd).kindOf "plain" = some .local := by rfl
theorem lg_plain : lm v0 v1 v2 v3 v4 v5 v6 v7 "plain" = v5 := by rfl
theorem ls_plain : (fun (y : Str) => if y = ("plain" : Str) then some v else lm v0 v1 v2 v3 v4 v5 v6 v7 y) = lm v0 v1 v2 v3 v4 (some v) v6 v7 := by
  funext y
  by_cases h : y = ("plain" : Str)
  · subst h; rw [if_pos rfl]; exact lg_plain.symm
  · simp only [lm, if_neg h]
theorem l_ld_plain (S : St hb L (lm v0 v1 v2 v3 v4 v5 v6 v7) led imm own R s) (hv : v5 = some v) (h : Q v s) : wpAny (model prog w) A (eval (.Name "plain" pos) (lenv L fa cd)) Q NoE s := r_local (env := lenv L fa cd) S (lg_plain.trans hv) rfl lk_plain (by decide) h
theorem l_ll_plain (S : St hb L (lm v0 v1 v2 v3 v4 v5 v6 v7) led imm own R s) (hv : v5 = some v) (h : Q v s) : wpAny (model prog w) A (loadName (lenv L fa cd) "plain") Q NoE s := r_loadLocal (env := lenv L fa cd) S (lg_plain.trans hv) rfl lk_plain h
theorem l_st_plain (S : St hb L (lm v0 v1 v2 v3 v4 v5 v6 v7) led imm own R s) (h : ∀ s', St hb L (lm v0 v1 v2 v3 v4 (some v) v6 v7) led imm own R s' → QU () s') : wpAny (model prog w) A (storeName (lenv L fa cd) "plain" v) QU NoE s := r_store (env := lenv L fa cd) S lk_plain (by rfl) ls_plain h
theorem lk_places : (lenv L fa cd).kindOf "places" = some .local := by rfl
theorem lg_places : lm v0 v1 v2 v3 v4 v5 v6 v7 "places" = v6 := by rfl
theorem ls_places : (fun (y : Str) => if y = ("places" : Str) then some v else lm v0 v1 v2 v3 v4 v5 v6 v7 y) = lm v0 v1 v2 v3 v4 v5 (some v) v7 := by
  funext y
  by_cases h : y = ("places" : Str)
  · subst h; rw [if_pos rfl]; exact lg_places.symm
  · simp only [lm, if_neg h]
theorem l_ld_places (S : St hb L (lm v0 v1 v2 v3 v4 v5 v6 v7) led imm own R s) (hv : v6 = some v) (h : Q v s) : wpAny (model prog w) A (eval (.Name "places" pos) (lenv L fa cd)) Q NoE s := r_local (env := lenv L fa cd) S (lg_places.trans hv) rfl lk_places (by decide) h
theorem l_ll_places (S : St hb L (lm v0 v1 v2 v3 v4 v5 v6 v7) led imm own R s) (hv : v6 = some v) (h : Q v s) : wpAny (model prog w) A (loadName (lenv L fa cd) "places") Q NoE s := r_loadLocal (env := lenv L fa cd) S (lg_places.trans hv) rfl lk_places h
theorem l_st_places (S : St hb L (lm v0 v1 v2 v3 v4 v5 v6 v7) led imm own R s) (h : ∀ s', St hb L (lm v0 v1 v2 v3 v4 v5 (some v) v7) led imm own R s' → QU () s') : wpAny (model prog w) A (storeName (lenv L fa cd) "places" v) QU NoE s := r_store (env := lenv L fa cd) S lk_places (by rfl) ls_places h
theorem lk_tokens : (lenv L fa cd).kindOf "tokens" = some .local := by rfl
theorem lg_tokens : lm v0 v1 v2 v3 v4 v5 v6 v7 "tokens" = v7 := by rfl
theorem ls_tokens : (fun (y : Str) => if y = ("tokens" : Str) then some v else lm v0 v1 v2 v3 v4 v5 v6 v7 y) = lm v0 v1 v2 v3 v4 v5 v6 (some v) := by
  funext y
  by_cases h : y = ("tokens" : Str)
  · subst h; rw [if_pos rfl]; exact lg_tokens.symm
  · simp only [lm, if_neg h]
theorem l_ld_tokens (S : St hb L (lm v0 v1 v2 v3 v4 v5 v6 v7) led imm own R s) (hv : v7 = some v) (h : Q v s) : wpAny (model prog w) A (eval (.Name "tokens" pos) (lenv L fa cd)) Q NoE s := r_local (env := lenv L fa cd) S (lg_tokens.trans hv) rfl lk_tokens (by decide) h
theorem l_ll_tokens (S : St hb L (lm v0 v1 v2 v3 v4 v5 v6 v7) led imm own R s) (hv : v7 = some v) (h : Q v s) : wpAny (model prog w) A (loadName (lenv L fa cd) "tokens") Q NoE s := r_loadLocal (env := lenv L fa cd) S (lg_tokens.trans hv) rfl lk_tokens h
theorem l_st_tokens (S : St hb L (lm v0 v1 v2 v3 v4 v5 v6 v7) led imm own R s) (h : ∀ s', St hb L (lm v0 v1 v2 v3 v4 v5 v6 (some v)) led imm own R s' → QU () s') : wpAny (model prog w) A (storeName (lenv L fa cd) "tokens" v) QU NoE s := r_store (env := lenv L fa cd) S lk_tokens (by rfl) ls_tokens h
end
end Mine

-- part L2
namespace Mine
open PySem PySem.W PyProof.Rows PySem.Calls

theorem join_one (x : Str) : Txt.join "" [x] = x := by
  show Builtin.Str.glued "" [x] = x
  unfold Builtin.Str.glued
  simp
theorem join_two (x y : Str) : Txt.join "" [x, y] = x ++ y := by
  show Builtin.Str.glued "" [x, y] = x ++ y
  unfold Builtin.Str.glued
  show (⟨x.cps ++ ("" : Str).cps ++ y.cps⟩ : Str) = ⟨x.cps ++ y.cps⟩
  have e : ("" : Str).cps = #[] := by decide +kernel
  rw [e]
  simp
theorem pick_one {vs : List Value} {i : Nat} {v : Value} (h : vs[i]? = some v) : kms_pick vs (some (i : Int)) (some ((i : Int) + 1)) = [v] := by
  have hlt := (List.getElem?_eq_some_iff.mp h).1
  have he := (List.getElem?_eq_some_iff.mp h).2
  have h1 : kms_lo (some (i : Int)) vs.length = i := by
    show (if (i : Int) < 0 then vs.length - (-(i : Int)).toNat else min ((i : Int)).toNat vs.length) = _
    rw [if_neg (by omega)]
    omega
  have h2 : kms_hi (some ((i : Int) + 1)) vs.length = i + 1 := by
    show (if ((i : Int) + 1) < 0 then vs.length - (-((i : Int) + 1)).toNat else min (((i : Int) + 1)).toNat vs.length) = _
    rw [if_neg (by omega)]
    omega
  unfold kms_pick
  rw [h1, h2, List.drop_eq_getElem_cons hlt, he]
  have : i + 1 - i = 1 := by omega
  rw [this]
  rfl
theorem pick_two {vs : List Value} {i : Nat} {v u : Value} (h : vs[i]? = some v) (h' : vs[i + 1]? = some u) : kms_pick vs (some (i : Int)) (some ((i : Int) + 2)) = [v, u] := by
  have hlt := (List.getElem?_eq_some_iff.mp h).1
  have he := (List.getElem?_eq_some_iff.mp h).2
  have hlt' := (List.getElem?_eq_some_iff.mp h').1
  have he' := (List.getElem?_eq_some_iff.mp h').2
  have h1 : kms_lo (some (i : Int)) vs.length = i := by
    show (if (i : Int) < 0 then vs.length - (-(i : Int)).toNat else min ((i : Int)).toNat vs.length) = _
    rw [if_neg (by omega)]
    omega
  have h2 : kms_hi (some ((i : Int) + 2)) vs.length = i + 2 := by
    show (if ((i : Int) + 2) < 0 then vs.length - (-((i : Int) + 2)).toNat else min (((i : Int) + 2)).toNat vs.length) = _
    rw [if_neg (by omega)]
    omega
  unfold kms_pick
  rw [h1, h2, List.drop_eq_getElem_cons hlt, he, List.drop_eq_getElem_cons hlt', he']
  have : i + 2 - i = 2 := by omega
  rw [this]
  rfl
/-- the text of a token's rows -/
theorem line_of {rows : List Str} {B : List (List Nat)} {toks : List Tk} {due : List (Int × Int)} {clos : List Str} {rv : List Value} {t : Tk} (P : Pu 1000 rows B toks due clos) (hin : inRows B.length toks) (ht : t ∈ toks) (hS : StrsAre rv rows) :
    ∃ zs ys, kms_pick rv (some (t.a - 1)) (some t.b) = zs ∧ StrsAre zs ys ∧ ys.length ≤ 2 ∧ (∀ y ∈ ys, y.length ≤ 1000) ∧ zs.length ≤ 2 ∧ LineOk (Txt.join "" ys) (tof B t).b ∧ (Txt.join "" ys).length ≤ 5000 := by
  obtain ⟨h1, h2⟩ := hin t ht
  obtain ⟨hb, ha⟩ := P.tk t ht
  obtain ⟨hlen, hrow⟩ := P.rb
  have hrl := hS.length
  have get : ∀ i : Nat, i < B.length → ∃ x u b, rv[i]? = some (.str x u) ∧ B[i]? = some b ∧ RowOk x b ∧ x.length ≤ 1000 := by
    intro i hi
    obtain ⟨u, hv⟩ := hS.get i rows[i] (List.getElem?_eq_getElem (by omega))
    exact ⟨_, u, B[i], hv, List.getElem?_eq_getElem hi, hrow i _ _ (List.getElem?_eq_getElem (by omega)) (List.getElem?_eq_getElem hi), P.short _ (List.getElem_mem _)⟩
  rw [hb]
  rcases ha with ha | ⟨ha, h3⟩
  · obtain ⟨i, hi⟩ : ∃ i : Nat, t.er = (i : Int) + 1 := ⟨(t.er - 1).toNat, by omega⟩
    obtain ⟨x, u, b, e1, e2, e3, e4⟩ := get i (by omega)
    refine ⟨[.str x u], [x], ?_, .cons _ _ .nil, by simp, by simpa using e4, by simp, ?_, by rw [join_one]; omega⟩
    · rw [ha, hi]
      have : (i : Int) + 1 - 1 = i := by omega
      rw [this]
      exact pick_one e1
    · rw [join_one]
      have : (tof B t).b = b := by
        have e : (t.er - 1).toNat = i := by omega
        simp only [tof, e, e2, Option.getD_some]
      rw [this]
      exact .inl e3
  · obtain ⟨i, hi⟩ : ∃ i : Nat, t.er = (i : Int) + 2 := ⟨(t.er - 2).toNat, by omega⟩
    obtain ⟨x, u, b, e1, e2, e3, e4⟩ := get i (by omega)
    obtain ⟨x', u', b', e1', e2', e3', e4'⟩ := get (i + 1) (by omega)
    refine ⟨[.str x u, .str x' u'], [x, x'], ?_, .cons _ _ (.cons _ _ .nil), by simp, by simpa using ⟨e4, e4'⟩, by simp, ?_, by rw [join_two, str_len_append]; omega⟩
    · rw [ha, hi]
      have : (i : Int) + 2 - 1 - 1 = i := by omega
      rw [this]
      exact pick_two e1 e1'
    · rw [join_two]
      have : (tof B t).b = b' := by
        have e : (t.er - 1).toNat = i + 1 := by omega
        simp only [tof, e, e2', Option.getD_some]
      rw [this]
      exact .inr ⟨x, x', b, rfl, e3, e3'⟩
end Mine

-- part L3
namespace Mine
open PySem PySem.W PyProof.Rows PySem.Calls
local macro_rules | `(tactic| walk_at "clr") => `(tactic| ((rename St _ _ _ _ _ _ _ _ => Sx); clear Sx))
local macro_rules | `(tactic| walk_at "sub") => `(tactic| first
  | exact fun _ h => h
  | exact fun _ h => .tail _ h
  | exact fun _ h => .tail _ (.tail _ h)
  | exact fun _ h => .tail _ (.tail _ (.tail _ h))
  | exact fun _ h => .tail _ (.tail _ (.tail _ (.tail _ h)))
  | exact fun _ h => .tail _ (.tail _ (.tail _ (.tail _ (.tail _ h))))
  | exact fun _ h => .tail _ (.tail _ (.tail _ (.tail _ (.tail _ (.tail _ h))))))
local macro_rules | `(tactic| walk_at "mem") => `(tactic| first
  | exact mem_l0
  | exact mem_l1
  | exact mem_l2
  | exact mem_l3
  | exact mem_l4
  | exact mem_i (by assumption)
  | exact mem_i (.head _)
  | exact mem_i (.tail _ (.head _))
  | exact mem_i (.tail _ (.tail _ (.head _)))
  | fail "mem")
local macro_rules | `(tactic| walk_at "go") => `(tactic| with_reducible first
  | (refine r_int (by assumption) ?_; walk_at "clr"; intro t s S)
  | refine y_more ?_
  | refine spliced_none ?_
  | refine r_tuple ?_
  | (refine r_newTuple (by assumption) ?_; walk_at "clr"; intro a s S)
  | refine wpAny_BinOp ?_
  | refine Subscript_ ?_
  | refine y_callN (id := "len") ?_
  | refine y_callB ?_
  | refine y_callT ?_
  | refine y_callM1 ?_
  | refine wpAny_truthy_bool ?_
  | (refine r_add (by assumption) ?_; walk_at "clr"; intro t s S)
  | refine x_assign ?_
  | refine y_isTrueCmp ?_
  | refine r_lt ?_
  | refine r_eqi ?_
  | refine r_nei ?_
  | refine r_gt ?_
  | (refine r_str (by assumption) ?_; walk_at "clr"; intro t s S)
  | (refine r_sub (by assumption) ?_; walk_at "clr"; intro t s S)
  | refine r_list ?_
  | (refine r_newList (by assumption) ?_; walk_at "clr"; intro a s S hnew)
  | refine x_return ?_
  | refine x_expr ?_
  | ((show wpAny _ _ (eval (Expr.Call (Expr.Attribute (Expr.Name _ _) _ _) _ _ _) _) _ _ _); refine y_callM ?_)
  | refine y_append (by assumption) (by walk_at "mem") ?_
  | refine isTrue_and ?_
  | refine isTrue_and_nil ?_
  | refine ite_t ?_
  | refine ite_f ?_
  | refine x_assignT ?_
  | refine IfExp_ ?_
  | refine UnaryOp_ ?_
  | (refine r_neg (by assumption) ?_; walk_at "clr"; intro t s S)
  | refine cont_next ?_
  | refine x_nil ?_)
section
variable {prog : Program} {w : World} {A A₀ : Around} {s : Shared} {env : Env} {base : Heap} {outer : List Env}
variable {hb : Heap} {L fa : Addr} {cd : Value} {m : Str → Option Value} {led imm own : Led} {R : Rest}
variable {Q : Value → Shared → Prop}

def lFor : Stmt := nth lBody 3
def lForBody : List Stmt := dBody lFor
def cComp : Expr := match nth lForBody 1 with | .Assign _ v _ => v | _ => default
def cElt : Expr := match cComp with | .ListComp e _ _ _ => e | _ => default
def cScope : Scope := match cComp with | .ListComp _ _ sc _ => sc | _ => default
abbrev cenv (L fa : Addr) (cd : Value) (C : Addr) : Env := compEnvC cScope [("rows", L + 1)] C (lenv L fa cd)

theorem r_t {C : Addr} {oC : Obj} {m₂ : Str → Option Value} {v : Value} {pos : Pos} (S : St hb L m led imm own R s) (hm : (C, oC) ∈ own) (hC : LCg.NsObj oC m₂) (hv : m₂ "t" = some v) (h : Q v s) :
    wpAny (model prog w) A (eval (.Name "t" pos) (cenv L fa cd C)) Q NoE s :=
  wpAny_Name (wpAny_loadName_local (env := cenv L fa cd C) rfl rfl (hC.ns (S.mem (p := (C, oC)) (by simp [hm]))) hv h) (by decide)
theorem r_rows {C : Addr} {oc : Obj} {v : Value} {pos : Pos} (S : St hb L m led imm own R s) (hm : (L + 1, oc) ∈ led ++ (imm ++ own)) (hd : oc.data = .cell (some v)) (h : Q v s) :
    wpAny (model prog w) A (eval (.Name "rows" pos) (cenv L fa cd C)) Q NoE s :=
  lcf_cell S.N (by rfl) hm hd h rfl rfl (by decide)
theorem sum_le {ys : List Str} (h : ∀ y ∈ ys, y.length ≤ 1000) : (ys.map (·.length)).sum ≤ ys.length * 1000 := by
  induction ys with
  | nil => simp
  | cons a r ih =>
    have h1 := h a (.head _)
    have h2 := ih fun y hy => h y (.tail _ hy)
    simp only [List.map_cons, List.sum_cons, List.length_cons]
    omega
theorem datTk_inv {v : Value} {t : Tk} (h : DatIn imm v (datTk t)) : ∃ (l : Addr) (n : Nat) (t1 t2 t5 t6 : Tok) (p q : Addr) (u1 u2 u3 u4 : Tok) (n1 n2 : Nat), v = .ref l ∧
    (l, listOf [Value.int t.kind t1, .str t.text t2, .ref p, .ref q, .int t.a t5, .int t.b t6].toArray n) ∈ imm ∧ (p, tup2 t.sr t.sc u1 u2 n1) ∈ imm ∧ (q, tup2 t.er t.ec u3 u4 n2) ∈ imm := by
  unfold datTk at h
  cases h with
  | list hl hall =>
    cases hall with | cons h1 hall =>
    cases h1 with | int _ t1 =>
    cases hall with | cons h2 hall =>
    cases h2 with | str _ t2 =>
    cases hall with | cons h3 hall =>
    cases hall with | cons h4 hall =>
    cases hall with | cons h5 hall =>
    cases h5 with | int _ t5 =>
    cases hall with | cons h6 hall =>
    cases h6 with | int _ t6 =>
    cases hall with | nil =>
    cases h3 with | tuple hp hq1 =>
    cases hq1 with | cons a1 hq1 =>
    cases a1 with | int _ u1 =>
    cases hq1 with | cons a2 hq1 =>
    cases a2 with | int _ u2 =>
    cases hq1 with | nil =>
    cases h4 with | tuple hq hq2 =>
    cases hq2 with | cons a3 hq2 =>
    cases a3 with | int _ u3 =>
    cases hq2 with | cons a4 hq2 =>
    cases a4 with | int _ u4 =>
    cases hq2 with | nil =>
    exact ⟨_, _, t1, t2, t5, t6, _, _, u1, u2, u3, u4, _, _, rfl, hl, hp, hq⟩

local macro_rules | `(tactic| walk_at "t") => `(tactic| with_reducible first
  | refine r_t (by assumption) (by assumption) (by assumption) (by assumption) ?_)
set_option maxHeartbeats 4000000 in
theorem elt_eval {C ra : Addr} {oC oc : Obj} {m₂ : Str → Option Value} {v : Value} {rv : List Value} {n : Nat} {rows : List Str} {B : List (List Nat)} {toks : List Tk} {due : List (Int × Int)} {clos : List Str} {t : Tk}
    (S : St hb L m led imm own R s) (hCm : (C, oC) ∈ own) (hC : LCg.NsObj oC m₂) (hv : m₂ "t" = some v) (hm : (L + 1, oc) ∈ led ++ (imm ++ own)) (hd : oc.data = .cell (some (.ref ra))) (hr : (ra, listOf rv.toArray n) ∈ imm)
    (P : Pu 1000 rows B toks due clos) (hin : inRows B.length toks) (ht : t ∈ toks) (hS : StrsAre rv rows) (hT : DatIn imm v (datTk t)) :
    wpAny (model prog w) A (eval cElt (cenv L fa cd C)) (fun y s' => ∃ imm', (∀ p ∈ imm, p ∈ imm') ∧ St hb L m led imm' own R s' ∧ TokAt imm' y (tof B t)) NoE s := by
  obtain ⟨l, ln, t1, t2, t5, t6, p, q, u1, u2, u3, u4, n1, n2, rfl, hl, hp, hq⟩ := datTk_inv hT
  obtain ⟨zs, ys, hpick, hzs, hy2, hy1, hz2, hline, hlen⟩ := line_of P hin ht hS
  have hrl := hS.length
  have hrk := P.kr
  have hrB := P.rb.1
  unfold cElt
  refine r_tuple ?_
  repeat (first | walk_at "go" | walk_at "t")
  refine r_item (by assumption) (mem_i hl) (by decide) (by decide) rfl ?_
  repeat (first | walk_at "go" | walk_at "t")
  refine r_item (by assumption) (mem_i hl) (by decide) (by decide) rfl ?_
  repeat (first | walk_at "go" | walk_at "t")
  refine r_item (by assumption) (mem_i hl) (by decide) (by decide) rfl ?_
  repeat (first | walk_at "go" | walk_at "t")
  refine r_item (by assumption) (mem_i hl) (by decide) (by decide) rfl ?_
  repeat (first | walk_at "go" | walk_at "t")
  refine MethodCall_ ?_ (by with_unfolding_all rfl)
  refine r_str (by assumption) fun t9 s S => ?_
  refine GM.join ?_
  refine y_callM1 ?_
  refine y_more ?_
  refine Subscript_ ?_
  refine r_rows S (by assumption) hd ?_
  refine y_slice (hb := hb) (L := L) (its := rv.toArray) (n := n) (zs := zs) (lo := some (t.a - 1)) (hi := some t.b) (wpAny_evalPart_some ?_)
  repeat (first | walk_at "go" | walk_at "t")
  refine r_item (by assumption) (mem_i hl) (by decide) (by decide) rfl ?_
  repeat (first | walk_at "go" | walk_at "t")
  refine wpAny_evalPart_some ?_
  repeat (first | walk_at "go" | walk_at "t")
  refine r_item (by assumption) (mem_i hl) (by decide) (by decide) rfl ?_
  refine ⟨_, _, _, _, _, (by assumption), mem_i hr, .int _ _, .int _ _, (by simp; omega), by simpa using hpick, fun D s S hD => ?_⟩
  refine spliced_none ?_
  show wpAny _ _ (call (.builtin "str.join") [.str "" t9, .ref D]) _ _ _
  have hsum := sum_le hy1
  refine join_listC (items := zs.toArray) (ys := ys) ⟨_, S.mem (mem_i (.head _)), rfl, 0, rfl⟩ (by simpa using hzs) (by decide +kernel) (by omega) (fun t10 k => ?_)
  replace S := S.tok k
  refine spliced_none ?_
  refine r_newTuple S fun r s S => ?_
  exact ⟨_, fun _ h => .tail _ (.tail _ h), S, r, p, q, _, t1, t2, t10, t.sc, t.ec, u1, u2, u3, u4, n1, n2, rfl, .head _, .tail _ (.tail _ hp), .tail _ (.tail _ hq), hline, hlen⟩
end
end Mine

-- part L4
namespace Mine
open PySem PySem.W PyProof.Rows PySem.Calls
local macro_rules | `(tactic| walk_at "clr") => `(tactic| ((rename St _ _ _ _ _ _ _ _ => Sx); clear Sx))
local macro_rules | `(tactic| walk_at "sub") => `(tactic| first
  | exact fun _ h => h
  | exact fun _ h => .tail _ h
  | exact fun _ h => .tail _ (.tail _ h)
  | exact fun _ h => .tail _ (.tail _ (.tail _ h))
  | exact fun _ h => .tail _ (.tail _ (.tail _ (.tail _ h)))
  | exact fun _ h => .tail _ (.tail _ (.tail _ (.tail _ (.tail _ h))))
  | exact fun _ h => .tail _ (.tail _ (.tail _ (.tail _ (.tail _ (.tail _ h))))))
local macro_rules | `(tactic| walk_at "mem") => `(tactic| first
  | exact mem_l0
  | exact mem_l1
  | exact mem_l2
  | exact mem_l3
  | exact mem_l4
  | exact mem_i (by assumption)
  | exact mem_i (.head _)
  | exact mem_i (.tail _ (.head _))
  | exact mem_i (.tail _ (.tail _ (.head _)))
  | fail "mem")
local macro_rules | `(tactic| walk_at "go") => `(tactic| with_reducible first
  | (refine r_int (by assumption) ?_; walk_at "clr"; intro t s S)
  | refine y_more ?_
  | refine spliced_none ?_
  | refine r_tuple ?_
  | (refine r_newTuple (by assumption) ?_; walk_at "clr"; intro a s S)
  | refine wpAny_BinOp ?_
  | refine Subscript_ ?_
  | refine y_callN (id := "len") ?_
  | refine y_callB ?_
  | refine y_callT ?_
  | refine y_callM1 ?_
  | refine wpAny_truthy_bool ?_
  | (refine r_add (by assumption) ?_; walk_at "clr"; intro t s S)
  | refine x_assign ?_
  | refine y_isTrueCmp ?_
  | refine r_lt ?_
  | refine r_eqi ?_
  | refine r_nei ?_
  | refine r_gt ?_
  | (refine r_str (by assumption) ?_; walk_at "clr"; intro t s S)
  | (refine r_sub (by assumption) ?_; walk_at "clr"; intro t s S)
  | refine r_list ?_
  | (refine r_newList (by assumption) ?_; walk_at "clr"; intro a s S hnew)
  | refine x_return ?_
  | refine x_expr ?_
  | ((show wpAny _ _ (eval (Expr.Call (Expr.Attribute (Expr.Name _ _) _ _) _ _ _) _) _ _ _); refine y_callM ?_)
  | refine y_append (by assumption) (by walk_at "mem") ?_
  | refine isTrue_and ?_
  | refine isTrue_and_nil ?_
  | refine ite_t ?_
  | refine ite_f ?_
  | refine x_assignT ?_
  | refine IfExp_ ?_
  | refine UnaryOp_ ?_
  | (refine r_neg (by assumption) ?_; walk_at "clr"; intro t s S)
  | refine cont_next ?_
  | refine x_nil ?_)
section
variable {prog : Program} {w : World} {A A₀ : Around} {s : Shared} {env : Env} {base : Heap} {outer : List Env}
variable {hb : Heap} {L fa : Addr} {cd : Value} {m : Str → Option Value} {led imm imm0 own : Led} {R : Rest}
variable {Q : Value → Shared → Prop} {QF : Flow → Shared → Prop}

theorem datAll_get {vs : List Value} {ds : List Dat} (h : DatAll imm vs ds) : ∀ (i : Nat) (d : Dat), ds[i]? = some d → ∃ v, vs[i]? = some v ∧ DatIn imm v d := by
  intro i
  induction i generalizing vs ds with
  | zero =>
    intro d hd
    cases h with
    | nil => simp at hd
    | cons a r => simp at hd; subst hd; exact ⟨_, rfl, a⟩
  | succ i ih =>
    intro d hd
    cases h with
    | nil => simp at hd
    | cons a r =>
      obtain ⟨v, e, x⟩ := ih r d (by simpa using hd)
      exact ⟨v, by simpa using e, x⟩
theorem off1_mem {D : Addr} : ∀ {l : List (Addr × Obj)}, LCg.Off1 D l → ∀ p ∈ l, p.1 ≠ D
  | [], _, _, h => nomatch h
  | _ :: _, x, p, h => by
    rcases List.mem_cons.mp h with rfl | h
    · exact x.1
    · exact off1_mem x.2 p h
theorem toksAt_of {ys : List Value} {B : List (List Nat)} {toks : List Tk} (hl : ys.length = toks.length) (h : ∀ (j : Nat) (t : Tk), toks[j]? = some t → ∃ v, ys[j]? = some v ∧ TokAt imm v (tof B t)) : ToksAt imm ys (tofs B toks) := by
  refine ⟨by simpa [tofs] using hl, fun i t ht => ?_⟩
  simp only [tofs, List.getElem?_map, Option.map_eq_some_iff] at ht
  obtain ⟨t', h1, rfl⟩ := ht
  exact h i t' h1

theorem comp_rest {ra ta : Addr} {oc : Obj} {rv tv : List Value} {n1 n2 : Nat} {rows : List Str} {B : List (List Nat)} {toks : List Tk} {due : List (Int × Int)} {clos : List Str} {Fin : List Value → List (Addr × Obj) → Prop}
    (hm : (L + 1, oc) ∈ led ++ own) (hd : oc.data = .cell (some (.ref ra))) (hr : (ra, listOf rv.toArray n1) ∈ imm0) (ht : (ta, listOf tv.toArray n2) ∈ imm0)
    (P : Pu 1000 rows B toks due clos) (hin : inRows B.length toks) (hS : StrsAre rv rows) (hT : DatAll imm0 tv (toks.map datTk)) (nd : (led.map (·.1)).Nodup)
    (hfin : ∀ ys imm, ys.length = toks.length → (∀ p ∈ imm0, p ∈ imm) → OwnOff (imm ++ own) (led.map (·.1)) → (∀ p ∈ own, ∀ q ∈ imm, p.1 ≠ q.1) → ToksAt imm ys (tofs B toks) → Fin ys (led ++ (imm ++ own))) :
    ∀ (k i : Nat) (ys : List Value) (imm : Led), i + k = toks.length → ys.length = i → (∀ p ∈ imm0, p ∈ imm) → OwnOff (imm ++ own) (led.map (·.1)) → (∀ p ∈ own, ∀ q ∈ imm, p.1 ≠ q.1) →
      (∀ (j : Nat) (t : Tk), j < i → toks[j]? = some t → ∃ v, ys[j]? = some v ∧ TokAt imm v (tof B t)) →
      LCg.CompRest prog w A hb L m (lenv L fa cd) cElt "t" cScope [("rows", L + 1)] s (LCg.SrcAt hb ta tv.toArray) (fun i v => tv.toArray[i]? = some v) Fin k i ys (led ++ (imm ++ own)) := by
  intro k
  induction k with
  | zero =>
    intro i ys imm hi hl hsub off sep hys
    refine hfin ys imm (by omega) hsub off sep (toksAt_of (by omega) fun j t ht => hys j t ?_ ht)
    have := (List.getElem?_eq_some_iff.mp ht).1
    omega
  | succ k ih =>
    intro i ys imm hi hl hsub off sep hys
    refine LCg.CompRest.succ fun v I oI C oC D m₂ h tk E' hP hC hv F N off3 hne => ?_
    have hlt : i < toks.length := by omega
    obtain ⟨v', e1, hDv⟩ := datAll_get (hT.mono hsub) i (datTk toks[i]) (by simp [hlt])
    have hv' : v' = v := by
      have : tv[i]? = some v := by simpa using hP
      rw [this] at e1
      exact (Option.some.inj e1).symm
    subst hv'
    have o3 := off3.mem
    have S1 : St hb L m led imm ((I, oI) :: (C, oC) :: (D, LCg.lst ys) :: own) (s.gens, s.drawn, s.os) { s with heap := h, toks := tk } := by
      refine ⟨F, fun p hp => N p ?_, nd, ?_, ?_, rfl⟩
      · simp only [List.mem_append, List.mem_cons] at hp ⊢
        rcases hp with h | h | h | h | h | h <;> simp [h]
      · intro p hp b hb'
        obtain ⟨q, hq, rfl⟩ := List.mem_map.mp hb'
        have z := o3 q (by simp [hq])
        simp only [List.mem_append, List.mem_cons] at hp
        rcases hp with h | rfl | rfl | rfl | h
        · exact off p (by simp [h]) _ hb'
        · exact fun e => z.1 e.symm
        · exact fun e => z.2.1 e.symm
        · exact fun e => z.2.2 e.symm
        · exact off p (by simp [h]) _ hb'
      · intro p hp q hq
        have z := o3 q (by simp [hq])
        simp only [List.mem_cons] at hp
        rcases hp with rfl | rfl | rfl | h
        · exact fun e => z.1 e.symm
        · exact fun e => z.2.1 e.symm
        · exact fun e => z.2.2 e.symm
        · exact sep p h q hq
    refine wpAny_mono (elt_eval (fa := fa) (cd := cd) (C := C) S1 (by simp) hC hv (oc := oc) (by
      simp only [List.mem_append, List.mem_cons] at hm ⊢
      rcases hm with h | h <;> simp [h]) hd (hsub _ hr) P hin (t := toks[i]) (List.getElem_mem _) hS hDv) (fun y s' hy => ?_) fun _ _ x => x.elim
    obtain ⟨imm', hs', S2, hTy⟩ := hy
    have hr2 := S2.r
    simp only [Prod.mk.injEq] at hr2
    refine ⟨s'.heap, s'.toks, led ++ (imm' ++ own), ?_, S2.F, fun p hp => S2.N p ?_, LCg.Off3.of fun p hp => ?_, .inr ⟨_, List.mem_append_right _ (List.mem_append_left _ (hs' _ (hsub _ ht))), rfl, n2, rfl⟩, ?_⟩
    · obtain ⟨h2, g2, d2, t2, o2⟩ := s'
      obtain ⟨e1, e2, e3⟩ := hr2
      simp only at e1 e2 e3
      subst e1 e2 e3
      rfl
    · simp only [List.mem_append, List.mem_cons] at hp ⊢
      rcases hp with h | h | h | h | h | h <;> simp [h]
    · simp only [List.mem_append] at hp
      rcases hp with hp | hp | hp
      · exact o3 p (by simp [hp])
      · exact ⟨fun e => S2.sep (I, oI) (by simp) p hp e.symm, fun e => S2.sep (C, oC) (by simp) p hp e.symm, fun e => S2.sep (D, LCg.lst ys) (by simp) p hp e.symm⟩
      · exact o3 p (by simp [hp])
    · refine ih (i + 1) (ys ++ [y]) imm' (by omega) (by simp [hl]) (fun p hp => hs' p (hsub p hp)) (fun p hp b hb' => ?_) (fun p hp q hq => S2.sep p (by simp [hp]) q hq) (fun j t hj ht => ?_)
      · exact S2.off p (by simp only [List.mem_append, List.mem_cons] at hp ⊢; rcases hp with h | h <;> simp [h]) b hb'
      · by_cases hji : j < i
        · obtain ⟨u, h1, h2⟩ := hys j t hji ht
          exact ⟨u, by rw [List.getElem?_append_left (by omega)]; exact h1, h2.mono hs'⟩
        · have e : j = ys.length := by omega
          subst e
          have e2 : t = toks[i] := by
            have := (List.getElem?_eq_some_iff.mp ht).2
            rw [← this]
            congr 1
          subst e2
          exact ⟨y, by simp, hTy⟩

set_option maxHeartbeats 4000000 in
theorem x_comp {ra ta : Addr} {oc : Obj} {rv tv : List Value} {n1 n2 : Nat} {rows : List Str} {B : List (List Nat)} {toks : List Tk} {due : List (Int × Int)} {clos : List Str} {rest : List Stmt} {v0 v1 v2 v3 v4 v6 v7 : Option Value}
    (hA : A.handled = none) (S : St hb L (lm v0 v1 v2 v3 v4 (some (.ref ta)) v6 v7) led imm own R s)
    (hm : (L + 1, oc) ∈ led ++ own) (hd : oc.data = .cell (some (.ref ra))) (hr : (ra, listOf rv.toArray n1) ∈ imm) (ht : (ta, listOf tv.toArray n2) ∈ imm)
    (P : Pu 1000 rows B toks due clos) (hin : inRows B.length toks) (hS : StrsAre rv rows) (hT : DatAll imm tv (toks.map datTk))
    (h : ∀ D ys n imm' s', St hb L (lm v0 v1 v2 v3 v4 (some (.ref ta)) v6 (some (.ref D))) led ((D, listOf ys.toArray n) :: imm') own R s' → (∀ p ∈ imm, p ∈ imm') → ToksAt imm' ys (tofs B toks) → wpAny (model prog w) A (execs rest (lenv L fa cd)) QF NoE s') :
    wpAny (model prog w) A (execs (nth lForBody 1 :: rest) (lenv L fa cd)) QF NoE s := by
  have hlt := hT.length
  rw [List.length_map] at hlt
  have hkt := P.kt
  refine wpAny_execs_cons ?_
  refine LCg.Assign_ListComp_U (F₀ := S.F) rfl (by with_unfolding_all rfl) (by with_unfolding_all rfl) (by decide) (by rfl) (by decide) (by rfl) (by rfl) (by rfl) (l_ld_plain S rfl ?_) (by intro _; with_unfolding_all rfl)
  refine LCg.CompSrc.ledger hA S.F S.N (mem_i ht) (by rw [sizeLine_eq, List.size_toArray]; omega) fun g => ?_
  rw [List.size_toArray, hlt]
  refine comp_rest (fa := fa) (cd := cd) (imm0 := imm) hm hd hr ht P hin hS hT S.nd ?_ toks.length 0 [] imm (by omega) rfl (fun _ h => h) S.off S.sep (fun j t hj => by omega)
  intro ys imm' hyl hsub off sep hTy D h' tk F' N' o1
  have o1' := off1_mem o1
  refine h D ys ys.length imm' _ ⟨by rw [ls_tokens] at F'; exact F', fun p hp => N' p ?_, S.nd, ?_, ?_, S.r⟩ hsub hTy
  · simp only [List.mem_append, List.mem_cons] at hp ⊢
    rcases hp with h | (h | h) | h <;> simp [h]
  · intro p hp b hb'
    obtain ⟨q, hq, rfl⟩ := List.mem_map.mp hb'
    simp only [List.mem_append, List.mem_cons] at hp
    rcases hp with (rfl | hp) | hp
    · exact fun e => o1' q (by simp [hq]) e.symm
    · exact off p (by simp [hp]) _ hb'
    · exact off p (by simp [hp]) _ hb'
  · intro p hp q hq
    rcases List.mem_cons.mp hq with rfl | hq
    · exact o1' p (by simp [hp])
    · exact sep p hp q hq
end
end Mine

-- part L5
namespace Mine
open PySem PySem.W PyProof.Rows PySem.Calls

section
variable {prog : Program} {w : World} {A A₀ : Around} {s : Shared} {env : Env} {base : Heap} {outer : List Env}
variable {hb : Heap} {L fa : Addr} {cd : Value} {m : Str → Option Value} {led imm imm0 own : Led} {R : Rest}
variable {Q : Value → Shared → Prop} {QF : Flow → Shared → Prop} {QU : Unit → Shared → Prop}

theorem St.toOwn {l1 : Led} {e : Addr × Obj} (S : St hb L m (l1 ++ [e]) imm own R s) : St hb L m l1 imm (e :: own) R s := by
  have nd := S.nd
  rw [List.map_append, List.nodup_append] at nd
  refine ⟨S.F, fun p hp => S.N p ?_, nd.1, ?_, ?_, S.r⟩
  · simp only [List.mem_append, List.mem_cons, List.not_mem_nil, or_false] at hp ⊢
    rcases hp with h | h | h | h <;> simp [h]
  · intro p hp b hb'
    simp only [List.mem_append, List.mem_cons] at hp
    rcases hp with h | rfl | h
    · exact S.off p (by simp [h]) b (by simp only [List.map_append, List.mem_append]; exact .inl hb')
    · exact fun h => nd.2.2 b hb' p.1 (by simp) h.symm
    · exact S.off p (by simp [h]) b (by simp only [List.map_append, List.mem_append]; exact .inl hb')
  · intro p hp q hq
    rcases List.mem_cons.mp hp with rfl | hp
    · exact fun e => S.off q (by simp [hq]) p.1 (by simp) e.symm
    · exact S.sep p hp q hq
theorem St.ofOwn {l1 : Led} {e : Addr × Obj} (S : St hb L m l1 imm (e :: own) R s) (hn : ∀ q ∈ own, e.1 ≠ q.1) : St hb L m (l1 ++ [e]) imm own R s := by
  refine ⟨S.F, fun p hp => S.N p ?_, ?_, ?_, fun p hp q hq => S.sep p (.tail _ hp) q hq, S.r⟩
  · simp only [List.mem_append, List.mem_cons, List.not_mem_nil, or_false] at hp ⊢
    rcases hp with (h | h) | h | h <;> simp [h]
  · rw [List.map_append, List.nodup_append]
    refine ⟨S.nd, by simp, fun a ha b hb' => ?_⟩
    have : b = e.1 := by simpa using hb'
    subst this
    exact fun h => S.off e (by simp) a ha h.symm
  · intro p hp b hb'
    rw [List.map_append] at hb'
    rcases List.mem_append.mp hb' with hb' | hb'
    · exact S.off p (by simp only [List.mem_append, List.mem_cons] at hp ⊢; rcases hp with h | h <;> simp [h]) b hb'
    · have : b = e.1 := by simpa using hb'
      subst this
      rcases List.mem_append.mp hp with h | h
      · exact fun h' => S.sep e (by simp) p h h'.symm
      · exact fun h' => hn p h h'.symm
theorem mem_o {p : Addr × Obj} {led imm own : Led} : p ∈ led ++ (imm ++ p :: own) := List.mem_append_right _ (List.mem_append_right _ (.head _))
/-- the loop's own object is turned -/
theorem St.turnOwn {I : Addr} {o o' : Obj} {h' : Heap} (S : St hb L m led imm [(I, o)] R s) (tk : Nat) (hs : Heap.SameBut I s.heap h') (ho : h'.get? I = some o') : St hb L m led imm [(I, o')] R { s with heap := h', toks := tk } := by
  have S1 := S.ofOwn (fun _ h => nomatch h)
  have e : (led ++ [(I, o)])[led.length]? = some (I, o) := by simp
  have S2 := S1.turn tk e hs ho
  have e2 : (led ++ [(I, o)]).set led.length (I, o') = led ++ [(I, o')] := by simp
  rw [e2] at S2
  exact S2.toOwn
theorem x_forR {x : Str} {px pos : Pos} {iter : Expr} {body rest : List Stmt} {kmax : Nat} (Inv : Nat → (Str → Option Value) → Led → Led → Rest → Prop) (hA : A.handled = none) (hx : env.kindOf x = some .local)
    (hp : (env.scope.kind == .class || (env.scope.kind == .module && env.locals != env.globals)) = false)
    (turn : ∀ (i : Nat) (t : Tok) (m : Str → Option Value) (led imm : Led) (R : Rest) (I : Addr) (oI : Obj) (s : Shared), i < kmax → Inv i m led imm R → St hb env.locals (fun y => if y = x then some (.int (i : Int) t) else m y) led imm [(I, oI)] R s →
      wpAny (model prog w) A (execs body env) (fun f s' => f = .next ∧ ∃ m' led' imm' R', St hb env.locals m' led' imm' [(I, oI)] R' s' ∧ Inv (i + 1) m' led' imm' R') NoE s)
    (done : ∀ (k : Nat) (m : Str → Option Value) (led imm : Led) (R : Rest) (s : Shared), Inv k m led imm R → St hb env.locals m led imm [] R s → wpAny (model prog w) A (execs rest env) QF NoE s)
    (h : wpAny (model prog w) A (eval iter env) (fun xv s₁ => ∃ (k : Nat) (r : Addr) (t a b : Tok) (m : Str → Option Value) (led imm : Led) (R : Rest), xv = .ref r ∧ St hb env.locals m led imm [] R s₁ ∧ (r, rangeObj k t a b) ∈ imm ∧ k ≤ 1000 ∧ k ≤ kmax ∧ Inv 0 m led imm R) NoE s)
    (hs : ∀ x, foldedSetIterable iter env x = pure x := by intro _; with_unfolding_all rfl) :
    wpAny (model prog w) A (execs (.For (.Name x px) iter body [] pos :: rest) env) QF NoE s := by
  refine wpAny_execs_cons (wpAny_For (wpAny_mono h (fun xv s₁ h₁ => ?_) fun _ _ x => x) hs)
  obtain ⟨k, r, t, a, b, m, led, imm, R, rfl, S, hm, hk, hkm, h0⟩ := h₁
  have hr : IsRange s₁.heap r 0 k 1 a t b := S.mem (mem_i hm)
  refine wpAny_pyIter_range hr (small_one (by decide) (by decide) (by omega) (by omega)) ?_
  have hsz : Builtin.Range.rangeSize 0 k 1 = (k : Int) := by rw [rangeSize_one]; split <;> omega
  have S₁ := (S.push { cls := .type "range_iterator", data := .fields #[rawInt 0, rawInt (Builtin.Range.rangeSize 0 k 1), rawInt 1] } s₁.toks)
  have S₂ := (St.toLed (l1 := led) S₁ (fun q hq => Nat.ne_of_gt (Heap.lt_size (S.N q (by simp [hq])).1))).toOwn
  rw [hsz] at S₂ ⊢
  refine codeAny_forLoop (fun n s' => ∃ (i : Nat) (m : Str → Option Value) (led imm : Led) (R : Rest) (oI : Obj), i ≤ k ∧ n = k - i ∧ St hb env.locals m led imm [(s₁.heap.objs.size, oI)] R s' ∧ IsRangeIter s'.heap s₁.heap.objs.size ((0 : Int) + i) ((k : Int) - i) 1 ∧ Inv i m led imm R)
    (fun n s' hI => ?_) k ⟨0, m, led, imm, R, _, by omega, by omega, S₂, ?_, h0⟩
  · obtain ⟨i, m, led, imm, R, oI, hik, rfl, S, hit, hInv⟩ := hI
    by_cases hlt : i < k
    · refine wpAny_pyNext_range_item hit (by omega) fun h' hit' hs' => ?_
      have S3 := S.turnOwn (s'.toks + 1) hs' hit'
      refine wpAny_assign_Name ?_
      refine wpAny_storeName_local hx S3.F.ns (fun h2 hn hs2 => ?_) hp
      have S4 := S3.store (s'.toks + 1 + 1) hn hs2
      have e0 : (0 : Int) + (i : Int) = (i : Int) := by omega
      rw [e0] at S4
      refine wpAny_mono (turn i _ m led imm R _ _ _ (by omega) hInv S4) (fun f s3 hf => ?_) fun _ _ x => x.elim
      obtain ⟨rfl, m', led', imm', R', S5, hInv'⟩ := hf
      refine ⟨k - (i + 1), by omega, i + 1, m', led', imm', R', _, by omega, rfl, S5, ?_, hInv'⟩
      have z := S5.mem mem_o
      have e1 : (0 : Int) + ((i + 1 : Nat) : Int) = (i : Int) + 1 := by omega
      have e2 : (k : Int) - ((i + 1 : Nat) : Int) = (k : Int) - (i : Int) - 1 := by omega
      rw [e1, e2]
      exact z
    · have hik' : i = k := by omega
      subst hik'
      refine wpAny_pyNext_range_end hA hit (by omega) fun h' hx' => ?_
      have S3 := (S.ofOwn (fun _ h => nomatch h)).lose s'.toks hx'
      refine wpAny_execs_nil ?_
      exact done _ m led imm R _ hInv S3
  · have z := S₂.mem mem_o
    have e1 : (0 : Int) + ((0 : Nat) : Int) = 0 := by omega
    have e2 : (k : Int) - ((0 : Nat) : Int) = (k : Int) := by omega
    rw [e1, e2]
    exact z
end
end Mine

-- part L6
namespace Mine
open PySem PySem.W PyProof.Rows PySem.Calls

section
variable {prog : Program} {w : World} {A A₀ : Around} {s : Shared} {env : Env} {base : Heap} {outer : List Env}
variable {hb : Heap} {L fa : Addr} {cd : Value} {m : Str → Option Value} {led imm imm0 own : Led} {R : Rest}
variable {Q : Value → Shared → Prop} {QF : Flow → Shared → Prop} {QU : Unit → Shared → Prop}

theorem kk_build : nsIn (KK w) mainGlobals "_law_build" = some (some (.ref 57)) := by rfl
theorem kk_elj : nsIn (KK w) mainGlobals "explicit_line_join" = some (some (.ref 43)) := by rfl
theorem kk_list : nsIn (KK w) mainGlobals "list" = some none := by rfl
theorem keep57 : keepIn (KK w) (.ref 57) = true := by rfl
theorem keep43 : keepIn (KK w) (.ref 43) = true := by rfl
theorem bb_list : bootBuiltins "list" = some (.type "list") := by boot_by_name
theorem lk_build : (lenv L fa cd).kindOf "_law_build" = some .globalImplicit := by rfl
theorem lk_next : (lenv L fa cd).kindOf "_law_next" = some .globalImplicit := by rfl
theorem lk_elj : (lenv L fa cd).kindOf "explicit_line_join" = some .globalImplicit := by rfl
theorem lk_list : (lenv L fa cd).kindOf "list" = some .globalImplicit := by rfl
theorem lk_range : (lenv L fa cd).kindOf "range" = some .globalImplicit := by rfl

theorem st_cell {k : Nat} {oc : Obj} {vv : Option Value} {v : Value} (S : St hb L m led imm own R s) (hk : led[k]? = some (L + 1, oc)) (hd : oc.data = .cell vv)
    (h : ∀ oc' s', oc'.data = .cell (some v) → St hb L m (led.set k (L + 1, oc')) imm own R s' → QU () s') : wpAny (model prog w) A (storeName (lenv L fa cd) "rows" v) QU NoE s := by
  have hkl : k < led.length := (List.getElem?_eq_some_iff.mp hk).1
  have hke : led[k] = (L + 1, oc) := (List.getElem?_eq_some_iff.mp hk).2
  have hmem : (L + 1, oc) ∈ led := hke ▸ List.getElem_mem hkl
  refine wpAny_storeName_cell (env := lenv L fa cd) (c := L + 1) rfl (by rfl) (by rfl) ⟨oc, S.mem (List.mem_append_left _ hmem), hd⟩ (fun h' hv hs => ?_)
  obtain ⟨oc', e, d⟩ := hv
  exact h oc' _ d (S.turn s.toks hk hs e)

def dl (ys : List (Int × Int)) : Dat := .list (ys.map datDue)
def LawInv (L : Addr) (dr : Drawn) (os : OsState) (i : Nat) (m : Str → Option Value) (led imm : Led) (R : Rest) : Prop :=
  ∃ (st ta da : Addr) (o : Obj) (tdv : List Value) (n1 : Nat) (duv : List Value) (n2 : Nat) (oc : Obj) (vv : Option Value) (yss : List (List (Int × Int))) (G : Array GenState) (v0 v4 v5 v6 v7 : Option Value),
    m = lm v0 (some (.ref st)) (some (.ref ta)) (some (.ref da)) v4 v5 v6 v7 ∧ led = [(st, o), (ta, listOf tdv.toArray n1), (da, listOf duv.toArray n2), (L + 1, oc)] ∧ oc.data = .cell vv ∧ Draw imm o ∧
    DatAll imm tdv (yss.map dl) ∧ DatAll imm duv (yss.map dl) ∧ yss.length = i ∧ R = (G, dr, os) ∧ AllDone G

set_option maxHeartbeats 4000000 in
theorem law_turn {dr : Drawn} {os : OsState} {i : Nat} {v : Value} {I : Addr} {oI : Obj} (BS : Bs w A₀ base outer hb) (hr : Rmb 6 A) (hA : A.frames = some (lenv L fa cd :: outer)) (hi : i < 2)
    (J : LawInv L dr os i m led imm R) (S : St hb L (fun y => if y = ("_" : Str) then some v else m y) led imm [(I, oI)] R s) :
    wpAny (model prog w) A (execs lForBody (lenv L fa cd)) (fun f s' => f = .next ∧ ∃ m' led' imm' R', St hb L m' led' imm' [(I, oI)] R' s' ∧ LawInv L dr os (i + 1) m' led' imm' R') NoE s := by
  obtain ⟨st, ta, da, o, tdv, n1, duv, n2, oc, vv, yss, G, v0, v4, v5, v6, v7, rfl, rfl, hoc, D, Dt, Dd, hyl, rfl, hG⟩ := J
  rw [ls__] at S
  have hA' : A.handled = none := hr.h
  have hl1 := Dt.length
  have hl2 := Dd.length
  rw [List.length_map] at hl1 hl2
  have nd := S.nd
  simp only [List.map_cons, List.map_nil, List.nodup_cons, List.mem_cons, List.not_mem_nil, or_false, not_or] at nd
  have offI := S.off (I, oI) (by simp)
  simp only [List.map_cons, List.map_nil, List.mem_cons, List.not_mem_nil, or_false, forall_eq_or_imp, forall_eq] at offI
  show wpAny (model prog w) A (execs [nth lForBody 0, nth lForBody 1, nth lForBody 2, nth lForBody 3] (lenv L fa cd)) _ _ _
  refine x_assignT ?_
  refine y_callN (r_glob BS S kk_build rfl lk_build rfl (by decide) ?_)
  refine callWith_K BS.X keep57 ?_ (by rfl) (by rfl)
  refine y_more (l_ld_state S rfl ?_) (by rfl)
  refine spliced_none ⟨BS.X.keeps S.F.keep, ?_⟩
  have S1 := St.toOwn (l1 := [(st, o)]) (St.toOwn (l1 := [(st, o), (ta, listOf tdv.toArray n1)]) (St.toOwn (l1 := [(st, o), (ta, listOf tdv.toArray n1), (da, listOf duv.toArray n2)]) S))
  refine call_build (env := lenv L fa cd) (keep := imm) BS hr hA rfl rfl S1 D (fun _ h => h) (fun _ h => h) fun r led' imm' s S2 hB => ?_
  clear S1 S
  obtain ⟨hkeep, o2, ra, rv, m1, pt, tv, m2, pl, dv, m3, ca, cv, m4, rows, B, toks, due, rfl, hrm, D2, Da, Pu, hin, hdue⟩ := hB
  replace S2 : St hb L _ _ _ _ _ s := S2
  have S3 := St.toImm (l1 := [(st, o2)]) (St.toImm (l1 := [(st, o2), (ra, listOf rv.toArray m1)]) (St.toImm (l1 := [(st, o2), (ra, listOf rv.toArray m1), (pt, listOf tv.toArray m2)]) (St.toImm (l1 := [(st, o2), (ra, listOf rv.toArray m1), (pt, listOf tv.toArray m2), (pl, listOf dv.toArray m3)]) S2)))
  have S4 := S3.ofOwn (by
    intro q hq
    simp only [List.mem_cons, List.not_mem_nil, or_false] at hq
    rcases hq with rfl | rfl | rfl
    · exact nd.2.1.1
    · exact nd.2.1.2
    · exact fun e => offI.2.1 e.symm)
  have S5 := S4.ofOwn (by
    intro q hq
    simp only [List.mem_cons, List.not_mem_nil, or_false] at hq
    rcases hq with rfl | rfl
    · exact nd.2.2.1
    · exact fun e => offI.2.2.1 e.symm)
  have S6 := S5.ofOwn (by
    intro q hq
    simp only [List.mem_cons, List.not_mem_nil, or_false] at hq
    rcases hq with rfl
    exact fun e => offI.2.2.2 e.symm)
  replace S6 : St hb L _ [(st, o2), (ta, listOf tdv.toArray n1), (da, listOf duv.toArray n2), (L + 1, oc)] _ _ _ s := S6
  clear S2 S3 S4 S5
  have sub4 : ∀ p ∈ imm', p ∈ (ra, listOf rv.toArray m1) :: (pt, listOf tv.toArray m2) :: (pl, listOf dv.toArray m3) :: (ca, listOf cv.toArray m4) :: imm' := fun _ h => .tail _ (.tail _ (.tail _ (.tail _ h)))
  generalize hI4 : (ra, listOf rv.toArray m1) :: (pt, listOf tv.toArray m2) :: (pl, listOf dv.toArray m3) :: (ca, listOf cv.toArray m4) :: imm' = imm4 at S6 sub4
  have hra : (ra, listOf rv.toArray m1) ∈ imm4 := by rw [← hI4]; exact .head _
  have hpt : (pt, listOf tv.toArray m2) ∈ imm4 := by rw [← hI4]; exact .tail _ (.head _)
  have hpl : (pl, listOf dv.toArray m3) ∈ imm4 := by rw [← hI4]; exact .tail _ (.tail _ (.head _))
  refine y_unpack3 S6 (mem_i (sub4 _ hrm)) hA' fun s S7 => ?_
  refine st_cell (k := 3) S7 rfl hoc fun oc' s hoc' S8 => ?_
  replace S8 : St hb L _ [(st, o2), (ta, listOf tdv.toArray n1), (da, listOf duv.toArray n2), (L + 1, oc')] imm4 _ _ s := S8
  refine l_st_plain S8 fun s S9 => ?_
  refine l_st_places S9 fun s S10 => ?_
  clear S6 S7 S8 S9
  have Da4 := Da.mono sub4
  refine x_comp (ra := ra) (oc := oc') (n1 := m1) (n2 := m2) hA' S10 (by simp) hoc' hra hpt Pu hin (dat_strs Da4.r) Da4.t fun D3 ys n imm5 s S11 sub5 hT => ?_
  clear S10
  refine x_expr ?_
  refine y_callM (l_ld_told S11 rfl ?_)
  refine y_append S11 mem_l1 ?_
  refine y_callN (id := "list") (r_built BS S11 kk_list bb_list (by decide) rfl lk_list rfl rfl (by decide) ?_)
  refine y_callT ?_
  refine y_more ?_
  refine y_callN (r_glob BS S11 kk_elj rfl lk_elj rfl (by decide) ?_)
  refine callWith_K BS.X keep43 ?_ (by rfl) (by rfl)
  refine y_more (r_str S11 fun t9 s S12 => ?_) (by rfl)
  refine y_more (l_ld_tokens S12 rfl ?_) (by rfl)
  refine spliced_none ⟨BS.X.keeps S12.F.keep, ?_⟩
  have hk1 := Pu.kt
  have hk2 := Pu.kd
  refine wpAny_mono (r_listgen (Q := fun x s₁ => wpAny (model prog w) A (call (.builtin "list.append") [.ref ta, x]) (fun v s' => v = .none ∧ wpAny (model prog w) A (execs [nth lForBody 3] (lenv L fa cd)) _ NoE s') NoE s₁) (tl := D3) (ts0 := tofs B toks) BS hA' (by have := hr.d; omega) S12 hG (by simp [tofs]; omega) (by rw [hdue]; omega) (.head _) (hT.mono fun _ h => .tail _ h) fun s D4 acc n' imm6 G' hG' S13 sub6 hne hacc => ?_)
    (fun v s' hq => spliced_none hq) fun _ _ x => x
  rw [hdue] at hacc
  clear S11 S12
  refine y_app1 S13 (by omega) fun s S14 => ⟨rfl, ?_⟩
  refine x_expr ?_
  refine y_callM (l_ld_due S14 rfl ?_)
  refine y_append S14 mem_l2 ?_
  refine l_ld_places S14 rfl ?_
  refine y_app2 S14 (by omega) fun s S15 => ⟨rfl, x_nil ⟨rfl, ?_⟩⟩
  have sub7 : ∀ p ∈ imm4, p ∈ (D4, listOf acc.toArray n') :: imm6 := fun p hp => .tail _ (sub6 _ (.tail _ (sub5 _ hp)))
  have sub8 : ∀ p ∈ imm, p ∈ (D4, listOf acc.toArray n') :: imm6 := fun p hp => sub7 _ (sub4 _ (hkeep p hp))
  refine ⟨_, _, _, _, S15, st, ta, da, o2, tdv ++ [.ref D4], _, duv ++ [.ref pl], _, oc', _, yss ++ [due], G', v0, _, _, _, _, rfl, rfl, hoc', D2.mono fun p hp => sub7 _ (sub4 _ hp), ?_, ?_, by simp [hyl], rfl, hG'⟩
  · rw [List.map_append]
    exact (Dt.mono sub8).append (.one (.list (.head _) (hacc.mono fun _ h => .tail _ h)))
  · rw [List.map_append]
    exact (Dd.mono sub8).append (.one (.list (sub7 _ hpl) (Da4.d.mono sub7)))
end
end Mine

-- part L7
namespace Mine
open PySem PySem.W PyProof.Rows PySem.Calls

section
variable {prog : Program} {w : World} {A A₀ : Around} {s : Shared} {env : Env} {base : Heap} {outer : List Env}
variable {hb : Heap} {L fa : Addr} {cd : Value} {m : Str → Option Value} {led imm imm0 own : Led} {R : Rest}
variable {Q : Value → Shared → Prop} {QF : Flow → Shared → Prop} {QU : Unit → Shared → Prop}

theorem y_sliceB {value : Expr} {lower upper : Option Expr} {p : Pos} {l : Addr} {its : Array Value} {lo hi : Option Int} {zs : List Value}
    (h : wpAny (model prog w) A (evalPart lower env) (fun vl s₁ => wpAny (model prog w) A (evalPart upper env) (fun vu s₂ => ∃ m led imm own R, St hb L m led imm own R s₂ ∧ s₂.heap.IsList l its ∧ IsPart vl lo ∧ IsPart vu hi ∧ its.size ≤ 1000000 ∧ kms_pick its.toList lo hi = zs ∧
      ∀ D s', St hb L m led ((D, listOf zs.toArray 0) :: imm) own R s' → Q (.ref D) s') NoE s₁) NoE s)
    (hs : ∀ i, subscripted (.Slice lower upper none p) false (.ref l) i = operate [i, .ref l] (getItem (.ref l) i) := by intro _; with_unfolding_all rfl) :
    wpAny (model prog w) A (eval (.Slice lower upper none p) env) (fun i s₂ => wpAny (model prog w) A (subscriptTail value (.Slice lower upper none p) (.ref l) i) Q NoE s₂) NoE s := by
  refine wpAny_Slice (wpAny_mono h (fun vl s₁ h₁ => wpAny_mono h₁ (fun vu s₂ h₂ => wpAny_evalPart_none ?_) fun _ _ x => x) fun _ _ x => x)
  obtain ⟨m, led, imm, own, R, S, hl, pl, pu, hsz, e, k⟩ := h₂
  refine kba_turn (value' := .Name "_" default) (fun _ => rfl) ?_
  refine kms_slice_lit S.F S.N hl pl pu e (fun D h' F' N' hlt => ?_) (hs _) (fun _ => rfl) (by rw [sizeLine_eq]; omega)
  refine k D _ ⟨F', ?_, S.nd, ?_, ?_, S.r⟩
  · intro q hq
    refine N' q ?_
    simp only [List.mem_append, List.mem_cons] at hq ⊢
    rcases hq with h | (h | h) | h <;> simp [h]
  · intro q hq b hb'
    have hq' : q = (D, listOf zs.toArray 0) ∨ q ∈ imm ++ own := by simpa using hq
    rcases hq' with rfl | hq'
    · obtain ⟨r, hr, rfl⟩ := List.mem_map.mp hb'
      exact Nat.ne_of_gt (hlt r (by simp [hr]))
    · exact S.off q hq' b hb'
  · intro q hq r hr
    rcases List.mem_cons.mp hr with rfl | hr
    · exact Nat.ne_of_lt (hlt q (by simp [hq]))
    · exact S.sep q hq r hr
theorem ints_take {vs : List Value} {ns : List Int} (h : IntsAre vs ns) : ∀ k, IntsAre (vs.take k) (ns.take k) := by
  induction h with
  | nil => intro k; simp; exact .nil
  | cons a t r ih =>
    intro k
    cases k with
    | zero => exact .nil
    | succ k => exact .cons _ _ (ih k)
theorem msg_ok : PyData.strOk msg = true := by decide +kernel
theorem dl_ok (ys : List (Int × Int)) : kqdOk 8 (dl ys) = true := by
  unfold dl
  show (List.map datDue ys).all (kqdOk 7) = true
  rw [List.all_eq_true]
  intro d hd
  obtain ⟨p, _, rfl⟩ := List.mem_map.mp hd
  show ([Dat.tuple [.int p.1, .int p.2], .str msg] : List Dat).all (kqdOk 6) = true
  simp [kqdOk, msg_ok]

set_option maxHeartbeats 4000000 in
theorem law_body {dr : Drawn} {os : OsState} {G : Array GenState} {oc : Obj} {vv : Option Value} {sc : Addr} {vs : List Value} {ns : List Int} {v1 v2 v3 v4 v5 v6 v7 : Option Value} (BS : Bs w A₀ base outer hb) (hr : Rmb 6 A) (hA : A.frames = some (lenv L fa cd :: outer))
    (hl : hb.IsList sc vs.toArray) (hI : IntsAre vs ns) (hlen : vs.length ≤ 1000) (hoc : oc.data = .cell vv) (hG : AllDone G)
    (S : St hb L (lm (some (.ref sc)) v1 v2 v3 v4 v5 v6 v7) [(L + 1, oc)] [] [] (G, dr, os) s) :
    wpAny (model prog w) A (execs lBody (lenv L fa cd)) (fun f s' => f = .ret (.bool true) ∧ ∃ m' led' imm' G', St hb L m' led' imm' [] (G', dr, os) s' ∧ AllDone G') NoE s := by
  have hA' : A.handled = none := hr.h
  have hr3 : Rmb 3 A := ⟨hr.h, by have := hr.u; omega, by have := hr.d; omega⟩
  show wpAny (model prog w) A (execs [nth lBody 0, nth lBody 1, nth lBody 2, lFor, nth lBody 4] (lenv L fa cd)) _ _ _
  refine x_assign (r_list ?_)
  refine y_more (Subscript_ ?_)
  refine l_ld_script S rfl ?_
  refine y_sliceB (hb := hb) (L := L) (its := vs.toArray) (zs := vs.take 60) (lo := none) (hi := some 60) (wpAny_evalPart_none (wpAny_evalPart_some (r_int S fun t s S => ?_)))
  refine ⟨_, _, _, _, _, S, ?_, .none, .int _ _, (by simp; omega), ?_, fun D s S => ?_⟩
  · obtain ⟨ol, h1, h2⟩ := hl
    exact ⟨ol, S.F.keep _ _ h1, h2⟩
  · unfold kms_pick kms_lo kms_hi
    simp only [List.drop_zero, Nat.sub_zero]
    rw [if_neg (by decide)]
    show vs.take (min 60 vs.length) = _
    rcases Nat.le_total vs.length 60 with h | h
    · rw [Nat.min_eq_right h, List.take_of_length_le (Nat.le_refl _), List.take_of_length_le h]
    · rw [Nat.min_eq_left h]
  refine y_more (r_int S fun t1 s S => y_more (r_int S fun t2 s S => spliced_none ?_))
  refine r_newList S fun st s S h1 => ?_
  refine l_st_state S fun s S => ?_
  refine x_assign (r_list (spliced_none (r_newList S fun ta s S h2 => ?_)))
  refine l_st_told S fun s S => ?_
  refine x_assign (r_list (spliced_none (r_newList S fun da s S h3 => ?_)))
  refine l_st_due S fun s S => ?_
  replace S := S.front rfl h3
  replace S := S.front rfl h2
  replace S := S.front rfl h1
  have Dr : Draw [(D, listOf (vs.take 60).toArray 0)] (listOf [Value.ref D, .int 0 t1, .int 17 t2].toArray 0) :=
    ⟨D, vs.take 60, 0, ns.take 60, 0, 17, t1, t2, 0, rfl, .head _, ints_take hI 60, by simp; omega, by decide, by decide, by decide⟩
  refine x_forR (kmax := 2) (LawInv L dr os) hA' lk__ (by rfl) (fun i t m led imm R I oI s hi J S => law_turn BS hr hA hi J S) (fun k m led imm R s J S => ?_) ?_
  · obtain ⟨st, ta, da, o, tdv, n1, duv, n2, oc, vv, yss, G, v0, v4, v5, v6, v7, rfl, rfl, hoc, D, Dt, Dd, hyl, rfl, hG⟩ := J
    replace S : St hb L _ _ _ _ _ s := S
    refine x_return ?_
    refine wpAny_Compare1 (l_ld_told S rfl (l_ld_due S rfl ?_))
    have hok : ∀ d ∈ yss.map dl, kqdOk 8 d = true := by
      intro d hd
      obtain ⟨ys, _, rfl⟩ := List.mem_map.mp hd
      exact dl_ok ys
    refine kqd_eq S.N mem_l1 rfl rfl Dt (fun p hp => mem_i hp) mem_l2 rfl rfl Dd (fun p hp => mem_i hp) hok hok (by have := hr.u; omega) ?_
    exact ⟨by simp, _, _, _, G, S, hG⟩
  · refine y_callN (r_built BS S kk_range bb_range (by decide) rfl lk_range rfl rfl (by decide) ?_)
    refine y_callT ?_
    refine y_more (wpAny_BinOp (r_int S fun t s S => ?_))
    refine eval_next (env := lenv L fa cd) BS hr3 hA rfl rfl rfl lk_next lk_state lg_state S Dr (fun _ h => h) (by decide) fun q tq o' s q0 q2 Dr' S => ?_
    replace S : St hb L _ _ _ _ _ s := S
    refine r_add S fun t s S => ?_
    refine spliced_none ?_
    obtain ⟨k, hk⟩ : ∃ k : Nat, (1 : Int) + q = k := ⟨(1 + q).toNat, by omega⟩
    rw [hk]
    refine r_range S fun r a b s S => ?_
    exact ⟨k, r, _, a, b, _, _, _, _, rfl, S, .head _, by omega, by omega, st, ta, da, o', [], 0, [], 0, oc, vv, [], G, _, _, _, _, _, rfl, rfl, hoc, Dr'.mono (fun _ h => .tail _ h), .nil, .nil, rfl, rfl, hG⟩
end
end Mine

-- part L8
namespace Mine
open PySem PySem.W PyProof.Rows PySem.Calls

theorem AllDone.bare {G : Array GenState} (h : AllDone G) : AllBare G := fun y hy => by
  obtain ⟨i, hi⟩ := Array.mem_iff_getElem?.mp hy
  rw [h i y hi]
  rfl
theorem AllDone.none {G : Array GenState} (h : G = #[]) : AllDone G := fun i x hx => by
  subst h
  simp at hx
theorem lm_none : (fun _ : Str => (none : Option Value)) = lm none none none none none none none none := by
  funext y
  simp only [lm, ite_self]
theorem law_start {h₀ h₁ : Heap} {L sc : Addr} {oc : Obj} (F : Fr h₀ L h₁ (fun y => if y = ("script" : Str) then some (.ref sc) else none)) (N : News h₀ L h₁ [(L + 1, oc)]) (G : Array GenState) (d : Drawn) (tk : Nat) (os : OsState) :
    St h₀ L (lm (some (.ref sc)) none none none none none none none) [(L + 1, oc)] [] [] (G, d, os) ⟨h₁, G, d, tk, os⟩ := by
  have e : (fun y : Str => if y = ("script" : Str) then some (Value.ref sc) else none) = lm (some (.ref sc)) none none none none none none none := by
    rw [← ls_script]
    funext y
    rw [← lm_none]
  rw [e] at F
  exact ⟨F, by simpa using N, by simp, fun p hp => by simp at hp, fun p hp => (nomatch hp), rfl⟩
theorem callerRoom (e : Env) : Rmb 6 (callerA.deeper e) := ⟨rfl, by show callerA.units + 3 + 64 + 6 < cLine; decide, by show callerA.depth + 1 + 6 < recursionLimit; decide⟩
end Mine
open PySem PySem.W PyProof.Rows Mine
set_option maxRecDepth 100000 in
set_option maxHeartbeats 8000000 in
theorem PySem.Challenge.cw_ew5014_01_holds : PySem.Challenge.rw_ew5014_01.Holds := by
  exact hd (by
  k_fill
  intro w s₀ s₁ mg mb G Y fa o pm cd doc dV kV ho hdd hcd hD hmg hg args vals as hpre hlay hrd hwl hlo
  have KX := kIn_of Y
  have X := (Ground.X G).1
  have V := (Ground.X G).2
  refine Ground.open G ?_
  intro T B D TE TW
  try (refine guard_noD D (by decide +kernel) ?_; clear D)
  obtain ⟨_, _, M⟩ := bmod_of_top T
  have TA := at_of_top T
  try (obtain ⟨_, _, he, B0⟩ := based_of_top T rfl hmg ho hdd; have he' : cd = _ := he; subst he'; clear he)
  clear hmg
  wrow_args hpre hlay hrd hwl hlo
  all_goals (
    first | refine callC_kw (enter_call ?_) | refine enter_call ?_ | refine callC_kw (enter_callW ?_) | refine enter_callW ?_ | w_how
    w_top on
    have K0 := below_caller (Top.heap T)
    w_call any ho hdd hcd hD T F)
  rename Heap.IsList _ _ _ => hLs
  rename IntsAre _ _ => hIs
  rename News _ _ _ _ => N0
  rename (Obj.data _ = Data.cell _) => hcell
  rename (¬ _ < _) => hlt
  have hll := hIs.length
  have BS : Bs w callerA s₁.heap [] s₁.heap := ⟨K0, KX, _, mg, mb, T⟩
  refine wpAny_mono (law_body BS (callerRoom _) rfl hLs hIs (by omega) hcell (AllDone.none hg) (law_start F N0 _ _ _ _)) (fun f s' hf => ?_) (fun _ _ x => x.elim)
  obtain ⟨rfl, m', led', imm', G', S', hG'⟩ := hf
  have hr' := S'.r
  simp only [Prod.mk.injEq] at hr'
  refine ⟨.inl ⟨_, _, [], rfl, fun _ => rfl, ReadsW.bool true, ?_, fun _ => ⟨List.nodup_nil, fun _ hm => (nomatch hm)⟩⟩, .of_keep S'.F.keep, hr'.2.2, ?_⟩
  · first | rfl | wrow_post
  · rw [hr'.1]
    exact hG'.bare)

