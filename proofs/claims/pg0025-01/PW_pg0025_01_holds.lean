import PyProof.Rows.All
import Wide.All
import OpenK.AllK
import Wide.FinOn
import PySem.Challenge.RW_pg0025_01
open PySem PySem.W PyProof.Rows PySem.Calls
set_option Elab.async false
set_option maxRecDepth 100000
set_option linter.unusedSimpArgs false
set_option linter.unusedVariables false

namespace Mine
set_option maxHeartbeats 8000000 in
open_top hd for PySem.Challenge.rw_pg0025_01
end Mine

namespace Mine

abbrev prog : Program := PySem.Challenge.rw_pg0025_01.row.prog
noncomputable abbrev KK (w : World) : Frag := hd.heap_39 w.params

def Kp (h h' : Heap) : Prop := ∀ b o, h.get? b = some o → h'.get? b = some o
theorem Kp.refl (h : Heap) : Kp h h := fun _ _ e => e
theorem Kp.trans {h h' h'' : Heap} (x : Kp h h') (y : Kp h' h'') : Kp h h'' := fun b o e => y b o (x b o e)

structure Tp (w : World) (h : Heap) : Prop where
  k : (KK w).In h
  lim : h.NoLimit
  g : ∃ mg, h.Ns mainGlobals mg
  b : ∃ mb, h.Ns builtinsNs mb ∧ ∀ x : Str, x ≠ "__name__" → mb x = bootBuiltins x

theorem Tp.keeps {w : World} {h h' : Heap} (T : Tp w h) (x : Kp h h') : Tp w h' :=
  ⟨T.k.keeps x, T.lim.keeps x, let ⟨mg, e⟩ := T.g; ⟨mg, e.keeps x⟩, let ⟨mb, e, f⟩ := T.b; ⟨mb, e.keeps x, f⟩⟩

section
variable {w : World} {A : Around} {E : Value → Shared → Prop} {s : Shared} {env : Env}

theorem ldG {x : Str} {pos : Pos} {v : Value} {Q : Value → Shared → Prop} (T : Tp w s.heap) (e : nsIn (KK w) mainGlobals x = some (some v)) (h : Q v s)
    (hg : env.globals = mainGlobals := by rfl) (hk : env.scope.kind = .function := by rfl) (hx : env.kindOf x = some .globalImplicit := by rfl)
    (hd : (x == ("__debug__" : Str)) = false := by decide) :
    wpAny (model prog w) A (eval (.Name x pos) env) Q E s := by
  obtain ⟨mg, G⟩ := T.g
  exact Name_function_global hk hx (loadGlobal_global (hg ▸ G) (mg_of T.k G e) h) hd

theorem ldL {x : Str} {pos : Pos} {m : Str → Option Value} {v : Value} {Q : Value → Shared → Prop} (hn : s.heap.Ns env.locals m) (hv : m x = some v) (h : Q v s)
    (hk : env.scope.kind = .function := by rfl) (hl : env.kindOf x = some .local := by rfl)
    (hd : (x == ("__debug__" : Str)) = false := by decide) :
    wpAny (model prog w) A (eval (.Name x pos) env) Q E s := wpAny_Name (wpAny_loadName_local hk hl hn hv h) hd

theorem call_fn {a : Addr} {fd : FuncData} {body : List Stmt} {vals : List Value} {binds : List (Str × Value)} {oc : Value} {od : Option Addr} {osl : Array (Option Value)} {Q : Value → Shared → Prop}
    (T : Tp w s.heap) (hroom : A.depth < recursionLimit) (ho : (KK w).lookup a = some ⟨oc, od, .func fd, osl⟩) (hcd : codeIn (KK w) fd.code fd.qualname = true)
    (hbody : fd.body = .stmts body) (hbind : bindArgs fd ⟨vals, []⟩ = pure binds)
    (hcell : ∀ x ∈ fd.scope.names, x.2 ≠ .cell) (hloc : (binds.all fun x => decide (fd.scope.names.lookup x.1 = some .local)) = true)
    (h : ∀ h₀ tk, h₀.Ns s.heap.objs.size (fun x => binds.reverse.lookup x) → Kp s.heap h₀ →
      wpAny (model prog w) (A.deeper (callEnv fd s.heap.objs.size a)) (execs body (callEnv fd s.heap.objs.size a))
        (fun f s' => Q (match f with | .ret v => v | _ => .none) s') (fun _ _ => False)
        { s with heap := h₀, toks := tk })
    (hco : fd.scope.isCoroutine = false := by rfl) (hgen : fd.scope.isGenerator = false := by rfl) (hk : fd.scope.kind = .function := by rfl) :
    wpAny (model prog w) A (call (.ref a) vals) Q E s :=
  wpAny_call (codeAny_call_def hroom (T.k _ _ ho) rfl T.lim (codeRec_of T.k hcd) hbody (.of_eq hbind) hcell (locs hloc)
    (fun h₀ hns hk => wpAny_mono (h h₀ _ hns hk) (fun _ _ x => x) fun _ _ x => x.elim) hco hgen hk)


section
variable {x y : Int} {t u : Tok} {Q : Value → Shared → Prop}
theorem add_call (T : Tp w s.heap) (hroom : A.depth < recursionLimit) (h : ∀ h' tk t, Kp s.heap h' → Q (.int (x + y) t) { s with heap := h', toks := tk }) :
    wpAny (model prog w) A (call (.ref 28) [.int x t, .int y u]) Q E s := by
  refine call_fn T hroom (ho := rfl) (by rfl) rfl rfl (by decide) (by rfl) fun h₀ tk hn hk => ?_
  refine wpAny_execs_cons (wpAny_Return_some (wpAny_BinOp (ldL hn rfl (ldL hn rfl (P.add_int ?_)))))
  exact h _ _ _ hk
theorem sub_call (T : Tp w s.heap) (hroom : A.depth < recursionLimit) (h : ∀ h' tk t, Kp s.heap h' → Q (.int (x - y) t) { s with heap := h', toks := tk }) :
    wpAny (model prog w) A (call (.ref 56) [.int x t, .int y u]) Q E s := by
  refine call_fn T hroom (ho := rfl) (by rfl) rfl rfl (by decide) (by rfl) fun h₀ tk hn hk => ?_
  refine wpAny_execs_cons (wpAny_Return_some (wpAny_BinOp (ldL hn rfl (ldL hn rfl (P.sub_int ?_)))))
  exact h _ _ _ hk
theorem mul_call (T : Tp w s.heap) (hroom : A.depth < recursionLimit) (hm : IntMulOk x y) (h : ∀ h' tk t, Kp s.heap h' → Q (.int (x * y) t) { s with heap := h', toks := tk }) :
    wpAny (model prog w) A (call (.ref 49) [.int x t, .int y u]) Q E s := by
  refine call_fn T hroom (ho := rfl) (by rfl) rfl rfl (by decide) (by rfl) fun h₀ tk hn hk => ?_
  refine wpAny_execs_cons (wpAny_Return_some (wpAny_BinOp (ldL hn rfl (ldL hn rfl (P.mul_int ?_ hm)))))
  exact h _ _ _ hk
theorem mod_call (T : Tp w s.heap) (hroom : A.depth < recursionLimit) (hy : 0 < y) (h : ∀ h' tk t, Kp s.heap h' → Q (.int (x % y) t) { s with heap := h', toks := tk }) :
    wpAny (model prog w) A (call (.ref 42) [.int x t, .int y u]) Q E s := by
  refine call_fn T hroom (ho := rfl) (by rfl) rfl rfl (by decide) (by rfl) fun h₀ tk hn hk => ?_
  refine wpAny_execs_cons (wpAny_Return_some (wpAny_BinOp (ldL hn rfl (ldL hn rfl (mod_int' (by omega) ?_)))))
  rw [Int.fmod_eq_emod_of_nonneg _ (by omega)]
  exact h _ _ _ hk
theorem floordiv_call (T : Tp w s.heap) (hroom : A.depth < recursionLimit) (hy : 0 < y) (hp : Builtin.divisionGoesByPylong x y = false) (h : ∀ h' tk t, Kp s.heap h' → Q (.int (x / y) t) { s with heap := h', toks := tk }) :
    wpAny (model prog w) A (call (.ref 35) [.int x t, .int y u]) Q E s := by
  refine call_fn T hroom (ho := rfl) (by rfl) rfl rfl (by decide) (by rfl) fun h₀ tk hn hk => ?_
  refine wpAny_execs_cons (wpAny_Return_some (wpAny_BinOp (ldL hn rfl (ldL hn rfl (floordiv_int (by omega) ?_ (.inl hp))))))
  rw [Int.fdiv_eq_ediv_of_nonneg _ (by omega)]
  exact h _ _ _ hk
theorem lt_call (T : Tp w s.heap) (hroom : A.depth < recursionLimit) (h : ∀ h' tk, Kp s.heap h' → Q (.bool (decide (x < y))) { s with heap := h', toks := tk }) :
    wpAny (model prog w) A (call (.ref 21) [.int x t, .int y u]) Q E s := by
  refine call_fn T hroom (ho := rfl) (by rfl) rfl rfl (by decide) (by rfl) fun h₀ tk hn hk => ?_
  refine wpAny_execs_cons (wpAny_Return_some (wpAny_Compare1 (ldL hn rfl (ldL hn rfl (P.lt_int ?_)))))
  exact h _ _ hk
end
end
end Mine

namespace Mine
section
variable {w : World} {A : Around} {E : Value → Shared → Prop} {s : Shared} {env : Env}

theorem evCall2 {x : Str} {a : Addr} {np pos : Pos} {e1 e2 : Expr} {Q : Value → Shared → Prop} (T : Tp w s.heap) (hx : nsIn (KK w) mainGlobals x = some (some (.ref a)))
    (hf : keepIn (KK w) (.ref a) = true)
    (h : wpAny (model prog w) A (eval e1 env) (fun v1 s1 => wpAny (model prog w) A (eval e2 env) (fun v2 s2 => Tp w s2.heap ∧ wpAny (model prog w) A (call (.ref a) [v1, v2]) Q E s2) E s1) E s)
    (hst : starEach [e1, e2] env = [(false, eval e1 env), (false, eval e2 env)] := by rfl)
    (hg : env.globals = mainGlobals := by rfl) (hk : env.scope.kind = .function := by rfl) (hxk : env.kindOf x = some .globalImplicit := by rfl)
    (hd : (x == ("__debug__" : Str)) = false := by decide) :
    wpAny (model prog w) A (eval (.Call (.Name x np) [e1, e2] [] pos) env) Q E s := by
  refine wpAny_Call_NameR (ldG T hx ?_ hg hk hxk hd)
  rw [hst]
  refine callWith_of (P := (KK w).In) (first := []) rfl (fun h X => keeps_K hf h X) (evalArgs_plain (spliced_cons ?_))
  refine wpAny_mono h (fun v1 s1 h1 => spliced_cons (wpAny_mono h1 (fun v2 s2 h2 => spliced_nil ⟨h2.1.k, h2.2⟩) fun _ _ z => z)) fun _ _ z => z
theorem evCall1 {x : Str} {a : Addr} {np pos : Pos} {e1 : Expr} {Q : Value → Shared → Prop} (T : Tp w s.heap) (hx : nsIn (KK w) mainGlobals x = some (some (.ref a)))
    (hf : keepIn (KK w) (.ref a) = true)
    (h : wpAny (model prog w) A (eval e1 env) (fun v1 s1 => Tp w s1.heap ∧ wpAny (model prog w) A (call (.ref a) [v1]) Q E s1) E s)
    (hst : starEach [e1] env = [(false, eval e1 env)] := by rfl)
    (hg : env.globals = mainGlobals := by rfl) (hk : env.scope.kind = .function := by rfl) (hxk : env.kindOf x = some .globalImplicit := by rfl)
    (hd : (x == ("__debug__" : Str)) = false := by decide) :
    wpAny (model prog w) A (eval (.Call (.Name x np) [e1] [] pos) env) Q E s := by
  refine wpAny_Call_NameR (ldG T hx ?_ hg hk hxk hd)
  rw [hst]
  refine callWith_of (P := (KK w).In) (first := []) rfl (fun h X => keeps_K hf h X) (evalArgs_plain (spliced_cons ?_))
  refine wpAny_mono h (fun v2 s2 h2 => spliced_nil ⟨h2.1.k, h2.2⟩) fun _ _ z => z
theorem evCall3 {x : Str} {a : Addr} {np pos : Pos} {e1 e2 e3 : Expr} {Q : Value → Shared → Prop} (T : Tp w s.heap) (hx : nsIn (KK w) mainGlobals x = some (some (.ref a)))
    (hf : keepIn (KK w) (.ref a) = true)
    (h : wpAny (model prog w) A (eval e1 env) (fun v1 s1 => wpAny (model prog w) A (eval e2 env) (fun v2 s2 => wpAny (model prog w) A (eval e3 env) (fun v3 s3 => Tp w s3.heap ∧ wpAny (model prog w) A (call (.ref a) [v1, v2, v3]) Q E s3) E s2) E s1) E s)
    (hst : starEach [e1, e2, e3] env = [(false, eval e1 env), (false, eval e2 env), (false, eval e3 env)] := by rfl)
    (hg : env.globals = mainGlobals := by rfl) (hk : env.scope.kind = .function := by rfl) (hxk : env.kindOf x = some .globalImplicit := by rfl)
    (hd : (x == ("__debug__" : Str)) = false := by decide) :
    wpAny (model prog w) A (eval (.Call (.Name x np) [e1, e2, e3] [] pos) env) Q E s := by
  refine wpAny_Call_NameR (ldG T hx ?_ hg hk hxk hd)
  rw [hst]
  refine callWith_of (P := (KK w).In) (first := []) rfl (fun h X => keeps_K hf h X) (evalArgs_plain (spliced_cons ?_))
  refine wpAny_mono h (fun v1 s1 h1 => spliced_cons (wpAny_mono h1 (fun v2 s2 h2 => spliced_cons (wpAny_mono h2 (fun v3 s3 h3 => spliced_nil ⟨h3.1.k, h3.2⟩) fun _ _ z => z)) fun _ _ z => z)) fun _ _ z => z

theorem Fr.kp {h₀ h h' : Heap} {L : Addr} {m : Str → Option Value} (F : Fr h₀ L h m) (k : Kp h h') : Fr h₀ L h' m := ⟨F.ns.keeps k, fun b o e => k b o (F.keep b o e), F.above⟩
theorem Fr.ne {h₀ h : Heap} {L b : Addr} {o : Obj} {m : Str → Option Value} (F : Fr h₀ L h m) (e : h₀.get? b = some o) : b ≠ L := Nat.ne_of_lt (Nat.lt_of_lt_of_le (Heap.lt_size e) F.above)

theorem stS {x : Str} {v : Value} {h₀ : Heap} {m : Str → Option Value} {Q : Unit → Shared → Prop} (F : Fr h₀ env.locals s.heap m)
    (h : ∀ h' tk', Fr h₀ env.locals h' (fun y => if y = x then some v else m y) → Heap.SameBut env.locals s.heap h' → Q () { s with heap := h', toks := tk' })
    (hl : env.kindOf x = some .local := by rfl) (hp : (env.scope.kind == .class || (env.scope.kind == .module && env.locals != env.globals)) = false := by rfl) :
    wpAny (model prog w) A (storeName env x v) Q E s :=
  wpAny_storeName_local hl F.ns (fun h' hn hs => h h' _ (F.set hn hs) hs) hp

theorem re {α : Type} {M : Model} {m : Sem α} {Q : α → Shared → Prop} (s : Shared) (h : Heap) (H : ∀ tk, wpAny M A m Q E { s with heap := h, toks := tk }) {tk : Nat} :
    wpAny M A m Q E { s with heap := h, toks := tk } := H tk

/-! the cut -/
def cut (t : Int) : Int := if 0 ≤ t then t % 10 ^ 20 else -(-t % 10 ^ 20)

theorem cut_call {x : Int} {t : Tok} {Q : Value → Shared → Prop} (T : Tp w s.heap) (hroom : A.depth < recursionLimit) (h : ∀ h' tk t, Kp s.heap h' → Q (.int (cut x) t) { s with heap := h', toks := tk }) :
    wpAny (model prog w) A (call (.ref 70) [.int x t]) Q E s := by
  refine call_fn T hroom (ho := rfl) (by rfl) rfl rfl (by decide) (by rfl) fun h₀ tk hn hk => ?_
  refine wpAny_execs_cons (wpAny_Return_some (wpAny_IfExp ?_))
  refine wpAny_isTrue_Compare1 (ldL hn rfl (wpAny_Constant_int (P.ge_int (wpAny_truthy_bool ?_))))
  by_cases hx : 0 ≤ x
  · rw [decide_eq_true (show x ≥ 0 from hx), if_pos rfl]
    refine wpAny_BinOp (ldL hn rfl (wpAny_BinOp (wpAny_Constant_int (wpAny_Constant_int (pow_int_small (by omega) (by omega) (by omega) (mod_int' (by decide) ?_))))))
    rw [show ((10 : Int) ^ (20 : Int).toNat) = 10 ^ 20 from rfl, Int.fmod_eq_emod_of_nonneg _ (by decide), show x % 10 ^ 20 = cut x from by rw [cut, if_pos hx]]
    exact h _ _ _ hk
  · rw [decide_eq_false (show ¬ x ≥ 0 from hx), if_neg (by decide)]
    refine wpAny_UnaryOp (wpAny_BinOp (wpAny_UnaryOp (ldL hn rfl (P.neg_int (wpAny_BinOp (wpAny_Constant_int (wpAny_Constant_int (pow_int_small (by omega) (by omega) (by omega) (mod_int' (by decide) (P.neg_int ?_))))))))))
    rw [show ((10 : Int) ^ (20 : Int).toNat) = 10 ^ 20 from rfl, Int.fmod_eq_emod_of_nonneg _ (by decide), show -(-x % 10 ^ 20) = cut x from by rw [cut, if_neg hx]]
    exact h _ _ _ hk
end
end Mine

namespace Mine

theorem bits_le {a : Int} {n : Nat} (h : a.natAbs < 2 ^ n) : Builtin.Int.intBits a ≤ n := by
  unfold Builtin.Int.intBits
  split
  · exact Nat.zero_le _
  · rename_i h0
    have hp : a.natAbs ≠ 0 := by
      intro e; apply h0; simp; omega
    have := (Nat.log2_lt hp).mpr h
    omega
theorem mulOk {a b : Int} (ha : a.natAbs < 2 ^ 200) (hb : b.natAbs < 2 ^ 200) : IntMulOk a b :=
  IntMulOk.of_bits (Nat.le_trans (bits_le ha) (by decide)) (Nat.le_trans (bits_le hb) (by decide))
theorem pow10_pos (n : Nat) : (0 : Int) < 10 ^ n := Int.pow_pos (by decide)
theorem pow10_lt {n : Nat} (h : n ≤ 60) : ((10 : Int) ^ n).natAbs < 2 ^ 200 := by
  rw [Int.natAbs_pow]
  exact Nat.lt_of_le_of_lt (Nat.pow_le_pow_right (by decide) h) (by decide)
theorem div_abs_le (x : Int) (n : Nat) : (x / 10 ^ n).natAbs ≤ x.natAbs := Int.natAbs_ediv_le_natAbs _ _
theorem noPylong {x : Int} {n : Nat} (h : n ≤ 60) : Builtin.divisionGoesByPylong x (10 ^ n) = false := by
  refine PyProof.noPylong_of_log2 ?_
  have hp : ((10 : Int) ^ n).natAbs ≠ 0 := by have := pow10_pos n; omega
  have := (Nat.log2_lt hp).mpr (pow10_lt h)
  omega

/-! the spread -/
def spStep (f : Int) (st : Int × Int × Int) (z : Int) : Int × Int × Int :=
  (st.1 + st.2.1 % 10 ^ z.toNat * 10 ^ st.2.2.toNat + f * 10 ^ (st.2.2 + z).toNat, st.2.1 / 10 ^ z.toNat, st.2.2 + z + 1)
def spFold (x : Int) (ns : List Int) (f : Int) : Int × Int × Int := ns.foldl (spStep f) (0, x, 0)
def spread (x : Int) (ns : List Int) (f : Int) : Int := (spFold x ns f).1 + (spFold x ns f).2.1 * 10 ^ (spFold x ns f).2.2.toNat

theorem spFold_snoc (x : Int) (ns : List Int) (f z : Int) : spFold x (ns ++ [z]) f = spStep f (spFold x ns f) z := by
  unfold spFold; rw [List.foldl_append]; rfl
theorem spFold_bound' (f : Int) (B : Nat) : ∀ (ns : List Int) (st : Int × Int × Int), (∀ z ∈ ns, 1 ≤ z ∧ z ≤ 4) → st.2.1.natAbs ≤ B → 0 ≤ st.2.2 →
    (ns.foldl (spStep f) st).2.1.natAbs ≤ B ∧ 0 ≤ (ns.foldl (spStep f) st).2.2 ∧ (ns.foldl (spStep f) st).2.2 ≤ st.2.2 + 5 * ns.length
  | [], st, _, h1, h2 => ⟨h1, h2, by simp⟩
  | z :: ns, st, h, h1, h2 => by
    have hz := h z (by simp)
    have := spFold_bound' f B ns (spStep f st z) (fun y hy => h y (by simp [hy])) (Nat.le_trans (div_abs_le _ _) h1) (by simp only [spStep]; omega)
    refine ⟨this.1, this.2.1, ?_⟩
    have := this.2.2
    simp only [List.foldl_cons, List.length_cons, spStep] at this ⊢
    omega
theorem spFold_bound (x : Int) (f : Int) (ns : List Int) (h : ∀ z ∈ ns, 1 ≤ z ∧ z ≤ 4) : (spFold x ns f).2.1.natAbs ≤ x.natAbs ∧ 0 ≤ (spFold x ns f).2.2 ∧ (spFold x ns f).2.2 ≤ 5 * ns.length := by
  have := spFold_bound' f x.natAbs ns (0, x, 0) h (Nat.le_refl _) (Int.le_refl _)
  refine ⟨this.1, this.2.1, ?_⟩
  have := this.2.2
  simp only [Int.zero_add] at this
  exact this

section
variable {w : World} {A : Around} {E : Value → Shared → Prop} {s : Shared}

theorem Fr.ext {h₀ h h' : Heap} {L I : Addr} {m : Str → Option Value} (F : Fr h₀ L h m) (x : Heap.ExtBut I h h') (hI : h₀.get? I = none) (hL : I ≠ L) : Fr h₀ L h' m :=
  ⟨F.ns.extBut x (Ne.symm hL), fun b o e => x b o (fun q => by rw [q, hI] at e; cases e) (F.keep b o e), F.above⟩
theorem get_none {h : Heap} {I : Addr} (x : h.objs.size ≤ I) : h.get? I = none := by
  cases e : h.get? I with
  | none => rfl
  | some o => exact absurd (Heap.lt_size e) (Nat.not_lt.mpr x)
theorem take_snoc {α : Type} {ns : List α} {i : Nat} {z : α} (h : ns[i]? = some z) : ns.take (i + 1) = ns.take i ++ [z] := by
  rw [List.take_add_one, h]; rfl

def HasI (m : Str → Option Value) (x : Str) (v : Int) : Prop := ∃ t, m x = some (.int v t)

theorem spread_call {x f : Int} {t u : Tok} {l : Addr} {vs : List Value} {ns : List Int} {Q : Value → Shared → Prop} (T : Tp w s.heap) (hh : A.handled = none) (hroom : A.depth + 2 < recursionLimit)
    (hl : s.heap.IsList l vs.toArray) (hI : IntsAre vs ns) (hn6 : ns.length ≤ 6) (hz : ∀ z ∈ ns, 1 ≤ z ∧ z ≤ 4) (hx : x.natAbs < 2 ^ 200) (hf : f.natAbs < 10)
    (h : ∀ h' tk t, Kp s.heap h' → Q (.int (spread x ns f) t) { s with heap := h', toks := tk }) :
    wpAny (model prog w) A (call (.ref 77) [.int x t, .ref l, .int f u]) Q E s := by
  refine call_fn T (by omega) (ho := rfl) (by rfl) rfl rfl (by decide) (by rfl) fun h₀ tk hn hk => ?_
  have F : Fr s.heap s.heap.objs.size h₀ _ := ⟨hn, hk, Nat.le_refl _⟩
  clear hn hk
  refine wpAny_execs_cons (wpAny_Assign_Name (wpAny_Constant_int (st F fun h₁ F₁ => ?_)))
  refine wpAny_execs_cons (wpAny_Assign_Name (wpAny_Constant_int (st F₁ fun h₂ F₂ => ?_)))
  have hl₂ : h₂.IsList l vs.toArray := hl.at fun o e => F₂.keep _ o e
  have hlL : l ≠ s.heap.objs.size := let ⟨_, e, _⟩ := hl; Fr.ne F₂ e
  refine wpAny_execs_cons (wpAny_For (ldL F₂.ns rfl (wpAny_pyIter_list hl₂ ?_)))
  have F₃ := F₂.push { cls := .type "list_iterator", data := .fields #[.ref l, .int 0 0] }
  have hIL : h₂.objs.size ≠ s.heap.objs.size := Nat.ne_of_gt F₂.ns.lt
  have hIl : l ≠ h₂.objs.size := let ⟨_, e, _⟩ := hl₂; Nat.ne_of_lt (Heap.lt_size e)
  have hIb : s.heap.get? h₂.objs.size = none := get_none (Nat.le_of_lt F₂.ns.lt)
  have hit₃ : (h₂.push { cls := .type "list_iterator", data := .fields #[.ref l, .int 0 0] }).IsListIter h₂.objs.size l 0 := ⟨_, Heap.get?_push_size _ rfl, rfl, rfl⟩
  generalize h₂.objs.size = I at *
  generalize h₂.push { cls := .type "list_iterator", data := .fields #[.ref l, .int 0 0] } = h₃ at *
  clear hl₂ F F₁ F₂
  have hvn : vs.length = ns.length := hI.length
  refine codeAny_forLoop (fun k s' => ∃ (i : Nat) (h' : Heap) (tk' : Nat) (m : Str → Option Value), s' = { s with heap := h', toks := tk' } ∧ Fr s.heap s.heap.objs.size h' m ∧ h'.IsListIter I l i ∧ i ≤ ns.length ∧ k = ns.length + 1 - i ∧
    HasI m "laid" (spFold x (ns.take i) f).1 ∧ HasI m "x" (spFold x (ns.take i) f).2.1 ∧ HasI m "place" (spFold x (ns.take i) f).2.2 ∧ HasI m "figure" f) ?turn (ns.length + 1)
    ⟨0, _, _, _, rfl, F₃, hit₃, Nat.zero_le _, rfl, ⟨_, rfl⟩, ⟨_, rfl⟩, ⟨_, rfl⟩, ⟨_, rfl⟩⟩
  rintro k _ ⟨i, h', tk', m, rfl, F', hit, hi, rfl, ⟨t₁, hm1⟩, ⟨t₂, hm2⟩, ⟨t₃, hm3⟩, ⟨t₄, hm4⟩⟩
  have hl' : h'.IsList l vs.toArray := hl.at fun o e => F'.keep _ o e
  obtain ⟨bx, bp0, bp⟩ := spFold_bound x f (ns.take i) fun z hz' => hz z (List.mem_of_mem_take hz')
  have htl : (ns.take i).length ≤ 6 := by rw [List.length_take]; omega
  rcases Nat.lt_or_ge i ns.length with hlt | hge
  · obtain ⟨z, hzi⟩ : ∃ z, ns[i]? = some z := ⟨ns[i], List.getElem?_eq_getElem hlt⟩
    obtain ⟨tz, hvi⟩ := hI.get i z hzi
    have hz1 := hz z (List.mem_of_getElem? hzi)
    have hsn := take_snoc hzi
    refine wpAny_pyNext_list_item hit hl' (x := .int z tz) (by simpa using hvi) fun h₄ hit₄ hs₄ => ?_
    refine wpAny_assign_Name (stS (Fr.ext F' hs₄.extBut hIb hIL) fun h₅ tk₅ F₅ hs₅ => ?_)
    show wpAny _ _ _ _ _ { s with heap := h₅, toks := tk₅ }
    have hit₅ := hit₄.extBut hs₅.extBut hIL
    have T₅ : Tp w h₅ := T.keeps F₅.keep
    -- laid
    refine wpAny_execs_cons (wpAny_Assign_Name (evCall2 T₅ rfl rfl (ldL F₅.ns hm1 (evCall2 T₅ rfl rfl (evCall2 T₅ rfl rfl (ldL F₅.ns hm2
      (wpAny_BinOp (wpAny_Constant_int (ldL F₅.ns rfl (pow_int_small (by omega) (by omega) (by decide) ⟨T₅, mod_call T₅ (by simp only [depth_deeper]; omega) (pow10_pos _) fun h₆ tk₆ t₆ k₆ => ?_⟩))))))))))
    have F₆ := Fr.kp F₅ k₆
    have T₆ := T₅.keeps k₆
    refine wpAny_BinOp (wpAny_Constant_int (ldL F₆.ns hm3 (pow_int_small bp0 (by omega) (by decide) ⟨T₆, mul_call T₆ (by simp only [depth_deeper]; omega) ?_ fun h₇ tk₇ t₇ k₇ => ⟨T₆.keeps k₇, ?_⟩⟩)))
    · refine mulOk ?_ (pow10_lt (by omega))
      have := Int.emod_nonneg (spFold x (ns.take i) f).2.1 (Int.ne_of_gt (pow10_pos z.toNat))
      have h2 := Int.emod_lt_of_pos (spFold x (ns.take i) f).2.1 (pow10_pos z.toNat)
      have h3 := pow10_lt (n := z.toNat) (by omega)
      have := pow10_pos z.toNat
      omega
    have F₇ := Fr.kp F₆ k₇
    have T₇ := T₆.keeps k₇
    refine add_call T₇ (by simp only [depth_deeper]; omega) fun h₈ tk₈ t₈ k₈ => stS (Fr.kp F₇ k₈) fun h₉ tk₉ F₉ hs₉ => ?_
    show wpAny _ _ _ _ _ { s with heap := h₉, toks := tk₉ }
    have hit₉ := (hit₅.at fun o e => k₈ _ o (k₇ _ o (k₆ _ o e))).extBut hs₉.extBut hIL
    have T₉ : Tp w h₉ := T.keeps F₉.keep
    clear k₈ k₇ k₆ hs₉ hit₅ F₅ T₅ F₆ T₆ F₇ T₇ hs₅ hit₄ hs₄ F' hit hl'
    -- x
    refine wpAny_execs_cons (wpAny_Assign_Name (evCall2 T₉ rfl rfl (ldL F₉.ns hm2 (wpAny_BinOp (wpAny_Constant_int (ldL F₉.ns rfl (pow_int_small (by omega) (by omega) (by decide)
      ⟨T₉, floordiv_call T₉ (by simp only [depth_deeper]; omega) (pow10_pos _) (noPylong (by omega)) fun h₆ tk₆ t₆ k₆ => stS (Fr.kp F₉ k₆) fun h₇ tk₇ F₇ hs₇ => ?_⟩)))))))
    show wpAny _ _ _ _ _ { s with heap := h₇, toks := tk₇ }
    have hit₇ := (hit₉.at fun o e => k₆ _ o e).extBut hs₇.extBut hIL
    -- place
    refine wpAny_execs_cons (wpAny_Assign_Name (wpAny_BinOp (ldL F₇.ns hm3 (ldL F₇.ns rfl (P.add_int (stS F₇ fun h₈ tk₈ F₈ hs₈ => ?_))))))
    show wpAny _ _ _ _ _ { s with heap := h₈, toks := tk₈ }
    have hit₈ := hit₇.extBut hs₈.extBut hIL
    have T₈ : Tp w h₈ := T.keeps F₈.keep
    -- laid
    refine wpAny_execs_cons (wpAny_Assign_Name (evCall2 T₈ rfl rfl (ldL F₈.ns rfl (evCall2 T₈ rfl rfl (ldL F₈.ns hm4 (wpAny_BinOp (wpAny_Constant_int (ldL F₈.ns rfl (pow_int_small (by omega) (by omega) (by decide)
      ⟨T₈, mul_call T₈ (by simp only [depth_deeper]; omega) (mulOk (by omega) (pow10_lt (by omega))) fun h₁₀ tk₁₀ t₁₀ k₁₀ => ⟨T₈.keeps k₁₀, add_call (T₈.keeps k₁₀) (by simp only [depth_deeper]; omega) fun h₁₁ tk₁₁ t₁₁ k₁₁ => stS (Fr.kp (Fr.kp F₈ k₁₀) k₁₁) fun h₁₂ tk₁₂ F₁₂ hs₁₂ => ?_⟩⟩)))))))))
    show wpAny _ _ _ _ _ { s with heap := h₁₂, toks := tk₁₂ }
    have hit₁₂ := (hit₈.at fun o e => k₁₁ _ o (k₁₀ _ o e)).extBut hs₁₂.extBut hIL
    -- place
    refine wpAny_execs_cons (wpAny_Assign_Name (wpAny_BinOp (ldL F₁₂.ns rfl (wpAny_Constant_int (P.add_int (stS F₁₂ fun h₁₃ tk₁₃ F₁₃ hs₁₃ => ?_))))))
    show wpAny _ _ _ _ _ { s with heap := h₁₃, toks := tk₁₃ }
    have hit₁₃ := hit₁₂.extBut hs₁₃.extBut hIL
    refine wpAny_execs_nil ⟨ns.length + 1 - (i + 1), by omega, i + 1, _, _, _, rfl, F₁₃, hit₁₃, hlt, rfl, ?_, ?_, ?_, ⟨_, hm4⟩⟩
    · rw [hsn, spFold_snoc, spStep]; exact ⟨_, rfl⟩
    · rw [hsn, spFold_snoc, spStep]; exact ⟨_, rfl⟩
    · rw [hsn, spFold_snoc, spStep]; exact ⟨_, rfl⟩
  · have hin : ns.take i = ns := List.take_of_length_le hge
    rw [hin] at hm1 hm2 hm3 bx bp0 bp
    refine wpAny_pyNext_list_end hh hit hl' (by simp; omega) fun h₄ hs₄ => wpAny_execs_nil ?_
    have F₄ := Fr.ext F' hs₄ hIb hIL
    have T₄ : Tp w h₄ := T.keeps F₄.keep
    refine wpAny_execs_cons (wpAny_Return_some (evCall2 T₄ rfl rfl (ldL F₄.ns hm1 (evCall2 T₄ rfl rfl (ldL F₄.ns hm2 (wpAny_BinOp (wpAny_Constant_int (ldL F₄.ns hm3 (pow_int_small (by omega) (by omega) (by decide)
      ⟨T₄, mul_call T₄ (by simp only [depth_deeper]; omega) (mulOk (by omega) (pow10_lt (by omega))) fun h₁₀ tk₁₀ t₁₀ k₁₀ => ⟨T₄.keeps k₁₀, add_call (T₄.keeps k₁₀) (by simp only [depth_deeper]; omega) fun h₁₁ tk₁₁ t₁₁ k₁₁ => ?_⟩⟩)))))))))
    exact h _ _ _ fun b o e => k₁₁ _ _ (k₁₀ _ _ (F₄.keep b o e))
end
end Mine

namespace Mine
section
variable {prog : Program} {w : World} {A : Around} {E : Value → Shared → Prop} {s : Shared}

def IsZipG (h : Heap) (z TI TO : Addr) (f0 f1 : Value) : Prop :=
  h.get? z = some { cls := .type "zip", dict := none, data := .fields #[f0, f1, .bool false, .ref TI, .ref TO], slots := #[] }

theorem alive {a : Addr} {o : Obj} {Q : Option Obj → Shared → Prop} (ho : s.heap.get? a = some o) (h : Q (some o) s) : wpAny (model prog w) A (loadIfAlive a) Q E s := fun Γ p _ => by
  show Q (s.heap.get? a) s
  rw [ho]; exact h

/-- the owned tuple is not free: it lies in the list -/
theorem notFree {z TI TO T : Addr} {f1 : Bool} {oT : Obj} {Q : Bool → Shared → Prop} (hz : IsZipG s.heap z TI TO (rawInt T) (.bool f1)) (hT : s.heap.get? T = some oT)
    (hQ : ∀ h', IsZipG h' z TI TO (rawInt T) (.bool true) → Heap.SameBut z s.heap h' → Q false { s with heap := h' }) :
    wpAny (model prog w) A (Builtin.SmallTypes.ownedTupleIsFree (.ref z)) Q E s := by
  unfold Builtin.SmallTypes.ownedTupleIsFree
  refine wpAny_bind (wpAny_field hz rfl (x := rawInt T) rfl ?_)
  show wpAny _ _ (loadIfAlive ((T : Int).toNat) >>= _) _ _ _
  rw [Int.toNat_natCast]
  refine wpAny_bind (alive hT ?_)
  show wpAny _ _ (field (.ref z) 1 >>= _) _ _ _
  refine wpAny_bind (wpAny_field hz rfl (x := .bool f1) rfl ?_)
  cases f1 with
  | true =>
    show wpAny _ _ (pure false) _ _ _
    exact wpAny_pure (hQ s.heap hz (Heap.SameBut.refl _ _))
  | false =>
    show wpAny _ _ (setField (.ref z) 1 (.bool true) >>= fun _ => pure false) _ _ _
    exact wpAny_bind (wpAny_setField_rec hz (by simp) fun h' hz' hs' => wpAny_pure (hQ h' hz' hs'))

theorem zip_next2 {z TI TO i1 i2 l1 l2 T : Addr} {f1 : Bool} {oT : Obj} {k1 k2 : Nat} {xs ys : Array Value} {x y : Value} {Q : Value → Shared → Prop} (D : ZipApart z TI TO i1 i2 l1 l2)
    (hz : IsZipG s.heap z TI TO (rawInt T) (.bool f1)) (hT : s.heap.get? T = some oT) (hTI : IsPair s.heap TI (.ref i1) (.ref i2))
    (h1 : s.heap.IsListIter i1 l1 k1) (h2 : s.heap.IsListIter i2 l2 k2) (hl1 : s.heap.IsList l1 xs) (hl2 : s.heap.IsList l2 ys) (hx : xs[k1]? = some x) (hy : ys[k2]? = some y)
    (hQ : ∀ h', IsZipG h' z TI TO (rawInt T) (.bool true) → h'.IsListIter i1 l1 (k1 + 1) → h'.IsListIter i2 l2 (k2 + 1) → IsPair h' s.heap.objs.size x y → h'.objs.size = s.heap.objs.size + 1 →
      (∀ c o, c ≠ z → c ≠ i1 → c ≠ i2 → s.heap.get? c = some o → h'.get? c = some o) → Q (.ref s.heap.objs.size) { s with heap := h' }) :
    wpAny (model prog w) A (Builtin.«zip.__next__» ⟨[.ref z], []⟩) (fun fin s' => ∃ v, fin = .done (.ret v) ∧ Q v s') E s := by
  show wpAny _ _ (field (.ref z) 2 >>= _) _ _ _
  refine wpAny_bind (wpAny_field hz rfl (x := .bool false) rfl ?_)
  show wpAny _ _ (field (.ref z) 3 >>= _) _ _ _
  refine wpAny_bind (wpAny_field hz rfl (x := .ref TI) rfl ?_)
  refine wpAny_bind (wpAny_seqItems hTI rfl ?_)
  show wpAny _ _ (Builtin.SmallTypes.ownedTupleIsFree (.ref z) >>= _) _ _ _
  refine wpAny_bind (notFree hz hT fun h₁ hz₁ hs₁ => ?_)
  simp only [Bool.false_eq_true, if_false]
  rw [← Array.forIn_toList]
  refine wpAny_bind ?_
  simp only [List.forIn_cons, List.forIn_nil]
  refine wpAny_bind (wpAny_bind (wpAny_holding ?_))
  show wpAny _ _ (Builtin.SmallTypes.nextOf (.ref i1) >>= _) _ _ _
  refine wpAny_bind (wpAny_nextOf_list_item (h1.extBut hs₁.extBut D.i1z) (hl1.extBut hs₁.extBut D.l1z) hx fun h₂ h1₂ hs₂ => wpAny_pure ?_)
  refine wpAny_pure ?_
  refine wpAny_bind (wpAny_bind (wpAny_holding ?_))
  show wpAny _ _ (Builtin.SmallTypes.nextOf (.ref i2) >>= _) _ _ _
  refine wpAny_bind (wpAny_nextOf_list_item ((h2.extBut hs₁.extBut D.i2z).extBut hs₂.extBut D.i12.symm)
    ((hl2.extBut hs₁.extBut D.l2z).extBut hs₂.extBut D.l2i1) hy fun h₃ h2₃ hs₃ => wpAny_pure ?_)
  refine wpAny_pure ?_
  refine wpAny_pure ?_
  show wpAny _ _ (newTuple [x, y] >>= _) _ _ _
  refine wpAny_bind (wpAny_newTuple ?_)
  have hsz : h₃.objs.size = s.heap.objs.size := by rw [hs₃.1, hs₂.1, hs₁.1]
  refine wpAny_pure ⟨_, rfl, ?_⟩
  show Q (.ref h₃.objs.size) _
  rw [hsz]
  have up : ∀ c o, h₃.get? c = some o → (h₃.push { cls := .type "tuple", data := .seq #[x, y] }).get? c = some o := fun c o e => Heap.get?_push_of_some _ e
  refine hQ _ (up _ _ (hs₃.extBut _ _ D.i2z.symm (hs₂.extBut _ _ D.i1z.symm hz₁))) ((h1₂.extBut hs₃.extBut D.i12).at fun o e => up _ o e) (h2₃.at fun o e => up _ o e) ?_ ?_ ?_
  · rw [← hsz]; exact Heap.get?_push_size _ rfl
  · rw [Heap.size_push, hsz]
  · exact fun c o c1 c2 c3 e => up _ _ (hs₃.extBut _ _ c3 (hs₂.extBut _ _ c2 (hs₁.extBut _ _ c1 e)))

theorem zip_end2 {z TI TO i1 i2 l1 l2 T : Addr} {f1 : Bool} {oT : Obj} {k1 : Nat} {xs : Array Value} {Q : Fin → Shared → Prop} (hh : A.handled = none) (D : ZipApart z TI TO i1 i2 l1 l2)
    (hz : IsZipG s.heap z TI TO (rawInt T) (.bool f1)) (hT : s.heap.get? T = some oT) (hTI : IsPair s.heap TI (.ref i1) (.ref i2))
    (h1 : s.heap.IsListIter i1 l1 k1) (hl1 : s.heap.IsList l1 xs) (hx : xs[k1]? = none)
    (hE : ∀ h' e, (∀ c o, c ≠ z → c ≠ i1 → s.heap.get? c = some o → h'.get? c = some o) → (∃ o, h'.get? e = some o ∧ o.cls = .type "StopIteration") → E (.ref e) { s with heap := h' }) :
    wpAny (model prog w) A (Builtin.«zip.__next__» ⟨[.ref z], []⟩) Q E s := by
  show wpAny _ _ (field (.ref z) 2 >>= _) _ _ _
  refine wpAny_bind (wpAny_field hz rfl (x := .bool false) rfl ?_)
  show wpAny _ _ (field (.ref z) 3 >>= _) _ _ _
  refine wpAny_bind (wpAny_field hz rfl (x := .ref TI) rfl ?_)
  refine wpAny_bind (wpAny_seqItems hTI rfl ?_)
  show wpAny _ _ (Builtin.SmallTypes.ownedTupleIsFree (.ref z) >>= _) _ _ _
  refine wpAny_bind (notFree hz hT fun h₁ hz₁ hs₁ => ?_)
  simp only [Bool.false_eq_true, if_false]
  rw [← Array.forIn_toList]
  refine wpAny_bind ?_
  simp only [List.forIn_cons, List.forIn_nil]
  refine wpAny_bind (wpAny_bind (wpAny_holding ?_))
  show wpAny _ _ (Builtin.SmallTypes.nextOf (.ref i1) >>= _) _ _ _
  refine wpAny_bind (wpAny_nextOf_list_end hh (h1.extBut hs₁.extBut D.i1z) (hl1.extBut hs₁.extBut D.l1z) hx fun h₂ e hs₂ he => ?_)
  exact hE h₂ e (fun c o c1 c3 x => hs₂ _ _ c3 (hs₁.extBut _ _ c1 x)) he

theorem pyNext_zip2 {z TI TO i1 i2 l1 l2 T : Addr} {f1 : Bool} {oT : Obj} {k1 k2 : Nat} {xs ys : Array Value} {x y : Value} {Q : Option Value → Shared → Prop} (D : ZipApart z TI TO i1 i2 l1 l2)
    (hz : IsZipG s.heap z TI TO (rawInt T) (.bool f1)) (hT : s.heap.get? T = some oT) (hTI : IsPair s.heap TI (.ref i1) (.ref i2))
    (h1 : s.heap.IsListIter i1 l1 k1) (h2 : s.heap.IsListIter i2 l2 k2) (hl1 : s.heap.IsList l1 xs) (hl2 : s.heap.IsList l2 ys) (hx : xs[k1]? = some x) (hy : ys[k2]? = some y)
    (hQ : ∀ h', IsZipG h' z TI TO (rawInt T) (.bool true) → h'.IsListIter i1 l1 (k1 + 1) → h'.IsListIter i2 l2 (k2 + 1) → IsPair h' s.heap.objs.size x y → h'.objs.size = s.heap.objs.size + 1 →
      (∀ c o, c ≠ z → c ≠ i1 → c ≠ i2 → s.heap.get? c = some o → h'.get? c = some o) → Q (some (.ref s.heap.objs.size)) { s with heap := h' }) :
    wpAny (model prog w) A (pyNext (.ref z)) Q E s := by
  have hT' : s.TypeIs (.ref z) "zip" := ⟨_, hz, rfl⟩
  unfold pyNext
  exact wpAny_bind (wpAny_attempt (wpAny_callSpecial?_slot (name := Str.ofString "__next__") hT' F.slot_zip_next
    (wpAny_call_entry F.slot_zip_next hT' F.entry_zip_next
      (zip_next2 D hz hT hTI h1 h2 hl1 hl2 hx hy fun h' a1 a2 a3 a4 a5 a6 => wpAny_pure (hQ h' a1 a2 a3 a4 a5 a6)) (F.args_zip_next_1 _))))

theorem pyNext_zipEnd2 {z TI TO i1 i2 l1 l2 T : Addr} {f1 : Bool} {oT : Obj} {k1 : Nat} {xs : Array Value} {Q : Option Value → Shared → Prop} (hh : A.handled = none) (D : ZipApart z TI TO i1 i2 l1 l2)
    (hz : IsZipG s.heap z TI TO (rawInt T) (.bool f1)) (hT : s.heap.get? T = some oT) (hTI : IsPair s.heap TI (.ref i1) (.ref i2))
    (h1 : s.heap.IsListIter i1 l1 k1) (hl1 : s.heap.IsList l1 xs) (hx : xs[k1]? = none)
    (hQ : ∀ h', (∀ c o, c ≠ z → c ≠ i1 → s.heap.get? c = some o → h'.get? c = some o) → Q none { s with heap := h' }) :
    wpAny (model prog w) A (pyNext (.ref z)) Q E s := by
  have hT' : s.TypeIs (.ref z) "zip" := ⟨_, hz, rfl⟩
  unfold pyNext
  refine wpAny_bind (wpAny_attempt (wpAny_callSpecial?_slot (name := Str.ofString "__next__") hT' F.slot_zip_next
    (wpAny_call_entry F.slot_zip_next hT' F.entry_zip_next (zip_end2 hh D hz hT hTI h1 hl1 hx fun h' e hk he => ?_) (F.args_zip_next_1 _))))
  obtain ⟨o, ho, hc⟩ := he
  refine wpAny_bind (wpAny_isInstance (T := "StopIteration") (b := true) ⟨o, ho, hc⟩ isSubtype_stop ?_)
  exact wpAny_pure (hQ _ hk)
end
end Mine

namespace Mine
section
variable {prog : Program} {w : World} {A : Around} {E : Value → Shared → Prop} {s : Shared}

/-- the i-th item is a new pair -/
def PairsAt (h : Heap) (N : List Addr) (xs ys acc : Array Value) (i : Nat) : Prop :=
  acc.size = i ∧ ∀ j < i, ∃ T x y, acc[j]? = some (.ref T) ∧ xs[j]? = some x ∧ ys[j]? = some y ∧ IsPair h T x y ∧ T ∉ N

theorem PairsAt.at {h h' : Heap} {N : List Addr} {xs ys acc : Array Value} {i : Nat} (P : PairsAt h N xs ys acc i) (k : ∀ c o, c ∉ N → h.get? c = some o → h'.get? c = some o) : PairsAt h' N xs ys acc i :=
  ⟨P.1, fun j hj => let ⟨T, x, y, a, b, c, d, e⟩ := P.2 j hj; ⟨T, x, y, a, b, c, k _ _ e d, e⟩⟩
theorem PairsAt.push {h : Heap} {N : List Addr} {xs ys acc : Array Value} {i : Nat} {T : Addr} {x y : Value} (P : PairsAt h N xs ys acc i) (hx : xs[i]? = some x) (hy : ys[i]? = some y) (hT : IsPair h T x y) (hN : T ∉ N) :
    PairsAt h N xs ys (acc.push (.ref T)) (i + 1) := by
  refine ⟨by rw [Array.size_push, P.1], fun j hj => ?_⟩
  rcases Nat.lt_or_ge j i with h1 | h1
  · obtain ⟨T', x', y', a, r⟩ := P.2 j h1
    exact ⟨T', x', y', by rw [Array.getElem?_push_lt (by rw [P.1]; exact h1)]; rw [Array.getElem?_eq_getElem (by rw [P.1]; exact h1)] at a; exact a, r⟩
  · have : j = i := by omega
    subst this
    exact ⟨T, x, y, by rw [← P.1]; exact Array.getElem?_push_size, hx, hy, hT, hN⟩

structure ZAp (z TI TO i1 i2 l1 l2 S : Addr) : Prop where
  D : ZipApart z TI TO i1 i2 l1 l2
  Sz : S ≠ z
  STI : S ≠ TI
  STO : S ≠ TO
  Si1 : S ≠ i1
  Si2 : S ≠ i2
  Sl1 : S ≠ l1
  Sl2 : S ≠ l2

structure ZSt (base : Heap) (z TI TO i1 i2 l1 l2 S : Addr) (xs ys : Array Value) (i : Nat) (acc : Array Value) (h : Heap) : Prop where
  zip : (i = 0 ∧ IsZip h z TI TO .none) ∨ (∃ (T : Addr) (f1 : Bool) (oT : Obj), IsZipG h z TI TO (rawInt T) (.bool f1) ∧ h.get? T = some oT ∧ T ∉ [z, TO, i1, i2, S])
  ti : IsPair h TI (.ref i1) (.ref i2)
  to : ∃ a b, IsPair h TO a b
  it1 : h.IsListIter i1 l1 i
  it2 : h.IsListIter i2 l2 i
  li1 : h.IsList l1 xs
  li2 : h.IsList l2 ys
  s : ∃ c, h.get? S = some { cls := .type "list", dict := none, data := .seq acc c, slots := #[] }
  acc : PairsAt h [z, TO, i1, i2, S] xs ys acc i
  keep : Kp base h

theorem notmem5 {T a b c d e : Addr} (h1 : T ≠ a) (h2 : T ≠ b) (h3 : T ≠ c) (h4 : T ≠ d) (h5 : T ≠ e) : T ∉ [a, b, c, d, e] := by simp [h1, h2, h3, h4, h5]

theorem zip_loop {base : Heap} {z TI TO i1 i2 l1 l2 S : Addr} {xs ys : Array Value} {n : Nat} {res : Value} {R : Result → Shared → Prop} (hh : A.handled = none) (Z : ZAp z TI TO i1 i2 l1 l2 S) (hn0 : 0 < n) (hn : n ≤ 1000) (hxs : xs.size = n) (hys : ys.size = n)
    (hb : ∀ c ∈ [z, TO, i1, i2, S], base.get? c = none) :
    ∀ (k i : Nat) (s : Shared) (acc : Array Value), n - i = k → i ≤ n → ZSt base z TI TO i1 i2 l1 l2 S xs ys i acc s.heap →
    (∀ h' acc' c', h'.get? S = some { cls := .type "list", dict := none, data := .seq acc' c', slots := #[] } → PairsAt h' [z, TO, i1, i2, S] xs ys acc' n → Kp base h' → R (.ok (.ret res)) { s with heap := h' }) →
    codeAny (model prog w) A (.builtin "list.extend.loop" ⟨[.ref S, .ref z, res], []⟩) R s := by
  have D := Z.D
  intro k
  induction k with
  | zero =>
    intro i s acc hk hi st hR
    obtain ⟨c, stS⟩ := st.s
    have hin : i = n := by omega
    subst hin
    refine codeAny_builtin F.entry_extend_loop ?_
    rw [Around.under_plainId F.plain_extend_loop _]
    show wpAny _ A.in1 (pyNext (.ref z) >>= _) _ _ s
    rcases st.zip with ⟨h0, _⟩ | ⟨T, f1, oT, hz, hT, hTN⟩
    · omega
    · refine wpAny_bind (pyNext_zipEnd2 hh D hz hT st.ti st.it1 st.li1 (Array.getElem?_eq_none (by omega)) fun h' hk' => ?_)
      have kk : ∀ c o, c ∉ [z, TO, i1, i2, S] → s.heap.get? c = some o → h'.get? c = some o := fun c o hc e => hk' c o (by rintro rfl; simp at hc) (by rintro rfl; simp at hc) e
      exact wpAny_pure (hR h' acc c (hk' _ _ Z.Sz Z.Si1 stS) (st.acc.at kk) fun b o e => kk b o (fun hm => by rw [hb b hm] at e; cases e) (st.keep b o e))
  | succ k ih =>
    intro i s acc hk hi st hR
    obtain ⟨c, stS⟩ := st.s
    have hlt : i < n := by omega
    obtain ⟨x, hx⟩ : ∃ x, xs[i]? = some x := ⟨_, Array.getElem?_eq_getElem (by omega)⟩
    obtain ⟨y, hy⟩ : ∃ y, ys[i]? = some y := ⟨_, Array.getElem?_eq_getElem (by omega)⟩
    refine codeAny_builtin F.entry_extend_loop ?_
    rw [Around.under_plainId F.plain_extend_loop _]
    show wpAny _ A.in1 (pyNext (.ref z) >>= _) _ _ s
    -- what is behind the item
    have lt : ∀ {c o}, s.heap.get? c = some o → s.heap.objs.size ≠ c := fun e => Nat.ne_of_gt (Heap.lt_size e)
    have zi1 : s.heap.objs.size ≠ i1 := let ⟨_, e, _⟩ := st.it1; lt e
    have zi2 : s.heap.objs.size ≠ i2 := let ⟨_, e, _⟩ := st.it2; lt e
    have zTO : s.heap.objs.size ≠ TO := let ⟨_, _, e⟩ := st.to; lt e
    have zS : s.heap.objs.size ≠ S := lt stS
    have zz : s.heap.objs.size ≠ z := by
      rcases st.zip with ⟨_, e⟩ | ⟨_, _, _, e, _⟩
      · exact lt e
      · exact lt e
    have after : ∀ h₁, (∃ (T : Addr) (f1 : Bool) (oT : Obj), IsZipG h₁ z TI TO (rawInt T) (.bool f1) ∧ h₁.get? T = some oT ∧ T ∉ [z, TO, i1, i2, S]) → (∃ a b, IsPair h₁ TO a b) → h₁.IsListIter i1 l1 (i + 1) → h₁.IsListIter i2 l2 (i + 1) → IsPair h₁ s.heap.objs.size x y →
        (∀ c o, c ≠ z → c ≠ TO → c ≠ i1 → c ≠ i2 → s.heap.get? c = some o → h₁.get? c = some o) →
        wpAny (model prog w) A.in1 (Builtin.List.listUpdate (.ref S) (·.push (.ref s.heap.objs.size)) >>= fun _ => again (.builtin "list.extend.loop" ⟨[.ref S, .ref z, res], []⟩))
          (fun fin s' => match fin with | .done f => R (.ok f) s' | .again c' => c'.quiet = true ∧ codeAny (model prog w) A c' R s') (fun e s' => R (.error e) s') { s with heap := h₁ } := by
      intro h₁ hz₁ hto₁ hi1 hi2 hT₁ hk₁
      have hS₁ := hk₁ S _ Z.Sz Z.STO Z.Si1 Z.Si2 stS
      show wpAny _ A.in1 (updateSeq S (·.push (.ref s.heap.objs.size)) >>= _) _ _ _
      refine wpAny_bind ?_
      have hacs : acc.size = i := st.acc.1
      refine wpAny_updateSeq hS₁ rfl (wpAny_pure ⟨plainId_quiet F.plain_extend_loop _, ih (i + 1) _ (acc.push (.ref s.heap.objs.size)) (by omega) hlt ?_ ?_⟩)
        (by rw [hacs, sizeLine_eq]; omega) (by show (acc.push _).size ≤ sizeLine + 1; rw [Array.size_push, hacs, sizeLine_eq]; omega)
      · have oth : ∀ b o, b ≠ S → h₁.get? b = some o → (h₁.update S (Obj.mapSeq (·.push (.ref s.heap.objs.size)))).get? b = some o := fun b o hb e => (Heap.get?_update_other _ _ (Ne.symm hb)).trans e
        have kk : ∀ c o, c ∉ [z, TO, i1, i2, S] → s.heap.get? c = some o → (h₁.update S (Obj.mapSeq (·.push (.ref s.heap.objs.size)))).get? c = some o := fun c o hc e => by
          simp only [List.mem_cons, List.not_mem_nil, or_false, not_or] at hc
          exact oth _ _ hc.2.2.2.2 (hk₁ c o hc.1 hc.2.1 hc.2.2.1 hc.2.2.2.1 e)
        refine ⟨.inr ?_, oth _ _ (Ne.symm Z.STI) (hk₁ _ _ D.TIz D.TITO D.TIi1 D.TIi2 st.ti), ?_, hi1.at fun o e => oth _ o (Ne.symm Z.Si1) e, hi2.at fun o e => oth _ o (Ne.symm Z.Si2) e, ?_, ?_, ?_, ?_, ?_⟩
        · obtain ⟨T, f1, oT, a, b, c⟩ := hz₁
          exact ⟨T, f1, oT, oth _ _ (Ne.symm Z.Sz) a, oth _ _ (by rintro rfl; simp at c) b, c⟩
        · obtain ⟨a, b, e⟩ := hto₁
          exact ⟨a, b, oth _ _ (Ne.symm Z.STO) e⟩
        · exact st.li1.at fun o e => oth _ o (Ne.symm Z.Sl1) (hk₁ _ o D.l1z D.l1TO D.l1i1 D.l1i2 e)
        · exact st.li2.at fun o e => oth _ o (Ne.symm Z.Sl2) (hk₁ _ o D.l2z D.l2TO D.l2i1 D.l2i2 e)
        · exact ⟨_, Heap.get?_update_self _ hS₁ rfl⟩
        · exact (st.acc.at kk).push hx hy (oth _ _ zS hT₁) (notmem5 zz zTO zi1 zi2 zS)
        · exact fun b o e => kk b o (fun hm => by rw [hb b hm] at e; cases e) (st.keep b o e)
      · intro h' acc' c' a b d
        exact hR h' acc' c' a b d
    rcases st.zip with ⟨_, hz⟩ | ⟨T, f1, oT, hz, hT, hTN⟩
    · obtain ⟨a, b, hto⟩ := st.to
      refine wpAny_bind (wpAny_pyNext_zip_item D hz st.ti hto st.it1 st.it2 st.li1 st.li2 hx hy fun h₁ a1 a2 a3 a4 a5 a6 a7 => ?_)
      exact after h₁ ⟨_, false, _, a1, a5, notmem5 zz zTO zi1 zi2 zS⟩ ⟨_, _, a2⟩ a3 a4 a5 a7
    · obtain ⟨a, b, hto⟩ := st.to
      refine wpAny_bind (pyNext_zip2 D hz hT st.ti st.it1 st.it2 st.li1 st.li2 hx hy fun h₁ a1 a2 a3 a4 a5 a6 => ?_)
      have hTn := hTN
      simp only [List.mem_cons, List.not_mem_nil, or_false, not_or] at hTn
      exact after h₁ ⟨_, true, oT, a1, a6 _ _ hTn.1 hTn.2.2.1 hTn.2.2.2.1 hT, hTN⟩ ⟨_, _, a6 _ _ D.TOz D.TOi1 D.TOi2 hto⟩ a2 a3 a4 fun c o c1 _ c3 c4 e => a6 c o c1 c3 c4 e

theorem zip_no_len : typeLookup (.type "zip") "__len__" = pure none := by rw [typeLookup_type, builtinLookup_eq_fast]; kernel_rfl
theorem zip_no_hint : typeLookup (.type "zip") "__length_hint__" = pure none := by rw [typeLookup_type, builtinLookup_eq_fast]; kernel_rfl

/-- list(zip(xs, ys)) -/
theorem list_zip {z TI TO i1 i2 l1 l2 : Addr} {base : Heap} {xs ys : Array Value} {n : Nat} {Q : Value → Shared → Prop} (hh : A.handled = none) (D : ZipApart z TI TO i1 i2 l1 l2) (hn0 : 0 < n) (hn : n ≤ 1000) (hxs : xs.size = n) (hys : ys.size = n)
    (hb : ∀ c ∈ [z, TO, i1, i2], base.get? c = none) (hbs : base.objs.size ≤ s.heap.objs.size)
    (hz : IsZip s.heap z TI TO .none) (hTI : IsPair s.heap TI (.ref i1) (.ref i2)) (hTO : IsPair s.heap TO .none .none)
    (h1 : s.heap.IsListIter i1 l1 0) (h2 : s.heap.IsListIter i2 l2 0) (hl1 : s.heap.IsList l1 xs) (hl2 : s.heap.IsList l2 ys) (hk : Kp base s.heap)
    (hQ : ∀ h' acc N, h'.IsList s.heap.objs.size acc → PairsAt h' N xs ys acc n → Kp base h' → Q (.ref s.heap.objs.size) { s with heap := h' }) :
    wpAny (model prog w) A (call (.type "list") [.ref z]) Q E s := by
  refine callType_codes (Q₁ := fun obj s₁ => obj = .ref s.heap.objs.size ∧ s₁ = { s with heap := s.heap.push { cls := .type "list", data := .seq #[] } }) F.called_list (F.typeCall_list_1 _) F.entry_list_init
    (code_list_new _ ⟨rfl, rfl⟩) fun obj s₁ h₁ => ?_
  obtain ⟨rfl, rfl⟩ := h₁
  have hS : (s.heap.push { cls := .type "list", data := .seq #[] }).get? s.heap.objs.size = some { cls := .type "list", data := .seq #[] } := Heap.get?_push_size _ rfl
  have up : Kp s.heap (s.heap.push { cls := .type "list", data := .seq #[] }) := fun b o e => Heap.get?_push_of_some _ e
  have lt : ∀ {c o}, s.heap.get? c = some o → s.heap.objs.size ≠ c := fun e => Nat.ne_of_gt (Heap.lt_size e)
  have Z : ZAp z TI TO i1 i2 l1 l2 s.heap.objs.size := ⟨D, lt hz, lt hTI, lt hTO, (let ⟨_, e, _⟩ := h1; lt e), (let ⟨_, e, _⟩ := h2; lt e), (let ⟨_, e, _⟩ := hl1; lt e), (let ⟨_, e, _⟩ := hl2; lt e)⟩
  have hb' : ∀ c ∈ [z, TO, i1, i2, s.heap.objs.size], base.get? c = none := fun c hc => by
    simp only [List.mem_cons, List.not_mem_nil, or_false] at hc
    rcases hc with rfl | rfl | rfl | rfl | rfl
    · exact hb _ (by simp)
    · exact hb _ (by simp)
    · exact hb _ (by simp)
    · exact hb _ (by simp)
    · exact get_none hbs
  generalize s.heap.objs.size = S at *
  generalize hH : s.heap.push { cls := .type "list", data := .seq #[] } = H at *
  refine ⟨⟨_, hS, rfl⟩, F.args_list_init_2 _ _, ?_⟩
  show wpAny _ A.in1.in1 (do let old ← Builtin.List.listItems (.ref S); Builtin.List.listUpdate (.ref S) (fun _ => #[]); letGo old.toList.reverse; Builtin.List.listExtendWith (.ref S) (.ref z) .none) _ _ _
  refine wpAny_bind ?_
  unfold Builtin.List.listItems
  refine wpAny_bind (wpAny_seqItems hS rfl (wpAny_pure ?_))
  show wpAny _ A.in1.in1 (updateSeq S (fun _ => #[]) >>= fun _ => letGo (#[] : Array Value).toList.reverse >>= fun _ => Builtin.List.listExtendWith (.ref S) (.ref z) .none) _ _ _
  refine wpAny_bind (wpAny_updateSeq hS rfl ?_)
  have hS₂ := Heap.get?_update_self (Obj.mapSeq (fun _ => (#[] : Array Value))) hS rfl
  have oth : ∀ b o, b ≠ S → s.heap.get? b = some o → (H.update S (Obj.mapSeq (fun _ => (#[] : Array Value)))).get? b = some o :=
    fun b o hb e => (Heap.get?_update_other _ _ (Ne.symm hb)).trans (up b o e)
  refine wpAny_bind (wpAny_letGo ?_)
  generalize H.update S (Obj.mapSeq (fun _ => (#[] : Array Value))) = H₂ at *
  have hz₂ := oth _ _ (Ne.symm Z.Sz) hz
  have hT : ({ s with heap := H₂ } : Shared).TypeIs (.ref z) "zip" := ⟨_, hz₂, rfl⟩
  unfold Builtin.List.listExtendWith
  refine wpAny_bind (wpAny_typeOf hT ?_)
  have e1 : Builtin.List.listSameRef (.ref S) (.ref z) = false := by simp [Builtin.List.listSameRef, Z.Sz]
  have e2 : (Value.type "zip" == Value.type "list") = false := by decide
  have e3 : (Value.type "zip" == Value.type "tuple") = false := by decide
  simp only [e1, e2, e3, Bool.or_false, Bool.false_eq_true, if_false]
  refine wpAny_bind (wpAny_pyIter_zip hz₂ ?_)
  refine wpAny_bind (wpAny_holding ?_)
  unfold Builtin.List.listLengthHint
  refine wpAny_bind (wpAny_specialOf hT zip_no_len ?_)
  show wpAny _ A.in1.in1 (specialOf (Value.ref z) (Str.ofString "__length_hint__") >>= _) _ _ _
  refine wpAny_bind (wpAny_specialOf hT zip_no_hint ?_)
  refine wpAny_pure ?_
  show wpAny _ A.in1.in1 (rule "list.extend.makes-room" >>= fun _ => Builtin.List.listTouch (.ref S) >>= fun _ =>
    again (.builtin "list.extend.loop" ⟨[.ref S, .ref z, .none], []⟩)) _ _ _
  refine wpAny_bind (wpAny_rule ?_)
  refine wpAny_bind ?_
  show wpAny _ A.in1.in1 (updateSeq S (·.push .none) >>= fun _ => updateSeq S (·.pop)) _ _ _
  refine wpAny_bind (wpAny_updateSeq hS₂ rfl ?_)
  have hS₃ := Heap.get?_update_self (Obj.mapSeq (·.push Value.none)) hS₂ rfl
  refine wpAny_updateSeq (hz := by seq_fits) hS₃ rfl ?_
  have hS₄ := Heap.get?_update_self (Obj.mapSeq (·.pop)) hS₃ rfl
  have oth₂ : ∀ b o, b ≠ S → s.heap.get? b = some o → ((H₂.update S (Obj.mapSeq (·.push Value.none))).update S (Obj.mapSeq (·.pop))).get? b = some o :=
    fun b o hb e => (Heap.get?_update_other _ _ (Ne.symm hb)).trans ((Heap.get?_update_other _ _ (Ne.symm hb)).trans (oth b o hb e))
  generalize (H₂.update S (Obj.mapSeq (·.push Value.none))).update S (Obj.mapSeq (·.pop)) = H₄ at *
  refine wpAny_pure ⟨plainId_quiet F.plain_extend_loop _, zip_loop (A := A.in1) (base := base) (n := n) hh Z hn0 hn hxs hys hb' n 0 _ #[] rfl (Nat.zero_le _) ?_ ?_⟩
  · refine ⟨.inl ⟨rfl, oth₂ _ _ (Ne.symm Z.Sz) hz⟩, oth₂ _ _ (Ne.symm Z.STI) hTI, ⟨_, _, oth₂ _ _ (Ne.symm Z.STO) hTO⟩, h1.at fun o e => oth₂ _ o (Ne.symm Z.Si1) e, h2.at fun o e => oth₂ _ o (Ne.symm Z.Si2) e,
      hl1.at fun o e => oth₂ _ o (Ne.symm Z.Sl1) e, hl2.at fun o e => oth₂ _ o (Ne.symm Z.Sl2) e, ⟨_, hS₄⟩, ⟨rfl, fun j hj => by omega⟩, fun b o e => oth₂ b o (fun q => ?_) (hk b o e)⟩
    rw [q, hb' S (by simp)] at e; cases e
  · intro h' acc' c' a b d
    exact ⟨rfl, hQ h' acc' _ ⟨_, a, rfl, _, rfl⟩ b d⟩
end
end Mine

namespace Mine

def ins (x e f : Int) : Int := (x / 10 ^ e.toNat * 10 + f) * 10 ^ e.toNat + x % 10 ^ e.toNat
def opened (x : Int) (es fs : List Int) : Int := (es.zip fs).reverse.foldl (fun x p => ins x p.1 p.2) x

theorem pow10_le {n m : Nat} (h : n ≤ m) : (10 : Int) ^ n ≤ 10 ^ m := by
  have := Nat.pow_le_pow_right (n := 10) (by decide) h
  exact_mod_cast this
theorem ins_bound {x e f B : Int} (he : e ≤ 30) (hf0 : 0 ≤ f) (hf : f ≤ 9) (hB : 10 ^ 31 ≤ B) (h1 : -B ≤ x) (h2 : x ≤ B) : -(100 * B) ≤ ins x e f ∧ ins x e f ≤ 100 * B := by
  have hp := pow10_pos e.toNat
  have hp2 : (10 : Int) ^ e.toNat ≤ 10 ^ 30 := pow10_le (by omega)
  have e1 := Int.mul_ediv_add_emod x (10 ^ e.toNat)
  have e2 := Int.emod_nonneg x (Int.ne_of_gt hp)
  have e3 := Int.emod_lt_of_pos x hp
  have e4 : ins x e f = 10 * x + f * 10 ^ e.toNat - 9 * (x % 10 ^ e.toNat) := by
    unfold ins
    generalize x / 10 ^ e.toNat = q at *
    generalize x % 10 ^ e.toNat = r at *
    generalize (10 : Int) ^ e.toNat = p at *
    grind
  have e5 : 0 ≤ f * 10 ^ e.toNat := Int.mul_nonneg hf0 (Int.le_of_lt hp)
  have e6 : f * 10 ^ e.toNat ≤ 9 * 10 ^ e.toNat := Int.mul_le_mul_of_nonneg_right hf (Int.le_of_lt hp)
  rw [e4]
  generalize x % 10 ^ e.toNat = r at *
  generalize f * 10 ^ e.toNat = fp at *
  generalize (10 : Int) ^ e.toNat = p at *
  omega

section
variable {w : World} {A : Around} {E : Value → Shared → Prop} {s : Shared} {env : Env}
theorem ldB {x : Str} {pos : Pos} {v : Value} {Q : Value → Shared → Prop} (T : Tp w s.heap) (e : nsIn (KK w) mainGlobals x = some none) (hv : bootBuiltins x = some v) (h : Q v s)
    (hn : x ≠ "__name__" := by decide)
    (hg : env.globals = mainGlobals := by rfl) (hb : env.builtins = builtinsNs := by rfl) (hk : env.scope.kind = .function := by rfl) (hx : env.kindOf x = some .globalImplicit := by rfl)
    (hd : (x == ("__debug__" : Str)) = false := by decide) :
    wpAny (model prog w) A (eval (.Name x pos) env) Q E s := by
  obtain ⟨mg, G⟩ := T.g
  obtain ⟨mb, B, hB⟩ := T.b
  exact Name_function_global hk hx (loadGlobal_builtin (hg ▸ G) (mg_none_of T.k G e) (hb ▸ B) ((hB x hn).trans hv) h) hd

theorem evT1 {x : Str} {C : String} {np pos : Pos} {e1 : Expr} {Q : Value → Shared → Prop} (T : Tp w s.heap) (e : nsIn (KK w) mainGlobals x = some none) (hv : bootBuiltins x = some (.type C))
    (h : wpAny (model prog w) A (eval e1 env) (fun v1 s1 => wpAny (model prog w) A (call (.type C) [v1]) Q E s1) E s)
    (hst : starEach [e1] env = [(false, eval e1 env)] := by rfl) (hn : x ≠ "__name__" := by decide)
    (hg : env.globals = mainGlobals := by rfl) (hb : env.builtins = builtinsNs := by rfl) (hk : env.scope.kind = .function := by rfl) (hx : env.kindOf x = some .globalImplicit := by rfl)
    (hd : (x == ("__debug__" : Str)) = false := by decide) :
    wpAny (model prog w) A (eval (.Call (.Name x np) [e1] [] pos) env) Q E s := by
  refine wpAny_Call_NameR (ldB T e hv ?_ hn hg hb hk hx hd)
  rw [hst]
  refine PyProof.Rows.callWith_type (first := []) rfl (evalArgs_plain (spliced_cons ?_))
  exact wpAny_mono h (fun v2 s2 h2 => spliced_nil h2) fun _ _ z => z
theorem evT2 {x : Str} {C : String} {np pos : Pos} {e1 e2 : Expr} {Q : Value → Shared → Prop} (T : Tp w s.heap) (e : nsIn (KK w) mainGlobals x = some none) (hv : bootBuiltins x = some (.type C))
    (h : wpAny (model prog w) A (eval e1 env) (fun v1 s1 => wpAny (model prog w) A (eval e2 env) (fun v2 s2 => wpAny (model prog w) A (call (.type C) [v1, v2]) Q E s2) E s1) E s)
    (hst : starEach [e1, e2] env = [(false, eval e1 env), (false, eval e2 env)] := by rfl) (hn : x ≠ "__name__" := by decide)
    (hg : env.globals = mainGlobals := by rfl) (hb : env.builtins = builtinsNs := by rfl) (hk : env.scope.kind = .function := by rfl) (hx : env.kindOf x = some .globalImplicit := by rfl)
    (hd : (x == ("__debug__" : Str)) = false := by decide) :
    wpAny (model prog w) A (eval (.Call (.Name x np) [e1, e2] [] pos) env) Q E s := by
  refine wpAny_Call_NameR (ldB T e hv ?_ hn hg hb hk hx hd)
  rw [hst]
  refine PyProof.Rows.callWith_type (first := []) rfl (evalArgs_plain (spliced_cons ?_))
  exact wpAny_mono h (fun v1 s1 h1 => spliced_cons (wpAny_mono h1 (fun v2 s2 h2 => spliced_nil h2) fun _ _ z => z)) fun _ _ z => z

theorem letGo_rev {I D : Addr} {i : Int} {v : Value} {elts : List Expr} {x1} {pos : Pos} {Q : Unit → Shared → Prop} (hi : s.heap.IsRevIter I D i) (h : Q () s) :
    wpAny (model prog w) A (letOwnedTupleGo (.Tuple elts x1 pos) (.ref I) v) Q E s := by
  obtain ⟨o, ho, hc, hd⟩ := hi
  unfold letOwnedTupleGo
  cases v with
  | ref a =>
    refine wpAny_bind (wpAny_load ho ?_)
    rw [hc, hd]
    show wpAny _ _ (if (["enumerate", "zip", "dict_itemiterator", "dict_reverseitemiterator", "odict_iterator", "itertools.zip_longest", "itertools.pairwise"].contains "list_reverseiterator" && _) = true then _ else _) Q E s
    rw [if_neg (by simp)]
    exact wpAny_pure h
  | _ => exact wpAny_pure h

theorem PairsAt.ext {h h' : Heap} {b : Addr} {N : List Addr} {xs ys acc : Array Value} {i : Nat} (P : PairsAt h N xs ys acc i) (hb : ∀ x y, ¬ IsPair h b x y) (hs : Heap.ExtBut b h h') : PairsAt h' N xs ys acc i :=
  ⟨P.1, fun j hj => let ⟨T, x, y, p, q, r, d, e⟩ := P.2 j hj; ⟨T, x, y, p, q, r, hs _ _ (fun z => hb x y (z ▸ d)) d, e⟩⟩
theorem ns_noPair {h : Heap} {L : Addr} {m : Str → Option Value} (hn : h.Ns L m) (x y : Value) : ¬ IsPair h L x y := fun e => by
  obtain ⟨o, es, ep, ho, hd, _⟩ := hn
  rw [e] at ho; cases ho; cases hd
theorem rev_noPair {h : Heap} {I D : Addr} {i : Int} (hi : h.IsRevIter I D i) (x y : Value) : ¬ IsPair h I x y := fun e => by
  obtain ⟨o, ho, hc, hd⟩ := hi
  rw [e] at ho; cases ho; cases hd
theorem list_ne_ns {h : Heap} {L D : Addr} {m : Str → Option Value} {acc : Array Value} (hl : h.IsList D acc) (hn : h.Ns L m) : D ≠ L := fun e => by
  subst e
  obtain ⟨o, es, ep, ho, hd, _⟩ := hn
  obtain ⟨o', ho', hc', n, hd'⟩ := hl
  rw [ho] at ho'; cases ho'; rw [hd] at hd'; cases hd'
theorem list_ne_rev {h : Heap} {I D D' : Addr} {i : Int} {acc : Array Value} (hl : h.IsList D acc) (hi : h.IsRevIter I D' i) : D ≠ I := fun e => by
  subst e
  obtain ⟨o, ho, hc, hd⟩ := hi
  obtain ⟨o', ho', hc', n, hd'⟩ := hl
  rw [ho] at ho'; cases ho'; rw [hc] at hc'; simp at hc'

def insF (x : Int) (p : Int × Int) : Int := ins x p.1 p.2

theorem zipApart {b l1 l2 : Nat} (h1 : l1 < b) (h2 : l2 < b) : ZipApart (b + 4) (b + 2) (b + 3) b (b + 1) l1 l2 := by
  constructor <;> first | exact Nat.ne_of_lt (by omega) | exact Nat.ne_of_gt (by omega)

theorem opened_call {x : Int} {t : Tok} {l1 l2 : Addr} {vs us : List Value} {es fs : List Int} {Q : Value → Shared → Prop} (T : Tp w s.heap) (hh : A.handled = none) (hroom : A.depth + 2 < recursionLimit)
    (hl1 : s.heap.IsList l1 vs.toArray) (hI1 : IntsAre vs es) (hl2 : s.heap.IsList l2 us.toArray) (hI2 : IntsAre us fs) (hn0 : 0 < es.length) (hn6 : es.length ≤ 6) (hef : fs.length = es.length)
    (he : ∀ z ∈ es, 0 ≤ z ∧ z ≤ 30) (hf : ∀ z ∈ fs, 0 ≤ z ∧ z ≤ 9) (hx1 : -10 ^ 32 ≤ x) (hx2 : x ≤ 10 ^ 32)
    (h : ∀ h' tk t, Kp s.heap h' → Q (.int (opened x es fs) t) { s with heap := h', toks := tk }) :
    wpAny (model prog w) A (call (.ref 84) [.int x t, .ref l1, .ref l2]) Q E s := by
  refine call_fn T (by omega) (ho := rfl) (by rfl) rfl rfl (by decide) (by rfl) fun h₀ tk hn hk => ?_
  have F : Fr s.heap s.heap.objs.size h₀ _ := ⟨hn, hk, Nat.le_refl _⟩
  clear hn hk
  have T₀ : Tp w h₀ := T.keeps F.keep
  have hl1' : h₀.IsList l1 vs.toArray := hl1.at fun o e => F.keep _ o e
  have hl2' : h₀.IsList l2 us.toArray := hl2.at fun o e => F.keep _ o e
  have hb : ∀ k, h₀.get? (h₀.objs.size + k) = none := fun k => get_none (by omega)
  have hvn := hI1.length
  have hun := hI2.length
  refine wpAny_execs_cons (wpAny_For (evT1 (C := "reversed") T₀ rfl (by decide +kernel) (evT1 (C := "list") T₀ rfl (by decide +kernel) (evT2 (C := "zip") T₀ rfl (by decide +kernel) (ldL F.ns rfl (ldL F.ns rfl (call_zip_2 hl1' hl2' fun h₁ z1 z2 z3 z4 z5 z6 k₁ => ?_)))))))
  dsimp only at z1 z2 z3 z4 z5 z6 k₁
  have q1 : l1 < h₀.objs.size := let ⟨_, e, _⟩ := hl1'; Heap.lt_size e
  have q2 : l2 < h₀.objs.size := let ⟨_, e, _⟩ := hl2'; Heap.lt_size e
  refine list_zip (base := h₀) (n := es.length) hh (zipApart q1 q2) hn0 (by omega) (by simp [hvn]) (by simp [hun, hef]) ?_ (by show h₀.objs.size ≤ h₁.objs.size; omega) z1 z2 z3 z4 z5 (hl1'.at fun o e => k₁ _ o e) (hl2'.at fun o e => k₁ _ o e) k₁ fun h₂ acc N hD hP k₂ => ?_
  · intro c hc
    simp only [List.mem_cons, List.not_mem_nil, or_false] at hc
    rcases hc with rfl | rfl | rfl | rfl <;> first | exact hb _ | exact hb 0
  dsimp only at hD ⊢
  have F₂ := Fr.kp F k₂
  have T₂ := T₀.keeps k₂
  generalize h₁.objs.size = D at hD ⊢
  refine call_reversed_list hD ?_
  have F₃ := F₂.push (revObj D ((acc.size : Int) - 1))
  have k₃ : Kp h₂ (h₂.push (revObj D ((acc.size : Int) - 1))) := fun b o e => Heap.get?_push_of_some _ e
  have hit₃ : (h₂.push (revObj D ((acc.size : Int) - 1))).IsRevIter h₂.objs.size D ((acc.size : Int) - 1) := ⟨_, Heap.get?_push_size _ rfl, rfl, rfl⟩
  have hP₃ : PairsAt (h₂.push (revObj D ((acc.size : Int) - 1))) N vs.toArray us.toArray acc es.length := hP.at fun c o _ e => k₃ _ _ e
  have hD₃ := hD.at fun o e => k₃ _ o e
  have hIL : h₂.objs.size ≠ s.heap.objs.size := Nat.ne_of_gt F₂.ns.lt
  have hIb : s.heap.get? h₂.objs.size = none := get_none (Nat.le_of_lt F₂.ns.lt)
  have hacc : acc.size = es.length := hP.1
  rw [hacc] at F₃ k₃ hit₃ hP₃ hD₃ ⊢
  generalize h₂.objs.size = I at hIL hIb hit₃ ⊢
  generalize h₂.push (revObj D ((es.length : Int) - 1)) = h₃ at F₃ k₃ hit₃ hP₃ hD₃ ⊢
  show wpAny _ _ _ _ _ { s with heap := h₃, toks := tk }
  refine wpAny_pyIter_revIter hit₃ ?_
  clear F₂ T₂ k₂ k₁ hP hD z1 z2 z3 z4 z5 z6
  have hzl : (es.zip fs).reverse.length = es.length := by simp [hef]
  refine codeAny_forLoop_any (fun k s' => ∃ (i : Nat) (h' : Heap) (tk' : Nat) (m : Str → Option Value), s' = { s with heap := h', toks := tk' } ∧ Fr s.heap s.heap.objs.size h' m ∧ h'.IsRevIter I D ((es.length : Int) - 1 - i) ∧ h'.IsList D acc ∧ PairsAt h' N vs.toArray us.toArray acc es.length ∧
    i ≤ es.length ∧ k = es.length + 1 - i ∧ HasI m "x" (((es.zip fs).reverse.take i).foldl insF x) ∧ -(10 ^ 32 * 100 ^ i) ≤ ((es.zip fs).reverse.take i).foldl insF x ∧ ((es.zip fs).reverse.take i).foldl insF x ≤ 10 ^ 32 * 100 ^ i) ?turn (es.length + 1)
    ⟨0, _, _, _, rfl, F₃, by simpa using hit₃, hD₃, hP₃, Nat.zero_le _, rfl, ⟨_, rfl⟩, by simpa using hx1, by simpa using hx2⟩
  rintro k _ ⟨i, h', tk', m, rfl, F', hit, hD', hP', hi, rfl, ⟨t₁, hm1⟩, hb1, hb2⟩
  rcases Nat.lt_or_ge i es.length with hlt | hge
  · obtain ⟨z, hzi⟩ : ∃ z, (es.zip fs).reverse[i]? = some z := ⟨_, List.getElem?_eq_getElem (by omega)⟩
    have hsn := take_snoc hzi
    rw [List.getElem?_reverse (by rw [List.length_zip, hef]; omega)] at hzi
    have hzl' : (es.zip fs).length = es.length := by simp [hef]
    rw [hzl'] at hzi
    obtain ⟨T₁, v, u, a1, a2, a3, a4, a5⟩ := hP'.2 (es.length - 1 - i) (by omega)
    have b2 : vs[es.length - 1 - i]? = some v := by simpa using a2
    have b3 : us[es.length - 1 - i]? = some u := by simpa using a3
    obtain ⟨e, te, rfl, c2⟩ := hI1.at _ _ b2
    obtain ⟨f, tf, rfl, c3⟩ := hI2.at _ _ b3
    have hz' : z = (e, f) := by
      have : (es.zip fs)[es.length - 1 - i]? = some (e, f) := by rw [List.getElem?_zip_eq_some]; exact ⟨c2, c3⟩
      rw [this] at hzi; exact (Option.some.inj hzi).symm
    subst hz'
    have he1 := he e (List.mem_of_getElem? c2)
    have hf1 := hf f (List.mem_of_getElem? c3)
    have eI : (es.length : Int) - 1 - i = ((es.length - 1 - i : Nat) : Int) := by omega
    rw [eI] at hit
    have hDI := list_ne_rev hD' hit
    refine wpAny_pyNext_rev_item hit hD' a1 fun h₄ hit₄ hs₄ => ?_
    have F₄ := Fr.ext F' hs₄.extBut hIb hIL
    have hD₄ := hD'.extBut hs₄.extBut hDI
    have hP₄ := hP'.ext (rev_noPair hit) hs₄.extBut
    have hT₄ : IsPair h₄ T₁ (.int e te) (.int f tf) := hs₄.extBut _ _ (fun q => rev_noPair hit _ _ (q ▸ a4)) a4
    refine letGo_rev hit₄ ?_
    refine wpAny_assign_Tuple hh (items := #[.int e te, .int f tf]) ⟨_, hT₄, rfl, _, rfl⟩ rfl rfl fun h₅ hs₅ => ?_
    have k₅ : Kp h₄ h₅ := fun b o e => hs₅ b o (Nat.ne_of_lt (Heap.lt_size e)) e
    show wpAny _ _ (do holding [Value.int f tf] (assign (.Name "end" _) _ (.int e te)); do holding [] (assign (.Name "figure" _) _ (.int f tf)); pure ()) _ _ _
    have F₅ := Fr.kp F₄ k₅
    have hD₅ := hD₄.at fun o e => k₅ _ o e
    have hP₅ : PairsAt h₅ N vs.toArray us.toArray acc es.length := hP₄.at fun c o _ e => k₅ _ _ e
    have hit₅ := hit₄.at fun o e => k₅ _ o e
    refine wpAny_bind (wpAny_holding (wpAny_assign_Name (stS F₅ fun h₆ tk₆ F₆ hs₆ => ?_)))
    have hD₆ := hD₅.extBut hs₆.extBut (list_ne_ns hD₅ F₅.ns)
    have hP₆ := hP₅.ext (ns_noPair F₅.ns) hs₆.extBut
    have hit₆ := hit₅.at fun o e => hs₆.extBut _ o hIL e
    refine wpAny_bind (wpAny_holding (wpAny_assign_Name (stS F₆ fun h₇ tk₇ F₇ hs₇ => wpAny_pure ?_)))
    have hD₇ := hD₆.extBut hs₇.extBut (list_ne_ns hD₆ F₆.ns)
    have hP₇ := hP₆.ext (ns_noPair F₆.ns) hs₇.extBut
    have hit₇ := hit₆.at fun o e => hs₇.extBut _ o hIL e
    show wpAny _ _ _ _ _ { s with heap := h₇, toks := tk₇ }
    clear hit₄ hs₄ F₄ hD₄ hP₄ hT₄ hs₅ k₅ F₅ hD₅ hP₅ hit₅ hs₆ F₆ hD₆ hP₆ hit₆ hs₇
    have hB : (10 : Int) ^ 31 ≤ 10 ^ 32 * 100 ^ i := by
      have : (0 : Int) < 100 ^ i := Int.pow_pos (by decide)
      omega
    have hB2 : (10 : Int) ^ 32 * 100 ^ i ≤ 10 ^ 44 := by
      have : (100 : Int) ^ i ≤ 100 ^ 6 := by
        have := Nat.pow_le_pow_right (n := 100) (by decide) (show i ≤ 6 by omega)
        exact_mod_cast this
      omega
    have hXd := div_abs_le (((es.zip fs).reverse.take i).foldl insF x) e.toNat
    obtain ⟨hn1, hn2⟩ := ins_bound he1.2 hf1.1 hf1.2 hB hb1 hb2
    have hxn : ((((es.zip fs).reverse.take i ++ [(e, f)]).foldl insF x)) = ins (((es.zip fs).reverse.take i).foldl insF x) e f := by rw [List.foldl_append]; rfl
    generalize ((es.zip fs).reverse.take i).foldl insF x = X at *
    have p1 : (0 : Int) < 10 ^ e.toNat := pow10_pos _
    refine wpAny_execs_cons (wpAny_Assign_Name (wpAny_BinOp (wpAny_BinOp (wpAny_BinOp (wpAny_BinOp (wpAny_BinOp ?_))))))
    refine ldL F₇.ns hm1 (wpAny_BinOp (wpAny_Constant_int (ldL F₇.ns rfl ?_)))
    refine pow_int_small he1.1 (by omega) (by decide) ?_
    refine floordiv_int (Int.ne_of_gt p1) ?_ (.inl (noPylong (by omega)))
    rw [Int.fdiv_eq_ediv_of_nonneg _ (Int.le_of_lt p1)]
    refine re s h₇ fun tk₇ => ?_
    refine wpAny_Constant_int (P.mul_int ?_ (mulOk (by omega) (by decide)))
    refine ldL F₇.ns rfl (P.add_int ?_)
    refine re s h₇ fun tk₇ => ?_
    refine wpAny_BinOp (wpAny_Constant_int (ldL F₇.ns rfl ?_))
    refine pow_int_small he1.1 (by omega) (by decide) ?_
    refine P.mul_int ?_ (mulOk (by omega) (pow10_lt (by omega)))
    refine re s h₇ fun tk₇ => ?_
    refine wpAny_BinOp (ldL F₇.ns hm1 (wpAny_BinOp (wpAny_Constant_int (ldL F₇.ns rfl ?_))))
    refine pow_int_small he1.1 (by omega) (by decide) ?_
    refine mod_int' (Int.ne_of_gt p1) ?_
    rw [Int.fmod_eq_emod_of_nonneg _ (Int.le_of_lt p1)]
    refine P.add_int (stS F₇ fun h₈ tk₈ F₈ hs₈ => ?_)
    have hD₈ := hD₇.extBut hs₈.extBut (list_ne_ns hD₇ F₇.ns)
    have hP₈ := hP₇.ext (ns_noPair F₇.ns) hs₈.extBut
    have hit₈ := hit₇.at fun o e => hs₈.extBut _ o hIL e
    refine wpAny_execs_nil ⟨es.length + 1 - (i + 1), by omega, i + 1, h₈, tk₈, _, rfl, F₈, ?_, hD₈, hP₈, hlt, rfl, ?_, ?_, ?_⟩
    · have e9 : ((es.length - 1 - i : Nat) : Int) - 1 = (es.length : Int) - 1 - ((i + 1 : Nat) : Int) := by omega
      rw [← e9]; exact hit₈
    · rw [hsn, hxn]; exact ⟨_, rfl⟩
    · rw [hsn, hxn, Int.pow_succ]; omega
    · rw [hsn, hxn, Int.pow_succ]; omega
  · have hin : i = es.length := by omega
    have hta : (es.zip fs).reverse.take i = (es.zip fs).reverse := List.take_of_length_le (by omega)
    rw [hta] at hm1
    subst hin
    rw [show (es.length : Int) - 1 - (es.length : Int) = -1 by omega] at hit
    refine wpAny_pyNext_rev_end hh hit fun h₄ hs₄ => wpAny_execs_nil ?_
    have F₄ := Fr.ext F' hs₄ hIb hIL
    refine wpAny_execs_cons (wpAny_Return_some (ldL F₄.ns hm1 ?_))
    exact h _ _ _ F₄.keep
end
end Mine

namespace Mine

section
variable {M : Model} {A : Around} {R : GenEnd} {Y : Protocol} {n : Nat} {s₀ : Shared} {c : Code} {fs : List Frame} {s : Shared} {env : Env}
  {K : Flow → Sem Fin} {H : Value → Sem Fin} {gd : Bool → Bool} {lv : List Value → List Value}

theorem seg_If {test : Expr} {body orelse : List Stmt} {pos : Pos}
    (h : wpAny M (A.over c fs) (isTrue test env (eval test env)) (fun b s' => if b = true then Seg M A R Y n s₀ c ((execs body env).wrap K H gd lv) fs s' else Seg M A R Y n s₀ c ((execs orelse env).wrap K H gd lv) fs s')
      (fun x s' => Seg M A R Y n s₀ c (H x) fs s') s) :
    Seg M A R Y n s₀ c ((exec (.If test body orelse pos) env).wrap K H gd lv) fs s := by
  rw [exec_If]
  refine seg_bind_wrap (wpAny_standAt (seg_bind_wrap (wpAny_mono h (fun b s' hb => ?_) fun _ _ x => x)))
  cases b with
  | true => simpa using hb
  | false => simpa using hb

/-- a statement in which nothing is handed out -/
theorem seg_stmt {st : Stmt} {rest : List Stmt} (h : wpAny M (A.over c fs) (exec st env) (fun f s' => match f with | .next => Seg M A R Y n s₀ c ((execs rest env).wrap K H gd lv) fs s' | f => Seg M A R Y n s₀ c (K f) fs s')
      (fun x s' => Seg M A R Y n s₀ c (H x) fs s') s) :
    Seg M A R Y n s₀ c ((execs (st :: rest) env).wrap K H gd lv) fs s := by
  refine seg_execs_cons (seg_wrap (wpAny_mono h (fun f s' hf => ?_) fun _ _ x => x))
  cases f <;> exact hf

def ownK (env : Env) (K : Flow → Sem Fin) (H : Value → Sem Fin) (gd : Bool → Bool) (lv : List Value → List Value) (r : Result) : Sem Fin :=
  ((match r with | .ok f => (.pure f : Sem Flow) | .error e => .raise e).onRaise fun (x : Value) => do
        if (← field x 1) == Value.none then unsupported "frame.own-activation:exception-without-traceback"
        setFlight x env.frame).wrap K H gd lv

theorem seg_For {target iter : Expr} {body orelse : List Stmt} {pos : Pos}
    (h : wpAny M (A.over c fs) (eval iter env) (fun x s₁ => wpAny M (A.over c fs) (pyIter x) (fun it s₂ =>
      ∀ p, Seg M A R Y n s₀ (.forLoop target it body orelse env) (M.den (.forLoop target it body orelse env)) (.ret (ownK env K H gd lv) none (gd false) (lv []) c p [] :: fs) s₂)
        (fun x s' => Seg M A R Y n s₀ c (H x) fs s') s₁) (fun x s' => Seg M A R Y n s₀ c (H x) fs s') s)
    (hs : ∀ x, foldedSetIterable iter env x = pure x := by intro _; rfl) :
    Seg M A R Y n s₀ c ((exec (.For target iter body orelse pos) env).wrap K H gd lv) fs s := by
  rw [exec_For]
  refine seg_bind_wrap (wpAny_standAt (seg_bind_wrap (wpAny_mono h (fun x s₁ h₁ => ?_) fun _ _ x => x)))
  refine seg_bind_wrap (wpAny_of_eq (hs x) (seg_bind_wrap (wpAny_standAt (seg_bind_wrap (wpAny_holding (wpAny_mono h₁ (fun it s₂ h₂ => ?_) fun _ _ x => x))))))
  exact seg_call h₂
end

section
variable {prog : Program} {w : World} {A : Around} {R : GenEnd} {Y : Protocol} {n : Nat} {s₀ : Shared} {fs : List Frame} {s : Shared} {env : Env}

def hxK (env : Env) (e : Value) : Sem Fin := (do noteFrame e env; theTreesLotGoes e : Sem Unit).bind fun _ => .raise e
def forK (c : Code) (f : Flow) : Sem Fin := match f with
  | .next | .cont => .pure (.again c)
  | .brk => .pure (.done .next)
  | .ret v => .pure (.done (.ret v))

theorem seg_forLoop {x : Str} {px : Pos} {it : Value} {body orelse : List Stmt}
    (h : wpAny (model prog w) (A.over (.forLoop (.Name x px) it body orelse env) fs) (pyNext it) (fun r s₁ => match r with
      | none => Seg (model prog w) A R Y n s₀ (.block orelse env) ((model prog w).den (.block orelse env)) fs s₁
      | some v => wpAny (model prog w) (A.over (.forLoop (.Name x px) it body orelse env) fs) (storeName env x v) (fun _ s₂ =>
          Seg (model prog w) A R Y n s₀ (.forLoop (.Name x px) it body orelse env) ((execs body env).wrap (forK (.forLoop (.Name x px) it body orelse env)) (hxK env) id id) fs s₂)
          (fun e s' => Seg (model prog w) A R Y n s₀ (.forLoop (.Name x px) it body orelse env) (hxK env e) fs s') s₁)
      (fun e s' => Seg (model prog w) A R Y n s₀ (.forLoop (.Name x px) it body orelse env) (hxK env e) fs s') s) :
    Seg (model prog w) A R Y n s₀ (.forLoop (.Name x px) it body orelse env) ((model prog w).den (.forLoop (.Name x px) it body orelse env)) fs s := by
  show Seg _ A R Y n s₀ _ ((forTurn (.Name x px) it body orelse env).onRaise (fun x => do noteFrame x env; theTreesLotGoes x)) fs s
  unfold forTurn
  rw [Sem.onRaise_eq_wrap]
  refine seg_bind_wrap (wpAny_standAt (seg_bind_wrap (wpAny_onRaise (wpAny_mono h (fun r s₁ h₁ => ?_) fun _ _ h' => wpAny_standAt h'))))
  cases r with
  | none => exact seg_again rfl h₁
  | some v =>
    refine seg_bind_wrap (wpAny_pure (seg_bind_wrap (wpAny_assign_Name (wpAny_mono h₁ (fun _ s₂ h₂ => ?_) fun _ _ x => x))))
    rw [Sem.bind_eq_wrap', Sem.wrap_wrap]
    refine (congrArg (fun t => Seg (model prog w) A R Y n s₀ (.forLoop (.Name x px) it body orelse env) t fs s₂) (Sem.wrap_congr (execs body env) (K' := forK (.forLoop (.Name x px) it body orelse env)) (H' := hxK env) id id ?_ ?_)).mpr h₂
    · intro f; cases f <;> rfl
    · intro e; rfl

theorem seg_block_nil {k : Result → Sem Fin} {hd : Option Value} {g : Bool} {l : List Value} {c₁ : Code} {p₁ : Pos} {kp : List Value}
    (h : Seg (model prog w) A R Y n s₀ c₁ (k (.ok .next)) fs s) :
    Seg (model prog w) A R Y n s₀ (.block [] env) ((model prog w).den (.block [] env)) (.ret k hd g l c₁ p₁ kp :: fs) s :=
  seg_leaf (.ok .next) h
end
end Mine

namespace Mine

noncomputable def bodyAt (w : World) (a : Addr) : List Stmt := match (KK w).lookup a with
  | some ⟨_, _, .func fd, _⟩ => (match fd.body with | .stmts b => b | _ => [])
  | _ => []
def forBody : Stmt → List Stmt
  | .For _ _ b _ _ => b
  | _ => []
def forPos : Stmt → Pos
  | .For (.Name _ p) _ _ _ _ => p
  | _ => default
def whileTest : Stmt → Expr
  | .While t _ _ _ => t
  | .If _ (_ :: .While t _ _ _ :: _) _ _ => t
  | _ => .Constant .none 0 default
def whileBody : Stmt → List Stmt
  | .While _ b _ _ => b
  | .If _ (_ :: .While _ b _ _ :: _) _ _ => b
  | _ => []
/-- the body of the for of _grouping_intervals; its while -/
noncomputable def gFor (w : World) : Stmt := (bodyAt w 63).getD 1 (.Pass default)
noncomputable def gTurn (w : World) : List Stmt := forBody (gFor w)
noncomputable def gIf (w : World) : Stmt := (gTurn w).getD 1 (.Pass default)

structure GEnv (env : Env) (L : Addr) : Prop where
  loc : env.locals = L
  glo : env.globals = mainGlobals
  kind : env.scope.kind = .function
  k1 : env.kindOf "interval" = some .local
  k2 : env.kindOf "last_interval" = some .local
  k3 : env.kindOf "CHAR_MAX" = some .globalImplicit
  co : env.scope.isCoroutine = false
  inter : interactive env = false
  plain : (env.scope.kind == .class || (env.scope.kind == .module && env.locals != env.globals)) = false

def IsItG (G : Addr) (o : Obj) : Prop := ∃ i : Nat, o.cls = .type "list_iterator" ∧ o.data = .fields #[.ref G, .int i 0]

def Since (B : Heap) (G L : Addr) (s₀ s₁ : Shared) : Prop :=
  ∃ h' tk, s₁ = { s₀ with heap := h', toks := tk } ∧ (∀ b ob, b ≠ L → ¬ IsItG G ob → s₀.heap.get? b = some ob → h'.get? b = some ob) ∧ (Kp B s₀.heap → Kp B h')
theorem Since.refl (B : Heap) (G L : Addr) (s : Shared) : Since B G L s s := ⟨s.heap, s.toks, rfl, fun _ _ _ _ e => e, id⟩
theorem Since.step {B : Heap} {G L : Addr} {s₀ s : Shared} (x : Since B G L s₀ s) {h' : Heap} {tk : Nat} (k : ∀ b ob, b ≠ L → ¬ IsItG G ob → s.heap.get? b = some ob → h'.get? b = some ob) (kb : Kp B s.heap → Kp B h') :
    Since B G L s₀ { s with heap := h', toks := tk } := by
  obtain ⟨h₁, tk₁, rfl, k₁, k₂⟩ := x
  exact ⟨h', tk, rfl, fun b ob hb hi e => k b ob hb hi (k₁ b ob hb hi e), fun q => kb (k₂ q)⟩

def Alike (B : Heap) (G L : Addr) (s s'' : Shared) : Prop :=
  Kp B s''.heap ∧ ∀ b ob, (b = L ∨ b = G ∨ IsItG G ob) → s.heap.get? b = some ob → s''.heap.get? b = some ob

def gY (B : Heap) (G L : Addr) (N : Nat) (o : Nat → Option Int) : Protocol := fun n s₀ v s' kap =>
  (∃ z t, o (N - 1 - n) = some z ∧ v = .int z t) ∧ Since B G L s₀ s' ∧ (n ≠ 0 → ∀ s'', Alike B G L s' s'' → kap (.send .none) s'')
def gR (B : Heap) (G L : Addr) (N : Nat) (o : Nat → Option Int) : GenEnd := fun n s₀ r s₁ => r = .ok (.ret .none) ∧ (Since B G L s₀ s₁ ∧ o (N - n) = none)

section
variable {w : World} {A : Around} {B : Heap} {G L : Addr} {N : Nat} {o : Nat → Option Int} {env : Env}

theorem seg_while (ge : GEnv env L) {last : Int} {m : Str → Option Value} (fs : List Frame) (hfs : splitAtGen fs = none) (hfg : fs.any Frame.guarded = false) :
    ∀ (n : Nat) (s₀ s : Shared), n + 1 ≤ N → (∀ j, N - 1 - n ≤ j → o j = some last) → s.heap.Ns L m → HasI m "last_interval" last → Since B G L s₀ s →
      Seg (model prog w) A (gR B G L N o) (gY B G L N o) (n + 1) s₀ (.whileLoop (whileTest (gIf w)) (whileBody (gIf w)) [] env) ((model prog w).den (.whileLoop (whileTest (gIf w)) (whileBody (gIf w)) [] env)) fs s := by
  intro n
  induction n with
  | zero =>
    intro s₀ s hN ho hn hm hs
    obtain ⟨t, hm⟩ := hm
    refine seg_whileLoop (wpAny_isTrue_value (wpAny_Constant_bool (wpAny_truthy_bool ?_)))
    rw [if_pos rfl]
    refine seg_execs_cons (seg_Expr_Yield hfs rfl hfg ?_ ge.co ge.inter)
    refine ldL (ge.loc ▸ hn) hm ?_ ge.kind ge.k2
    intro kap _
    exact ⟨⟨last, t, ho (N - 1 - 0) (Nat.le_refl _), rfl⟩, hs, fun h => absurd rfl h⟩
  | succ n ih =>
    intro s₀ s hN ho hn hm hs
    obtain ⟨t, hm⟩ := id hm
    refine seg_whileLoop (wpAny_isTrue_value (wpAny_Constant_bool (wpAny_truthy_bool ?_)))
    rw [if_pos rfl]
    refine seg_execs_cons (seg_Expr_Yield hfs rfl hfg ?_ ge.co ge.inter)
    refine ldL (ge.loc ▸ hn) hm ?_ ge.kind ge.k2
    intro kap hk
    refine ⟨⟨last, t, ho (N - 1 - (n + 1)) (Nat.le_refl _), rfl⟩, hs, fun _ s'' al => hk .none s'' ?_⟩
    refine seg_execs_nil (seg_again rfl ?_)
    exact ih s'' s'' (by omega) (fun j hj => ho j (by omega)) (hn.at' fun ob e => al.2 _ ob (.inl rfl) e) ⟨t, hm⟩ (.refl ..)

theorem iter_ne_ns {h : Heap} {I G L : Addr} {i : Nat} {m : Str → Option Value} (hit : h.IsListIter I G i) (hn : h.Ns L m) : I ≠ L := fun e => by
  subst e
  obtain ⟨o, es, ep, ho, hd, _⟩ := hn
  obtain ⟨o', ho', hc', hd'⟩ := hit
  rw [ho] at ho'; cases ho'; rw [hd] at hd'; cases hd'
theorem list_ne_iter {h : Heap} {I G D : Addr} {i : Nat} {acc : Array Value} (hl : h.IsList D acc) (hit : h.IsListIter I G i) : D ≠ I := fun e => by
  subst e
  obtain ⟨o, ho, hc, n, hd⟩ := hl
  obtain ⟨o', ho', hc', hd'⟩ := hit
  rw [ho] at ho'; cases ho'; rw [hc] at hc'; simp at hc'
theorem not_it {h : Heap} {I G b : Addr} {i : Nat} {ob : Obj} (hit : h.IsListIter I G i) (hb : ¬ IsItG G ob) (e : h.get? b = some ob) : b ≠ I := fun q => by
  subst q
  obtain ⟨o', ho', hc', hd'⟩ := hit
  rw [e] at ho'; cases ho'
  exact hb ⟨i, hc', hd'⟩

/-- what the list of sizes hands out, by its ending -/
inductive Tail (S gs : List Int) (o : Nat → Option Int) : Prop
  | again : gs = S ++ [0, 5] → (∀ j, S.length ≤ j → o j = some (S.getD (S.length - 1) 0)) → Tail S gs o
  | stop : gs = S ++ [127, 5] → o S.length = none → Tail S gs o
  | out : gs = S → o S.length = none → Tail S gs o

theorem kp_ext {B h h' : Heap} {I : Addr} (k : Kp B h) (hI : B.get? I = none) (x : Heap.ExtBut I h h') : Kp B h' :=
  fun b ob e => x b ob (fun q => by rw [q, hI] at e; cases e) (k b ob e)

theorem seg_gfor (ge : GEnv env L) {S gs : List Int} {vs : List Value} {I : Addr} {k : Result → Sem Fin} {g : Bool} {l : List Value} {c₁ : Code} {p₁ : Pos} {kp : List Value}
    (TB : Tp w B) (hBL : B.get? L = none) (hBI : B.get? I = none)
    (hI : IntsAre vs gs) (hSN : S.length < N) (hS0 : 0 < S.length) (hS : ∀ z ∈ S, 1 ≤ z ∧ z ≤ 4) (ho : ∀ j, j < S.length → o j = S[j]?) (tl : Tail S gs o)
    (hg : g = false) (hh : ∀ c, (A.over c [.ret k none g l c₁ p₁ kp]).handled = none)
    (hend : ∀ n s₀ s f, f = .next ∨ f = .ret .none → Since B G L s₀ s → o (N - n) = none → Seg (model prog w) A (gR B G L N o) (gY B G L N o) n s₀ c₁ (k (.ok f)) [] s) :
    ∀ (q i : Nat), S.length - i = q → i ≤ S.length → ∀ (s₀ s : Shared) (m : Str → Option Value), s.heap.Ns L m → s.heap.IsListIter I G i → s.heap.IsList G vs.toArray → Kp B s.heap → (i ≠ 0 → HasI m "last_interval" (S.getD (i - 1) 0)) → Since B G L s₀ s →
      Seg (model prog w) A (gR B G L N o) (gY B G L N o) (N - i) s₀ (.forLoop (.Name "interval" (forPos (gFor w))) (.ref I) (gTurn w) [] env) ((model prog w).den (.forLoop (.Name "interval" (forPos (gFor w))) (.ref I) (gTurn w) [] env)) [.ret k none g l c₁ p₁ kp] s := by
  have hfg : ([.ret k none g l c₁ p₁ kp] : List Frame).any Frame.guarded = false := by rw [hg]; rfl
  intro q
  induction q with
  | zero =>
    intro i hq hi s₀ s m hn hit hl kB hm hs
    have hin : i = S.length := by omega
    obtain ⟨t, hm⟩ := hm (by omega)
    have hIL := iter_ne_ns hit hn
    cases tl with
    | out hgs hZ =>
      refine seg_forLoop (wpAny_pyNext_list_end (hh _) hit hl (by simp [hI.length, hgs]; omega) fun h₁ hs₁ => seg_block_nil (hend _ _ _ _ (.inl rfl) (hs.step (fun b ob _ hb e => hs₁ b ob (not_it hit hb e) e) fun k => kp_ext k hBI hs₁) ?_))
      rw [hin, show N - (N - S.length) = S.length by omega]; exact hZ
    | stop hgs hZ =>
      obtain ⟨tz, hvi⟩ := hI.get i 127 (by rw [hgs, hin]; simp)
      refine seg_forLoop (wpAny_pyNext_list_item hit hl (x := .int 127 tz) (by simpa using hvi) fun h₁ hit₁ hs₁ => ?_)
      refine wpAny_storeName_local (m := m) ge.k1 (by rw [ge.loc]; exact hn.extBut hs₁.extBut (Ne.symm hIL)) (fun h₂ hn₂ hs₂ => ?_) ge.plain
      rw [ge.loc] at hs₂
      have hs₃ : Since B G L s₀ { s with heap := h₂, toks := s.toks + 1 } := hs.step (fun b ob hb hi e => hs₂.extBut b ob hb (hs₁.extBut b ob (not_it hit hi e) e)) fun k => kp_ext (kp_ext k hBI hs₁.extBut) hBL hs₂.extBut
      have k₂ := kp_ext (kp_ext kB hBI hs₁.extBut) hBL hs₂.extBut
      have T₂ : Tp w h₂ := TB.keeps k₂
      refine seg_stmt (wpAny_If (wpAny_isTrue_Compare1 (ldL hn₂ (if_pos rfl) (ldG T₂ rfl (P.eq_int (wpAny_truthy_bool ?_)) ge.glo ge.kind ge.k3) ge.kind ge.k1)))
      rw [if_pos (by decide)]
      refine wpAny_execs_cons (wpAny_Return_none ?_)
      refine seg_leaf (.ok (.ret .none)) (hend _ _ _ _ (.inr rfl) hs₃ ?_)
      rw [hin, show N - (N - S.length) = S.length by omega]; exact hZ
    | again hgs ho' =>
      obtain ⟨tz, hvi⟩ := hI.get i 0 (by rw [hgs, hin]; simp)
      refine seg_forLoop (wpAny_pyNext_list_item hit hl (x := .int 0 tz) (by simpa using hvi) fun h₁ hit₁ hs₁ => ?_)
      refine wpAny_storeName_local (m := m) ge.k1 (by rw [ge.loc]; exact hn.extBut hs₁.extBut (Ne.symm hIL)) (fun h₂ hn₂ hs₂ => ?_) ge.plain
      rw [ge.loc] at hs₂
      have hs₃ : Since B G L s₀ { s with heap := h₂, toks := s.toks + 1 } := hs.step (fun b ob hb hi e => hs₂.extBut b ob hb (hs₁.extBut b ob (not_it hit hi e) e)) fun k => kp_ext (kp_ext k hBI hs₁.extBut) hBL hs₂.extBut
      have k₂ := kp_ext (kp_ext kB hBI hs₁.extBut) hBL hs₂.extBut
      have T₂ : Tp w h₂ := TB.keeps k₂
      refine seg_stmt (wpAny_If (wpAny_isTrue_Compare1 (ldL hn₂ (if_pos rfl) (ldG T₂ rfl (P.eq_int (wpAny_truthy_bool ?_)) ge.glo ge.kind ge.k3) ge.kind ge.k1)))
      rw [if_neg (by decide)]
      refine wpAny_execs_nil (seg_execs_cons (seg_If (wpAny_isTrue_Compare1 (ldL hn₂ (if_pos rfl) (wpAny_Constant_int (P.eq_int (wpAny_truthy_bool ?_))) ge.kind ge.k1))))
      rw [if_pos (by decide)]
      have hm₂ : (fun x => if x = "interval" then some (.int 0 tz) else m x : Str → Option Value) "last_interval" = some (.int (S.getD (i - 1) 0) t) := by
        exact (if_neg (by decide)).trans hm
      refine seg_stmt (wpAny_If (wpAny_isTrue_Compare1 (ldL hn₂ hm₂ (wpAny_Constant_none (wpAny_is_other rfl (by simp) (wpAny_truthy_bool ?_))) ge.kind ge.k2)))
      rw [if_neg (by decide)]
      refine wpAny_execs_nil (seg_execs_cons (seg_While fun p => ?_))
      obtain ⟨n, hNi⟩ : ∃ n, N - i = n + 1 := ⟨N - i - 1, by omega⟩
      rw [hNi]
      refine seg_while (last := S.getD (i - 1) 0) (m := fun x => if x = "interval" then some (.int 0 tz) else m x) ge _ rfl ?_ n s₀ _ (by omega) (fun j hj => ?_) (by rw [← ge.loc]; exact hn₂) ⟨t, hm₂⟩ ?_
      · rw [List.any_cons, hfg]; rfl
      · rw [hin]; exact ho' j (by omega)
      · exact hs.step (fun b ob hb hi e => hs₂.extBut b ob hb (hs₁.extBut b ob (not_it hit hi e) e)) fun k => kp_ext (kp_ext k hBI hs₁.extBut) hBL hs₂.extBut
  | succ q ih =>
    intro i hq hi s₀ s m hn hit hl kB hm hs
    have hlt : i < S.length := by omega
    obtain ⟨z, hz⟩ : ∃ z, S[i]? = some z := ⟨_, List.getElem?_eq_getElem hlt⟩
    have hzo : o i = some z := (ho i hlt).trans hz
    have hzd : S.getD i 0 = z := by rw [List.getD_eq_getElem?_getD, hz]; rfl
    have hz1 := hS _ (List.mem_of_getElem? hz)
    have hIL := iter_ne_ns hit hn
    have hGI := list_ne_iter hl hit
    have hGL := list_ne_ns hl hn
    have hgsi : gs[i]? = some z := by
      cases tl with
      | out hgs hZ => rw [hgs]; exact hz
      | stop hgs hZ => rw [hgs, List.getElem?_append_left hlt]; exact hz
      | again hgs ho' => rw [hgs, List.getElem?_append_left hlt]; exact hz
    obtain ⟨tz, hvi⟩ := hI.get i _ hgsi
    obtain ⟨n, hNi⟩ : ∃ n, N - i = n + 1 := ⟨N - i - 1, by omega⟩
    rw [hNi]
    refine seg_forLoop (wpAny_pyNext_list_item hit hl (x := .int z tz) (by simpa using hvi) fun h₁ hit₁ hs₁ => ?_)
    refine wpAny_storeName_local (m := m) ge.k1 (by rw [ge.loc]; exact hn.extBut hs₁.extBut (Ne.symm hIL)) (fun h₂ hn₂ hs₂ => ?_) ge.plain
    rw [ge.loc] at hs₂
    have k₂ := kp_ext (kp_ext kB hBI hs₁.extBut) hBL hs₂.extBut
    have T₂ : Tp w h₂ := TB.keeps k₂
    refine seg_stmt (wpAny_If (wpAny_isTrue_Compare1 (ldL hn₂ (if_pos rfl) (ldG T₂ rfl (P.eq_int (wpAny_truthy_bool ?_)) ge.glo ge.kind ge.k3) ge.kind ge.k1)))
    rw [if_neg (by simp; omega)]
    refine wpAny_execs_nil (seg_execs_cons (seg_If (wpAny_isTrue_Compare1 (ldL hn₂ (if_pos rfl) (wpAny_Constant_int (P.eq_int (wpAny_truthy_bool ?_))) ge.kind ge.k1))))
    rw [if_neg (by simp; omega)]
    refine seg_execs_nil (seg_execs_cons (seg_Expr_Yield rfl rfl hfg ?_ ge.co ge.inter))
    refine ldL hn₂ (if_pos rfl) ?_ ge.kind ge.k1
    intro kap hk
    refine ⟨⟨z, tz, by rw [show N - 1 - n = i by omega]; exact hzo, rfl⟩, ?_, fun _ s'' al => hk .none s'' ?_⟩
    · exact hs.step (fun b ob hb hi e => hs₂.extBut b ob hb (hs₁.extBut b ob (not_it hit hi e) e)) fun k => kp_ext (kp_ext k hBI hs₁.extBut) hBL hs₂.extBut
    rw [ge.loc] at hn₂
    have hit₂ := hit₁.extBut hs₂.extBut hIL
    have hl₂ := (hl.extBut hs₁.extBut hGI).extBut hs₂.extBut hGL
    have hn₃ := hn₂.at' fun ob e => al.2 _ ob (.inl rfl) e
    have hl₃ : s''.heap.IsList G vs.toArray := hl₂.at fun ob e => al.2 _ ob (.inr (.inl rfl)) e
    have hit₃ : s''.heap.IsListIter I G (i + 1) := by
      obtain ⟨ob, e1, e2, e3⟩ := hit₂
      exact ⟨ob, al.2 _ ob (.inr (.inr ⟨i + 1, e2, e3⟩)) e1, e2, e3⟩
    refine seg_stmt (wpAny_Assign_Name (ldL (by rw [ge.loc]; exact hn₃) (if_pos rfl) (wpAny_storeName_local ge.k2 (by rw [ge.loc]; exact hn₃) (fun h₄ hn₄ hs₄ => ?_) ge.plain) ge.kind ge.k1))
    rw [ge.loc] at hn₄ hs₄
    refine seg_execs_nil (seg_again rfl ?_)
    have := ih (i + 1) (by omega) hlt s'' { s'' with heap := h₄, toks := s''.toks + 1 } _ hn₄ (hit₃.extBut hs₄.extBut hIL) (hl₃.extBut hs₄.extBut hGL) (kp_ext al.1 hBL hs₄.extBut) (fun _ => ⟨tz, by rw [Nat.add_sub_cancel, hzd]; exact if_pos rfl⟩)
      ((Since.refl ..).step (fun b ob hb hi e => hs₄.extBut b ob hb e) fun k => kp_ext k hBL hs₄.extBut)
    rw [show N - (i + 1) = n by omega] at this
    exact this
end
end Mine

namespace Mine
section
variable {w : World} {A : Around} {B : Heap} {G L : Addr} {N : Nat} {o : Nat → Option Int} {env : Env}

theorem kp_fresh {B h : Heap} (k : Kp B h) : B.get? h.objs.size = none := by
  cases e : B.get? h.objs.size with
  | none => rfl
  | some ob => exact absurd (Heap.lt_size (k _ _ e)) (Nat.lt_irrefl _)

theorem seg_gstart (ge : GEnv env L) (kg : env.kindOf "grouping" = some .local) {S gs : List Int} {vs : List Value} {s : Shared} {m : Str → Option Value}
    (hA : A.handled = none) (TB : Tp w B) (hBL : B.get? L = none)
    (hI : IntsAre vs gs) (hSN : S.length < N) (hS0 : 0 < S.length) (hS : ∀ z ∈ S, 1 ≤ z ∧ z ≤ 4) (ho : ∀ j, j < S.length → o j = S[j]?) (tl : Tail S gs o)
    (hn : s.heap.Ns L m) (hm : m "grouping" = some (.ref G)) (hl : s.heap.IsList G vs.toArray) (kB : Kp B s.heap) :
    Seg (model prog w) A (gR B G L N o) (gY B G L N o) N s (.func (bodyAt w 63) env) ((model prog w).den (.func (bodyAt w 63) env)) [] s := by
  refine seg_func ?_
  refine seg_stmt (wpAny_Assign_Name (wpAny_Constant_none (wpAny_storeName_local (m := m) ge.k2 (by rw [ge.loc]; exact hn) (fun h₁ hn₁ hs₁ => ?_) ge.plain)))
  have hs₁' := hs₁
  rw [ge.loc] at hs₁'
  have hl₁ : h₁.IsList G vs.toArray := hl.extBut hs₁'.extBut (list_ne_ns hl hn)
  have k₁ : Kp B h₁ := kp_ext kB hBL hs₁'.extBut
  have hn₁' := hn₁
  rw [ge.loc] at hn₁'
  refine seg_execs_cons (seg_For (ldL hn₁ (v := .ref G) ((if_neg (by decide)).trans hm) (wpAny_pyIter_list hl₁ fun p => ?_) ge.kind kg))
  have hpush : Kp h₁ (h₁.push { cls := .type "list_iterator", data := .fields #[.ref G, .int 0 0] }) := fun b ob e => Heap.get?_push_of_some _ e
  refine seg_gfor (q := S.length) (i := 0) ge TB hBL (kp_fresh k₁) hI hSN hS0 hS ho tl rfl (fun c => hA) ?_ rfl (Nat.zero_le _) s _ _ (hn₁'.keeps hpush) ⟨_, Heap.get?_push_size _ rfl, rfl, rfl⟩ (hl₁.at fun ob e => hpush _ ob e) (k₁.trans hpush) (fun h => absurd rfl h) ?_
  · intro n s₀ s f hf hs hZ
    rcases hf with rfl | rfl
    · exact seg_end (.ok (.ret .none)) ⟨rfl, hs, hZ⟩
    · exact seg_end (.ok (.ret .none)) ⟨rfl, hs, hZ⟩
  · exact (Since.refl B G L s).step (fun b ob hb hi e => hpush _ _ (hs₁'.extBut b ob hb e)) fun _ => k₁.trans hpush
end

section
variable {prog : Program} {w : World} {A : Around} {E : Value → Shared → Prop} {s : Shared}

theorem next_gen {a : Addr} {g n : Nat} {gs : GenState} {P : Nat → Shared → Shared → Prop} {Y : Protocol} {Q : Option Value → Shared → Prop} (hh : A.handled = none)
    (hl : s.heap.NoLimit) (hroom : A.depth < recursionLimit) (hg : s.heap.IsGen a g) (hgs : s.gens[g]? = some gs)
    (hgo : gs.Goes (model prog w) A.in1 (fun n s₀ r s₁ => r = .ok (.ret .none) ∧ P n s₀ s₁) Y (n + 1) (.send .none) (s.setGen g .running))
    (hY : ∀ v s₁ gs', gs'.bare = true → Y n (s.setGen g .running) v s₁ (fun r' s'' => gs'.Goes (model prog w) A.in1 (fun n s₀ r s₁ => r = .ok (.ret .none) ∧ P n s₀ s₁) Y n r' s'') → Q (some v) (s₁.setGen g gs'))
    (hP : ∀ s₁, P (n + 1) (s.setGen g .running) s₁ → ∀ h', Kp s₁.heap h' → Q none { s₁.setGen g .finished with heap := h' }) :
    wpAny (model prog w) A (pyNext (.ref a)) Q E s := by
  unfold pyNext
  refine wpAny_bind (wpAny_attempt (wpAny_callSpecial?_slot (name := Str.ofString "__next__") hg.typeIs slot_gen_next
    (wpAny_call_entry slot_gen_next hg.typeIs entry_gen_next ?_ (args_gen_next _))))
  show wpAny _ A.in1 (Builtin.Generator.genWake (.ref a) (.send .none)) _ _ s
  unfold Builtin.Generator.genWake
  refine wpAny_bind (wpAny_holding (wpAny_genNumber hg (wpAny_bind (wpAny_genState hgs ?_))))
  cases gs with
  | running => exact hgo.elim
  | finished => exact hgo.elim
  | _ =>
    refine wpAny_bind (wpAny_roomToWake hl hroom ?_)
    show wpAny _ A.in1 (.resume g (.send .none) [] _) _ _ s
    refine wpAny_resumeQ hgs hgo (fun x s₁ hx => ?_) (fun v s₁ gs' hb hv => ?_)
    · obtain ⟨rfl, hp⟩ := hx
      show wpAny _ A.in1 (newExc (.type "StopIteration") [] >>= _) _ _ _
      refine wpAny_bind ?_
      simp only [newExc, newTuple]
      refine wpAny_bind (wpAny_newObj_type ?_ (by size_fits))
      refine wpAny_bind (m := firstArgMember _ _) (wpAny_of_eq (a := Value.none) (by first | rfl | (simp only [firstArgMember]; rfl)) ?_)
      refine wpAny_newObj_type ?_ (by size_fits)
      simp only [raiseNew]
      refine wpAny_bind (wpAny_bind (wpAny_handled ?_))
      rw [show A.in1.handled = none from hh]
      refine wpAny_throw ?_
      refine wpAny_bind (wpAny_isInstance (T := "StopIteration") (b := true) ⟨_, Heap.get?_push_size _ rfl, rfl⟩ isSubtype_stop ?_)
      exact wpAny_pure (hP s₁ hp _ fun b ob hb => Heap.get?_push_of_some _ (Heap.get?_push_of_some _ hb))
    · exact wpAny_pure ⟨v, rfl, wpAny_pure (hY v s₁ gs' hb hv)⟩

theorem resume_finished {M : Model} {α : Type} {g : Nat} {r : Resume} {l : List Value} {k : GenResult → Sem α} {Q : α → Shared → Prop} (hg : s.gens[g]? = some .finished) (h : wpAny M A (k .finished) Q E s) :
    wpAny M A (.resume g r l k) Q E s := by
  intro Γ p hΓ
  rw [Sem.wp_resume]
  exact ⟨.finished, s, by unfold Wakes; rw [hg]; exact ⟨rfl, rfl⟩, h Γ p hΓ⟩

theorem next_done {a : Addr} {g : Nat} {Q : Option Value → Shared → Prop} (hh : A.handled = none) (hg : s.heap.IsGen a g) (hgs : s.gens[g]? = some .finished)
    (hQ : ∀ h', Kp s.heap h' → Q none { s with heap := h' }) : wpAny (model prog w) A (pyNext (.ref a)) Q E s := by
  unfold pyNext
  refine wpAny_bind (wpAny_attempt (wpAny_callSpecial?_slot (name := Str.ofString "__next__") hg.typeIs slot_gen_next
    (wpAny_call_entry slot_gen_next hg.typeIs entry_gen_next ?_ (args_gen_next _))))
  show wpAny _ A.in1 (Builtin.Generator.genWake (.ref a) (.send .none)) _ _ s
  unfold Builtin.Generator.genWake
  refine wpAny_bind (wpAny_holding (wpAny_genNumber hg (wpAny_bind (wpAny_genState hgs ?_))))
  show wpAny _ A.in1 (.resume g (.send .none) [] _) _ _ s
  refine resume_finished hgs ?_
  show wpAny _ A.in1 (newExc (.type "StopIteration") [] >>= _) _ _ _
  refine wpAny_bind ?_
  simp only [newExc, newTuple]
  refine wpAny_bind (wpAny_newObj_type ?_ (by size_fits))
  refine wpAny_bind (m := firstArgMember _ _) (wpAny_of_eq (a := Value.none) (by first | rfl | (simp only [firstArgMember]; rfl)) ?_)
  refine wpAny_newObj_type ?_ (by size_fits)
  simp only [raiseNew]
  refine wpAny_bind (wpAny_handled ?_)
  rw [show A.in1.handled = none from hh]
  refine wpAny_bind (wpAny_pure (wpAny_throw ?_))
  refine wpAny_bind (wpAny_isInstance (T := "StopIteration") (b := true) ⟨_, Heap.get?_push_size _ rfl, rfl⟩ isSubtype_stop ?_)
  exact wpAny_pure (hQ _ fun b ob hb => Heap.get?_push_of_some _ (Heap.get?_push_of_some _ hb))
end
end Mine

namespace Mine

def GenAt (w : World) (A : Around) (B : Heap) (G L : Addr) (N : Nat) (o : Nat → Option Int) (a : Addr) (g j : Nat) (s : Shared) : Prop :=
  s.heap.IsGen a g ∧ ∃ gs, s.gens[g]? = some gs ∧
    ((∀ s'', Alike B G L s s'' → gs.Goes (model prog w) A (gR B G L N o) (gY B G L N o) (N - j) (.send .none) s'') ∨ (gs = .finished ∧ ∀ i, j ≤ i → o i = none))

theorem gen_not_it {G : Addr} {h : Heap} {a : Addr} {g : Nat} (hg : h.IsGen a g) : ∃ ob, h.get? a = some ob ∧ ¬ IsItG G ob := by
  obtain ⟨ob, nm, qn, ho, hc, hd, hs⟩ := hg
  refine ⟨ob, ho, ?_⟩
  rintro ⟨i, h1, h2⟩
  rw [hc] at h1; simp at h1
theorem gen_ne_ns {h : Heap} {a L : Addr} {g : Nat} {m : Str → Option Value} (hg : h.IsGen a g) (hn : h.Ns L m) : a ≠ L := fun e => by
  subst e
  obtain ⟨o, es, ep, ho, hd, _⟩ := hn
  obtain ⟨o', nm, qn, ho', hc', hd', _⟩ := hg
  rw [ho] at ho'; cases ho'; rw [hd] at hd'; cases hd'

theorem set_bare {gens : Array GenState} {g : Nat} {x : GenState} (h : AllBare gens) (hx : x.bare = true) : AllBare (gens.setIfInBounds g x) := by
  intro y hy
  rcases Array.mem_or_eq_of_mem_setIfInBounds hy with h1 | h1
  · exact h y h1
  · rw [h1]; exact hx

section
variable {w : World} {A : Around} {E : Value → Shared → Prop} {s : Shared} {B : Heap} {G L : Addr} {N : Nat} {o : Nat → Option Int}

theorem next_call {a : Addr} {g j : Nat} {d : Value} {Q : Value → Shared → Prop} (hh : A.handled = none) (hroom : A.depth < recursionLimit) (hj : j < N) (TB : Tp w B) (kB : Kp B s.heap)
    (hno : ∀ i k, i ≤ k → o i = none → o k = none) (haL : a ≠ L) (GA : GenAt w A.in1.in1 B G L N o a g j s)
    (hQ : ∀ v h' tk gens', ((∃ z t, o j = some z ∧ v = .int z t) ∨ (o j = none ∧ v = d)) → (∀ b ob, b ≠ L → ¬ IsItG G ob → s.heap.get? b = some ob → h'.get? b = some ob) → Kp B h' → (AllBare s.gens → AllBare gens') →
      (j + 1 < N → GenAt w A.in1.in1 B G L N o a g (j + 1) { s with heap := h', toks := tk, gens := gens' }) → Q v { s with heap := h', toks := tk, gens := gens' }) :
    wpAny (model prog w) A (call (.builtin "next") [.ref a, d]) Q E s := by
  obtain ⟨hg, gs, hgs, hgo⟩ := GA
  have hgsz : g < s.gens.size := (Array.getElem?_eq_some_iff.mp hgs).1
  refine call_function_entry (by decide +kernel) (by decide +kernel) kdk_entry_next (kdk_args_next2 _ _) ?_
  unfold Builtin.«next»
  refine wpAny_bind (m := someArgs "next" 1 2 _) (wpAny_of_eq (a := [Value.ref a, d]) (by first | rfl | kernel_rfl!) ?_)
  dsimp only
  refine wpAny_bind (wpAny_specialOf (name := Str.ofString "__next__") hg.typeIs slot_gen_next.lookup ?_)
  refine wpAny_ite_split (fun hab => absurd hab (by decide)) (fun _ => ?_)
  rcases hgo with hgo | ⟨rfl, hnone⟩
  · obtain ⟨n, hNj⟩ : ∃ n, N - j = n + 1 := ⟨N - j - 1, by omega⟩
    rw [hNj] at hgo
    refine wpAny_bind (next_gen (P := fun n s₀ s₁ => Since B G L s₀ s₁ ∧ o (N - n) = none) (Y := gY B G L N o) (n := n) hh (TB.keeps kB).lim hroom hg hgs (hgo _ ⟨kB, fun _ _ _ e => e⟩) ?_ ?_)
    · rintro v s₁ gs' hb ⟨⟨z, t, hz, rfl⟩, ⟨h', tk, rfl, k1, k2⟩, hk⟩
      rw [show N - 1 - n = j by omega] at hz
      refine wpAny_pure ⟨_, rfl, ?_⟩
      refine hQ _ h' tk _ (.inl ⟨z, t, hz, rfl⟩) k1 (k2 kB) (fun x => set_bare (set_bare x rfl) hb) fun hj1 => ?_
      refine ⟨?_, gs', ?_, .inl fun s'' al => ?_⟩
      · obtain ⟨ob, nm, qn, ho, r⟩ := id hg
        obtain ⟨ob', ho', hi⟩ := gen_not_it (G := G) hg
        rw [ho] at ho'; cases ho'
        exact ⟨ob, nm, qn, k1 _ _ haL hi ho, r⟩
      · show ((s.gens.setIfInBounds g .running).setIfInBounds g gs')[g]? = some gs'
        simp [hgsz]
      · rw [show N - (j + 1) = n by omega]
        exact hk (by omega) s'' al
    · rintro s₁ ⟨⟨h₁, tk, rfl, k1, k2⟩, hz⟩ h' k'
      rw [show N - (n + 1) = j by omega] at hz
      refine wpAny_pure ⟨_, rfl, ?_⟩
      refine hQ _ h' tk _ (.inr ⟨hz, rfl⟩) (fun b ob h1 h2 e => k' _ _ (k1 b ob h1 h2 e)) ((k2 kB).trans k') (fun x => set_bare (set_bare x rfl) rfl) fun hj1 => ?_
      refine ⟨?_, .finished, ?_, .inr ⟨rfl, fun i hi => hno j i (by omega) hz⟩⟩
      · obtain ⟨ob, nm, qn, ho, r⟩ := id hg
        obtain ⟨ob', ho', hi⟩ := gen_not_it (G := G) hg
        rw [ho] at ho'; cases ho'
        exact ⟨ob, nm, qn, k' _ _ (k1 _ _ haL hi ho), r⟩
      · show ((s.gens.setIfInBounds g .running).setIfInBounds g .finished)[g]? = some .finished
        simp [hgsz]
  · refine wpAny_bind (next_done hh hg hgs fun h' k' => ?_)
    refine wpAny_pure ⟨_, rfl, ?_⟩
    refine hQ _ h' s.toks s.gens (.inr ⟨hnone j (Nat.le_refl _), rfl⟩) (fun b ob _ _ e => k' b ob e) (kB.trans k') id fun hj1 => ?_
    exact ⟨hg.keeps k', .finished, hgs, .inr ⟨rfl, fun i hi => hnone i (by omega)⟩⟩

/-- the call makes the generator -/
theorem gen_call {vs : List Value} {S gs : List Int} {Q : Value → Shared → Prop} (T : Tp w s.heap) (hroom : A.depth < recursionLimit) (A' : Around) (hA' : A'.handled = none)
    (TB : Tp w B) (kB : Kp B s.heap)
    (hI : IntsAre vs gs) (hSN : S.length < N) (hS0 : 0 < S.length) (hS : ∀ z ∈ S, 1 ≤ z ∧ z ≤ 4) (ho : ∀ j, j < S.length → o j = S[j]?) (tl : Tail S gs o)
    (hl : s.heap.IsList G vs.toArray)
    (hQ : ∀ h' tk gens' L a g m, Kp s.heap h' → s.heap.get? L = none → h'.Ns L m → (AllBare s.gens → AllBare gens') → GenAt w A' B G L N o a g 0 { s with heap := h', toks := tk, gens := gens' } →
      Q (.ref a) { s with heap := h', toks := tk, gens := gens' }) :
    wpAny (model prog w) A (call (.ref 63) [.ref G]) Q E s := by
  refine wpAny_call ?_
  refine codeAny_call_generator hroom (T.k _ _ (show (KK w).lookup 63 = some _ from rfl)) rfl rfl rfl rfl (codeRec_of T.k (by rfl)) ?_
  refine wpAny_of_eq (a := [(Str.ofString "grouping", Value.ref G)]) rfl ?_
  refine wpAny_newFunctionEnv (by decide) (locs (by rfl)) (fun h₁ hn hs => ?_) rfl
  have hkL : Kp s.heap h₁ := fun b ob e => hs.extBut b ob (Nat.ne_of_lt (Heap.lt_size e)) (Heap.get?_push_of_some _ e)
  refine ⟨T.lim.keeps hkL, ?_⟩
  have hp : ∀ ob : Obj, Kp h₁ (h₁.push ob) := fun ob b o e => Heap.get?_push_of_some _ e
  refine hQ _ _ _ s.heap.objs.size h₁.objs.size s.gens.size _ (hkL.trans (hp _)) (get_none (Nat.le_refl _)) (hn.keeps (hp _)) (fun x => x.push rfl) ⟨⟨_, _, _, Heap.get?_push_size _ rfl, rfl, rfl, rfl⟩, _, Array.getElem?_push_size .., .inl fun s'' al => ⟨rfl, ?_⟩⟩
  have hl₁ : s''.heap.IsList G vs.toArray := (hl.at fun ob e => hp _ _ ob (hkL _ ob e)).at fun ob e => al.2 _ ob (.inr (.inl rfl)) e
  have hn₂ := (hn.keeps (hp _)).at' fun ob e => al.2 _ ob (.inl rfl) e
  refine seg_gstart (L := s.heap.objs.size) (m := fun x => List.lookup x [(Str.ofString "grouping", Value.ref G)].reverse) ⟨rfl, rfl, rfl, rfl, rfl, rfl, rfl, rfl, rfl⟩ rfl hA' TB ?_ hI hSN hS0 hS ho tl hn₂ rfl hl₁ al.1
  exact kp_fresh kB
end
end Mine

namespace Mine

theorem keeps_refl (s : Shared) : Keeps s s := ⟨_, _, rfl, fun _ _ e => e⟩

theorem paired_ints {f : Int → Int} : ∀ {vs us : List Value} {ns : List Int}, IntsAre vs ns → Paired (fun v y => ∀ z t, v = Value.int z t → ∃ t', y = .int (f z) t') vs us → IntsAre us (ns.map f)
  | _, _, _, .nil, .nil => .nil
  | _, _, _, .cons n t h, .cons hF hP => by
    obtain ⟨t', rfl⟩ := hF n t rfl
    exact .cons _ _ (paired_ints h hP)

theorem vs_eq {vs ws : List Value} (hlen : ws.length = vs.length) (h : ∀ (j : Nat) v, ws[j]? = some v → vs[j]? = some v) : ws = vs := by
  refine List.ext_getElem? fun j => ?_
  cases e : ws[j]? with
  | some v => exact (h j v e).symm
  | none =>
    have : ws.length ≤ j := List.getElem?_eq_none_iff.mp e
    exact (List.getElem?_eq_none (by omega)).symm

section
variable {w : World} {A : Around} {E : Value → Shared → Prop} {s : Shared} {env : Env}

theorem comp_map {elt : Expr} {x it : Str} {px pi pos : Pos} {scope : Scope} {cl : List (Str × Addr)} {m : Str → Option Value} {l : Addr} {vs : List Value} {ns : List Int} {f : Int → Int} {Q : Value → Shared → Prop}
    (hh : A.handled = none) (hn : s.heap.Ns env.locals m) (hm : m it = some (.ref l)) (hl : s.heap.IsList l vs.toArray) (hI : IntsAre vs ns) (hlen : ns.length ≤ 1000)
    (helt : ∀ C z t (s₃ : Shared) m₃ E', z ∈ ns → s₃.heap.Ns C m₃ → m₃ x = some (.int z t) → Kp s.heap s₃.heap → wpAny (model prog w) A (eval elt (compEnvC scope cl C env)) (fun v s₄ => (∃ t, v = .int (f z) t) ∧ Keeps s₃ s₄) E' s₃)
    (hQ : ∀ D h' tk us, h'.IsList D us.toArray → IntsAre us (ns.map f) → Kp s.heap h' → Q (.ref D) { s with heap := h', toks := tk })
    (hclos : closureFor scope env = pure cl := by rfl) (hcell : ∀ y ∈ scope.names, y.2 ≠ .cell := by decide) (hkind : scope.kind = .function := by rfl)
    (hnames : ∀ y ∈ scope.names, y.2 = .local → scope.names.lookup y.1 = some .local := by decide) (hx : scope.names.lookup x = some .local := by rfl)
    (hk : env.scope.kind = .function := by rfl) (hli : env.kindOf it = some .local := by rfl) (hd : (it == ("__debug__" : Str)) = false := by decide) :
    wpAny (model prog w) A (eval (.ListComp elt [⟨.Name x px, .Name it pi, [], 0⟩] scope pos) env) Q E s := by
  refine wpAny_ListComp_free (fun _ => true) (fun v y => ∀ z t, v = Value.int z t → ∃ t', y = .int (f z) t') hclos hcell hkind hnames hx (ldL hn hm (wpAny_pyIter_list hl ?_) hk hli hd)
  have hp : Kp s.heap (s.heap.push { cls := .type "list_iterator", data := .fields #[.ref l, .int 0 0] }) := fun b o e => Heap.get?_push_of_some _ e
  have hlt : l < s.heap.objs.size := let ⟨_, e, _⟩ := hl; Heap.lt_size e
  have hIn : ∀ b o, s.heap.get? b = some o → b ∉ [s.heap.objs.size] := fun b o e hb => by
    rw [List.mem_singleton] at hb; subst hb; exact absurd (Heap.lt_size e) (Nat.lt_irrefl _)
  refine ⟨_, _, _, _, _, _, rfl, Walks.list hh s.heap.objs.size l (Nat.ne_of_lt hlt) vs.toArray, ?_, ⟨⟨_, Heap.get?_push_size _ rfl, rfl, rfl⟩, hl.at fun o e => hp _ o e⟩, ?_, ⟨?_, ?_⟩, ?_⟩
  · rw [List.size_toArray, hI.length, sizeLine_eq]; omega
  · intro b hb
    simp only [List.mem_cons, List.not_mem_nil, or_false] at hb
    rw [Heap.size_push]
    rcases hb with rfl | rfl
    · exact Nat.lt_succ_self _
    · exact Nat.lt_succ_of_lt hlt
  · intro C i v s₃ m₃ E' _ _ _ _ _ _
    exact wpAny_pure ⟨rfl, keeps_refl _⟩
  · intro C i v s₃ m₃ E' hC hP _ hn₃ hm₃ hk₃ _
    obtain ⟨z, t, rfl, hz⟩ := hI.at i v (by simpa using hP)
    refine wpAny_mono (helt C z t s₃ m₃ E' (List.mem_of_getElem? hz) hn₃ hm₃ fun b o e => hk₃ b o (hIn b o e) (hp b o e)) (fun y s₄ h₄ => ⟨?_, h₄.2⟩) fun _ _ e => e
    rintro z' t' h
    cases h; exact h₄.1
  · intro D h' tk ys ws hD hlD _ hlw hPw hF hk'
    have e : ws = vs := vs_eq (by simpa using hlw) fun j v hj => by simpa using hPw j v hj
    subst e
    rw [List.filter_eq_self.mpr (by simp)] at hF
    exact hQ D h' tk ys.toList (by simpa using hlD) (paired_ints hI hF) fun b o e => hk' b o (hIn b o e) (hp b o e)

theorem comp_assign {elt : Expr} {x y it : Str} {px py pi pos spos : Pos} {scope : Scope} {cl : List (Str × Addr)} {m : Str → Option Value} {l : Addr} {vs : List Value} {ns : List Int} {f : Int → Int} {h₀ : Heap} {Q : Flow → Shared → Prop}
    (hh : A.handled = none) (F : Fr h₀ env.locals s.heap m) (hm : m it = some (.ref l)) (hl : s.heap.IsList l vs.toArray) (hI : IntsAre vs ns) (hlen : ns.length ≤ 1000)
    (helt : ∀ C z t (s₃ : Shared) m₃ E', z ∈ ns → s₃.heap.Ns C m₃ → m₃ x = some (.int z t) → Kp s.heap s₃.heap → wpAny (model prog w) A (eval elt (compEnvC scope cl C env)) (fun v s₄ => (∃ t, v = .int (f z) t) ∧ Keeps s₃ s₄) E' s₃)
    (hQ : ∀ D h' tk us, h'.IsList D us.toArray → IntsAre us (ns.map f) → Fr h₀ env.locals h' (fun z => if z = y then some (.ref D) else m z) → (∀ b o, b ≠ env.locals → s.heap.get? b = some o → h'.get? b = some o) → Q .next { s with heap := h', toks := tk })
    (hsw : swapsWith (.ListComp elt [⟨.Name x px, .Name it pi, [], 0⟩] scope pos) (some (.Name y py)) spos.line env = pure true := by rfl)
    (hclos : closureFor scope env = pure cl := by rfl) (hcell : ∀ y ∈ scope.names, y.2 ≠ .cell := by decide) (hkind : scope.kind = .function := by rfl)
    (hnames : ∀ y ∈ scope.names, y.2 = .local → scope.names.lookup y.1 = some .local := by decide) (hx : scope.names.lookup x = some .local := by rfl)
    (hy : env.kindOf y = some .local := by rfl) (hpl : (env.scope.kind == .class || (env.scope.kind == .module && env.locals != env.globals)) = false := by rfl)
    (hk : env.scope.kind = .function := by rfl) (hli : env.kindOf it = some .local := by rfl) (hd : (it == ("__debug__" : Str)) = false := by decide) :
    wpAny (model prog w) A (exec (.Assign [.Name y py] (.ListComp elt [⟨.Name x px, .Name it pi, [], 0⟩] scope pos) spos) env) Q E s := by
  refine wpAny_Assign_ListComp_free (fun _ => true) (fun v y => ∀ z t, v = Value.int z t → ∃ t', y = .int (f z) t') hsw hclos hcell hkind hnames hx hy hpl (ldL F.ns hm (wpAny_pyIter_list hl ?_) hk hli hd)
  have hp : Kp s.heap (s.heap.push { cls := .type "list_iterator", data := .fields #[.ref l, .int 0 0] }) := fun b o e => Heap.get?_push_of_some _ e
  have hlt : l < s.heap.objs.size := let ⟨_, e, _⟩ := hl; Heap.lt_size e
  have hIn : ∀ b o, s.heap.get? b = some o → b ∉ [s.heap.objs.size] := fun b o e hb => by
    rw [List.mem_singleton] at hb; subst hb; exact absurd (Heap.lt_size e) (Nat.lt_irrefl _)
  refine ⟨_, _, _, _, _, _, m, rfl, Walks.list hh s.heap.objs.size l (Nat.ne_of_lt hlt) vs.toArray, ?_, ⟨⟨_, Heap.get?_push_size _ rfl, rfl, rfl⟩, hl.at fun o e => hp _ o e⟩, ?_, ?_, F.ns.keeps hp, ⟨?_, ?_⟩, ?_⟩
  · rw [List.size_toArray, hI.length, sizeLine_eq]; omega
  · intro b hb
    simp only [List.mem_cons, List.not_mem_nil, or_false] at hb
    rw [Heap.size_push]
    rcases hb with rfl | rfl
    · exact Nat.lt_succ_self _
    · exact Nat.lt_succ_of_lt hlt
  · intro hb
    rw [List.mem_singleton] at hb
    exact absurd F.ns.lt (by rw [hb]; exact Nat.lt_irrefl _)
  · intro C i v s₃ m₃ E' _ _ _ _ _ _
    exact wpAny_pure ⟨rfl, keeps_refl _⟩
  · intro C i v s₃ m₃ E' hC hP _ hn₃ hm₃ hk₃ _
    obtain ⟨z, t, rfl, hz⟩ := hI.at i v (by simpa using hP)
    refine wpAny_mono (helt C z t s₃ m₃ E' (List.mem_of_getElem? hz) hn₃ hm₃ fun b o e => hk₃ b o (hIn b o e) (hp b o e)) (fun y s₄ h₄ => ⟨?_, h₄.2⟩) fun _ _ e => e
    rintro z' t' h
    cases h; exact h₄.1
  · intro D h' tk ys ws hD hlD _ hlw hPw hF hn' hk'
    have e : ws = vs := vs_eq (by simpa using hlw) fun j v hj => by simpa using hPw j v hj
    subst e
    rw [List.filter_eq_self.mpr (by simp)] at hF
    have kk : ∀ b o, b ≠ env.locals → s.heap.get? b = some o → h'.get? b = some o := fun b o hb e => hk' b o hb (hIn b o e) (hp b o e)
    exact hQ D h' tk ys.toList (by simpa using hlD) (paired_ints hI hF) ⟨hn', fun b o e => kk b o (Fr.ne F e) (F.keep b o e), F.above⟩ kk
end
end Mine

namespace Mine

noncomputable def lawFd (w : World) : FuncData := match (KK w).lookup 89 with
  | some ⟨_, _, .func fd, _⟩ => fd
  | _ => default
noncomputable def lawEnv (w : World) (L : Addr) : Env := callEnvC (lawFd w) L 89
noncomputable def turnBody (w : World) : List Stmt := forBody ((bodyAt w 89).getD 9 (.Pass default))

def carF (X Y e : Int) : Int := if 10 ^ e.toNat ≤ X % 10 ^ e.toNat + Y % 10 ^ e.toNat then 0 else 9
def borF (X Y e : Int) : Int := if X % 10 ^ e.toNat < Y % 10 ^ e.toNat then 9 else 0

section
variable {w : World} {A : Around} {E : Value → Shared → Prop} {s : Shared} {env : Env}

theorem ldC {x : Str} {pos : Pos} {c : Addr} {v : Value} {Q : Value → Shared → Prop} (hv : s.heap.IsCell c (some v)) (h : Q v s)
    (hc : env.cells.lookup x = some c := by rfl) (hk : env.scope.kind = .function := by rfl) (hl : env.kindOf x = some .cell := by rfl)
    (hd : (x == ("__debug__" : Str)) = false := by decide) :
    wpAny (model prog w) A (eval (.Name x pos) env) Q E s := wpAny_Name (wpAny_loadName_cell hk hl hc hv h) hd

theorem ne1 (L : Nat) : L + 1 ≠ L := by omega
theorem ne2 (L : Nat) : L + 1 + 1 ≠ L := by omega
theorem ne3 (L : Nat) : L + 1 + 1 + 1 ≠ L := by omega

set_option maxHeartbeats 4000000 in
theorem turn_ok {B : Heap} {L D En : Addr} {m : Str → Option Value} {tvs evs : List Value} {told ends : List Int} {X Y : Int} {tx ty : Tok} {Q : Flow → Shared → Prop}
    (hh : A.handled = none) (hroom : A.depth + 3 < recursionLimit) (TB : Tp w B) (F : Fr B L s.heap m)
    (hX : s.heap.IsCell (L + 1) (some (.int X tx))) (hY : s.heap.IsCell (L + 1 + 1 + 1) (some (.int Y ty)))
    (hmT : m "told" = some (.ref D)) (hD : s.heap.IsList D tvs.toArray) (hDI : IntsAre tvs told) (ht0 : told.length ≤ 6) (htz : ∀ z ∈ told, 1 ≤ z ∧ z ≤ 4)
    (hmE : m "ends" = some (.ref En)) (hE : s.heap.IsList En evs.toArray) (hEI : IntsAre evs ends) (he0 : 0 < ends.length) (he6 : ends.length ≤ 6) (hez : ∀ z ∈ ends, 0 ≤ z ∧ z ≤ 30)
    (hXb : -10 ^ 31 ≤ X ∧ X ≤ 10 ^ 31) (hYb : -10 ^ 31 ≤ Y ∧ Y ≤ 10 ^ 31)
    (h1 : spread X told 9 = opened X ends (ends.map fun _ => 9)) (h2 : spread X told 0 = opened X ends (ends.map fun _ => 0)) (h2' : spread Y told 0 = opened Y ends (ends.map fun _ => 0))
    (h3 : spread X told 9 + spread Y told 0 = opened (X + Y) ends (ends.map (carF X Y))) (h4 : spread X told 0 - spread Y told 0 = opened (X - Y) ends (ends.map (borF X Y)))
    (h5 : spread X told 0 < spread Y told 0 ↔ X < Y)
    (hQ : ∀ h' tk m', Fr B L h' m' → m' "told" = m "told" → m' "ends" = m "ends" → (∀ b o, b ≠ L → s.heap.get? b = some o → h'.get? b = some o) → Q .next { s with heap := h', toks := tk }) :
    wpAny (model prog w) A (execs (turnBody w) (lawEnv w L)) Q E s := by
  have hXn : X.natAbs < 2 ^ 200 := by omega
  have hYn : Y.natAbs < 2 ^ 200 := by omega
  have T := TB.keeps F.keep
  have hDL := list_ne_ns hD F.ns
  have hEL := list_ne_ns hE F.ns
  have cL1 : L + 1 ≠ L := ne1 L
  have cL3 : L + 1 + 1 + 1 ≠ L := ne3 L
  have der : ∀ h : Heap, (∀ b o, b ≠ L → s.heap.get? b = some o → h.get? b = some o) → h.IsCell (L + 1) (some (.int X tx)) ∧ h.IsCell (L + 1 + 1 + 1) (some (.int Y ty)) ∧ h.IsList D tvs.toArray ∧ h.IsList En evs.toArray := fun h kk =>
    ⟨(let ⟨o, e, r⟩ := hX; ⟨o, kk _ o cL1 e, r⟩), (let ⟨o, e, r⟩ := hY; ⟨o, kk _ o cL3 e, r⟩), hD.at fun o e => kk _ o hDL e, hE.at fun o e => kk _ o hEL e⟩
  have nx : ∀ {h h₁ h₂ : Heap}, (∀ b o, b ≠ L → s.heap.get? b = some o → h.get? b = some o) → Kp h h₁ → Heap.SameBut L h₁ h₂ → (∀ b o, b ≠ L → s.heap.get? b = some o → h₂.get? b = some o) := fun kk k hs b o hb e => hs.extBut b o hb (k b o (kk b o hb e))
  -- nines
  refine wpAny_execs_cons (wpAny_Assign_Name (evCall3 T rfl rfl (ldC hX (ldL F.ns hmT (wpAny_Constant_int ⟨T, spread_call T hh (by omega) hD hDI ht0 htz hXn (by decide) fun h₁ tk₁ t₁ k₁ => stS (Fr.kp F k₁) fun h₂ tk₂ F₂ hs₂ => ?_⟩)))))
  have kk₂ := nx (fun b o _ e => e) k₁ hs₂
  show wpAny _ _ _ _ _ { s with heap := h₂, toks := tk₂ }
  clear k₁ hs₂
  obtain ⟨hX₂, hY₂, hD₂, hE₂⟩ := der h₂ kk₂
  have T₂ : Tp w h₂ := TB.keeps F₂.keep
  -- one
  refine wpAny_execs_cons (wpAny_Assign_Name (evCall3 T₂ rfl rfl (ldC hX₂ (ldL F₂.ns hmT (wpAny_Constant_int ⟨T₂, spread_call T₂ hh (by omega) hD₂ hDI ht0 htz hXn (by decide) fun h₃ tk₃ t₃ k₃ => stS (Fr.kp F₂ k₃) fun h₄ tk₄ F₄ hs₄ => ?_⟩)))))
  have kk₄ := nx kk₂ k₃ hs₄
  show wpAny _ _ _ _ _ { s with heap := h₄, toks := tk₄ }
  clear k₃ hs₄ hX₂ hY₂ hD₂ hE₂ T₂
  obtain ⟨hX₄, hY₄, hD₄, hE₄⟩ := der h₄ kk₄
  have T₄ : Tp w h₄ := TB.keeps F₄.keep
  -- two
  refine wpAny_execs_cons (wpAny_Assign_Name (evCall3 T₄ rfl rfl (ldC hY₄ (ldL F₄.ns hmT (wpAny_Constant_int ⟨T₄, spread_call T₄ hh (by omega) hD₄ hDI ht0 htz hYn (by decide) fun h₅ tk₅ t₅ k₅ => stS (Fr.kp F₄ k₅) fun h₆ tk₆ F₆ hs₆ => ?_⟩)))))
  have kk₆ := nx kk₄ k₅ hs₆
  show wpAny _ _ _ _ _ { s with heap := h₆, toks := tk₆ }
  clear k₅ hs₆ hX₄ hY₄ hD₄ hE₄ T₄
  obtain ⟨hX₆, hY₆, hD₆, hE₆⟩ := der h₆ kk₆
  have T₆ : Tp w h₆ := TB.keeps F₆.keep
  -- nines != opened(x, ends, [9 for end in ends])
  refine wpAny_execs_cons (wpAny_If (wpAny_isTrue_Compare1 (ldL F₆.ns rfl (evCall3 T₆ rfl rfl (ldC hX₆ (ldL F₆.ns hmE (comp_map (f := fun _ => 9) hh F₆.ns hmE hE₆ hEI (by omega) ?e1 fun D₁ h₇ tk₇ us₁ hD₁ hU₁ k₇ =>
    ⟨T₆.keeps k₇, opened_call (T₆.keeps k₇) hh (by omega) (hE₆.at fun o e => k₇ _ o e) hEI hD₁ hU₁ he0 he6 (by simp) hez ?f1 (by omega) (by omega) fun h₈ tk₈ t₈ k₈ => P.ne_int (wpAny_truthy_bool ?_)⟩)))))))
  case e1 =>
    intro C z t s₃ m₃ E' _ _ _ _
    exact wpAny_Constant_int ⟨⟨_, rfl⟩, _, _, rfl, fun _ _ e => e⟩
  case f1 =>
    intro z hz
    obtain ⟨_, _, rfl⟩ := List.mem_map.mp hz
    exact ⟨by omega, by omega⟩
  rw [if_neg (by rw [h1]; simp)]
  refine wpAny_execs_nil ?_
  have k₉ := k₇.trans k₈
  have F₈ := Fr.kp F₆ k₉
  have kk₈ : ∀ b o, b ≠ L → s.heap.get? b = some o → h₈.get? b = some o := fun b o hb e => k₉ b o (kk₆ b o hb e)
  show wpAny _ _ _ _ _ { s with heap := h₈, toks := tk₈ }
  clear k₇ k₈ k₉ hX₆ hY₆ hD₆ hE₆ T₆ hD₁ hU₁ kk₆ F₆
  obtain ⟨hX₈, hY₈, hD₈, hE₈⟩ := der h₈ kk₈
  have T₈ : Tp w h₈ := TB.keeps F₈.keep
  -- one != .. or two != ..
  have fz : ∀ z ∈ ends.map fun _ => (0 : Int), 0 ≤ z ∧ z ≤ 9 := by
    intro z hz
    obtain ⟨_, _, rfl⟩ := List.mem_map.mp hz
    exact ⟨by omega, by omega⟩
  refine wpAny_execs_cons (wpAny_If (wpAny_isTrue_BoolOp (wpAny_allTrue_Or_cons (wpAny_isTrue_Compare1 (ldL F₈.ns rfl (evCall3 T₈ rfl rfl (ldC hX₈ (ldL F₈.ns hmE (comp_map (f := fun _ => 0) hh F₈.ns hmE hE₈ hEI (by omega) ?e2 fun D₁ h₉ tk₉ us₁ hD₁ hU₁ k₉ =>
    ⟨T₈.keeps k₉, opened_call (T₈.keeps k₉) hh (by omega) (hE₈.at fun o e => k₉ _ o e) hEI hD₁ hU₁ he0 he6 (by simp) hez fz (by omega) (by omega) fun h₁₀ tk₁₀ t₁₀ k₁₀ => P.ne_int (wpAny_truthy_bool ?_)⟩)))))))))
  case e2 =>
    intro C z t s₃ m₃ E' _ _ _ _
    exact wpAny_Constant_int ⟨⟨_, rfl⟩, _, _, rfl, fun _ _ e => e⟩
  rw [if_neg (by rw [h2]; simp)]
  have F₁₀ := Fr.kp F₈ (k₉.trans k₁₀)
  have kk₁₀ : ∀ b o, b ≠ L → s.heap.get? b = some o → h₁₀.get? b = some o := fun b o hb e => k₁₀ _ _ (k₉ b o (kk₈ b o hb e))
  show wpAny _ _ _ _ _ { s with heap := h₁₀, toks := tk₁₀ }
  clear k₉ k₁₀ hX₈ hY₈ hD₈ hE₈ T₈ hD₁ hU₁ kk₈ F₈
  obtain ⟨hX₁₀, hY₁₀, hD₁₀, hE₁₀⟩ := der h₁₀ kk₁₀
  have T₁₀ : Tp w h₁₀ := TB.keeps F₁₀.keep
  refine wpAny_allTrue_Or_cons (wpAny_isTrue_Compare1 (ldL F₁₀.ns rfl (evCall3 T₁₀ rfl rfl (ldC hY₁₀ (ldL F₁₀.ns hmE (comp_map (f := fun _ => 0) hh F₁₀.ns hmE hE₁₀ hEI (by omega) ?e3 fun D₁ h₉ tk₉ us₁ hD₁ hU₁ k₉ =>
    ⟨T₁₀.keeps k₉, opened_call (T₁₀.keeps k₉) hh (by omega) (hE₁₀.at fun o e => k₉ _ o e) hEI hD₁ hU₁ he0 he6 (by simp) hez fz (by omega) (by omega) fun h₁₂ tk₁₂ t₁₂ k₁₂ => P.ne_int (wpAny_truthy_bool ?_)⟩))))))
  case e3 =>
    intro C z t s₃ m₃ E' _ _ _ _
    exact wpAny_Constant_int ⟨⟨_, rfl⟩, _, _, rfl, fun _ _ e => e⟩
  rw [if_neg (by rw [h2']; simp)]
  refine wpAny_allTrue_Or_nil ?_
  rw [if_neg (by decide)]
  refine wpAny_execs_nil ?_
  have F₁₂ := Fr.kp F₁₀ (k₉.trans k₁₂)
  have kk₁₂ : ∀ b o, b ≠ L → s.heap.get? b = some o → h₁₂.get? b = some o := fun b o hb e => k₁₂ _ _ (k₉ b o (kk₁₀ b o hb e))
  show wpAny _ _ _ _ _ { s with heap := h₁₂, toks := tk₁₂ }
  clear k₉ k₁₂ hX₁₀ hY₁₀ hD₁₀ hE₁₀ T₁₀ hD₁ hU₁ kk₁₀ F₁₀
  obtain ⟨hX₁₂, hY₁₂, hD₁₂, hE₁₂⟩ := der h₁₂ kk₁₂
  have T₁₂ : Tp w h₁₂ := TB.keeps F₁₂.keep
  -- carried
  refine wpAny_execs_cons (comp_assign (f := carF X Y) hh F₁₂ hmE hE₁₂ hEI (by omega) ?e4 fun Dc h₁₃ tk₁₃ us hDc hUc F₁₃ k₁₃ => ?_)
  case e4 =>
    intro C z t s₃ m₃ E' hz hn₃ hm₃ k₃
    have hz1 := hez z hz
    have hX₃ := hX₁₂.keeps k₃
    have hY₃ := hY₁₂.keeps k₃
    have p1 : (0 : Int) < 10 ^ z.toNat := pow10_pos _
    refine wpAny_IfExp (wpAny_isTrue_Compare1 (wpAny_BinOp (wpAny_BinOp (ldC hX₃ (wpAny_BinOp (wpAny_Constant_int (ldL hn₃ hm₃ ?_)))))))
    refine pow_int_small hz1.1 (by omega) (by decide) (mod_int' (Int.ne_of_gt p1) ?_)
    rw [Int.fmod_eq_emod_of_nonneg _ (Int.le_of_lt p1)]
    refine re s₃ s₃.heap fun tk₃ => ?_
    refine wpAny_BinOp (ldC hY₃ (wpAny_BinOp (wpAny_Constant_int (ldL hn₃ hm₃ ?_))))
    refine pow_int_small hz1.1 (by omega) (by decide) (mod_int' (Int.ne_of_gt p1) (P.add_int ?_))
    rw [Int.fmod_eq_emod_of_nonneg _ (Int.le_of_lt p1)]
    refine re s₃ s₃.heap fun tk₃ => ?_
    refine wpAny_BinOp (wpAny_Constant_int (ldL hn₃ hm₃ ?_))
    refine pow_int_small hz1.1 (by omega) (by decide) (P.ge_int (wpAny_truthy_bool ?_))
    by_cases hc : 10 ^ z.toNat ≤ X % 10 ^ z.toNat + Y % 10 ^ z.toNat
    · rw [decide_eq_true (show _ ≥ _ from hc), if_pos rfl]
      exact wpAny_Constant_int ⟨⟨_, by rw [carF, if_pos hc]⟩, _, _, rfl, fun _ _ e => e⟩
    · rw [decide_eq_false (show ¬ (_ ≥ _) from hc), if_neg (by decide)]
      exact wpAny_Constant_int ⟨⟨_, by rw [carF, if_neg hc]⟩, _, _, rfl, fun _ _ e => e⟩
  have kk₁₃ : ∀ b o, b ≠ L → s.heap.get? b = some o → h₁₃.get? b = some o := fun b o hb e => k₁₃ b o hb (kk₁₂ b o hb e)
  show wpAny _ _ _ _ _ { s with heap := h₁₃, toks := tk₁₃ }
  clear k₁₃ hX₁₂ hY₁₂ hD₁₂ hE₁₂ T₁₂ kk₁₂ F₁₂
  obtain ⟨hX₁₃, hY₁₃, hD₁₃, hE₁₃⟩ := der h₁₃ kk₁₃
  have T₁₃ : Tp w h₁₃ := TB.keeps F₁₃.keep
  have fc : ∀ z ∈ ends.map (carF X Y), 0 ≤ z ∧ z ≤ 9 := by
    intro z hz
    obtain ⟨_, _, rfl⟩ := List.mem_map.mp hz
    unfold carF; split <;> omega
  have fb : ∀ z ∈ ends.map (borF X Y), 0 ≤ z ∧ z ≤ 9 := by
    intro z hz
    obtain ⟨_, _, rfl⟩ := List.mem_map.mp hz
    unfold borF; split <;> omega
  -- add(nines, two) != opened(x + y, ends, carried)
  refine wpAny_execs_cons (wpAny_If (wpAny_isTrue_Compare1 (evCall2 T₁₃ rfl rfl (ldL F₁₃.ns rfl (ldL F₁₃.ns rfl ⟨T₁₃, add_call T₁₃ (by omega) fun h₁₄ tk₁₄ t₁₄ k₁₄ => ?_⟩)))))
  have F₁₄ := Fr.kp F₁₃ k₁₄
  have T₁₄ : Tp w h₁₄ := TB.keeps F₁₄.keep
  refine evCall3 T₁₄ rfl rfl (wpAny_BinOp (ldC (hX₁₃.keeps k₁₄) (ldC (hY₁₃.keeps k₁₄) (P.add_int (ldL F₁₄.ns hmE (ldL F₁₄.ns rfl ⟨T₁₄, opened_call T₁₄ hh (by omega) (hE₁₃.at fun o e => k₁₄ _ o e) hEI (hDc.at fun o e => k₁₄ _ o e) hUc he0 he6 (by simp) hez fc (by omega) (by omega)
    fun h₁₅ tk₁₅ t₁₅ k₁₅ => P.ne_int (wpAny_truthy_bool ?_)⟩))))))
  rw [if_neg (by rw [h3]; simp)]
  refine wpAny_execs_nil ?_
  have F₁₅ := Fr.kp F₁₄ k₁₅
  have kk₁₅ : ∀ b o, b ≠ L → s.heap.get? b = some o → h₁₅.get? b = some o := fun b o hb e => k₁₅ _ _ (k₁₄ b o (kk₁₃ b o hb e))
  show wpAny _ _ _ _ _ { s with heap := h₁₅, toks := tk₁₅ }
  clear k₁₄ k₁₅ hX₁₃ hY₁₃ hD₁₃ hE₁₃ T₁₃ T₁₄ kk₁₃ F₁₃ F₁₄ hDc hUc
  obtain ⟨hX₁₅, hY₁₅, hD₁₅, hE₁₅⟩ := der h₁₅ kk₁₅
  have T₁₅ : Tp w h₁₅ := TB.keeps F₁₅.keep
  -- borrowed
  refine wpAny_execs_cons (comp_assign (f := borF X Y) hh F₁₅ hmE hE₁₅ hEI (by omega) ?e5 fun Db h₁₆ tk₁₆ us hDb hUb F₁₆ k₁₆ => ?_)
  case e5 =>
    intro C z t s₃ m₃ E' hz hn₃ hm₃ k₃
    have hz1 := hez z hz
    have hX₃ := hX₁₅.keeps k₃
    have hY₃ := hY₁₅.keeps k₃
    have p1 : (0 : Int) < 10 ^ z.toNat := pow10_pos _
    refine wpAny_IfExp (wpAny_isTrue_Compare1 (wpAny_BinOp (ldC hX₃ (wpAny_BinOp (wpAny_Constant_int (ldL hn₃ hm₃ ?_))))))
    refine pow_int_small hz1.1 (by omega) (by decide) (mod_int' (Int.ne_of_gt p1) ?_)
    rw [Int.fmod_eq_emod_of_nonneg _ (Int.le_of_lt p1)]
    refine re s₃ s₃.heap fun tk₃ => ?_
    refine wpAny_BinOp (ldC hY₃ (wpAny_BinOp (wpAny_Constant_int (ldL hn₃ hm₃ ?_))))
    refine pow_int_small hz1.1 (by omega) (by decide) (mod_int' (Int.ne_of_gt p1) (P.lt_int (wpAny_truthy_bool ?_)))
    rw [Int.fmod_eq_emod_of_nonneg _ (Int.le_of_lt p1)]
    by_cases hc : X % 10 ^ z.toNat < Y % 10 ^ z.toNat
    · rw [decide_eq_true hc, if_pos rfl]
      exact wpAny_Constant_int ⟨⟨_, by rw [borF, if_pos hc]⟩, _, _, rfl, fun _ _ e => e⟩
    · rw [decide_eq_false hc, if_neg (by decide)]
      exact wpAny_Constant_int ⟨⟨_, by rw [borF, if_neg hc]⟩, _, _, rfl, fun _ _ e => e⟩
  have kk₁₆ : ∀ b o, b ≠ L → s.heap.get? b = some o → h₁₆.get? b = some o := fun b o hb e => k₁₆ b o hb (kk₁₅ b o hb e)
  show wpAny _ _ _ _ _ { s with heap := h₁₆, toks := tk₁₆ }
  clear k₁₆ hX₁₅ hY₁₅ hD₁₅ hE₁₅ T₁₅ kk₁₅ F₁₅
  obtain ⟨hX₁₆, hY₁₆, hD₁₆, hE₁₆⟩ := der h₁₆ kk₁₆
  have T₁₆ : Tp w h₁₆ := TB.keeps F₁₆.keep
  -- sub(one, two) != opened(x - y, ends, borrowed)
  refine wpAny_execs_cons (wpAny_If (wpAny_isTrue_Compare1 (evCall2 T₁₆ rfl rfl (ldL F₁₆.ns rfl (ldL F₁₆.ns rfl ⟨T₁₆, sub_call T₁₆ (by omega) fun h₁₄ tk₁₄ t₁₄ k₁₄ => ?_⟩)))))
  have F₁₄ := Fr.kp F₁₆ k₁₄
  have T₁₄ : Tp w h₁₄ := TB.keeps F₁₄.keep
  refine evCall3 T₁₄ rfl rfl (wpAny_BinOp (ldC (hX₁₆.keeps k₁₄) (ldC (hY₁₆.keeps k₁₄) (P.sub_int (ldL F₁₄.ns hmE (ldL F₁₄.ns rfl ⟨T₁₄, opened_call T₁₄ hh (by omega) (hE₁₆.at fun o e => k₁₄ _ o e) hEI (hDb.at fun o e => k₁₄ _ o e) hUb he0 he6 (by simp) hez fb (by omega) (by omega)
    fun h₁₅ tk₁₅ t₁₅ k₁₅ => P.ne_int (wpAny_truthy_bool ?_)⟩))))))
  rw [if_neg (by rw [h4]; simp)]
  refine wpAny_execs_nil ?_
  have F₁₇ := Fr.kp F₁₄ k₁₅
  have kk₁₇ : ∀ b o, b ≠ L → s.heap.get? b = some o → h₁₅.get? b = some o := fun b o hb e => k₁₅ _ _ (k₁₄ b o (kk₁₆ b o hb e))
  show wpAny _ _ _ _ _ { s with heap := h₁₅, toks := tk₁₅ }
  clear k₁₄ k₁₅ hX₁₆ hY₁₆ hD₁₆ hE₁₆ T₁₆ T₁₄ kk₁₆ F₁₆ F₁₄ hDb hUb
  obtain ⟨hX₁₇, hY₁₇, hD₁₇, hE₁₇⟩ := der h₁₅ kk₁₇
  have T₁₇ : Tp w h₁₅ := TB.keeps F₁₇.keep
  -- lt(one, two) != (x < y)
  refine wpAny_execs_cons (wpAny_If (wpAny_isTrue_Compare1 (evCall2 T₁₇ rfl rfl (ldL F₁₇.ns rfl (ldL F₁₇.ns rfl ⟨T₁₇, lt_call T₁₇ (by omega) fun h₁₈ tk₁₈ k₁₈ => ?_⟩)))))
  refine wpAny_Compare1 (ldC (hX₁₇.keeps k₁₈) (ldC (hY₁₇.keeps k₁₈) (P.lt_int (ne_bool (wpAny_truthy_bool ?_)))))
  have hd5 : decide (spread X told 0 < spread Y told 0) = decide (X < Y) := decide_eq_decide.mpr h5
  rw [hd5, if_neg (by cases decide (X < Y) <;> decide)]
  refine wpAny_execs_nil (wpAny_execs_nil ?_)
  exact hQ _ _ _ (Fr.kp F₁₇ k₁₈) rfl rfl fun b o hb e => k₁₈ _ _ (kk₁₇ b o hb e)
end
end Mine

namespace Mine

structure LaidOk (told ends : List Int) : Prop where
  h1 : ∀ X : Int, spread X told 9 = opened X ends (ends.map fun _ => 9)
  h2 : ∀ X : Int, spread X told 0 = opened X ends (ends.map fun _ => 0)
  h3 : ∀ X Y : Int, spread X told 9 + spread Y told 0 = opened (X + Y) ends (ends.map (carF X Y))
  h4 : ∀ X Y : Int, spread X told 0 - spread Y told 0 = opened (X - Y) ends (ends.map (borF X Y))
  h5 : ∀ X Y : Int, spread X told 0 < spread Y told 0 ↔ X < Y

section
variable {w : World} {A : Around} {E : Value → Shared → Prop} {s : Shared} {env : Env}

theorem evTup2 {e1 e2 : Expr} {k : Nat} {pos : Pos} {Q : Value → Shared → Prop}
    (h : wpAny (model prog w) A (eval e1 env) (fun v1 s1 => wpAny (model prog w) A (eval e2 env) (fun v2 s2 => ∀ D h', s2.heap.get? D = none → h'.IsTuple D #[v1, v2] → Kp s2.heap h' → Q (.ref D) { s2 with heap := h' }) E s1) E s)
    (hst : starEach [e1, e2] env = [(false, eval e1 env), (false, eval e2 env)] := by rfl) :
    wpAny (model prog w) A (eval (.Tuple [e1, e2] k pos) env) Q E s := by
  refine Tuple_ ?_
  rw [hst]
  refine spliced_cons (wpAny_mono h (fun v1 s1 h1 => spliced_cons (wpAny_mono h1 (fun v2 s2 h2 => spliced_nil (wpAny_newTuple ?_)) fun _ _ z => z)) fun _ _ z => z)
  exact h2 _ _ (get_none (Nat.le_refl _)) ⟨_, Heap.get?_push_size _ rfl, rfl, _, rfl⟩ fun b o e => Heap.get?_push_of_some _ e
theorem evTup4 {e1 e2 e3 e4 : Expr} {k : Nat} {pos : Pos} {Q : Value → Shared → Prop}
    (h : wpAny (model prog w) A (eval e1 env) (fun v1 s1 => wpAny (model prog w) A (eval e2 env) (fun v2 s2 => wpAny (model prog w) A (eval e3 env) (fun v3 s3 => wpAny (model prog w) A (eval e4 env) (fun v4 s4 =>
      ∀ D h', s4.heap.get? D = none → h'.IsTuple D #[v1, v2, v3, v4] → Kp s4.heap h' → Q (.ref D) { s4 with heap := h' }) E s3) E s2) E s1) E s)
    (hst : starEach [e1, e2, e3, e4] env = [(false, eval e1 env), (false, eval e2 env), (false, eval e3 env), (false, eval e4 env)] := by rfl) :
    wpAny (model prog w) A (eval (.Tuple [e1, e2, e3, e4] k pos) env) Q E s := by
  refine Tuple_ ?_
  rw [hst]
  refine spliced_cons (wpAny_mono h (fun v1 s1 h1 => spliced_cons (wpAny_mono h1 (fun v2 s2 h2 => spliced_cons (wpAny_mono h2 (fun v3 s3 h3 => spliced_cons (wpAny_mono h3 (fun v4 s4 h4 => spliced_nil (wpAny_newTuple ?_)) fun _ _ z => z)) fun _ _ z => z)) fun _ _ z => z)) fun _ _ z => z)
  exact h4 _ _ (get_none (Nat.le_refl _)) ⟨_, Heap.get?_push_size _ rfl, rfl, _, rfl⟩ fun b o e => Heap.get?_push_of_some _ e

theorem letGo_tup {I D : Addr} {i : Nat} {v : Value} {elts : List Expr} {x1} {pos : Pos} {Q : Unit → Shared → Prop} (hi : s.heap.IsTupleIter I D i) (h : Q () s) :
    wpAny (model prog w) A (letOwnedTupleGo (.Tuple elts x1 pos) (.ref I) v) Q E s := by
  obtain ⟨o, ho, hc, hd⟩ := hi
  unfold letOwnedTupleGo
  cases v with
  | ref a =>
    refine wpAny_bind (wpAny_load ho ?_)
    rw [hc, hd]
    show wpAny _ _ (if (["enumerate", "zip", "dict_itemiterator", "dict_reverseitemiterator", "odict_iterator", "itertools.zip_longest", "itertools.pairwise"].contains "tuple_iterator" && _) = true then _ else _) Q E s
    rw [if_neg (by simp)]
    exact wpAny_pure h
  | _ => exact wpAny_pure h

theorem tup_ne_ns {h : Heap} {T L : Addr} {its : Array Value} {m : Str → Option Value} (x : h.IsTuple T its) (y : h.Ns L m) : T ≠ L := fun e => by
  subst e; obtain ⟨o, ho, _, n, hd⟩ := x; obtain ⟨o', es, ep, ho', hd', _⟩ := y
  rw [ho] at ho'; cases ho'; rw [hd] at hd'; cases hd'
theorem tup_ne_cell {h : Heap} {T L : Addr} {its : Array Value} {v : Option Value} (x : h.IsTuple T its) (y : h.IsCell L v) : T ≠ L := fun e => by
  subst e; obtain ⟨o, ho, _, n, hd⟩ := x; obtain ⟨o', ho', hd'⟩ := y
  rw [ho] at ho'; cases ho'; rw [hd] at hd'; cases hd'
theorem tup_ne_iter {h : Heap} {T L D : Addr} {i : Nat} {its : Array Value} (x : h.IsTuple T its) (y : h.IsTupleIter L D i) : T ≠ L := fun e => by
  subst e; obtain ⟨o, ho, _, n, hd⟩ := x; obtain ⟨o', ho', _, hd'⟩ := y
  rw [ho] at ho'; cases ho'; rw [hd] at hd'; cases hd'
theorem list_ne_cell {h : Heap} {T L : Addr} {its : Array Value} {v : Option Value} (x : h.IsList T its) (y : h.IsCell L v) : T ≠ L := fun e => by
  subst e; obtain ⟨o, ho, _, n, hd⟩ := x; obtain ⟨o', ho', hd'⟩ := y
  rw [ho] at ho'; cases ho'; rw [hd] at hd'; cases hd'
theorem list_ne_tup {h : Heap} {T L D : Addr} {i : Nat} {its : Array Value} (x : h.IsList T its) (y : h.IsTupleIter L D i) : T ≠ L := fun e => by
  subst e; obtain ⟨o, ho, _, n, hd⟩ := x; obtain ⟨o', ho', _, hd'⟩ := y
  rw [ho] at ho'; cases ho'; rw [hd] at hd'; cases hd'
theorem cell_ne_tup {h : Heap} {T L D : Addr} {i : Nat} {v : Option Value} (x : h.IsCell T v) (y : h.IsTupleIter L D i) : T ≠ L := fun e => by
  subst e; obtain ⟨o, ho, hd⟩ := x; obtain ⟨o', ho', _, hd'⟩ := y
  rw [ho] at ho'; cases ho'; rw [hd] at hd'; cases hd'
theorem cell_at {h h' : Heap} {c : Addr} {v : Option Value} (x : h.IsCell c v) (e : ∀ o, h.get? c = some o → h'.get? c = some o) : h'.IsCell c v := let ⟨o, ho, r⟩ := x; ⟨o, e o ho, r⟩
theorem tup_at {h h' : Heap} {c : Addr} {v : Array Value} (x : h.IsTuple c v) (e : ∀ o, h.get? c = some o → h'.get? c = some o) : h'.IsTuple c v := let ⟨o, ho, r⟩ := x; ⟨o, e o ho, r⟩
theorem tupit_at {h h' : Heap} {c D : Addr} {i : Nat} (x : h.IsTupleIter c D i) (e : ∀ o, h.get? c = some o → h'.get? c = some o) : h'.IsTupleIter c D i := let ⟨o, ho, r⟩ := x; ⟨o, e o ho, r⟩
theorem ne13 (L : Nat) : L + 1 ≠ L + 1 + 1 + 1 := by omega
theorem ne31 (L : Nat) : L + 1 + 1 + 1 ≠ L + 1 := by omega
theorem ne21 (L : Nat) : L + 1 + 1 ≠ L + 1 := by omega
theorem ne23 (L : Nat) : L + 1 + 1 ≠ L + 1 + 1 + 1 := by omega

/-- the i-th pair -/
def PairOk (h : Heap) (items : Array Value) (i : Nat) : Prop := ∃ T x y tx ty, items[i]? = some (.ref T) ∧ h.IsTuple T #[.int x tx, .int y ty] ∧ (-10 ^ 31 ≤ x ∧ x ≤ 10 ^ 31) ∧ (-10 ^ 31 ≤ y ∧ y ≤ 10 ^ 31)

set_option maxHeartbeats 4000000 in
theorem loop_ok {B : Heap} {L D En : Addr} {m : Str → Option Value} {tvs evs : List Value} {told ends : List Int} {a b : Int} {vx vy : Option Value} {Q : Flow → Shared → Prop}
    (hh : A.handled = none) (hroom : A.depth + 3 < recursionLimit) (TB : Tp w B) (F : Fr B L s.heap m) (hBc : ∀ k, B.get? (L + k) = none)
    (hX : s.heap.IsCell (L + 1) vx) (hY : s.heap.IsCell (L + 1 + 1 + 1) vy)
    (hmT : m "told" = some (.ref D)) (hD : s.heap.IsList D tvs.toArray) (hDI : IntsAre tvs told) (ht0 : told.length ≤ 6) (htz : ∀ z ∈ told, 1 ≤ z ∧ z ≤ 4)
    (hmE : m "ends" = some (.ref En)) (hE : s.heap.IsList En evs.toArray) (hEI : IntsAre evs ends) (he0 : 0 < ends.length) (he6 : ends.length ≤ 6) (hez : ∀ z ∈ ends, 0 ≤ z ∧ z ≤ 30)
    (hma : HasI m "a" a) (hmb : HasI m "b" b) (ha : -10 ^ 20 ≤ a ∧ a ≤ 10 ^ 20) (hb : -10 ^ 20 ≤ b ∧ b ≤ 10 ^ 20) (ok : LaidOk told ends)
    (hQ : ∀ h' tk, Kp B h' → Q (.ret (.bool true)) { s with heap := h', toks := tk }) :
    wpAny (model prog w) A (execs ((bodyAt w 89).drop 9) (lawEnv w L)) Q E s := by
  obtain ⟨ta, hma⟩ := hma
  obtain ⟨tb, hmb⟩ := hmb
  refine wpAny_execs_cons (wpAny_For (evTup4 (evTup2 (ldL F.ns hma (ldL F.ns hmb fun T₁ h₁ n₁ hT₁ k₁ => ?_)))))
  have F₁ := Fr.kp F k₁
  refine evTup2 (ldL F₁.ns hmb (ldL F₁.ns hma fun T₂ h₂ n₂ hT₂ k₂ => ?_))
  have F₂ := Fr.kp F₁ k₂
  refine evTup2 (wpAny_BinOp (ldL F₂.ns hma (wpAny_Constant_int (P.add_int (wpAny_BinOp (ldL F₂.ns hmb (wpAny_Constant_int (P.add_int fun T₃ h₃ n₃ hT₃ k₃ => ?_))))))))
  have F₃ := Fr.kp F₂ k₃
  refine evTup2 (ldL F₃.ns hma (wpAny_UnaryOp (ldL F₃.ns hma (P.neg_int fun T₄ h₄ n₄ hT₄ k₄ => ?_))))
  have F₄ := Fr.kp F₃ k₄
  intro O h₅ n₅ hO k₅
  have F₅ := Fr.kp F₄ k₅
  have k2 := k₂
  have hp : Kp h₅ (h₅.push { cls := .type "tuple_iterator", data := .fields #[.ref O, .int 0 0] }) := fun b o e => Heap.get?_push_of_some _ e
  have kall : Kp s.heap h₅ := k₁.trans (k₂.trans (k₃.trans (k₄.trans k₅)))
  have hpairs : ∀ i < 4, PairOk (h₅.push { cls := .type "tuple_iterator", data := .fields #[.ref O, .int 0 0] }) #[.ref T₁, .ref T₂, .ref T₃, .ref T₄] i := by
    intro i hi
    match i, hi with
    | 0, _ => exact ⟨T₁, _, _, _, _, rfl, tup_at hT₁ fun o e => hp _ _ (k₅ _ _ (k₄ _ _ (k₃ _ _ (k₂ _ _ e)))), by omega, by omega⟩
    | 1, _ => exact ⟨T₂, _, _, _, _, rfl, tup_at hT₂ fun o e => hp _ _ (k₅ _ _ (k₄ _ _ (k₃ _ _ e))), by omega, by omega⟩
    | 2, _ => exact ⟨T₃, _, _, _, _, rfl, tup_at hT₃ fun o e => hp _ _ (k₅ _ _ (k₄ _ _ e)), by omega, by omega⟩
    | 3, _ => exact ⟨T₄, _, _, _, _, rfl, tup_at hT₄ fun o e => hp _ _ (k₅ _ _ e), by omega, by omega⟩
  refine wpAny_pyIter_tuple hO ?_
  have F₆ := Fr.kp F₅ hp
  have k₆ : Kp s.heap _ := kall.trans hp
  have hit₆ : (h₅.push { cls := .type "tuple_iterator", data := .fields #[.ref O, .int 0 0] }).IsTupleIter h₅.objs.size O 0 := ⟨_, Heap.get?_push_size _ rfl, rfl, rfl⟩
  have hO₆ := tup_at hO fun o e => hp _ o e
  have hBI : B.get? h₅.objs.size = none := kp_fresh F₅.keep
  have hsz : (#[.ref T₁, .ref T₂, .ref T₃, .ref T₄] : Array Value).size = 4 := rfl
  generalize (#[.ref T₁, .ref T₂, .ref T₃, .ref T₄] : Array Value) = items at *
  generalize h₅.push { cls := .type "tuple_iterator", data := .fields #[.ref O, .int 0 0] } = h₆ at *
  generalize h₅.objs.size = I at *
  clear hp kall hT₁ hT₂ hT₃ hT₄ k₁ k₂ k₃ k₄ k₅ k2 F₁ F₂ F₃ F₄ F₅ n₁ n₂ n₃ n₄ n₅ hO
  have hX₆ := hX.keeps k₆
  have hY₆ := hY.keeps k₆
  have hD₆ := hD.at fun o e => k₆ _ o e
  have hE₆ := hE.at fun o e => k₆ _ o e
  have hBX : B.get? (L + 1) = none := hBc 1
  have hBY : B.get? (L + 1 + 1 + 1) = none := hBc 3
  have nOL := tup_ne_ns hO₆ F₆.ns
  have nOX := tup_ne_cell hO₆ hX₆
  have nOY := tup_ne_cell hO₆ hY₆
  have nOI := tup_ne_iter hO₆ hit₆
  have nDL := list_ne_ns hD₆ F₆.ns
  have nDX := list_ne_cell hD₆ hX₆
  have nDY := list_ne_cell hD₆ hY₆
  have nDI := list_ne_tup hD₆ hit₆
  have nEL := list_ne_ns hE₆ F₆.ns
  have nEX := list_ne_cell hE₆ hX₆
  have nEY := list_ne_cell hE₆ hY₆
  have nEI := list_ne_tup hE₆ hit₆
  have nXI := cell_ne_tup hX₆ hit₆
  have nYI := cell_ne_tup hY₆ hit₆
  have nIL : I ≠ L := fun e => by
    subst e; obtain ⟨o, ho, _, hd⟩ := hit₆; obtain ⟨o', es, ep, ho', hd', _⟩ := F₆.ns
    rw [ho] at ho'; cases ho'; rw [hd] at hd'; cases hd'
  refine codeAny_forLoop_any (fun k s' => ∃ (i : Nat) (h' : Heap) (tk' : Nat) (m' : Str → Option Value) (vx' vy' : Option Value), s' = { s with heap := h', toks := tk' } ∧ Fr B L h' m' ∧ m' "told" = m "told" ∧ m' "ends" = m "ends" ∧ h'.IsTupleIter I O i ∧ i ≤ 4 ∧ k = 5 - i ∧
    h'.IsCell (L + 1) vx' ∧ h'.IsCell (L + 1 + 1 + 1) vy' ∧ (∀ b o, b ≠ L → b ≠ L + 1 → b ≠ L + 1 + 1 + 1 → b ≠ I → h₆.get? b = some o → h'.get? b = some o)) ?turn 5
    ⟨0, h₆, _, m, _, _, rfl, F₆, rfl, rfl, hit₆, Nat.zero_le _, rfl, hX₆, hY₆, fun _ _ _ _ _ _ e => e⟩
  rintro k _ ⟨i, h', tk', m', vx', vy', rfl, F', e1, e2, hit, hi, rfl, hX', hY', kk⟩
  rcases Nat.lt_or_ge i 4 with hlt | hge
  · obtain ⟨T, x, y, tx, ty, hx, hT, hxb, hyb⟩ := hpairs i hlt
    have nTL := tup_ne_ns hT F₆.ns
    have nTX := tup_ne_cell hT hX₆
    have nTY := tup_ne_cell hT hY₆
    have nTI := tup_ne_iter hT hit₆
    refine wpAny_pyNext_tuple_item hit (tup_at hO₆ fun o e => kk _ o nOL nOX nOY nOI e) hx fun h₇ hit₇ hs₇ => ?_
    have F₇ := Fr.ext F' hs₇.extBut hBI nIL
    refine letGo_tup hit₇ ?_
    refine wpAny_assign_Tuple hh (items := #[.int x tx, .int y ty]) (tup_at hT fun o e => hs₇.extBut _ o nTI (kk _ o nTL nTX nTY nTI e)) rfl rfl fun h₈ hs₈ => ?_
    have k₈ : Kp h₇ h₈ := fun b o e => hs₈ b o (Nat.ne_of_lt (Heap.lt_size e)) e
    have F₈ := Fr.kp F₇ k₈
    show wpAny _ _ (do holding [Value.int y ty] (assign (.Name "x" _) _ (.int x tx)); do holding [] (assign (.Name "y" _) _ (.int y ty)); pure ()) _ _ _
    refine wpAny_bind (wpAny_holding (wpAny_assign_Name (wpAny_storeName_cell (c := L + 1) rfl rfl rfl (cell_at hX' fun o e => k₈ _ o (hs₇.extBut _ o nXI e)) fun h₉ hX₉ hs₉ => ?_)))
    have F₉ := Fr.ext F₈ hs₉.extBut hBX (ne1 L)
    refine wpAny_bind (wpAny_holding (wpAny_assign_Name (wpAny_storeName_cell (c := L + 1 + 1 + 1) rfl rfl rfl (cell_at hY' fun o e => hs₉.extBut _ o (ne31 L) (k₈ _ o (hs₇.extBut _ o nYI e))) fun h₁₀ hY₁₀ hs₁₀ => wpAny_pure ?_)))
    have F₁₀ := Fr.ext F₉ hs₁₀.extBut hBY (ne3 L)
    have hX₁₀ := cell_at hX₉ fun o e => hs₁₀.extBut _ o (ne13 L) e
    have kk₁₀ : ∀ b o, b ≠ L → b ≠ L + 1 → b ≠ L + 1 + 1 + 1 → b ≠ I → h₆.get? b = some o → h₁₀.get? b = some o := fun b o b1 b2 b3 b4 e =>
      hs₁₀.extBut _ o b3 (hs₉.extBut _ o b2 (k₈ _ o (hs₇.extBut _ o b4 (kk b o b1 b2 b3 b4 e))))
    have hit₁₀ : h₁₀.IsTupleIter I O (i + 1) := tupit_at hit₇ fun o e => hs₁₀.extBut _ o (Ne.symm nYI) (hs₉.extBut _ o (Ne.symm nXI) (k₈ _ o e))
    show wpAny _ _ (execs (turnBody w) (lawEnv w L)) _ _ { s with heap := h₁₀, toks := _ }
    refine turn_ok hh hroom TB F₁₀ hX₁₀ hY₁₀ (e1.trans hmT) (hD₆.at fun o e => kk₁₀ _ o nDL nDX nDY nDI e) hDI ht0 htz (e2.trans hmE) (hE₆.at fun o e => kk₁₀ _ o nEL nEX nEY nEI e) hEI he0 he6 hez hxb hyb (ok.h1 _) (ok.h2 _) (ok.h2 _) (ok.h3 _ _) (ok.h4 _ _) (ok.h5 _ _)
      fun h₁₁ tk₁₁ m₁₁ F₁₁ e3 e4 k₁₁ => ?_
    refine ⟨5 - (i + 1), by omega, i + 1, h₁₁, tk₁₁, m₁₁, _, _, rfl, F₁₁, e3.trans e1, e4.trans e2, tupit_at hit₁₀ fun o e => k₁₁ _ o nIL e, hlt, rfl, cell_at hX₁₀ fun o e => k₁₁ _ o (ne1 L) e, cell_at hY₁₀ fun o e => k₁₁ _ o (ne3 L) e, ?_⟩
    exact fun b o b1 b2 b3 b4 e => k₁₁ _ o b1 (kk₁₀ b o b1 b2 b3 b4 e)
  · have hin : i = 4 := by omega
    subst hin
    refine wpAny_pyNext_tuple_end hh hit (tup_at hO₆ fun o e => kk _ o nOL nOX nOY nOI e) (Array.getElem?_eq_none (by omega)) fun h₇ hs₇ => wpAny_execs_nil ?_
    have F₇ := Fr.ext F' hs₇ hBI nIL
    refine wpAny_execs_cons (wpAny_Return_some (wpAny_Constant_bool ?_))
    exact hQ _ _ F₇.keep
end
end Mine

namespace Mine

theorem GenAt.ext {w : World} {A : Around} {B : Heap} {G L c : Addr} {N : Nat} {o : Nat → Option Int} {a : Addr} {g j : Nat} {s : Shared} {h' : Heap} {tk : Nat} (GA : GenAt w A B G L N o a g j s)
    (hs : Heap.ExtBut c s.heap h') (h1 : c ≠ L) (h2 : c ≠ G) (h3 : ∀ ob, s.heap.get? c = some ob → ¬ IsItG G ob) (h4 : c ≠ a) : GenAt w A B G L N o a g j { s with heap := h', toks := tk } := by
  obtain ⟨hg, gs, hgs, hgo⟩ := GA
  refine ⟨let ⟨ob, nm, qn, e, r⟩ := hg; ⟨ob, nm, qn, hs _ _ (Ne.symm h4) e, r⟩, gs, hgs, ?_⟩
  rcases hgo with hgo | hgo
  · refine .inl fun s'' al => hgo s'' ⟨al.1, fun b ob hb e => al.2 b ob hb (hs b ob (fun q => ?_) e)⟩
    subst q
    rcases hb with rfl | rfl | hb
    · exact h1 rfl
    · exact h2 rfl
    · exact h3 ob e hb
  · exact .inr hgo
theorem GenAt.kp {w : World} {A : Around} {B : Heap} {G L : Addr} {N : Nat} {o : Nat → Option Int} {a : Addr} {g j : Nat} {s : Shared} {h' : Heap} {tk : Nat} (GA : GenAt w A B G L N o a g j s)
    (k : Kp s.heap h') : GenAt w A B G L N o a g j { s with heap := h', toks := tk } := by
  obtain ⟨hg, gs, hgs, hgo⟩ := GA
  refine ⟨hg.keeps k, gs, hgs, ?_⟩
  rcases hgo with hgo | hgo
  · exact .inl fun s'' al => hgo s'' ⟨al.1, fun b ob hb e => al.2 b ob hb (k _ _ e)⟩
  · exact .inr hgo

theorem ns_not_it {G L : Addr} {h : Heap} {m : Str → Option Value} (hn : h.Ns L m) : ∀ ob, h.get? L = some ob → ¬ IsItG G ob := fun ob e => by
  rintro ⟨i, h1, h2⟩
  obtain ⟨o', es, ep, ho', hd', _⟩ := hn
  rw [e] at ho'; cases ho'; rw [h2] at hd'; cases hd'
theorem list_not_it {G L : Addr} {h : Heap} {its : Array Value} (hl : h.IsList L its) : ∀ ob, h.get? L = some ob → ¬ IsItG G ob := fun ob e => by
  rintro ⟨i, h1, h2⟩
  obtain ⟨o', ho', _, n, hd'⟩ := hl
  rw [e] at ho'; cases ho'; rw [h2] at hd'; cases hd'
theorem cell_not_it {G L : Addr} {h : Heap} {v : Option Value} (hl : h.IsCell L v) : ∀ ob, h.get? L = some ob → ¬ IsItG G ob := fun ob e => by
  rintro ⟨i, h1, h2⟩
  obtain ⟨o', ho', hd'⟩ := hl
  rw [e] at ho'; cases ho'; rw [h2] at hd'; cases hd'
theorem range_not_it {G L : Addr} {h : Heap} {x l t : Int} (hl : IsRangeIter h L x l t) : ∀ ob, h.get? L = some ob → ¬ IsItG G ob := fun ob e => by
  rintro ⟨i, h1, h2⟩
  rw [hl] at e; cases e; simp at h1

section
variable {w : World} {A : Around} {E : Value → Shared → Prop} {s : Shared} {env : Env}

theorem evRange {e : Expr} {rp rpos : Pos} {K : Value → Shared → Prop} (T : Tp w s.heap)
    (h : wpAny (model prog w) A (eval e env) (fun v s₁ => ∃ n t, v = .int n t ∧ 0 ≤ n ∧ n ≤ 1000 ∧ ∀ I h' tk, IsRangeIter h' I 0 n 1 → s₁.heap.get? I = none → Kp s₁.heap h' → K (.ref I) { s₁ with heap := h', toks := tk }) E s)
    (hst : starEach [e] env = [(false, eval e env)] := by rfl)
    (hg : env.globals = mainGlobals := by rfl) (hb : env.builtins = builtinsNs := by rfl) (hk : env.scope.kind = .function := by rfl) (hx : env.kindOf "range" = some .globalImplicit := by rfl) :
    wpAny (model prog w) A (eval (.Call (.Name "range" rp) [e] [] rpos) env) (fun xv s₁ => wpAny (model prog w) A (pyIter xv) K E s₁) E s := by
  refine evT1 (C := "range") T rfl (by decide +kernel) (wpAny_mono h (fun v s₁ h₁ => ?_) fun _ _ z => z) hst (by decide) hg hb hk hx
  obtain ⟨n, t, rfl, h0, h1, hK⟩ := h₁
  refine call_range_1 (wpAny_pyIter_range (IsRange.new ..) (small_one (by decide) (by decide) (by omega) (by omega)) ?_)
  have hsz : Builtin.Range.rangeSize 0 n 1 = n := by rw [rangeSize_one]; split <;> omega
  rw [hsz]
  refine hK _ _ _ (Heap.get?_push_size _ rfl) (get_none (by simp [Heap.size_push])) fun b o e => Heap.get?_push_of_some _ (Heap.get?_push_of_some _ e)

theorem evB2 {x : Str} {C : String} {np pos : Pos} {e1 e2 : Expr} {Q : Value → Shared → Prop} (T : Tp w s.heap) (e : nsIn (KK w) mainGlobals x = some none) (hv : bootBuiltins x = some (.builtin C))
    (h : wpAny (model prog w) A (eval e1 env) (fun v1 s1 => wpAny (model prog w) A (eval e2 env) (fun v2 s2 => wpAny (model prog w) A (call (.builtin C) [v1, v2]) Q E s2) E s1) E s)
    (hst : starEach [e1, e2] env = [(false, eval e1 env), (false, eval e2 env)] := by rfl) (hn : x ≠ "__name__" := by decide)
    (hg : env.globals = mainGlobals := by rfl) (hb : env.builtins = builtinsNs := by rfl) (hk : env.scope.kind = .function := by rfl) (hx : env.kindOf x = some .globalImplicit := by rfl)
    (hd : (x == ("__debug__" : Str)) = false := by decide) :
    wpAny (model prog w) A (eval (.Call (.Name x np) [e1, e2] [] pos) env) Q E s := by
  refine wpAny_Call_NameR (ldB T e hv ?_ hn hg hb hk hx hd)
  rw [hst]
  refine callWith_builtin (first := []) rfl (evalArgs_plain (spliced_cons ?_))
  exact wpAny_mono h (fun v1 s1 h1 => spliced_cons (wpAny_mono h1 (fun v2 s2 h2 => spliced_nil h2) fun _ _ z => z)) fun _ _ z => z
theorem evB1 {x : Str} {C : String} {np pos : Pos} {e1 : Expr} {Q : Value → Shared → Prop} (T : Tp w s.heap) (e : nsIn (KK w) mainGlobals x = some none) (hv : bootBuiltins x = some (.builtin C))
    (h : wpAny (model prog w) A (eval e1 env) (fun v1 s1 => wpAny (model prog w) A (call (.builtin C) [v1]) Q E s1) E s)
    (hst : starEach [e1] env = [(false, eval e1 env)] := by rfl) (hn : x ≠ "__name__" := by decide)
    (hg : env.globals = mainGlobals := by rfl) (hb : env.builtins = builtinsNs := by rfl) (hk : env.scope.kind = .function := by rfl) (hx : env.kindOf x = some .globalImplicit := by rfl)
    (hd : (x == ("__debug__" : Str)) = false := by decide) :
    wpAny (model prog w) A (eval (.Call (.Name x np) [e1] [] pos) env) Q E s := by
  refine wpAny_Call_NameR (ldB T e hv ?_ hn hg hb hk hx hd)
  rw [hst]
  refine callWith_builtin (first := []) rfl (evalArgs_plain (spliced_cons ?_))
  exact wpAny_mono h (fun v1 s1 h1 => spliced_nil h1) fun _ _ z => z

theorem reG {α : Type} {M : Model} {mm : Sem α} {Q : α → Shared → Prop} (s : Shared) (h : Heap) (gens : Array GenState) (H : ∀ tk, wpAny M A mm Q E { s with heap := h, toks := tk, gens := gens }) {tk : Nat} :
    wpAny M A mm Q E { s with heap := h, toks := tk, gens := gens } := H tk

theorem range_ne_ns {h : Heap} {T L : Addr} {x l t : Int} {m : Str → Option Value} (y : IsRangeIter h T x l t) (z : h.Ns L m) : T ≠ L := fun e => by
  subst e; obtain ⟨o', es, ep, ho', hd', _⟩ := z
  rw [y] at ho'; cases ho'; cases hd'
theorem PlainL.ne_ns {h : Heap} {T L : Addr} {its : Array Value} {m : Str → Option Value} (y : PlainL h T its) (z : h.Ns L m) : T ≠ L := list_ne_ns y.isList z
theorem PlainL.ne_range {h : Heap} {T L : Addr} {its : Array Value} {x l t : Int} (y : PlainL h T its) (z : IsRangeIter h L x l t) : T ≠ L := fun e => by
  subst e; obtain ⟨o', n, ho', _, _, hd'⟩ := y
  rw [z] at ho'; cases ho'; cases hd'
theorem ne_of_none {h : Heap} {a b : Addr} {ob : Obj} (h1 : h.get? a = none) (h2 : h.get? b = some ob) : a ≠ b := fun e => by rw [e, h2] at h1; cases h1

set_option maxHeartbeats 4000000 in
theorem told_ok {B : Heap} {L G Lg a : Addr} {g : Nat} {o : Nat → Option Int} {m : Str → Option Value} {oL oG oA : Obj} {Q : Flow → Shared → Prop}
    (hh : A.handled = none) (hroom : A.depth + 3 < recursionLimit) (TB : Tp w B) (F : Fr B L s.heap m)
    (hno : ∀ i k, i ≤ k → o i = none → o k = none) (hpos : ∀ j z, o j = some z → 1 ≤ z ∧ z ≤ 4)
    (hmW : m "walk" = some (.ref a)) (GA : GenAt w A.in1.in1 B G Lg 6 o a g 0 s) (hbare : AllBare s.gens)
    (nL1 : L ≠ Lg) (nL2 : L ≠ G) (nL3 : L ≠ a) (nA : a ≠ Lg) (eL : s.heap.get? Lg = some oL) (eG : s.heap.get? G = some oG) (eA : s.heap.get? a = some oA)
    (hQ : ∀ h' tk gens' m' D tvs, Fr B L h' m' → m' "told" = some (.ref D) → h'.IsList D tvs.toArray → IntsAre tvs ((List.range 6).filterMap o) → m' "ending" = m "ending" → m' "script" = m "script" → AllBare gens' →
      (∀ b ob, b ≠ L → b ≠ Lg → ¬ IsItG G ob → s.heap.get? b = some ob → h'.get? b = some ob) → wpAny (model prog w) A (execs ((bodyAt w 89).drop 5) (lawEnv w L)) Q E { s with heap := h', toks := tk, gens := gens' }) :
    wpAny (model prog w) A (execs ((bodyAt w 89).drop 3) (lawEnv w L)) Q E s := by
  -- told = []
  refine wpAny_execs_cons (wpAny_Assign_Name (List_ (spliced_nil (wpAny_newList ?_))))
  have hp : Kp s.heap (s.heap.push { cls := .type "list", data := .seq ([] : List Value).toArray }) := fun b o e => Heap.get?_push_of_some _ e
  have hD₁ : PlainL (s.heap.push { cls := .type "list", data := .seq ([] : List Value).toArray }) s.heap.objs.size #[] := ⟨_, _, Heap.get?_push_size _ rfl, rfl, rfl, rfl⟩
  have nD := get_none (h := s.heap) (Nat.le_refl s.heap.objs.size)
  have nDLg := ne_of_none nD eL
  have nDG := ne_of_none nD eG
  have nDA := ne_of_none nD eA
  generalize s.heap.objs.size = D at *
  generalize s.heap.push { cls := .type "list", data := .seq ([] : List Value).toArray } = h₁ at *
  refine stS (Fr.kp F hp) fun h₂ tk₂ F₂ hs₂ => ?_
  have nDL := PlainL.ne_ns hD₁ (Fr.kp F hp).ns
  have hD₂ := hD₁.extBut hs₂.extBut nDL
  have GA₂ : GenAt w A.in1.in1 B G Lg 6 o a g 0 { s with heap := h₂, toks := tk₂ } := GenAt.ext (s := { s with heap := h₁, toks := tk₂ }) (GA.kp hp) hs₂.extBut nL1 nL2 (ns_not_it (Fr.kp F hp).ns) nL3
  have kk₂ : ∀ b ob, b ≠ L → s.heap.get? b = some ob → h₂.get? b = some ob := fun b ob hb e => hs₂.extBut b ob hb (hp _ _ e)
  show wpAny _ _ _ _ _ { s with heap := h₂, toks := tk₂ }
  have T₂ : Tp w h₂ := TB.keeps F₂.keep
  refine wpAny_execs_cons (wpAny_For (evRange T₂ (wpAny_Constant_int ⟨6, _, rfl, by omega, by omega, fun I h₃ tk₃ hit₃ nI k₃ => ?_⟩)))
  dsimp only at nI k₃
  have nIL : I ≠ L := range_ne_ns hit₃ (Fr.kp F₂ k₃).ns
  have nILg := ne_of_none nI (kk₂ _ _ (Ne.symm nL1) eL)
  have nIG := ne_of_none nI (kk₂ _ _ (Ne.symm nL2) eG)
  have nIA := ne_of_none nI (kk₂ _ _ (Ne.symm nL3) eA)
  have nDI : D ≠ I := PlainL.ne_range (hD₂.keeps k₃) hit₃
  have hBI : B.get? I = none := by
    cases e : B.get? I with
    | none => rfl
    | some ob => rw [F₂.keep _ _ e] at nI; cases nI
  have hBD : B.get? D = none := by
    cases e : B.get? D with
    | none => rfl
    | some ob => rw [F.keep _ _ e] at nD; cases nD
  have kk₃ : ∀ b ob, b ≠ L → s.heap.get? b = some ob → h₃.get? b = some ob := fun b ob hb e => k₃ _ _ (kk₂ b ob hb e)
  refine codeAny_forLoop (fun k s' => ∃ (j : Nat) (h' : Heap) (tk' : Nat) (gens' : Array GenState) (m' : Str → Option Value) (tvs : List Value), s' = { s with heap := h', toks := tk', gens := gens' } ∧ Fr B L h' m' ∧
    m' "told" = some (.ref D) ∧ m' "walk" = some (.ref a) ∧ m' "ending" = m "ending" ∧ m' "script" = m "script" ∧ PlainL h' D tvs.toArray ∧ IntsAre tvs ((List.range j).filterMap o) ∧ AllBare gens' ∧ IsRangeIter h' I j (6 - j) 1 ∧ j ≤ 6 ∧ k = 7 - j ∧
    (j < 6 → GenAt w A.in1.in1 B G Lg 6 o a g j { s with heap := h', toks := tk', gens := gens' }) ∧ (∀ b ob, b ≠ L → b ≠ Lg → b ≠ D → b ≠ I → ¬ IsItG G ob → h₃.get? b = some ob → h'.get? b = some ob)) ?turn 7
    ⟨0, h₃, tk₃, s.gens, _, [], rfl, Fr.kp F₂ k₃, rfl, hmW, rfl, rfl, hD₂.keeps k₃, .nil, hbare, by simpa using hit₃, Nat.zero_le _, rfl, fun _ => GenAt.kp (s := { s with heap := h₂, toks := tk₂ }) GA₂ k₃, fun _ _ _ _ _ _ _ e => e⟩
  rintro k _ ⟨j, h', tk', gens', m', tvs, rfl, F', e1, e2, e3, e4, hD', hI', hb', hit, hj, rfl, hGA, kk⟩
  rcases Nat.lt_or_ge j 6 with hlt | hge
  · have GA' := hGA hlt
    refine wpAny_pyNext_range_item hit (by omega) fun h₄ hit₄ hs₄ => ?_
    have F₄ := Fr.ext F' hs₄.extBut hBI nIL
    refine wpAny_assign_Name (stS F₄ fun h₅ tk₅ F₅ hs₅ => ?_)
    have GA₅ : GenAt w A.in1.in1 B G Lg 6 o a g j { s with heap := h₅, toks := tk₅, gens := gens' } :=
      GenAt.ext (s := { s with heap := h₄, toks := tk₅, gens := gens' }) (GenAt.ext (tk := tk₅) GA' hs₄.extBut nILg nIG (range_not_it hit) nIA) hs₅.extBut nL1 nL2 (ns_not_it F₄.ns) nL3
    have hD₅ := (hD'.extBut hs₄.extBut nDI).extBut hs₅.extBut nDL
    have hit₅ : IsRangeIter h₅ I (j + 1) (6 - j - 1) 1 := hs₅.extBut _ _ nIL hit₄
    have T₅ : Tp w h₅ := TB.keeps F₅.keep
    show wpAny _ _ _ _ _ { s with heap := h₅, toks := tk₅, gens := gens' }
    refine wpAny_execs_cons (wpAny_Assign_Name (evB2 (C := "next") T₅ rfl (by decide +kernel) (ldL F₅.ns e2 (wpAny_Constant_int ?_))))
    refine next_call (N := 6) (j := j) hh (by omega) hlt TB F₅.keep hno nA (GenAt.kp GA₅ (Kp.refl _)) fun v h₆ tk₆ gens₆ hv k₆ kB₆ hb₆ GA₆ => ?_
    have F₆ : Fr B L h₆ _ := ⟨F₅.ns.at' fun ob e => k₆ _ ob nL1 (ns_not_it F₅.ns ob e) e, kB₆, F₅.above⟩
    have hD₆ : PlainL h₆ D tvs.toArray := hD₅.at fun ob e => k₆ _ ob nDLg (list_not_it hD₅.isList ob e) e
    have hit₆ : IsRangeIter h₆ I (j + 1) (6 - j - 1) 1 := k₆ _ _ nILg (range_not_it hit₅ _ hit₅) hit₅
    refine stS F₆ fun h₇ tk₇ F₇ hs₇ => ?_
    have hD₇ := hD₆.extBut hs₇.extBut nDL
    have hit₇ : IsRangeIter h₇ I (j + 1) (6 - j - 1) 1 := hs₇.extBut _ _ nIL hit₆
    have GA₇ : j + 1 < 6 → GenAt w A.in1.in1 B G Lg 6 o a g (j + 1) { s with heap := h₇, toks := tk₇, gens := gens₆ } := fun hj1 =>
      GenAt.ext (s := { s with heap := h₆, toks := tk₆, gens := gens₆ }) (GA₆ hj1) hs₇.extBut nL1 nL2 (ns_not_it F₆.ns) nL3
    have kk₇ : ∀ b ob, b ≠ L → b ≠ Lg → b ≠ D → b ≠ I → ¬ IsItG G ob → h₃.get? b = some ob → h₇.get? b = some ob := fun b ob b1 b2 b3 b4 b5 e =>
      hs₇.extBut _ _ b1 (k₆ _ _ b2 b5 (hs₅.extBut _ _ b1 (hs₄.extBut _ _ b4 (kk b ob b1 b2 b3 b4 b5 e))))
    have T₇ : Tp w h₇ := TB.keeps F₇.keep
    have hrs : (List.range (j + 1)).filterMap o = (List.range j).filterMap o ++ (o j).toList := by
      rw [List.range_succ, List.filterMap_append]
      cases e : o j with
      | none => simp [List.filterMap_cons, e]
      | some z => simp [List.filterMap_cons, e]
    show wpAny _ _ _ _ _ { s with heap := h₇, toks := tk₇, gens := gens₆ }
    have ej : ((j : Int) + 1) = ((j + 1 : Nat) : Int) := by omega
    have ej2 : (6 - (j : Int) - 1) = 6 - ((j + 1 : Nat) : Int) := by omega
    rw [ej, ej2] at hit₇
    rcases hv with ⟨z, t, hz, rfl⟩ | ⟨hz, rfl⟩
    · have hz1 := hpos j z hz
      refine wpAny_execs_cons (wpAny_If (wpAny_isTrue_Compare1 (ldL F₇.ns rfl (wpAny_Constant_int (P.gt_int (wpAny_truthy_bool ?_))))))
      rw [decide_eq_true (show z > 0 by omega), if_pos rfl]
      refine reG s h₇ gens₆ fun tk₈ => ?_
      refine wpAny_execs_cons (wpAny_Expr (wpAny_Call_append rfl rfl rfl rfl (ldL F₇.ns e1 ⟨D, _, rfl, hD₇, ldL F₇.ns rfl (list_append_plainL hD₇ (fun h₈ hD₈ hs₈ => ?_) ?_)⟩)))
      · refine wpAny_execs_nil (wpAny_execs_nil ?_)
        have F₈ := Fr.ext F₇ hs₈.extBut hBD nDL
        refine ⟨7 - (j + 1), by omega, j + 1, h₈, tk₈, gens₆, _, tvs ++ [.int z t], rfl, F₈, e1, e2, e3, e4, by simpa using hD₈, ?_, hb₆ hb', hs₈.extBut _ _ (Ne.symm nDI) hit₇, hlt, rfl, fun hj1 => ?_, ?_⟩
        · rw [hrs, hz]; exact hI'.append (.cons z t .nil)
        · exact GenAt.ext (s := { s with heap := h₇, toks := tk₇, gens := gens₆ }) (GA₇ hj1) hs₈.extBut nDLg nDG (list_not_it hD₇.isList) nDA
        · exact fun b ob b1 b2 b3 b4 b5 e => hs₈.extBut _ _ b3 (kk₇ b ob b1 b2 b3 b4 b5 e)
      · have h1 := hI'.length
        have h2 : ((List.range j).filterMap o).length ≤ j := by
          have := List.length_filterMap_le o (List.range j)
          simpa using this
        rw [List.size_toArray, sizeLine_eq]; omega
    · refine wpAny_execs_cons (wpAny_If (wpAny_isTrue_Compare1 (ldL F₇.ns rfl (wpAny_Constant_int (P.gt_int (wpAny_truthy_bool ?_))))))
      rw [if_neg (by decide)]
      refine reG s h₇ gens₆ fun tk₈ => ?_
      refine wpAny_execs_nil (wpAny_execs_nil ?_)
      refine ⟨7 - (j + 1), by omega, j + 1, h₇, tk₈, gens₆, _, tvs, rfl, F₇, e1, e2, e3, e4, hD₇, ?_, hb₆ hb', hit₇, hlt, rfl, fun hj1 => GenAt.kp (s := { s with heap := h₇, toks := tk₇, gens := gens₆ }) (GA₇ hj1) (Kp.refl _), kk₇⟩
      rw [hrs, hz]; simpa using hI'
  · have hin : j = 6 := by omega
    subst hin
    refine wpAny_pyNext_range_end hh hit (by omega) fun h₄ hs₄ => wpAny_execs_nil ?_
    have F₄ := Fr.ext F' hs₄ hBI nIL
    refine hQ h₄ tk' gens' m' D tvs F₄ e1 (hD'.isList.extBut hs₄ nDI) hI' e3 e4 hb' fun b ob b1 b2 b3 e => ?_
    exact hs₄ _ _ (Ne.symm (ne_of_none nI (kk₂ _ _ b1 e))) (kk b ob b1 b2 (Ne.symm (ne_of_none nD e)) (Ne.symm (ne_of_none nI (kk₂ _ _ b1 e))) b3 (kk₃ _ _ b1 e))
end
end Mine

namespace Mine

def endF (S : List Int) (k : Int) : Int := (S.take (k + 1).toNat).sum + max (k + 1 - S.length) 0 * S.getD (S.length - 1) 0

theorem walks_lt {prog : Program} {w : World} {A : Around} {I : Addr} {fp wr : List Addr} {n : Nat} {P : Nat → Value → Prop} {St : Nat → Heap → Prop} (W : Walks prog w A I fp wr n P St) : Walks prog w A I fp wr n (fun i v => P i v ∧ i < n) St where
  sub := W.sub
  frame := W.frame
  item := fun i s Q E hi st hQ => W.item i s Q E hi st fun v h' tk hP st' hk => hQ v h' tk ⟨hP, hi⟩ st' hk
  done := W.done
  self := W.self
theorem ints_of_at : ∀ {ws : List Value} {ns : List Int}, ws.length = ns.length → (∀ (j : Nat) v, ws[j]? = some v → ∃ t, v = .int (ns.getD j 0) t) → IntsAre ws ns
  | [], [], _, _ => .nil
  | v :: ws, n :: ns, h, hv => by
    obtain ⟨t, rfl⟩ := hv 0 v rfl
    exact .cons n t (ints_of_at (by simpa using h) fun j v' hj => by simpa using hv (j + 1) v' (by simpa using hj))

section
variable {w : World} {A : Around} {E : Value → Shared → Prop} {s : Shared} {env : Env}

theorem sum_kp {l : Addr} {vs : List Value} {ns : List Int} {Q : Value → Shared → Prop} (hh : A.handled = none) (hl : s.heap.IsList l vs.toArray) (hi : IntsAre vs ns)
    (h : ∀ h' tk t', Kp s.heap h' → Q (.int ns.sum t') { s with heap := h', toks := tk }) : wpAny (model prog w) A (call (.builtin "sum") [.ref l]) Q E s := by
  obtain ⟨xs, hx⟩ := hi.allInts.items
  refine sum_intListG hh (show s.heap.IsList l (intItems xs) from hx ▸ hl) fun h' tk t' hk => ?_
  have e1 : ns = xs.toList.map (·.1) := by
    rw [← nums_intItems, ← hx]
    exact (show numsOf vs.toArray.toList = ns from hi.numsOf).symm
  rw [preSum_eq, List.take_of_length_le (by simp), ← e1]
  exact h h' tk t' hk

theorem comp_range {elt : Expr} {x y : Str} {px py rp cp rpos pos spos : Pos} {it : Str} {scope : Scope} {cl : List (Str × Addr)} {m : Str → Option Value} {n : Int} {tn : Tok} {f : Int → Int} {h₀ : Heap} {Q : Flow → Shared → Prop}
    (hh : A.handled = none) (T : Tp w s.heap) (F : Fr h₀ env.locals s.heap m) (hm : m it = some (.int n tn)) (hn0 : 0 ≤ n) (hn1 : n ≤ 1000)
    (helt : ∀ C z t (s₃ : Shared) m₃ E', 0 ≤ z → z < n → s₃.heap.Ns C m₃ → m₃ x = some (.int z t) → Kp s.heap s₃.heap → wpAny (model prog w) A (eval elt (compEnvC scope cl C env)) (fun v s₄ => (∃ t, v = .int (f z) t) ∧ Keeps s₃ s₄) E' s₃)
    (hQ : ∀ D h' tk us, h'.IsList D us.toArray → IntsAre us ((List.range n.toNat).map fun k : Nat => f (k : Int)) → Fr h₀ env.locals h' (fun z => if z = y then some (.ref D) else m z) → (∀ b o, b ≠ env.locals → s.heap.get? b = some o → h'.get? b = some o) → Q .next { s with heap := h', toks := tk })
    (hsw : swapsWith (.ListComp elt [⟨.Name x px, .Call (.Name "range" rp) [.Name it cp] [] rpos, [], 0⟩] scope pos) (some (.Name y py)) spos.line env = pure true := by rfl)
    (hclos : closureFor scope env = pure cl := by rfl) (hcell : ∀ y ∈ scope.names, y.2 ≠ .cell := by decide) (hkind : scope.kind = .function := by rfl)
    (hnames : ∀ y ∈ scope.names, y.2 = .local → scope.names.lookup y.1 = some .local := by decide) (hx : scope.names.lookup x = some .local := by rfl)
    (hy : env.kindOf y = some .local := by rfl) (hpl : (env.scope.kind == .class || (env.scope.kind == .module && env.locals != env.globals)) = false := by rfl)
    (hg : env.globals = mainGlobals := by rfl) (hb : env.builtins = builtinsNs := by rfl) (hk : env.scope.kind = .function := by rfl) (hr : env.kindOf "range" = some .globalImplicit := by rfl) (hli : env.kindOf it = some .local := by rfl) (hd : (it == ("__debug__" : Str)) = false := by decide) :
    wpAny (model prog w) A (exec (.Assign [.Name y py] (.ListComp elt [⟨.Name x px, .Call (.Name "range" rp) [.Name it cp] [] rpos, [], 0⟩] scope pos) spos) env) Q E s := by
  refine wpAny_Assign_ListComp_free (fun _ => true) (fun v y => ∀ z t, v = Value.int z t → ∃ t', y = .int (f z) t') hsw hclos hcell hkind hnames hx hy hpl (evRange T (ldL F.ns hm ⟨n, tn, rfl, hn0, hn1, fun I h₁ tk₁ hit nI k₁ => ?_⟩ hk hli hd) rfl hg hb hk hr)
  have hIn : ∀ b o, s.heap.get? b = some o → b ∉ [I] := fun b o e hb => by
    rw [List.mem_singleton] at hb; subst hb; rw [nI] at e; cases e
  have eL : ∃ o, s.heap.get? env.locals = some o := let ⟨o, _, _, e, _⟩ := F.ns; ⟨o, e⟩
  refine ⟨I, [I], [I], n.toNat, _, _, m, rfl, walks_lt (Walks.range hh I 0 1 n.toNat), ?_, ?_, ?_, ?_, F.ns.keeps k₁, ⟨?_, ?_⟩, ?_⟩
  · rw [sizeLine_eq]; omega
  · have e1 : (0 + ((0 : Nat) : Int) * 1) = 0 := by simp
    have e2 : ((n.toNat : Int) - ((0 : Nat) : Int)) = n := by omega
    rw [e1, e2]; exact hit
  · intro b hb
    rw [List.mem_singleton] at hb; subst hb
    exact Heap.lt_size hit
  · intro hb
    obtain ⟨o, e⟩ := eL
    exact hIn _ o e hb
  · intro C i v s₃ m₃ E' _ _ _ _ _ _
    exact wpAny_pure ⟨rfl, keeps_refl _⟩
  · intro C i v s₃ m₃ E' hC hP hp hn₃ hm₃ hk₃ _
    obtain ⟨⟨t, rfl⟩, hi⟩ := hP
    have e0 : (0 + (i : Int) * 1) = (i : Int) := by omega
    rw [e0] at hm₃ ⊢
    refine wpAny_mono (helt C (i : Int) t s₃ m₃ E' (by omega) (by omega) hn₃ hm₃ fun b o e => hk₃ b o (hIn b o e) (k₁ b o e)) (fun y s₄ h₄ => ⟨?_, h₄.2⟩) fun _ _ e => e
    rintro z' t' h
    cases h; exact h₄.1
  · intro D h' tk ys ws hD hlD _ hlw hPw hF hn' hk'
    have hIw : IntsAre ws ((List.range n.toNat).map fun k : Nat => (k : Int)) := by
      refine ints_of_at (by simpa using hlw) fun j v hj => ?_
      obtain ⟨⟨t, rfl⟩, hjn⟩ := hPw j v hj
      exact ⟨t, by simp [hjn]⟩
    rw [List.filter_eq_self.mpr (by simp)] at hF
    have kk : ∀ b o, b ≠ env.locals → s.heap.get? b = some o → h'.get? b = some o := fun b o hb e => hk' b o hb (hIn b o e) (k₁ b o e)
    have hU := paired_ints hIw hF
    rw [List.map_map] at hU
    exact hQ D h' tk ys.toList (by simpa using hlD) hU ⟨hn', fun b o e => kk b o (Fr.ne F e) (F.keep b o e), F.above⟩ kk

/-- sum(script[::2]), sum(script[1::2]) -/
theorem slice_step {value st : Expr} {lower upper : Option Expr} {p pos : Pos} {l : Addr} {vs : List Value} {ns : List Int} {lo hi : Option Int} {k : Int} {Q : Value → Shared → Prop}
    (hsz : vs.length ≤ 1000) (hI : IntsAre vs ns) (hk : k ≠ 0)
    (h : wpAny (model prog w) A (eval value env) (fun o s₁ => wpAny (model prog w) A (evalPart lower env) (fun vl s₂ => wpAny (model prog w) A (evalPart upper env) (fun vu s₃ => wpAny (model prog w) A (evalPart (some st) env) (fun vt s₄ =>
      o = .ref l ∧ s₄.heap.IsList l vs.toArray ∧ IsPart vl lo ∧ IsPart vu hi ∧ IsPart vt (some k) ∧
        ∀ D h' us, h'.IsList D us.toArray → IntsAre us (pickNums ns lo hi (some k)) → Kp s₄.heap h' → Q (.ref D) { s₄ with heap := h' }) E s₃) E s₂) E s₁) E s)
    (ht : ∀ o r, letTemporaryGo value o r = pure () := by intro _ _; rfl) :
    wpAny (model prog w) A (eval (.Subscript value (.Slice lower upper (some st) p) pos) env) Q E s := by
  refine wpAny_Subscript_Slice_step (T := "list") list_getitem_lookup (wpAny_mono h (fun o s₁ h₁ => wpAny_Slice (wpAny_mono h₁ (fun vl s₂ h₂ => wpAny_mono h₂ (fun vu s₃ h₃ => wpAny_mono h₃ (fun vt s₄ h₄ => ?_) fun _ _ e => e) fun _ _ e => e) fun _ _ e => e)) fun _ _ e => e) ht
  obtain ⟨rfl, hl, pl, pu, pt, hQ⟩ := h₄
  refine ⟨(hl.push _).typeIs, wpAny_getItem_list_slice (hl.push _) (Heap.IsSliceOf.new ..) pl pu pt (by simpa using hk) ?_ (by rw [List.size_toArray, sizeLine_eq]; omega)⟩
  refine hQ _ _ (slicePick vs.toArray lo hi (some k)).toList ⟨_, Heap.get?_push_size _ rfl, rfl, 0, by simp⟩ (hI.pick lo hi (some k)) fun b o e => Heap.get?_push_of_some _ (Heap.get?_push_of_some _ e)

set_option maxHeartbeats 4000000 in
theorem ends_ok {B : Heap} {L Sz l : Addr} {m : Str → Option Value} {svs vs : List Value} {S ns : List Int} {e : Int} {te : Tok} {Q : Flow → Shared → Prop}
    (hh : A.handled = none) (hroom : A.depth + 3 < recursionLimit) (TB : Tp w B) (F : Fr B L s.heap m)
    (hc : s.heap.IsCell (L + 1 + 1) (some (.ref Sz))) (hS : s.heap.IsList Sz svs.toArray) (hSI : IntsAre svs S) (hS0 : 0 < S.length) (hS5 : S.length ≤ 5) (hSz : ∀ z ∈ S, 1 ≤ z ∧ z ≤ 4)
    (hmE : m "ending" = some (.int e te)) (hmS : m "script" = some (.ref l)) (hl : B.IsList l vs.toArray) (hI : IntsAre vs ns) (hv : vs.length ≤ 63)
    (hQ : ∀ h' tk m' En evs a b, Fr B L h' m' → m' "told" = m "told" → m' "ends" = some (.ref En) → h'.IsList En evs.toArray → IntsAre evs ((List.range (if e = 0 then 6 else S.length)).map fun k : Nat => endF S (k : Int)) →
      HasI m' "a" (cut a) → HasI m' "b" (cut b) → (∀ b o, b ≠ L → s.heap.get? b = some o → h'.get? b = some o) → wpAny (model prog w) A (execs ((bodyAt w 89).drop 9) (lawEnv w L)) Q E { s with heap := h', toks := tk }) :
    wpAny (model prog w) A (execs ((bodyAt w 89).drop 5) (lawEnv w L)) Q E s := by
  have hsl : svs.length = S.length := hSI.length
  have T : Tp w s.heap := TB.keeps F.keep
  have hSL := list_ne_ns hS F.ns
  -- count
  have key : ∀ (s₁ : Shared) (c : Int) (tc : Tok), s₁ = { s with toks := s₁.toks } → c = ((if e = 0 then 6 else S.length : Nat) : Int) →
      wpAny (model prog w) A (storeName (lawEnv w L) "count" (.int c tc)) (fun _ s' => wpAny (model prog w) A (execs ((bodyAt w 89).drop 6) (lawEnv w L)) Q E s') E s₁ := by
    rintro s₁ c tc hs₁ rfl
    rw [hs₁]
    refine stS F fun h₂ tk₂ F₂ hs₂ => ?_
    have cL2 : L + 1 + 1 ≠ L := ne2 L
    have kk₂ : ∀ b o, b ≠ L → s.heap.get? b = some o → h₂.get? b = some o := fun b o hb e => hs₂.extBut b o hb e
    have hc₂ : h₂.IsCell (L + 1 + 1) (some (.ref Sz)) := cell_at hc fun o e => kk₂ _ o cL2 e
    have hS₂ : h₂.IsList Sz svs.toArray := hS.at fun o e => kk₂ _ o hSL e
    have T₂ : Tp w h₂ := TB.keeps F₂.keep
    show wpAny _ _ _ _ _ { s with heap := h₂, toks := tk₂ }
    have hbd : (0 : Int) ≤ ((if e = 0 then 6 else S.length : Nat) : Int) ∧ ((if e = 0 then 6 else S.length : Nat) : Int) ≤ 6 := by split <;> omega
    -- ends
    refine wpAny_execs_cons (comp_range (f := endF S) hh T₂ F₂ (if_pos rfl) hbd.1 (by omega) ?el fun En h₃ tk₃ evs hEn hU F₃ k₃ => ?_)
    case el =>
      intro C z t s₃ m₃ E' hz0 hz1 hn₃ hm₃ k₃
      have T₃ := T₂.keeps k₃
      have hc₃ := hc₂.keeps k₃
      have hS₃ : s₃.heap.IsList Sz svs.toArray := hS₂.at fun o e => k₃ _ o e
      refine wpAny_BinOp (evB1 (C := "sum") T₃ rfl (by decide +kernel) (wpAny_Subscript_list_slice (ldC hc₃ (wpAny_evalPart_none (wpAny_evalPart_some (wpAny_BinOp (ldL hn₃ hm₃ (wpAny_Constant_int (P.add_int ?_)))))))))
      refine ⟨Sz, svs.toArray, none, some (z + 1), rfl, hS₃, by rw [List.size_toArray, sizeLine_eq]; omega, .none, .int _ _, ?_⟩
      have kp : Kp s₃.heap ((s₃.heap.push { cls := .type "slice", data := .fields #[.none, .int (z + 1) (s₃.toks + 1), .none] }).push { cls := .type "list", data := .seq (slicePick svs.toArray none (some (z + 1)) none) }) :=
        fun b o e => Heap.get?_push_of_some _ (Heap.get?_push_of_some _ e)
      refine sum_kp (vs := (slicePick svs.toArray none (some (z + 1)) none).toList) hh ⟨_, by rw [← Heap.size_push]; exact Heap.get?_push_size _ rfl, rfl, 0, by simp⟩ (slice_ints_uptoW hSI (by omega)) fun h₄ tk₄ t₄ k₄ => ?_
      have k₅ : Kp s₃.heap h₄ := kp.trans k₄
      refine re s₃ h₄ fun tk₄ => ?_
      have hc₄ := hc₃.keeps k₅
      have hS₄ : h₄.IsList Sz svs.toArray := hS₃.at fun o e => k₅ _ o e
      have T₄ := T₃.keeps k₅
      have hn₄ := hn₃.keeps k₅
      refine wpAny_BinOp (evB2 (C := "max") T₄ rfl (by decide +kernel) ?_)
      refine wpAny_BinOp (wpAny_BinOp (ldL hn₄ hm₃ (wpAny_Constant_int (P.add_int ?_))))
      refine evB1 (C := "len") T₄ rfl (by decide +kernel) (ldC hc₄ (call_len_list hS₄ (by rw [List.size_toArray]; omega) ?_))
      refine P.sub_int (wpAny_Constant_int ?_)
      refine re s₃ h₄ fun tk₄ => ?_
      refine max_two_ints hh fun h₆ tk₆ k₆ => ?_
      have hc₆ := hc₄.keeps k₆
      have hS₆ : h₆.IsList Sz svs.toArray := hS₄.at fun o e => k₆ _ o e
      refine re s₃ h₆ fun tk₆ => ?_
      have emax : ∀ (x : Int) (t u : Tok), ∃ t', (if (0 : Int) > x then Value.int 0 u else .int x t) = .int (max x 0) t' := fun x t u => by
        by_cases c : (0 : Int) > x
        · exact ⟨u, by rw [if_pos c, Int.max_eq_right (by omega)]⟩
        · exact ⟨t, by rw [if_neg c, Int.max_eq_left (by omega)]⟩
      obtain ⟨tm, em⟩ := emax (z + 1 - (svs.toArray.size : Int)) _ _
      rw [em]
      refine Subscript_ (ldC hc₆ (wpAny_UnaryOp (wpAny_Constant_int (P.neg_int ?_))))
      obtain ⟨tl, hlast⟩ := hSI.get (S.length - 1) (S.getD (S.length - 1) 0) (by rw [List.getD_eq_getElem?_getD, List.getElem?_eq_getElem (by omega)]; rfl)
      have hz4 := hSz (S.getD (S.length - 1) 0) (by rw [List.getD_eq_getElem?_getD, List.getElem?_eq_getElem (by omega)]; exact List.getElem_mem _)
      refine subscriptTail_builtin hS₆.typeIs slot_list_getitem.lookup (wpAny_getItem_list_neg (x := .int (S.getD (S.length - 1) 0) tl) hS₆ (by decide) (by rw [List.size_toArray]; omega) (by decide) ?_ ?_)
      · rw [List.size_toArray, hsl, show (-(1 : Int) + (S.length : Int)).toNat = S.length - 1 by omega]
        simpa using hlast
      rw [List.size_toArray, hsl]
      refine P.mul_int (P.add_int ?_) (mulOk (by omega) (by omega))
      exact ⟨⟨_, rfl⟩, _, _, rfl, k₅.trans k₆⟩
    have kk₃ : ∀ b o, b ≠ L → s.heap.get? b = some o → h₃.get? b = some o := fun b o hb e => k₃ b o hb (kk₂ b o hb e)
    rw [Int.toNat_natCast] at hU
    show wpAny _ _ _ _ _ { s with heap := h₃, toks := tk₃ }
    have T₃ : Tp w h₃ := TB.keeps F₃.keep
    have hl₃ : h₃.IsList l vs.toArray := hl.at fun o e => F₃.keep _ o e
    have hEL := list_ne_ns hEn F₃.ns
    -- a
    refine wpAny_execs_cons (wpAny_Assign_Name (evCall1 T₃ rfl rfl (evB1 (C := "sum") T₃ rfl (by decide +kernel) (slice_step (l := l) (vs := vs) (lo := none) (hi := none) (k := 2) (by omega) hI (by decide) (ldL F₃.ns hmS (wpAny_evalPart_none (wpAny_evalPart_none (wpAny_evalPart_some (wpAny_Constant_int
      ⟨rfl, hl₃, .none, .none, .int _ _, fun D₄ h₄ us₄ hD₄ hU₄ k₄ => ?_⟩)))))))))
    refine sum_kp hh hD₄ hU₄ fun h₅ tk₅ t₅ k₅ => ⟨T₃.keeps (k₄.trans k₅), cut_call (T₃.keeps (k₄.trans k₅)) (by omega) fun h₆ tk₆ t₆ k₆ => ?_⟩
    have F₆ := Fr.kp F₃ ((k₄.trans k₅).trans k₆)
    refine stS F₆ fun h₇ tk₇ F₇ hs₇ => ?_
    have kk₇ : ∀ b o, b ≠ L → h₃.get? b = some o → h₇.get? b = some o := fun b o hb e => hs₇.extBut b o hb (k₆ _ _ (k₅ _ _ (k₄ _ _ e)))
    show wpAny _ _ _ _ _ { s with heap := h₇, toks := tk₇ }
    have T₇ : Tp w h₇ := TB.keeps F₇.keep
    have hl₇ : h₇.IsList l vs.toArray := hl.at fun o e => F₇.keep _ o e
    clear k₄ k₅ k₆ hs₇ hD₄ hU₄ F₆
    -- b
    refine wpAny_execs_cons (wpAny_Assign_Name (evCall1 T₇ rfl rfl (evB1 (C := "sum") T₇ rfl (by decide +kernel) (slice_step (l := l) (vs := vs) (lo := some 1) (hi := none) (k := 2) (by omega) hI (by decide) (ldL F₇.ns hmS (wpAny_evalPart_some (wpAny_Constant_int (wpAny_evalPart_none (wpAny_evalPart_some (wpAny_Constant_int
      ⟨rfl, hl₇, .int _ _, .none, .int _ _, fun D₄ h₄ us₄ hD₄ hU₄ k₄ => ?_⟩))))))))))
    refine sum_kp hh hD₄ hU₄ fun h₈ tk₈ t₈ k₈ => ⟨T₇.keeps (k₄.trans k₈), cut_call (T₇.keeps (k₄.trans k₈)) (by omega) fun h₉ tk₉ t₉ k₉ => ?_⟩
    have F₉ := Fr.kp F₇ ((k₄.trans k₈).trans k₉)
    refine stS F₉ fun h₁₀ tk₁₀ F₁₀ hs₁₀ => ?_
    have kk₁₀ : ∀ b o, b ≠ L → h₃.get? b = some o → h₁₀.get? b = some o := fun b o hb e => hs₁₀.extBut b o hb (k₉ _ _ (k₈ _ _ (k₄ _ _ (kk₇ b o hb e))))
    show wpAny _ _ _ _ _ { s with heap := h₁₀, toks := tk₁₀ }
    exact hQ h₁₀ tk₁₀ _ En evs _ _ F₁₀ rfl rfl (hEn.at fun o e => kk₁₀ _ o hEL e) hU ⟨_, rfl⟩ ⟨_, rfl⟩ fun b o hb e => kk₁₀ b o hb (kk₃ b o hb e)
  refine wpAny_execs_cons (wpAny_Assign_Name (wpAny_IfExp (wpAny_isTrue_Compare1 (ldL F.ns hmE (wpAny_Constant_int (P.eq_int (wpAny_truthy_bool ?_)))))))
  by_cases he : e = 0
  · rw [show (e == 0) = true by simpa using he, if_pos rfl]
    refine wpAny_Constant_int (key _ _ _ rfl ?_)
    rw [if_pos he]; rfl
  · rw [show (e == 0) = false by simpa using he, if_neg (by decide)]
    refine evB1 (C := "len") T rfl (by decide +kernel) (ldC hc (call_len_list hS (by rw [List.size_toArray]; omega) (key _ _ _ rfl ?_)))
    rw [if_neg he, List.size_toArray, hsl]
end
end Mine

namespace Mine
section
variable {w : World} {A : Around} {E : Value → Shared → Prop} {s : Shared} {env : Env}

theorem concat {l b : Addr} {vs us : List Value} {Q : Value → Shared → Prop} (hl : s.heap.IsList l vs.toArray) (hb : s.heap.IsList b us.toArray) (hsz : vs.length + us.length ≤ 1000)
    (h : ∀ D h', s.heap.get? D = none → h'.IsList D (vs ++ us).toArray → Kp s.heap h' → Q (.ref D) { s with heap := h' }) :
    wpAny (model prog w) A (binaryOp .Add (.ref l) (.ref b)) Q E s := by
  obtain ⟨⟨cls, dd, data, sl⟩, ho, hc, n, hd⟩ := id hl
  obtain ⟨⟨cls2, dd2, data2, sl2⟩, ho2, hc2, n2, hd2⟩ := id hb
  simp only at hc hd hc2 hd2
  subst hc hd hc2 hd2
  refine concat_meets ⟨_, ho, rfl⟩ ⟨_, ho2, rfl⟩ noFill_list_add seq_list_add PySem.F.slot_list_add PySem.F.entry_list_add (PySem.F.args_list_add_2 _ _)
    (list_addW l b vs.toArray us.toArray n n2 dd dd2 sl sl2 (by simp only [List.size_toArray, sizeLine_eq]; omega)) ⟨ho, ho2, ?_⟩
  exact h _ _ (get_none (Nat.le_refl _)) ⟨_, Heap.get?_push_size _ rfl, rfl, 0, by simp⟩ fun b o e => Heap.get?_push_of_some _ e

theorem comp_iter {elt iter : Expr} {x : Str} {px pos : Pos} {scope : Scope} {cl : List (Str × Addr)} {f : Int → Int} {Q : Value → Shared → Prop}
    (hh : A.handled = none)
    (h : wpAny (model prog w) A (eval iter env) (fun v s₁ => ∃ l vs ns, v = .ref l ∧ s₁.heap.IsList l vs.toArray ∧ IntsAre vs ns ∧ ns.length ≤ 1000 ∧
      (∀ C z t (s₃ : Shared) m₃ E', z ∈ ns → s₃.heap.Ns C m₃ → m₃ x = some (.int z t) → Kp s₁.heap s₃.heap → wpAny (model prog w) A (eval elt (compEnvC scope cl C env)) (fun v s₄ => (∃ t, v = .int (f z) t) ∧ Keeps s₃ s₄) E' s₃) ∧
      (∀ D h' tk us, h'.IsList D us.toArray → IntsAre us (ns.map f) → Kp s₁.heap h' → Q (.ref D) { s₁ with heap := h', toks := tk })) E s)
    (hs : ∀ x, foldedSetIterable iter env x = pure x := by intro _; rfl)
    (hclos : closureFor scope env = pure cl := by rfl) (hcell : ∀ y ∈ scope.names, y.2 ≠ .cell := by decide) (hkind : scope.kind = .function := by rfl)
    (hnames : ∀ y ∈ scope.names, y.2 = .local → scope.names.lookup y.1 = some .local := by decide) (hx : scope.names.lookup x = some .local := by rfl) :
    wpAny (model prog w) A (eval (.ListComp elt [⟨.Name x px, iter, [], 0⟩] scope pos) env) Q E s := by
  refine wpAny_ListComp_free (fun _ => true) (fun v y => ∀ z t, v = Value.int z t → ∃ t', y = .int (f z) t') hclos hcell hkind hnames hx (wpAny_mono h (fun v s h₁ => ?_) fun _ _ e => e) hs
  obtain ⟨l, vs, ns, rfl, hl, hI, hlen, helt, hQ⟩ := h₁
  refine wpAny_pyIter_list hl ?_
  have hp : Kp s.heap (s.heap.push { cls := .type "list_iterator", data := .fields #[.ref l, .int 0 0] }) := fun b o e => Heap.get?_push_of_some _ e
  have hlt : l < s.heap.objs.size := let ⟨_, e, _⟩ := hl; Heap.lt_size e
  have hIn : ∀ b o, s.heap.get? b = some o → b ∉ [s.heap.objs.size] := fun b o e hb => by
    rw [List.mem_singleton] at hb; subst hb; exact absurd (Heap.lt_size e) (Nat.lt_irrefl _)
  refine ⟨_, _, _, _, _, _, rfl, Walks.list hh s.heap.objs.size l (Nat.ne_of_lt hlt) vs.toArray, ?_, ⟨⟨_, Heap.get?_push_size _ rfl, rfl, rfl⟩, hl.at fun o e => hp _ o e⟩, ?_, ⟨?_, ?_⟩, ?_⟩
  · rw [List.size_toArray, hI.length, sizeLine_eq]; omega
  · intro b hb
    simp only [List.mem_cons, List.not_mem_nil, or_false] at hb
    rw [Heap.size_push]
    rcases hb with rfl | rfl
    · exact Nat.lt_succ_self _
    · exact Nat.lt_succ_of_lt hlt
  · intro C i v s₃ m₃ E' _ _ _ _ _ _
    exact wpAny_pure ⟨rfl, keeps_refl _⟩
  · intro C i v s₃ m₃ E' hC hP _ hn₃ hm₃ hk₃ _
    obtain ⟨z, t, rfl, hz⟩ := hI.at i v (by simpa using hP)
    refine wpAny_mono (helt C z t s₃ m₃ E' (List.mem_of_getElem? hz) hn₃ hm₃ fun b o e => hk₃ b o (hIn b o e) (hp b o e)) (fun y s₄ h₄ => ⟨?_, h₄.2⟩) fun _ _ e => e
    rintro z' t' h
    cases h; exact h₄.1
  · intro D h' tk ys ws hD hlD _ hlw hPw hF hk'
    have e : ws = vs := vs_eq (by simpa using hlw) fun j v hj => by simpa using hPw j v hj
    subst e
    rw [List.filter_eq_self.mpr (by simp)] at hF
    exact hQ D h' tk ys.toList (by simpa using hlD) (paired_ints hI hF) fun b o e => hk' b o (hIn b o e) (hp b o e)

theorem pick15_len {vs : List Value} {ns : List Int} (h : IntsAre vs ns) : (pickNums ns (some 1) (some 5) none).length ≤ 4 := by
  have h1 := (h.pick (some 1) (some 5) none).length
  rw [slicePick_plain] at h1
  simp only [Option.elim, show (1 : Int) = ((1 : Nat) : Int) from rfl, show (5 : Int) = ((5 : Nat) : Int) from rfl, clipAt_nat, List.length_take] at h1
  have h1 : (pickNums ns (some 1) (some 5) none).length ≤ min 5 vs.toArray.size - min 1 vs.toArray.size := by
    rw [← show _ = (pickNums ns (some 1) (some 5) none).length from h1]; exact Nat.min_le_left _ _
  omega

theorem evTup3 {e1 e2 e3 : Expr} {k : Nat} {pos : Pos} {Q : Value → Shared → Prop}
    (h : wpAny (model prog w) A (eval e1 env) (fun v1 s1 => wpAny (model prog w) A (eval e2 env) (fun v2 s2 => wpAny (model prog w) A (eval e3 env) (fun v3 s3 =>
      ∀ D h', h'.IsTuple D #[v1, v2, v3] → Kp s3.heap h' → Q (.ref D) { s3 with heap := h' }) E s2) E s1) E s)
    (hst : starEach [e1, e2, e3] env = [(false, eval e1 env), (false, eval e2 env), (false, eval e3 env)] := by rfl) :
    wpAny (model prog w) A (eval (.Tuple [e1, e2, e3] k pos) env) Q E s := by
  refine Tuple_ ?_
  rw [hst]
  refine spliced_cons (wpAny_mono h (fun v1 s1 h1 => spliced_cons (wpAny_mono h1 (fun v2 s2 h2 => spliced_cons (wpAny_mono h2 (fun v3 s3 h3 => spliced_nil (wpAny_newTuple ?_)) fun _ _ z => z)) fun _ _ z => z)) fun _ _ z => z)
  exact h3 _ _ ⟨_, Heap.get?_push_size _ rfl, rfl, _, rfl⟩ fun b o e => Heap.get?_push_of_some _ e
theorem evList0 {pos : Pos} {Q : Value → Shared → Prop} (h : ∀ D h', h'.IsList D ([] : List Value).toArray → Kp s.heap h' → Q (.ref D) { s with heap := h' }) : wpAny (model prog w) A (eval (.List [] pos) env) Q E s :=
  List_ (spliced_nil (wpAny_newList (h _ _ ⟨_, Heap.get?_push_size _ rfl, rfl, _, rfl⟩ fun b o e => Heap.get?_push_of_some _ e)))
theorem evList1 {e1 : Expr} {pos : Pos} {Q : Value → Shared → Prop}
    (h : wpAny (model prog w) A (eval e1 env) (fun v1 s1 => ∀ D h', h'.IsList D [v1].toArray → Kp s1.heap h' → Q (.ref D) { s1 with heap := h' }) E s)
    (hst : starEach [e1] env = [(false, eval e1 env)] := by rfl) : wpAny (model prog w) A (eval (.List [e1] pos) env) Q E s := by
  refine List_ ?_
  rw [hst]
  refine spliced_cons (wpAny_mono h (fun v1 s1 h1 => spliced_nil (wpAny_newList ?_)) fun _ _ z => z)
  exact h1 _ _ ⟨_, Heap.get?_push_size _ rfl, rfl, _, rfl⟩ fun b o e => Heap.get?_push_of_some _ e
theorem evList2 {e1 e2 : Expr} {pos : Pos} {Q : Value → Shared → Prop}
    (h : wpAny (model prog w) A (eval e1 env) (fun v1 s1 => wpAny (model prog w) A (eval e2 env) (fun v2 s2 => ∀ D h', h'.IsList D [v1, v2].toArray → Kp s2.heap h' → Q (.ref D) { s2 with heap := h' }) E s1) E s)
    (hst : starEach [e1, e2] env = [(false, eval e1 env), (false, eval e2 env)] := by rfl) : wpAny (model prog w) A (eval (.List [e1, e2] pos) env) Q E s := by
  refine List_ ?_
  rw [hst]
  refine spliced_cons (wpAny_mono h (fun v1 s1 h1 => spliced_cons (wpAny_mono h1 (fun v2 s2 h2 => spliced_nil (wpAny_newList ?_)) fun _ _ z => z)) fun _ _ z => z)
  exact h2 _ _ ⟨_, Heap.get?_push_size _ rfl, rfl, _, rfl⟩ fun b o e => Heap.get?_push_of_some _ e
end
end Mine

namespace Mine

/-- what the generator hands out -/
def outF (S : List Int) (e : Int) (j : Nat) : Option Int := if j < S.length then S[j]? else if e = 0 then some (S.getD (S.length - 1) 0) else none
theorem outF_none {S : List Int} {e : Int} (i k : Nat) (hik : i ≤ k) (h : outF S e i = none) : outF S e k = none := by
  unfold outF at h ⊢
  by_cases hi : i < S.length
  · rw [if_pos hi, List.getElem?_eq_getElem hi] at h; cases h
  · rw [if_neg hi] at h
    by_cases he : e = 0
    · rw [if_pos he] at h; cases h
    · rw [if_neg (by omega), if_neg he]
theorem outF_pos {S : List Int} {e : Int} (h0 : 0 < S.length) (hS : ∀ z ∈ S, 1 ≤ z ∧ z ≤ 4) (j : Nat) (z : Int) (h : outF S e j = some z) : 1 ≤ z ∧ z ≤ 4 := by
  unfold outF at h
  split at h
  · exact hS z (List.mem_of_getElem? h)
  · split at h
    · cases h
      rw [List.getD_eq_getElem?_getD, List.getElem?_eq_getElem (by omega)]
      exact hS _ (List.getElem_mem _)
    · cases h

section
variable {w : World} {A : Around} {E : Value → Shared → Prop} {s : Shared} {env : Env}

set_option maxHeartbeats 4000000 in
theorem start_ok {B : Heap} {L l : Addr} {m : Str → Option Value} {vs : List Value} {ns : List Int} {v1 v2 v3 : Option Value} {Q : Flow → Shared → Prop}
    (hh : A.handled = none) (hu : A.units + 64 < cLine) (hroom : A.depth + 3 < recursionLimit) (TB : Tp w B) (F : Fr B L s.heap m) (hB2 : B.get? (L + 1 + 1) = none)
    (hcx : s.heap.IsCell (L + 1) v1) (hc : s.heap.IsCell (L + 1 + 1) v2) (hcy : s.heap.IsCell (L + 1 + 1 + 1) v3) (hmS : m "script" = some (.ref l)) (hl : B.IsList l vs.toArray) (hI : IntsAre vs ns) (hv : vs.length ≤ 63) (hbare : AllBare s.gens)
    (hQ : ∀ h' tk gens' m' Sz svs S e te a g G Lg oL oG oA, Fr B L h' m' → h'.IsCell (L + 1 + 1) (some (.ref Sz)) → h'.IsList Sz svs.toArray → IntsAre svs S → 0 < S.length → S.length ≤ 5 → (∀ z ∈ S, 1 ≤ z ∧ z ≤ 4) →
      m' "ending" = some (.int e te) → m' "script" = some (.ref l) → m' "walk" = some (.ref a) → GenAt w A.in1.in1 B G Lg 6 (outF S e) a g 0 { s with heap := h', toks := tk, gens := gens' } → AllBare gens' →
      L ≠ Lg → L ≠ G → L ≠ a → a ≠ Lg → L + 1 ≠ Lg → L + 1 + 1 ≠ Lg → L + 1 + 1 + 1 ≠ Lg → Sz ≠ Lg → h'.get? Lg = some oL → h'.get? G = some oG → h'.get? a = some oA → (∀ b o, b ≠ L → b ≠ L + 1 + 1 → s.heap.get? b = some o → h'.get? b = some o) →
      wpAny (model prog w) A (execs ((bodyAt w 89).drop 3) (lawEnv w L)) Q E { s with heap := h', toks := tk, gens := gens' }) :
    wpAny (model prog w) A (execs (bodyAt w 89) (lawEnv w L)) Q E s := by
  have hvn := hI.length
  have hls : s.heap.IsList l vs.toArray := hl.at fun o e => F.keep _ o e
  have nc : L + 1 + 1 ≠ L := ne2 L
  -- sizes
  refine wpAny_execs_cons (wpAny_Assign_Name (wpAny_BinOp (evList1 (wpAny_Constant_int fun D₁ h₁ hD₁ k₁ => ?_))))
  have F₁ := Fr.kp F k₁
  refine comp_iter (f := fun z => 1 + z % 4) hh (wpAny_Subscript_list_slice (ldL F₁.ns hmS (wpAny_evalPart_some (wpAny_Constant_int (wpAny_evalPart_some (wpAny_Constant_int
    ⟨l, vs.toArray, some 1, some 5, rfl, hls.at fun o e => k₁ _ o e, by rw [List.size_toArray, sizeLine_eq]; omega, .int _ _, .int _ _,
      ⟨_, (slicePick vs.toArray (some 1) (some 5) none).toList, _, rfl, ⟨_, by rw [← Heap.size_push]; exact Heap.get?_push_size _ rfl, rfl, 0, by simp⟩, hI.pick (some 1) (some 5) none, Nat.le_trans (pick15_len hI) (by omega), ?el, fun D₂ h₂ tk₂ us hD₂ hU k₂ => ?_⟩⟩))))))
  case el =>
    intro C z t s₃ m₃ E' _ hn₃ hm₃ _
    refine wpAny_BinOp (wpAny_Constant_int (wpAny_BinOp (ldL hn₃ hm₃ (wpAny_Constant_int (mod_int' (by decide) (P.add_int ?_))))))
    rw [Int.fmod_eq_emod_of_nonneg _ (by decide)]
    exact ⟨⟨_, rfl⟩, _, _, rfl, fun _ _ e => e⟩
  have k₁₂ : Kp h₁ h₂ := fun b o e => k₂ _ _ (Heap.get?_push_of_some _ (Heap.get?_push_of_some _ e))
  clear k₂
  have hpl := pick15_len hI
  have hus : us.length ≤ 4 := by rw [hU.length, List.length_map]; exact hpl
  have hSz : ∀ z ∈ (2 : Int) :: (pickNums ns (some 1) (some 5) none).map (fun z => 1 + z % 4), 1 ≤ z ∧ z ≤ 4 := by
    intro z hz
    rcases List.mem_cons.mp hz with rfl | hz
    · omega
    · obtain ⟨y, _, rfl⟩ := List.mem_map.mp hz
      have := Int.emod_nonneg y (show (4 : Int) ≠ 0 by decide)
      have := Int.emod_lt_of_pos y (show (0 : Int) < 4 by decide)
      omega
  have hSl : ((2 : Int) :: (pickNums ns (some 1) (some 5) none).map (fun z => 1 + z % 4)).length ≤ 5 := by
    rw [List.length_cons, List.length_map]; omega
  refine re s h₂ fun tk₂ => ?_
  refine concat (hD₁.at fun o e => k₁₂ _ o e) hD₂ (by simp only [List.length_cons, List.length_nil]; omega) fun Sz h₃ nSz hSzL k₃ => ?_
  have hSI : IntsAre ([Value.int 2 s.toks] ++ us) ((2 : Int) :: (pickNums ns (some 1) (some 5) none).map (fun z => 1 + z % 4)) := .cons 2 _ hU
  generalize (2 : Int) :: (pickNums ns (some 1) (some 5) none).map (fun z => 1 + z % 4) = S at *
  have hS0 : 0 < S.length := by rw [← hSI.length]; simp
  generalize [Value.int 2 s.toks] ++ us = svs at *
  have k₀₃ : Kp s.heap h₃ := k₁.trans (k₁₂.trans k₃)
  have F₃ := Fr.kp F k₀₃
  refine wpAny_storeName_cell (c := L + 1 + 1) rfl rfl rfl (hc.keeps k₀₃) fun h₄ hc₄ hs₄ => ?_
  have F₄ := Fr.ext F₃ hs₄.extBut hB2 nc
  have nSc : Sz ≠ L + 1 + 1 := list_ne_cell hSzL (hc.keeps k₀₃)
  have hS₄ : h₄.IsList Sz svs.toArray := hSzL.extBut hs₄.extBut nSc
  have kk₄ : ∀ b o, b ≠ L + 1 + 1 → s.heap.get? b = some o → h₄.get? b = some o := fun b o hb e => hs₄.extBut b o hb (k₀₃ b o e)
  clear hD₂ hU k₃ k₁₂ k₁ hD₁ F₁ hSzL F₃ hs₄ k₀₃ nSz hus hpl
  refine re s h₄ fun tk₄ => ?_
  have hl₄ : h₄.IsList l vs.toArray := hl.at fun o e => F₄.keep _ o e
  -- ending
  refine wpAny_execs_cons (wpAny_Assign_Name (wpAny_BinOp (wpAny_mono (Q := fun v s' => ∃ z t h₅ tk₅, v = .int z t ∧ s' = { s with heap := h₅, toks := tk₅ } ∧ Kp h₄ h₅) ?ife ?cont fun _ _ e => e)))
  case ife =>
    refine wpAny_IfExp (wpAny_isTrue_Compare1 (ldL F₄.ns hmS (evList0 fun D h₅ hD k₅ => ne_intsK (hl₄.at fun o e => k₅ _ o e) hI hD .nil hu (wpAny_truthy_bool ?_))))
    by_cases hn : ns = []
    · rw [show (!decide (ns = [])) = false by simp [hn], if_neg (by decide)]
      exact wpAny_Constant_int ⟨_, _, _, _, rfl, rfl, k₅⟩
    · rw [show (!decide (ns = [])) = true by simp [hn], if_pos rfl]
      have h0 : 0 < ns.length := List.length_pos_iff.mpr hn
      obtain ⟨t, ht⟩ := hI.get 0 ns[0] (List.getElem?_eq_getElem h0)
      refine Subscript_ (ldL (Fr.kp F₄ k₅).ns hmS (wpAny_Constant_int (item_list (x := .int ns[0] t) (hl₄.at fun o e => k₅ _ o e) (by decide) (by decide) (by simpa using ht) ?_)))
      exact ⟨_, _, _, _, rfl, rfl, k₅⟩
  case cont =>
    rintro _ _ ⟨z, t, h₅, tk₅, rfl, rfl, k₅⟩
    refine wpAny_Constant_int (mod_int' (by decide) ?_)
    rw [Int.fmod_eq_emod_of_nonneg _ (by decide)]
    have he0 := Int.emod_nonneg z (show (3 : Int) ≠ 0 by decide)
    have he3 := Int.emod_lt_of_pos z (show (0 : Int) < 3 by decide)
    generalize z % 3 = e at *
    have F₅ := Fr.kp F₄ k₅
    refine stS F₅ fun h₆ tk₆ F₆ hs₆ => ?_
    have kk₆ : ∀ b o, b ≠ L → b ≠ L + 1 + 1 → s.heap.get? b = some o → h₆.get? b = some o := fun b o b1 b2 e => hs₆.extBut b o b1 (k₅ _ _ (kk₄ b o b2 e))
    have hc₆ : h₆.IsCell (L + 1 + 1) (some (.ref Sz)) := cell_at hc₄ fun o e => hs₆.extBut _ o nc (k₅ _ _ e)
    have hS₆ : h₆.IsList Sz svs.toArray := hS₄.at fun o e => hs₆.extBut _ o (list_ne_ns hS₄ F₄.ns) (k₅ _ _ e)
    have T₆ : Tp w h₆ := TB.keeps F₆.keep
    show wpAny _ _ _ _ _ { s with heap := h₆, toks := tk₆ }
    clear hs₆ k₅ F₅ hc₄ hS₄ F₄ hl₄ kk₄
    -- walk
    have hcx₆ : h₆.IsCell (L + 1) v1 := cell_at hcx fun o e => kk₆ _ o (ne1 L) (Ne.symm (ne21 L)) e
    have hcy₆ : h₆.IsCell (L + 1 + 1 + 1) v3 := cell_at hcy fun o e => kk₆ _ o (ne3 L) (Ne.symm (ne23 L)) e
    refine wpAny_execs_cons (wpAny_Assign_Name (evCall1 T₆ rfl rfl (wpAny_BinOp (ldC hc₆ (Subscript_ (evTup3 (evList2 (wpAny_Constant_int (wpAny_Constant_int fun D₁ h₇ hD₁ k₇ => ?_)))))))))
    refine evList2 (wpAny_Constant_int (wpAny_Constant_int fun D₂ h₈ hD₂ k₈ => ?_))
    refine evList0 fun D₃ h₉ hD₃ k₉ => ?_
    intro O h₁₀ hO k₁₀
    have k₆₁₀ : Kp h₆ h₁₀ := k₇.trans (k₈.trans (k₉.trans k₁₀))
    have F₁₀ := Fr.kp F₆ k₆₁₀
    have hD₁' := hD₁.at fun o e => k₁₀ _ o (k₉ _ o (k₈ _ o e))
    have hD₂' := hD₂.at fun o e => k₁₀ _ o (k₉ _ o e)
    have hD₃' := hD₃.at fun o e => k₁₀ _ o e
    have hin : ∀ j, j < S.length → outF S e j = S[j]? := fun j hj => if_pos hj
    obtain ⟨j, Dx, xs, tl, hj, hx, hDx, hxI, hTail, hxl⟩ : ∃ j Dx xs tl, seqIndex? e 3 = some j ∧ ([.ref D₁, .ref D₂, .ref D₃] : List Value)[j]? = some (.ref Dx) ∧ h₁₀.IsList Dx xs.toArray ∧ IntsAre xs tl ∧ Tail S (S ++ tl) (outF S e) ∧ xs.length ≤ 2 := by
      rcases (show e = 0 ∨ e = 1 ∨ e = 2 by omega) with rfl | rfl | rfl
      · exact ⟨0, D₁, _, [0, 5], rfl, rfl, hD₁', .cons _ _ (.cons _ _ .nil), .again rfl fun j hj => by unfold outF; rw [if_neg (by omega), if_pos rfl], by simp⟩
      · exact ⟨1, D₂, _, [127, 5], rfl, rfl, hD₂', .cons _ _ (.cons _ _ .nil), .stop rfl (by unfold outF; rw [if_neg (by omega), if_neg (by decide)]), by simp⟩
      · exact ⟨2, D₃, _, [], rfl, rfl, hD₃', .nil, .out (List.append_nil _) (by unfold outF; rw [if_neg (by omega), if_neg (by decide)]), by simp⟩
    refine ldL F₁₀.ns rfl (item_tupleT (l := [.ref D₁, .ref D₂, .ref D₃]) hO (by omega) (by omega) hj hx ?_)
    refine re s h₁₀ fun tk₁₀ => ?_
    have hsl := hSI.length
    refine concat (hS₆.at fun o e => k₆₁₀ _ o e) hDx (by omega) fun G h₁₁ nG hG k₁₁ => ?_
    have k₆₁₁ := k₆₁₀.trans k₁₁
    have F₁₁ := Fr.kp F₆ k₆₁₁
    have T₁₁ : Tp w h₁₁ := TB.keeps F₁₁.keep
    refine ⟨T₁₁, gen_call (N := 6) (B := B) (o := outF S e) (S := S) T₁₁ (by omega) A.in1.in1 hh TB F₁₁.keep (hSI.append hxI) (by omega) hS0 hSz hin hTail hG fun h₁₂ tk₁₂ gens₁₂ Lg a g mg k₁₂ nLg hnLg hb₁₂ GA₁₂ => ?_⟩
    have F₁₂ := Fr.kp F₁₁ k₁₂
    obtain ⟨oA, nm, qn, eA, r⟩ := id GA₁₂.1
    obtain ⟨oL, es, ep, eLg, _⟩ := id hnLg
    obtain ⟨oG, eG, _⟩ := id hG
    obtain ⟨oLl, _, _, eLl, _⟩ := id F₁₁.ns
    have n1 : L ≠ Lg := Ne.symm (ne_of_none nLg eLl)
    have n2 : L ≠ G := Ne.symm (list_ne_ns hG F₁₁.ns)
    have n3 : L ≠ a := Ne.symm (gen_ne_ns GA₁₂.1 F₁₂.ns)
    have n4 : a ≠ Lg := gen_ne_ns GA₁₂.1 hnLg
    refine stS F₁₂ fun h₁₃ tk₁₃ F₁₃ hs₁₃ => ?_
    have kk₁₃ : ∀ b o, b ≠ L → h₆.get? b = some o → h₁₃.get? b = some o := fun b o b1 e => hs₁₃.extBut b o b1 (k₁₂ _ _ (k₆₁₁ _ _ e))
    have nS := list_ne_ns hS₆ F₆.ns
    show wpAny _ _ _ _ _ { s with heap := h₁₃, toks := tk₁₃, gens := gens₁₂ }
    refine hQ h₁₃ tk₁₃ gens₁₂ _ Sz svs S e _ a g G Lg oL oG oA F₁₃ (cell_at hc₆ fun o e => kk₁₃ _ o nc e) (hS₆.at fun o e => kk₁₃ _ o nS e) hSI hS0 hSl hSz rfl hmS rfl
      (GenAt.ext (s := { s with heap := h₁₂, toks := tk₁₂, gens := gens₁₂ }) GA₁₂ hs₁₃.extBut n1 n2 (ns_not_it F₁₂.ns) n3) (hb₁₂ hbare) n1 n2 n3 n4 ?_ ?_ ?_ ?_
      (hs₁₃.extBut _ _ (Ne.symm n1) eLg) (hs₁₃.extBut _ _ (Ne.symm n2) (k₁₂ _ _ eG)) (hs₁₃.extBut _ _ (Ne.symm n3) eA) fun b o b1 b2 e => kk₁₃ b o b1 (kk₆ b o b1 b2 e)
    · obtain ⟨oc, ec, _⟩ := hcx₆; exact Ne.symm (ne_of_none nLg (k₆₁₁ _ _ ec))
    · obtain ⟨oc, ec, _⟩ := hc₆; exact Ne.symm (ne_of_none nLg (k₆₁₁ _ _ ec))
    · obtain ⟨oc, ec, _⟩ := hcy₆; exact Ne.symm (ne_of_none nLg (k₆₁₁ _ _ ec))
    · obtain ⟨oc, ec, _⟩ := hS₆; exact Ne.symm (ne_of_none nLg (k₆₁₁ _ _ ec))
end
end Mine

namespace Mine

/-- the figures of x with fs put in, behind ts places each -/
def lay : Int → List Int → List Int → Int
  | x, t :: ts, f :: fs => x % 10 ^ t.toNat + f * 10 ^ t.toNat + 10 ^ (t.toNat + 1) * lay (x / 10 ^ t.toNat) ts fs
  | x, _, _ => x
def cums : Int → List Int → List Int
  | _, [] => []
  | e, t :: ts => (e + t) :: cums (e + t) ts

theorem spread_lay_aux (f : Int) : ∀ (ns : List Int) (l x p : Int), (∀ z ∈ ns, 0 ≤ z) → 0 ≤ p →
    (ns.foldl (spStep f) (l, x, p)).1 + (ns.foldl (spStep f) (l, x, p)).2.1 * 10 ^ (ns.foldl (spStep f) (l, x, p)).2.2.toNat = l + 10 ^ p.toNat * lay x ns (ns.map fun _ => f)
  | [], l, x, p, _, _ => by simp [lay, Int.mul_comm]
  | z :: ns, l, x, p, h, hp => by
    have hz := h z (by simp)
    rw [List.foldl_cons, spStep, spread_lay_aux f ns _ _ _ (fun y hy => h y (by simp [hy])) (by simp only; omega)]
    simp only [List.map_cons, lay]
    rw [show (p + z).toNat = p.toNat + z.toNat by omega, show (p + z + 1).toNat = p.toNat + z.toNat + 1 by omega]
    generalize lay (x / 10 ^ z.toNat) ns _ = Y
    simp only [Int.pow_succ, Int.pow_add]
    generalize x % 10 ^ z.toNat = r
    generalize (10 : Int) ^ z.toNat = a
    generalize (10 : Int) ^ p.toNat = b
    grind
theorem spread_lay (x f : Int) (ns : List Int) (h : ∀ z ∈ ns, 0 ≤ z) : spread x ns f = lay x ns (ns.map fun _ => f) := by
  have := spread_lay_aux f ns 0 x 0 h (Int.le_refl _)
  simp only [Int.toNat_zero, Int.pow_zero, Int.one_mul, Int.zero_add] at this
  exact this

theorem div_pow (x : Int) (a b : Nat) : x / 10 ^ (a + b) = x / 10 ^ a / 10 ^ b := by
  rw [Int.pow_add, Int.ediv_ediv_of_nonneg (Int.le_of_lt (pow10_pos a))]
theorem mod_pow (x : Int) (a b : Nat) : x % 10 ^ (a + b) = (x / 10 ^ a % 10 ^ b) * 10 ^ a + x % 10 ^ a := by
  have e1 := Int.mul_ediv_add_emod x (10 ^ (a + b))
  have e2 := Int.mul_ediv_add_emod x (10 ^ a)
  have e3 := Int.mul_ediv_add_emod (x / 10 ^ a) (10 ^ b)
  rw [div_pow] at e1
  rw [Int.pow_add] at e1 ⊢
  generalize x / 10 ^ a / 10 ^ b = q at *
  generalize x / 10 ^ a = y at *
  generalize y % 10 ^ b = r1 at *
  generalize x % 10 ^ a = r2 at *
  generalize x % (10 ^ a * 10 ^ b) = r3 at *
  generalize (10 : Int) ^ a = A at *
  generalize (10 : Int) ^ b = B at *
  grind

theorem split_div {y r p : Int} (hp : 0 < p) (h0 : 0 ≤ r) (h1 : r < p) : (y * p + r) / p = y ∧ (y * p + r) % p = r := by
  constructor
  · rw [Int.add_comm, Int.add_mul_ediv_right _ _ (Int.ne_of_gt hp), Int.ediv_eq_zero_of_lt h0 h1, Int.zero_add]
  · rw [Int.add_comm, Int.add_mul_emod_self_right, Int.emod_eq_of_lt h0 h1]

theorem opened_lay_aux (x : Int) : ∀ (ts fs : List Int) (e : Int), (∀ z ∈ ts, 0 ≤ z) → 0 ≤ e → fs.length = ts.length →
    ((cums e ts).zip fs).foldr (fun p x => insF x p) x = lay (x / 10 ^ e.toNat) ts fs * 10 ^ e.toNat + x % 10 ^ e.toNat
  | [], fs, e, _, _, _ => by
    have := Int.mul_ediv_add_emod x (10 ^ e.toNat)
    simp only [cums, List.zip_nil_left, List.foldr_nil, lay]
    rw [Int.mul_comm]; exact this.symm
  | t :: ts, f :: fs, e, h, he, hl => by
    have ht := h t (by simp)
    simp only [cums, List.zip_cons_cons, List.foldr_cons]
    rw [opened_lay_aux x ts fs (e + t) (fun y hy => h y (by simp [hy])) (by omega) (by simpa using hl)]
    have hp := pow10_pos (e + t).toNat
    obtain ⟨d1, d2⟩ := split_div (y := lay (x / 10 ^ (e + t).toNat) ts fs) hp (Int.emod_nonneg x (Int.ne_of_gt hp)) (Int.emod_lt_of_pos x hp)
    rw [insF, ins, d1, d2, show (e + t).toNat = e.toNat + t.toNat by omega, mod_pow, div_pow]
    simp only [lay]
    generalize lay (x / 10 ^ e.toNat / 10 ^ t.toNat) ts fs = Y
    generalize x / 10 ^ e.toNat % 10 ^ t.toNat = r1
    generalize x % 10 ^ e.toNat = r2
    simp only [Int.pow_succ, Int.pow_add]
    generalize (10 : Int) ^ e.toNat = A
    generalize (10 : Int) ^ t.toNat = B
    grind
theorem opened_lay (x : Int) (ts fs : List Int) (h : ∀ z ∈ ts, 0 ≤ z) (hl : fs.length = ts.length) : opened x (cums 0 ts) fs = lay x ts fs := by
  have := opened_lay_aux x ts fs 0 h (Int.le_refl _) hl
  simp only [Int.toNat_zero, Int.pow_zero, Int.ediv_one, Int.mul_one, Int.emod_one, Int.add_zero] at this
  rw [opened, List.foldl_reverse]
  exact this

theorem cums_shift : ∀ (ts : List Int) (e d : Int), cums (e + d) ts = (cums e ts).map (d + ·)
  | [], _, _ => rfl
  | t :: ts, e, d => by
    simp only [cums, List.map_cons]
    rw [show e + d + t = (e + t) + d by omega, cums_shift ts (e + t) d, Int.add_comm (e + t) d]
theorem cums_nonneg : ∀ (ts : List Int) (e : Int), 0 ≤ e → (∀ z ∈ ts, 0 ≤ z) → ∀ z ∈ cums e ts, 0 ≤ z
  | [], _, _, _, _, hz => nomatch hz
  | t :: ts, e, he, h, z, hz => by
    have ht := h t (by simp)
    rcases List.mem_cons.mp hz with rfl | hz
    · omega
    · exact cums_nonneg ts (e + t) (by omega) (fun y hy => h y (by simp [hy])) z hz
theorem cums_length : ∀ (ts : List Int) (e : Int), (cums e ts).length = ts.length
  | [], _ => rfl
  | t :: ts, e => by simp only [cums, List.length_cons, cums_length ts]

def carC (c x y e : Int) : Int := if 10 ^ e.toNat ≤ x % 10 ^ e.toNat + y % 10 ^ e.toNat + c then 0 else 9
def borC (b x y e : Int) : Int := if x % 10 ^ e.toNat < y % 10 ^ e.toNat + b then 9 else 0

/-- one place: what is carried on -/
theorem carry_one {x y c p : Int} (hp : 0 < p) (hc : c = 0 ∨ c = 1) : ∃ c' r, (c' = 0 ∨ c' = 1) ∧ 0 ≤ r ∧ r < p ∧ x % p + y % p + c = c' * p + r ∧ (p ≤ x % p + y % p + c ↔ c' = 1) ∧
    (x + y + c) / p = x / p + y / p + c' ∧ (x + y + c) % p = r := by
  have a1 := Int.emod_nonneg x (Int.ne_of_gt hp)
  have a2 := Int.emod_lt_of_pos x hp
  have b1 := Int.emod_nonneg y (Int.ne_of_gt hp)
  have b2 := Int.emod_lt_of_pos y hp
  have e1 := Int.mul_ediv_add_emod x p
  have e2 := Int.mul_ediv_add_emod y p
  by_cases h : p ≤ x % p + y % p + c
  · refine ⟨1, x % p + y % p + c - p, .inr rfl, by omega, by omega, by omega, by simp [h], ?_⟩
    have := split_div (y := x / p + y / p + 1) (r := x % p + y % p + c - p) hp (by omega) (by omega)
    rw [show (x / p + y / p + 1) * p + (x % p + y % p + c - p) = x + y + c by grind] at this
    exact this
  · refine ⟨0, x % p + y % p + c, .inl rfl, by omega, by omega, by omega, by simp [h], ?_⟩
    have := split_div (y := x / p + y / p + 0) (r := x % p + y % p + c) hp (by omega) (by omega)
    rw [show (x / p + y / p + 0) * p + (x % p + y % p + c) = x + y + c by grind] at this
    exact this

theorem ge_scale {p k u r : Int} (hp : 0 < p) (h0 : 0 ≤ r) (h1 : r < p) : (p * k ≤ p * u + r) ↔ k ≤ u := by
  constructor
  · intro h
    rcases Int.lt_or_le u k with hlt | hle
    · have : p * (u + 1) ≤ p * k := Int.mul_le_mul_of_nonneg_left (by omega) (by omega)
      rw [Int.mul_add, Int.mul_one] at this
      omega
    · exact hle
  · intro h
    have : p * k ≤ p * u := Int.mul_le_mul_of_nonneg_left h (by omega)
    omega

theorem carC_step {x y c t e : Int} (hc : c = 0 ∨ c = 1) (ht : 0 ≤ t) (he : 0 ≤ e) {c' r : Int} (h0 : 0 ≤ r) (h1 : r < 10 ^ t.toNat) (hr : x % 10 ^ t.toNat + y % 10 ^ t.toNat + c = c' * 10 ^ t.toNat + r) :
    carC c x y (t + e) = carC c' (x / 10 ^ t.toNat) (y / 10 ^ t.toNat) e := by
  have key : (10 ^ (t + e).toNat ≤ x % 10 ^ (t + e).toNat + y % 10 ^ (t + e).toNat + c) ↔ (10 ^ e.toNat ≤ x / 10 ^ t.toNat % 10 ^ e.toNat + y / 10 ^ t.toNat % 10 ^ e.toNat + c') := by
    rw [show (t + e).toNat = t.toNat + e.toNat by omega, mod_pow, mod_pow, Int.pow_add]
    have hp := pow10_pos t.toNat
    generalize x / 10 ^ t.toNat % 10 ^ e.toNat = a at *
    generalize y / 10 ^ t.toNat % 10 ^ e.toNat = b at *
    generalize x % 10 ^ t.toNat = u at *
    generalize y % 10 ^ t.toNat = v at *
    generalize (10 : Int) ^ t.toNat = p at *
    rw [show a * p + u + (b * p + v) + c = p * (a + b + c') + r by grind]
    exact ge_scale hp h0 h1
  unfold carC
  by_cases h : 10 ^ (t + e).toNat ≤ x % 10 ^ (t + e).toNat + y % 10 ^ (t + e).toNat + c
  · rw [if_pos h, if_pos (key.mp h)]
  · rw [if_neg h, if_neg fun q => h (key.mpr q)]

theorem add_lay : ∀ (ts : List Int) (x y c : Int), (∀ z ∈ ts, 0 ≤ z) → (c = 0 ∨ c = 1) →
    lay x ts (ts.map fun _ => 9) + lay y ts (ts.map fun _ => 0) + c = lay (x + y + c) ts ((cums 0 ts).map (carC c x y))
  | [], x, y, c, _, _ => by simp [lay]
  | t :: ts, x, y, c, h, hc => by
    have ht := h t (by simp)
    have hp := pow10_pos t.toNat
    obtain ⟨c', r, hc', h0, h1, hr, hi, hd, hm⟩ := carry_one (x := x) (y := y) hp hc
    have ih := add_lay ts (x / 10 ^ t.toNat) (y / 10 ^ t.toNat) c' (fun z hz => h z (by simp [hz])) hc'
    have ef : (cums (0 + t) ts).map (carC c x y) = (cums 0 ts).map (carC c' (x / 10 ^ t.toNat) (y / 10 ^ t.toNat)) := by
      rw [cums_shift, List.map_map]
      refine List.map_congr_left fun e he => ?_
      exact carC_step hc ht (cums_nonneg ts 0 (Int.le_refl _) (fun z hz => h z (by simp [hz])) e he) h0 h1 hr
    simp only [cums, List.map_cons, lay]
    rw [ef, hd, hm, ← ih, Int.zero_add]
    have e0 : carC c x y t = if c' = 1 then 0 else 9 := by
      unfold carC
      by_cases q : 10 ^ t.toNat ≤ x % 10 ^ t.toNat + y % 10 ^ t.toNat + c
      · rw [if_pos q, if_pos (hi.mp q)]
      · rw [if_neg q, if_neg fun z => q (hi.mpr z)]
    rw [e0, Int.pow_succ]
    generalize lay (x / 10 ^ t.toNat) ts _ = X at *
    generalize lay (y / 10 ^ t.toNat) ts _ = Y at *
    generalize x % 10 ^ t.toNat = u at *
    generalize y % 10 ^ t.toNat = v at *
    generalize (10 : Int) ^ t.toNat = p at *
    rcases hc' with rfl | rfl
    · rw [if_neg (by decide)]; grind
    · rw [if_pos rfl]; grind

theorem borrow_one {x y b p : Int} (hp : 0 < p) (hb : b = 0 ∨ b = 1) : ∃ b' r, (b' = 0 ∨ b' = 1) ∧ 0 ≤ r ∧ r < p ∧ x % p - y % p - b = r - b' * p ∧ (x % p < y % p + b ↔ b' = 1) ∧
    (x - y - b) / p = x / p - y / p - b' ∧ (x - y - b) % p = r := by
  have a1 := Int.emod_nonneg x (Int.ne_of_gt hp)
  have a2 := Int.emod_lt_of_pos x hp
  have b1 := Int.emod_nonneg y (Int.ne_of_gt hp)
  have b2 := Int.emod_lt_of_pos y hp
  have e1 := Int.mul_ediv_add_emod x p
  have e2 := Int.mul_ediv_add_emod y p
  by_cases h : x % p < y % p + b
  · refine ⟨1, x % p - y % p - b + p, .inr rfl, by omega, by omega, by omega, by simp [h], ?_⟩
    have := split_div (y := x / p - y / p - 1) (r := x % p - y % p - b + p) hp (by omega) (by omega)
    rw [show (x / p - y / p - 1) * p + (x % p - y % p - b + p) = x - y - b by grind] at this
    exact this
  · refine ⟨0, x % p - y % p - b, .inl rfl, by omega, by omega, by omega, by simp [h], ?_⟩
    have := split_div (y := x / p - y / p - 0) (r := x % p - y % p - b) hp (by omega) (by omega)
    rw [show (x / p - y / p - 0) * p + (x % p - y % p - b) = x - y - b by grind] at this
    exact this

theorem borC_step {x y b t e : Int} (ht : 0 ≤ t) (he : 0 ≤ e) {b' r : Int} (h0 : 0 ≤ r) (h1 : r < 10 ^ t.toNat) (hr : x % 10 ^ t.toNat - y % 10 ^ t.toNat - b = r - b' * 10 ^ t.toNat) :
    borC b x y (t + e) = borC b' (x / 10 ^ t.toNat) (y / 10 ^ t.toNat) e := by
  have key : (x % 10 ^ (t + e).toNat < y % 10 ^ (t + e).toNat + b) ↔ (x / 10 ^ t.toNat % 10 ^ e.toNat < y / 10 ^ t.toNat % 10 ^ e.toNat + b') := by
    rw [show (t + e).toNat = t.toNat + e.toNat by omega, mod_pow, mod_pow]
    have hp := pow10_pos t.toNat
    generalize x / 10 ^ t.toNat % 10 ^ e.toNat = a at *
    generalize y / 10 ^ t.toNat % 10 ^ e.toNat = d at *
    generalize x % 10 ^ t.toNat = u at *
    generalize y % 10 ^ t.toNat = v at *
    generalize (10 : Int) ^ t.toNat = p at *
    have g := ge_scale (p := p) (k := 0) (u := a - d - b') (r := r) hp h0 h1
    have e1 : p * (a - d - b') + r = (a * p + u) - (d * p + v + b) := by grind
    rw [e1, Int.mul_zero] at g
    omega
  unfold borC
  by_cases h : x % 10 ^ (t + e).toNat < y % 10 ^ (t + e).toNat + b
  · rw [if_pos h, if_pos (key.mp h)]
  · rw [if_neg h, if_neg fun q => h (key.mpr q)]

theorem sub_lay : ∀ (ts : List Int) (x y b : Int), (∀ z ∈ ts, 0 ≤ z) → (b = 0 ∨ b = 1) →
    lay x ts (ts.map fun _ => 0) - lay y ts (ts.map fun _ => 0) - b = lay (x - y - b) ts ((cums 0 ts).map (borC b x y))
  | [], x, y, b, _, _ => by simp [lay]
  | t :: ts, x, y, b, h, hb => by
    have ht := h t (by simp)
    have hp := pow10_pos t.toNat
    obtain ⟨b', r, hb', h0, h1, hr, hi, hd, hm⟩ := borrow_one (x := x) (y := y) hp hb
    have ih := sub_lay ts (x / 10 ^ t.toNat) (y / 10 ^ t.toNat) b' (fun z hz => h z (by simp [hz])) hb'
    have ef : (cums (0 + t) ts).map (borC b x y) = (cums 0 ts).map (borC b' (x / 10 ^ t.toNat) (y / 10 ^ t.toNat)) := by
      rw [cums_shift, List.map_map]
      refine List.map_congr_left fun e he => ?_
      exact borC_step ht (cums_nonneg ts 0 (Int.le_refl _) (fun z hz => h z (by simp [hz])) e he) h0 h1 hr
    simp only [cums, List.map_cons, lay]
    rw [ef, hd, hm, ← ih, Int.zero_add]
    have e0 : borC b x y t = if b' = 1 then 9 else 0 := by
      unfold borC
      by_cases q : x % 10 ^ t.toNat < y % 10 ^ t.toNat + b
      · rw [if_pos q, if_pos (hi.mp q)]
      · rw [if_neg q, if_neg fun z => q (hi.mpr z)]
    rw [e0, Int.pow_succ]
    generalize lay (x / 10 ^ t.toNat) ts _ = X at *
    generalize lay (y / 10 ^ t.toNat) ts _ = Y at *
    generalize x % 10 ^ t.toNat = u at *
    generalize y % 10 ^ t.toNat = v at *
    generalize (10 : Int) ^ t.toNat = p at *
    rcases hb' with rfl | rfl
    · rw [if_neg (by decide)]; grind
    · rw [if_pos rfl]; grind

theorem lay_lt : ∀ (ts fs : List Int) (x y : Int), x < y → lay x ts fs < lay y ts fs
  | [], _, x, y, h => by simpa [lay] using h
  | _ :: _, [], x, y, h => by simpa [lay] using h
  | t :: ts, f :: fs, x, y, h => by
    have hp := pow10_pos t.toNat
    have a1 := Int.emod_nonneg x (Int.ne_of_gt hp)
    have a2 := Int.emod_lt_of_pos x hp
    have b1 := Int.emod_nonneg y (Int.ne_of_gt hp)
    have b2 := Int.emod_lt_of_pos y hp
    have e1 := Int.mul_ediv_add_emod x (10 ^ t.toNat)
    have e2 := Int.mul_ediv_add_emod y (10 ^ t.toNat)
    have hle : x / 10 ^ t.toNat ≤ y / 10 ^ t.toNat := Int.ediv_le_ediv hp (Int.le_of_lt h)
    simp only [lay, Int.pow_succ]
    rcases Int.lt_or_eq_of_le hle with hlt | heq
    · have ih := lay_lt ts fs _ _ hlt
      generalize lay (x / 10 ^ t.toNat) ts fs = X at *
      generalize lay (y / 10 ^ t.toNat) ts fs = Y at *
      generalize (10 : Int) ^ t.toNat = p at *
      have : p * 10 * (X + 1) ≤ p * 10 * Y := Int.mul_le_mul_of_nonneg_left (by omega) (by omega)
      rw [Int.mul_add, Int.mul_one] at this
      omega
    · rw [heq] at e1 ⊢
      omega
theorem lay_lt_iff (ts fs : List Int) (x y : Int) : lay x ts fs < lay y ts fs ↔ x < y := by
  constructor
  · intro h
    rcases Int.lt_or_le x y with q | q
    · exact q
    · rcases Int.lt_or_eq_of_le q with q | q
      · have := lay_lt ts fs y x q; omega
      · subst q; omega
  · exact lay_lt ts fs x y

theorem laid_ok (ts : List Int) (h : ∀ z ∈ ts, 0 ≤ z) : LaidOk ts (cums 0 ts) := by
  have hl := cums_length ts 0
  have em : ∀ f : Int, (cums 0 ts).map (fun _ => f) = ts.map fun _ => f := fun f => by
    rw [List.map_const', List.map_const', hl]
  refine ⟨fun X => ?_, fun X => ?_, fun X Y => ?_, fun X Y => ?_, fun X Y => ?_⟩
  · rw [em, spread_lay X 9 ts h, opened_lay X ts _ h (by simp)]
  · rw [em, spread_lay X 0 ts h, opened_lay X ts _ h (by simp)]
  · rw [spread_lay X 9 ts h, spread_lay Y 0 ts h, opened_lay _ ts _ h (by simp [hl])]
    have := add_lay ts X Y 0 h (.inl rfl)
    simp only [Int.add_zero] at this
    rw [this]
    congr 1
    refine List.map_congr_left fun e _ => ?_
    unfold carC carF; rw [Int.add_zero]
  · rw [spread_lay X 0 ts h, spread_lay Y 0 ts h, opened_lay _ ts _ h (by simp [hl])]
    have := sub_lay ts X Y 0 h (.inl rfl)
    simp only [Int.sub_zero] at this
    rw [this]
    congr 1
    refine List.map_congr_left fun e _ => ?_
    unfold borC borF; rw [Int.add_zero]
  · rw [spread_lay X 0 ts h, spread_lay Y 0 ts h]
    exact lay_lt_iff ts _ X Y
end Mine

namespace Mine

theorem told_ends (S : List Int) (e : Int) (h0 : 0 < S.length) (h5 : S.length ≤ 5) :
    (List.range (if e = 0 then 6 else S.length)).map (fun k : Nat => endF S (k : Int)) = cums 0 ((List.range 6).filterMap (outF S e)) := by
  have r6 : List.range 6 = [0, 1, 2, 3, 4, 5] := rfl
  have r5 : List.range 5 = [0, 1, 2, 3, 4] := rfl
  have r4 : List.range 4 = [0, 1, 2, 3] := rfl
  have r3 : List.range 3 = [0, 1, 2] := rfl
  have r2 : List.range 2 = [0, 1] := rfl
  have r1 : List.range 1 = [0] := rfl
  have m1 : max (-1 : Int) 0 = 0 := by decide
  have m2 : max (-2 : Int) 0 = 0 := by decide
  have m3 : max (-3 : Int) 0 = 0 := by decide
  have m4 : max (-4 : Int) 0 = 0 := by decide
  have p1 : max (1 : Int) 0 = 1 := by decide
  have p2 : max (2 : Int) 0 = 2 := by decide
  have p3 : max (3 : Int) 0 = 3 := by decide
  have p4 : max (4 : Int) 0 = 4 := by decide
  have p5 : max (5 : Int) 0 = 5 := by decide
  rcases S with _ | ⟨a, _ | ⟨b, _ | ⟨c, _ | ⟨d, _ | ⟨f, _ | ⟨g, S⟩⟩⟩⟩⟩⟩
  · simp at h0
  · by_cases he : e = 0
    · simp [he, r6, outF, endF, cums, m1, m2, m3, m4, p1, p2, p3, p4, p5] <;> omega
    · simp [he, r6, r1, outF, endF, cums, m1, m2, m3, m4, p1, p2, p3, p4, p5] 
  · by_cases he : e = 0
    · simp [he, r6, outF, endF, cums, m1, m2, m3, m4, p1, p2, p3, p4, p5] <;> omega
    · simp [he, r6, r2, outF, endF, cums, m1, m2, m3, m4, p1, p2, p3, p4, p5] <;> omega
  · by_cases he : e = 0
    · simp [he, r6, outF, endF, cums, m1, m2, m3, m4, p1, p2, p3, p4, p5] <;> omega
    · simp [he, r6, r3, outF, endF, cums, m1, m2, m3, m4, p1, p2, p3, p4, p5] <;> omega
  · by_cases he : e = 0
    · simp [he, r6, outF, endF, cums, m1, m2, m3, m4, p1, p2, p3, p4, p5] <;> omega
    · simp [he, r6, r4, outF, endF, cums, m1, m2, m3, m4, p1, p2, p3, p4, p5] <;> omega
  · by_cases he : e = 0
    · simp [he, r6, outF, endF, cums, m1, m2, m3, m4, p1, p2, p3, p4, p5] <;> omega
    · simp [he, r6, r5, outF, endF, cums, m1, m2, m3, m4, p1, p2, p3, p4, p5] <;> omega
  · simp at h5

theorem cums_le : ∀ (ts : List Int) (e : Int), (∀ z ∈ ts, z ≤ 4 ∧ 0 ≤ z) → ∀ z ∈ cums e ts, z ≤ e + 4 * ts.length
  | [], _, _, _, hz => nomatch hz
  | t :: ts, e, h, z, hz => by
    have ht := h t (by simp)
    rcases List.mem_cons.mp hz with rfl | hz
    · simp only [List.length_cons]; omega
    · have := cums_le ts (e + t) (fun y hy => h y (by simp [hy])) z hz
      simp only [List.length_cons]; omega

theorem cut_bound (t : Int) : -10 ^ 20 ≤ cut t ∧ cut t ≤ 10 ^ 20 := by
  unfold cut
  have a1 := Int.emod_nonneg t (show (10 : Int) ^ 20 ≠ 0 by decide)
  have a2 := Int.emod_lt_of_pos t (show (0 : Int) < 10 ^ 20 by decide)
  have b1 := Int.emod_nonneg (-t) (show (10 : Int) ^ 20 ≠ 0 by decide)
  have b2 := Int.emod_lt_of_pos (-t) (show (0 : Int) < 10 ^ 20 by decide)
  split <;> omega

section
variable {w : World} {A : Around} {E : Value → Shared → Prop} {s : Shared} {env : Env}

set_option maxHeartbeats 4000000 in
/-- the law's body -/
theorem law_body {B : Heap} {L l : Addr} {m : Str → Option Value} {vs : List Value} {ns : List Int} {v1 v2 v3 : Option Value} {Q : Flow → Shared → Prop}
    (hh : A.handled = none) (hu : A.units + 64 < cLine) (hroom : A.depth + 3 < recursionLimit) (TB : Tp w B) (F : Fr B L s.heap m) (hBc : ∀ k, B.get? (L + k) = none)
    (hcx : s.heap.IsCell (L + 1) v1) (hc : s.heap.IsCell (L + 1 + 1) v2) (hcy : s.heap.IsCell (L + 1 + 1 + 1) v3) (hmS : m "script" = some (.ref l)) (hl : B.IsList l vs.toArray) (hI : IntsAre vs ns) (hv : vs.length ≤ 63) (hbare : AllBare s.gens)
    (hQ : ∀ h' tk gens', Kp B h' → AllBare gens' → Q (.ret (.bool true)) { s with heap := h', toks := tk, gens := gens' }) :
    wpAny (model prog w) A (execs (bodyAt w 89) (lawEnv w L)) Q E s := by
  refine start_ok hh hu hroom TB F (hBc 2) hcx hc hcy hmS hl hI hv hbare fun h₁ tk₁ gens₁ m₁ Sz svs S e te a g G Lg oL oG oA F₁ hc₁ hS₁ hSI hS0 hS5 hSz e1 e2 e3 GA₁ hb₁ n1 n2 n3 n4 n5 n6 n7 n8 eL eG eA kk₁ => ?_
  have hcx₁ : h₁.IsCell (L + 1) v1 := cell_at hcx fun o e => kk₁ _ o (ne1 L) (Ne.symm (ne21 L)) e
  have hcy₁ : h₁.IsCell (L + 1 + 1 + 1) v3 := cell_at hcy fun o e => kk₁ _ o (ne3 L) (Ne.symm (ne23 L)) e
  have nS := list_ne_ns hS₁ F₁.ns
  refine told_ok (s := { s with heap := h₁, toks := tk₁, gens := gens₁ }) hh hroom TB F₁ (fun i k => outF_none i k) (fun j z => outF_pos hS0 hSz j z) e3 GA₁ hb₁ n1 n2 n3 n4 eL eG eA
    fun h₂ tk₂ gens₂ m₂ D tvs F₂ e4 hD₂ hT e5 e6 hb₂ kk₂ => ?_
  have hc₂ : h₂.IsCell (L + 1 + 1) (some (.ref Sz)) := cell_at hc₁ fun o e => kk₂ _ o (ne2 L) n6 (cell_not_it hc₁ o e) e
  have hcx₂ : h₂.IsCell (L + 1) v1 := cell_at hcx₁ fun o e => kk₂ _ o (ne1 L) n5 (cell_not_it hcx₁ o e) e
  have hcy₂ : h₂.IsCell (L + 1 + 1 + 1) v3 := cell_at hcy₁ fun o e => kk₂ _ o (ne3 L) n7 (cell_not_it hcy₁ o e) e
  have hS₂ : h₂.IsList Sz svs.toArray := hS₁.at fun o e => kk₂ _ o nS n8 (list_not_it hS₁ o e) e
  refine ends_ok (s := { s with heap := h₂, toks := tk₂, gens := gens₂ }) hh hroom TB F₂ hc₂ hS₂ hSI hS0 hS5 hSz (e5.trans e1) (e6.trans e2) hl hI hv fun h₃ tk₃ m₃ En evs ta tb F₃ e7 e8 hE₃ hEI ha hb kk₃ => ?_
  have hT0 : ∀ z ∈ (List.range 6).filterMap (outF S e), 1 ≤ z ∧ z ≤ 4 := fun z hz => by
    obtain ⟨j, _, hj⟩ := List.mem_filterMap.mp hz
    exact outF_pos hS0 hSz j z hj
  have hTl : ((List.range 6).filterMap (outF S e)).length ≤ 6 := by
    have := List.length_filterMap_le (outF S e) (List.range 6)
    simpa using this
  rw [told_ends S e hS0 hS5] at hEI
  have hel : (cums 0 ((List.range 6).filterMap (outF S e))).length = if e = 0 then 6 else S.length := by
    rw [← told_ends S e hS0 hS5]; simp
  refine loop_ok (s := { s with heap := h₃, toks := tk₃, gens := gens₂ }) hh hroom TB F₃ hBc (cell_at hcx₂ fun o e => kk₃ _ o (ne1 L) e) (cell_at hcy₂ fun o e => kk₃ _ o (ne3 L) e) (e7.trans e4) (hD₂.at fun o e => kk₃ _ o (list_ne_ns hD₂ F₂.ns) e) hT hTl hT0 e8 hE₃ hEI
    (by rw [hel]; split <;> omega) (by rw [hel]; split <;> omega) ?_ ha hb (cut_bound _) (cut_bound _) (laid_ok _ fun z hz => by have := hT0 z hz; omega) fun h₄ tk₄ k₄ => ?_
  · intro z hz
    have a1 := cums_nonneg _ 0 (Int.le_refl _) (fun y hy => by have := hT0 y hy; omega) z hz
    have a2 := cums_le _ 0 (fun y hy => by have := hT0 y hy; omega) z hz
    omega
  · exact hQ h₄ tk₄ gens₂ k₄ hb₂
end
end Mine

namespace Mine
theorem goodG_true {s₀ s₁ s' : Shared} {ns : List Int} (k : Kp s₁.heap s'.heap) (hos : s'.os = s₁.os) (hb : AllBare s'.gens) :
    GoodWG PySem.Challenge.rw_pg0025_01.row.claim (classAt s₀.heap) (ExcName.means s₀.heap) [ofPy (PyData.list (ns.map PyData.int))] s₁ (.ok (.ret (.bool true))) s' := by
  refine ⟨.inl ⟨.bool true, .bool true, [], rfl, ?_, .bool true, ?_, ?_⟩, .of_keep k, hos, hb⟩
  · intro cls; rfl
  · exact postW_of rfl (w_eq_bool (w_res rfl) w_lit) rfl
  · intro _; exact ⟨.nil, fun _ h => nomatch h⟩

theorem law_call {w : World} {s : Shared} {l : Addr} {vs : List Value} {ns : List Int} {Q E : Value → Shared → Prop} (TB : Tp w s.heap) (hl : s.heap.IsList l vs.toArray) (hI : IntsAre vs ns) (hv : vs.length ≤ 63) (hg : AllBare s.gens)
    (hQ : ∀ h' tk gens', Kp s.heap h' → AllBare gens' → Q (.bool true) { s with heap := h', toks := tk, gens := gens' }) :
    wpAny (model prog w) callerA (call (.ref 89) [.ref l]) Q E s := by
  refine wpAny_call (codeAny_call_cells (fd := lawFd w) (body := bodyAt w 89) (binds := [(Str.ofString "script", .ref l)]) (by decide) (TB.k _ _ (show (KK w).lookup 89 = some _ from rfl)) rfl TB.lim (codeRec_of TB.k (by rfl)) rfl rfl rfl ?_ ?_)
  · intro x hx
    rw [List.mem_singleton] at hx
    subst hx
    exact .inl rfl
  · intro s₁ X
    obtain ⟨h₁, tk₁, rfl⟩ := X.toInCall.same
    have F : Fr s.heap s.heap.objs.size h₁ _ := ⟨X.toInCall.ns, X.toInCall.keep, Nat.le_refl _⟩
    have c1 := X.cell (Str.ofString "x") (s.heap.objs.size + 1) rfl
    have c2 := X.cell (Str.ofString "sizes") (s.heap.objs.size + 1 + 1) rfl
    have c3 := X.cell (Str.ofString "y") (s.heap.objs.size + 1 + 1 + 1) rfl
    refine law_body (s := { s with heap := h₁, toks := tk₁ }) (B := s.heap) (L := s.heap.objs.size) rfl (by rw [units_deeper]; decide) (by rw [depth_deeper]; decide) TB F (fun k => get_none (by omega)) c1 c2 c3 rfl hl hI hv hg fun h' tk gens' k hb => ?_
    exact hQ h' tk gens' k hb
end Mine

set_option maxHeartbeats 4000000 in
theorem PySem.Challenge.cw_pg0025_01_holds : PySem.Challenge.rw_pg0025_01.Holds := by
  refine Mine.hd ?_
  intro w s₀ s₁ mg mb G Y fa o pm cd doc dV kV ho hd' hcd hD hmg hg args vals as hpre hlay hrd hwl hlo
  have KX := kIn_of Y
  refine Ground.open G ?_
  intro T B D TE TW
  clear hd' hcd hD ho
  have e89 : mg (Str.ofString "law") = some (.ref 89) := mg_of KX T.g rfl
  have hfa : fa = 89 := by
    have := hmg
    rw [show mg _ = some (Value.ref 89) from e89] at this
    cases this; rfl
  clear hmg
  subst hfa
  wrow_args hpre hlay hrd hwl hlo
  rename_i ns _ _ _ _ _ _ _ l vs _ hL _ _ _ hI _ hc _
  refine Mine.law_call ⟨KX, T.nolimit, ⟨mg, T.g⟩, ⟨mb, T.b, T.builtins⟩⟩ hL hI (by rw [hI.length]; omega) (.of_eq hg) fun h' tk gens' k hb => ?_
  exact Mine.goodG_true k rfl hb
#print axioms PySem.Challenge.cw_pg0025_01_holds
