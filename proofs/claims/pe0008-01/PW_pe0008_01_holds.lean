import PyProof.Rows.All
import Wide.All
import OpenK.AllK
import Wide.FinOn
import Lean
import PySem.Challenge.RW_pe0008_01
open PySem PySem.W PyProof.Rows PySem.Spec PySem.Calls
set_option Elab.async false
set_option maxRecDepth 100000
namespace Mine
set_option maxRecDepth 100000 in
set_option maxHeartbeats 8000000 in
open_top hd for PySem.Challenge.rw_pe0008_01
end Mine
namespace Mine
abbrev Led := List (Addr × Obj)
noncomputable abbrev KW (w : World) : Frag := hd.heap_39 w.params
abbrev MM (w : World) : Model := model PySem.Challenge.rw_pe0008_01.row.prog w
theorem g_term (w : World) : nsIn (KW w) mainGlobals "_law_term" = some (some (.ref 58)) := by kernel_rfl
theorem g_tape (w : World) : nsIn (KW w) mainGlobals "_law_tape" = some (some (.ref 65)) := by kernel_rfl
theorem g_putin (w : World) : nsIn (KW w) mainGlobals "_law_put_in" = some (some (.ref 72)) := by kernel_rfl
theorem g_worth (w : World) : nsIn (KW w) mainGlobals "_law_worth" = some (some (.ref 79)) := by kernel_rfl
theorem g_has (w : World) : nsIn (KW w) mainGlobals "_law_has_name" = some (some (.ref 84)) := by kernel_rfl
theorem g_at (w : World) : nsIn (KW w) mainGlobals "_law_at" = some (some (.ref 91)) := by kernel_rfl
theorem g_name (w : World) : nsIn (KW w) mainGlobals "_law_name" = some (some (.ref 98)) := by kernel_rfl
theorem g_read (w : World) : nsIn (KW w) mainGlobals "_law_read" = some (some (.ref 105)) := by kernel_rfl
theorem g_told (w : World) : nsIn (KW w) mainGlobals "_law_told" = some (some (.ref 112)) := by kernel_rfl
theorem g_info (w : World) : nsIn (KW w) mainGlobals "_get_name_info" = some (some (.ref 44)) := by kernel_rfl
theorem g_varint (w : World) : nsIn (KW w) mainGlobals "_parse_varint" = some (some (.ref 51)) := by kernel_rfl
theorem g_unknown (w : World) : nsIn (KW w) mainGlobals "UNKNOWN" = some (some (.ref 37)) := by kernel_rfl
theorem g_len (w : World) : nsIn (KW w) mainGlobals "len" = some none := by kernel_rfl
theorem g_next (w : World) : nsIn (KW w) mainGlobals "next" = some none := by kernel_rfl
theorem g_iter (w : World) : nsIn (KW w) mainGlobals "iter" = some none := by kernel_rfl
theorem g_list (w : World) : nsIn (KW w) mainGlobals "list" = some none := by kernel_rfl
theorem g_sum (w : World) : nsIn (KW w) mainGlobals "sum" = some none := by kernel_rfl
theorem g_enum (w : World) : nsIn (KW w) mainGlobals "enumerate" = some none := by kernel_rfl
theorem b_len : bootBuiltins "len" = some (.builtin "len") := by boot_by_name
theorem b_next : bootBuiltins "next" = some (.builtin "next") := by boot_by_name
theorem b_iter : bootBuiltins "iter" = some (.builtin "iter") := by boot_by_name
theorem b_sum : bootBuiltins "sum" = some (.builtin "sum") := by boot_by_name
theorem b_list : bootBuiltins "list" = some (.type "list") := by boot_by_name
theorem b_enum : bootBuiltins "enumerate" = some (.type "enumerate") := by boot_by_name
theorem kp_term (w : World) : keepIn (KW w) (.ref 58) = true := by kernel_rfl
theorem kp_tape (w : World) : keepIn (KW w) (.ref 65) = true := by kernel_rfl
theorem kp_putin (w : World) : keepIn (KW w) (.ref 72) = true := by kernel_rfl
theorem kp_worth (w : World) : keepIn (KW w) (.ref 79) = true := by kernel_rfl
theorem kp_has (w : World) : keepIn (KW w) (.ref 84) = true := by kernel_rfl
theorem kp_at (w : World) : keepIn (KW w) (.ref 91) = true := by kernel_rfl
theorem kp_name (w : World) : keepIn (KW w) (.ref 98) = true := by kernel_rfl
theorem kp_read (w : World) : keepIn (KW w) (.ref 105) = true := by kernel_rfl
theorem kp_told (w : World) : keepIn (KW w) (.ref 112) = true := by kernel_rfl
theorem kp_info (w : World) : keepIn (KW w) (.ref 44) = true := by kernel_rfl
theorem kp_varint (w : World) : keepIn (KW w) (.ref 51) = true := by kernel_rfl


structure At (w : World) (A : Around) (env : Env) (L : Addr) (h₀ : Heap) : Prop where
  below : ∃ A₀ base outer, Below A₀ base outer h₀ ∧ A.frames = some (env :: outer)
  fr : env.frame = some L
  kind : env.scope.kind = .function
  inK : (KW w).In h₀
  top : ∃ p loose mean mg mb, Top p loose mean mg mb h₀
  hnd : A.handled = none

abbrev mp (l : List (Str × Value)) : Str → Option Value := fun y => l.lookup y
abbrev St (s : Shared) (h : Heap) (tk : Nat) : Shared := { s with heap := h, toks := tk }

def Ret (h₀ : Heap) (L : Addr) (m : Str → Option Value) (g : Heap) (L' : Addr) (s : Shared) (Q : Value → Shared → Prop) (fl : Flow) (s' : Shared) : Prop :=
  ∃ v m' news' h' tk', fl = .ret v ∧ s' = St s h' tk' ∧ Fr g L' h' m' ∧ News g L' h' news' ∧ (Fr h₀ L h' m → News h₀ L h' news' → Q v (St s h' tk'))
theorem Ret.mk {h₀ : Heap} {L : Addr} {m : Str → Option Value} {g : Heap} {L' : Addr} {s : Shared} {Q : Value → Shared → Prop} {v : Value} {m' : Str → Option Value} {news' : Led} {h' : Heap} {tk' : Nat}
    (F : Fr g L' h' m') (N : News g L' h' news') (k : Fr h₀ L h' m → News h₀ L h' news' → Q v (St s h' tk')) : Ret h₀ L m g L' s Q (.ret v) (St s h' tk') := ⟨v, m', news', h', tk', rfl, rfl, F, N, k⟩

theorem enter {w : World} {A : Around} {env : Env} {L : Addr} {h₀ hp : Heap} {s : Shared} {tk : Nat} {m : Str → Option Value} {news : Led} {Q E : Value → Shared → Prop} {f : Addr} {vs : List Value} {kw : List (Str × Value)}
    {name qual : Str} {params : Arguments} {body : List Stmt} {scope : Scope} {dV kV doc pm cdv ct oc : Value} {an od : Option Addr} {osl : Array (Option Value)} (rb : List (Str × Value))
    (C : At w A env L h₀) (F : Fr h₀ L hp m) (N : News h₀ L hp news)
    (ho : (KW w).lookup f = some ⟨oc, od, .func (fnX name qual params body scope [] dV kV doc pm an cdv ct), osl⟩) (hcd : codeIn (KW w) cdv qual = true) (hroom : A.depth < recursionLimit)
    (hbind : BindsTo (St s hp tk) (fnX name qual params body scope [] dV kV doc pm an cdv ct) ⟨vs, kw⟩ rb.reverse) (hloc : ∀ y ∈ rb.reverse, scope.names.lookup y.1 = some .local)
    (hcell : ∀ x ∈ scope.names, x.2 ≠ .cell) (hco : scope.isCoroutine = false) (hgen : scope.isGenerator = false) (hk : scope.kind = .function)
    (h : ∀ g L' h₁ tk', At w (A.deeper (envX qual scope L' f cdv [])) (envX qual scope L' f cdv []) L' g → Fr g L' h₁ (mp rb) → News g L' h₁ news → (∀ p ∈ news, p.1 < L') →
      wpAny (MM w) (A.deeper (envX qual scope L' f cdv [])) (execs body (envX qual scope L' f cdv [])) (Ret h₀ L m g L' s Q) (fun _ _ => False) (St s h₁ tk')) :
    wpAny (MM w) A (call (.ref f) vs kw) Q E (St s hp tk) := by
  obtain ⟨A₀, base, outer, B, hA⟩ := C.below
  obtain ⟨p, loose, mean, mg, mb, T⟩ := C.top
  refine wpAny_call ?_
  refine callX_plain (cl := []) B F N T.nolimit hA C.fr C.kind ((C.inK.keeps F.keep) _ _ ho) rfl (codeRec_of (C.inK.keeps F.keep) hcd) hroom hbind hloc (fun g L' h₁ FG F' N' B' st lt => ?_) hcell hco hgen hk
  have C' : At w (A.deeper (envX qual scope L' f cdv [])) (envX qual scope L' f cdv []) L' g :=
    ⟨⟨A, base, env :: outer, B', by show A.frames.map _ = _; rw [hA]; rfl⟩, rfl, hk, C.inK.keeps st, ⟨p, loose, mean, mg, mb, T.keeps st⟩, C.hnd⟩
  rw [List.reverse_reverse] at F'
  refine wpAny_mono (h g L' h₁ _ C' F' N' lt) (fun fl s' x => ?_) (fun _ _ x => x.elim)
  obtain ⟨v, m', news', h', tk', rfl, rfl, F', N', k⟩ := x
  exact ⟨_, _, _, F', N', k⟩

section
variable {w : World} {A : Around} {E : Value → Shared → Prop} {s : Shared} {hp h₀ : Heap} {tk : Nat} {L a : Addr} {cn : Str} {cs : Scope} {ccd : Value} {cl : List (Str × Addr)} {m : Str → Option Value} {l : List (Str × Value)} {news : Led} {x : Str} {pos : Pos} {v : Value} {env : Env} {i j : Int} {t u : Tok}
theorem nmG {Q : Value → Shared → Prop} (C : At w A (envX cn cs L a ccd cl) L h₀) (F : Fr h₀ L hp m) (e : nsIn (KW w) mainGlobals x = some (some v)) (h : Q v (St s hp tk))
    (hx : (envX cn cs L a ccd cl).kindOf x = some .globalImplicit := by rfl) (hd : (x == ("__debug__" : Str)) = false := by decide) : wpAny (MM w) A (eval (.Name x pos) (envX cn cs L a ccd cl)) Q E (St s hp tk) := by
  obtain ⟨p, loose, mean, mg, mb, T⟩ := C.top
  exact nameX_K (s := St s hp tk) F C.inK (topRead_of T) e h C.kind hx hd
theorem nmB {Q : Value → Shared → Prop} (C : At w A (envX cn cs L a ccd cl) L h₀) (F : Fr h₀ L hp m) (e : nsIn (KW w) mainGlobals x = some none) (hv : bootBuiltins x = some v) (h : Q v (St s hp tk))
    (hn : x ≠ "__name__" := by decide) (hx : (envX cn cs L a ccd cl).kindOf x = some .globalImplicit := by rfl) (hd : (x == ("__debug__" : Str)) = false := by decide) : wpAny (MM w) A (eval (.Name x pos) (envX cn cs L a ccd cl)) Q E (St s hp tk) := by
  obtain ⟨p, loose, mean, mg, mb, T⟩ := C.top
  exact nameX_B (s := St s hp tk) F C.inK (topRead_of T) e hv hn h C.kind hx hd
theorem nmL {Q : Value → Shared → Prop} (C : At w A (envX cn cs L a ccd cl) L h₀) (F : Fr h₀ L hp m) (hv : m x = some v) (h : Q v (St s hp tk))
    (hx : (envX cn cs L a ccd cl).kindOf x = some .local := by rfl) (hd : (x == ("__debug__" : Str)) = false := by decide) : wpAny (MM w) A (eval (.Name x pos) (envX cn cs L a ccd cl)) Q E (St s hp tk) :=
  nameX_L (s := St s hp tk) F hv h C.kind hx hd
theorem ldL {Q : Value → Shared → Prop} (C : At w A (envX cn cs L a ccd cl) L h₀) (F : Fr h₀ L hp m) (hv : m x = some v) (h : Q v (St s hp tk))
    (hx : (envX cn cs L a ccd cl).kindOf x = some .local := by rfl) : wpAny (MM w) A (loadName (envX cn cs L a ccd cl) x) Q E (St s hp tk) :=
  wpAny_loadName_local C.kind hx F.ns hv h
theorem stL {Q : Unit → Shared → Prop} (C : At w A (envX cn cs L a ccd cl) L h₀) (F : Fr h₀ L hp (mp l)) (N : News h₀ L hp news)
    (h : ∀ h' tk', Fr h₀ L h' (mp ((x, v) :: l)) → News h₀ L h' news → Q () (St s h' tk'))
    (hx : (envX cn cs L a ccd cl).kindOf x = some .local := by rfl) : wpAny (MM w) A (storeName (envX cn cs L a ccd cl) x v) Q E (St s hp tk) := by
  refine storeX_L (s := St s hp tk) F N (fun h' F' N' => h h' _ ?_ N') C.kind hx
  have e : (mp ((x, v) :: l)) = (fun y => if y = x then some v else mp l y) := by
    funext y
    show List.lookup y ((x, v) :: l) = _
    rw [List.lookup_cons]
    by_cases hy : y = x
    · subst hy; simp
    · rw [beq_eq_false_iff_ne.mpr hy, if_neg hy]
  rw [e]; exact F'
theorem cint {Q : Value → Shared → Prop} {k : Nat} (h : ∀ t tk', Q (.int i t) (St s hp tk')) : wpAny (MM w) A (eval (.Constant (.int i) k pos) env) Q E (St s hp tk) := wpAny_Constant_int (h _ _)
theorem cstr {Q : Value → Shared → Prop} {k : Nat} {z : Str} (h : ∀ t tk', Q (.str z t) (St s hp tk')) : wpAny (MM w) A (eval (.Constant (.str z) k pos) env) Q E (St s hp tk) := Calls.Constant_str (h _ _)
theorem cnone {Q : Value → Shared → Prop} {k : Nat} (h : Q .none (St s hp tk)) : wpAny (MM w) A (eval (.Constant .none k pos) env) Q E (St s hp tk) := wpAny_Constant_none h
theorem cbool {Q : Value → Shared → Prop} {k : Nat} {b : Bool} (h : Q (.bool b) (St s hp tk)) : wpAny (MM w) A (eval (.Constant (.bool b) k pos) env) Q E (St s hp tk) := wpAny_Constant_bool h
theorem radd {Q : Value → Shared → Prop} (h : ∀ t' tk', Q (.int (i + j) t') (St s hp tk')) : wpAny (MM w) A (binaryOp .Add (.int i t) (.int j u)) Q E (St s hp tk) := add_int (h _ _)
theorem rsub {Q : Value → Shared → Prop} (h : ∀ t' tk', Q (.int (i - j) t') (St s hp tk')) : wpAny (MM w) A (binaryOp .Sub (.int i t) (.int j u)) Q E (St s hp tk) := sub_int (h _ _)
theorem rmul {Q : Value → Shared → Prop} (hi : -(2 ^ 64) < i) (hi2 : i < 2 ^ 64) (h : ∀ t' tk', Q (.int (i * j) t') (St s hp tk')) : wpAny (MM w) A (binaryOp .Mult (.int i t) (.int j u)) Q E (St s hp tk) := mul_int (h _ _) (IntMulOk.of_left (intBits_le_64 hi hi2))
theorem rmod {Q : Value → Shared → Prop} (hj : 0 < j) (h : ∀ t' tk', Q (.int (i % j) t') (St s hp tk')) : wpAny (MM w) A (binaryOp .Mod (.int i t) (.int j u)) Q E (St s hp tk) := by
  refine mod_int' (by omega) ?_
  rw [Int.fmod_eq_emod_of_nonneg _ (by omega)]
  exact h _ _
theorem rand {Q : Value → Shared → Prop} (h : ∀ t' tk', Q (.int (Builtin.bitAnd i j) t') (St s hp tk')) : wpAny (MM w) A (binaryOp .BitAnd (.int i t) (.int j u)) Q E (St s hp tk) := and_int (h _ _)
theorem req {Q : Value → Shared → Prop} (h : Q (.bool (i == j)) (St s hp tk)) : wpAny (MM w) A (compareOp .Eq (.int i t) (.int j u)) Q E (St s hp tk) := eq_int h
theorem rlt {Q : Value → Shared → Prop} (h : Q (.bool (decide (i < j))) (St s hp tk)) : wpAny (MM w) A (compareOp .Lt (.int i t) (.int j u)) Q E (St s hp tk) := PyProof.Rows.lt_int h
theorem rgt {Q : Value → Shared → Prop} (h : Q (.bool (decide (j < i))) (St s hp tk)) : wpAny (MM w) A (compareOp .Gt (.int i t) (.int j u)) Q E (St s hp tk) := PyProof.Rows.gt_int h
theorem tbool {Q : Bool → Shared → Prop} {b : Bool} (h : Q b (St s hp tk)) : wpAny (MM w) A (truthy (.bool b)) Q E (St s hp tk) := wpAny_truthy_bool h
theorem tint {Q : Bool → Shared → Prop} (h : Q (i != 0) (St s hp tk)) : wpAny (MM w) A (truthy (.int i t)) Q E (St s hp tk) := PyProof.Rows.truthy_int h
end
end Mine
namespace Mine
abbrev lst (vs : List Value) (k : Nat) : Obj := W.listOf vs.toArray k
inductive T where
  | num (n : Int)
  | nm (k : Int)
  | bin (b : Bool) (p : Int) (l r : T)
def tag : Bool → Int
  | false => 2
  | true => 3
def T.depth : T → Nat
  | .num _ => 1
  | .nm _ => 1
  | .bin _ _ l r => max l.depth r.depth + 1
def T.worth (x y : Int) : T → Int
  | .num n => n
  | .nm k => if k = 0 then x else y
  | .bin _ p l r => 3 * l.worth x y - r.worth x y + p
/-- names are 0 or 1 -/
def T.two : T → Prop
  | .num _ => True
  | .nm k => k = 0 ∨ k = 1
  | .bin _ _ l r => l.two ∧ r.two
inductive TIn (news : Led) : Value → T → Prop where
  | num {a : Addr} {n : Int} {t1 t2 : Tok} {k : Nat} : (a, lst [.int 0 t1, .int n t2] k) ∈ news → TIn news (.ref a) (.num n)
  | nm {a : Addr} {n : Int} {t1 t2 : Tok} {k : Nat} : (a, lst [.int 1 t1, .int n t2] k) ∈ news → TIn news (.ref a) (.nm n)
  | bin {a : Addr} {b : Bool} {n : Int} {t1 t2 : Tok} {k : Nat} {v1 v2 : Value} {l r : T} : (a, lst [.int (tag b) t1, .int n t2, v1, v2] k) ∈ news → TIn news v1 l → TIn news v2 r → TIn news (.ref a) (.bin b n l r)
theorem TIn.mono {news news' : Led} {v : Value} {t : T} (h : TIn news v t) (hs : ∀ p ∈ news, p ∈ news') : TIn news' v t := by
  induction h with
  | num h => exact .num (hs _ h)
  | nm h => exact .nm (hs _ h)
  | bin h _ _ i1 i2 => exact .bin (hs _ h) i1 i2

def Says (w : World) (f : Addr) (n : Nat) (vs : List Value) (news : Led) (Post : Led → Value → Prop) : Prop :=
  ∀ (A : Around) (env : Env) (L : Addr) (h₀ hp : Heap) (m : Str → Option Value) (s : Shared) (tk : Nat) (Q E : Value → Shared → Prop),
    At w A env L h₀ → Fr h₀ L hp m → News h₀ L hp news → A.depth + n < recursionLimit → A.units + 8 * n + 100 < cLine →
    (∀ r news' h' tk', Fr h₀ L h' m → News h₀ L h' news' → Post news' r → Q r (St s h' tk')) →
    wpAny (MM w) A (call (.ref f) vs) Q E (St s hp tk)

def SaysR (w : World) (f : Addr) (n : Nat) (vs : List Value) (news : Led) (Post : Value → Prop) : Prop :=
  ∀ (A : Around) (env : Env) (L : Addr) (h₀ hp : Heap) (m : Str → Option Value) (s : Shared) (tk : Nat) (Q E : Value → Shared → Prop),
    At w A env L h₀ → Fr h₀ L hp m → News h₀ L hp news → A.depth + n < recursionLimit → A.units + 8 * n + 100 < cLine →
    (∀ r h' tk', Fr h₀ L h' m → News h₀ L h' news → Post r → Q r (St s h' tk')) →
    wpAny (MM w) A (call (.ref f) vs) Q E (St s hp tk)

section
variable {w : World} {A : Around} {E : Value → Shared → Prop} {s : Shared} {hp h₀ : Heap} {tk : Nat} {L a : Addr} {m : Str → Option Value} {news : Led} {x : Str} {pos : Pos} {v : Value} {env : Env} {i j : Int} {t u : Tok} {Q : Value → Shared → Prop}
theorem subL {value slice : PySem.Expr} {l : Addr} {vs : List Value} {n : Nat} {k : Int} {u : Tok} (N : News h₀ L hp news) (hm : (l, lst vs n) ∈ news) (h0 : 0 ≤ k) (hhi : k < 2 ^ 63) (hx : vs[k.toNat]? = some v) (h : Q v (St s hp tk))
    (hs : subscripted slice false (.ref l) (.int k u) = operate [.ref l, .int k u] (getItem (.ref l) (.int k u)) := by with_unfolding_all rfl) :
    wpAny (MM w) A (subscriptTail value slice (.ref l) (.int k u)) Q E (St s hp tk) := item_litK (s := St s hp tk) (News.isList N hm) h0 hhi hx h hs
theorem newL {vs : List Value} (F : Fr h₀ L hp m) (N : News h₀ L hp news)
    (h : ∀ l h', Fr h₀ L h' m → News h₀ L h' ((l, lst vs 0) :: news) → (∀ p ∈ news, p.1 < l) → Q (.ref l) (St s h' tk)) (hz : vs.length ≤ sizeLine := by exact Nat.le_of_ble_eq_true rfl) :
    wpAny (MM w) A (newList vs) Q E (St s hp tk) := newList_K (s := St s hp tk) F N (fun l h' F' N' lt => h l h' F' N' lt) hz
theorem addL {l b : Addr} {vs ws : List Value} {n k : Nat} (F : Fr h₀ L hp m) (N : News h₀ L hp news) (hl : (l, lst vs n) ∈ news) (hb : (b, lst ws k) ∈ news)
    (h : ∀ c h', Fr h₀ L h' m → News h₀ L h' ((c, lst (vs ++ ws) 0) :: news) → (∀ p ∈ news, p.1 < c) → Q (.ref c) (St s h' tk)) (hz : vs.length + ws.length ≤ sizeLine) :
    wpAny (MM w) A (binaryOp .Add (.ref l) (.ref b)) Q E (St s hp tk) :=
  add_lists (s := St s hp tk) F N (News.isList N hl) (News.isList N hb) (fun h' F' N' => h _ h' F' N' (fun p hq => Heap.lt_size (N p hq).1)) hz
theorem lenL {l : Addr} {vs : List Value} {n : Nat} (N : News h₀ L hp news) (hl : (l, lst vs n) ∈ news) (hz : vs.length ≤ sizeLine) (h : ∀ t' tk', Q (.int vs.length t') (St s hp tk')) :
    wpAny (MM w) A (call (.builtin "len") [.ref l]) Q E (St s hp tk) := by
  have h2 := sizeLine_eq
  refine PyProof.Rows.len_list (s := St s hp tk) (News.isList N hl) (by rw [List.size_toArray]; omega) ?_
  rw [List.size_toArray]
  exact h _ _
theorem rdiv {Q : Value → Shared → Prop} (hj : 0 < j) (hl : j.natAbs.log2 < 9000) (h : ∀ t' tk', Q (.int (i / j) t') (St s hp tk')) : wpAny (MM w) A (binaryOp .FloorDiv (.int i t) (.int j u)) Q E (St s hp tk) := by
  refine floordiv_int (by omega) ?_ (.inl (PyProof.noPylong_of_log2 hl))
  rw [Int.fdiv_eq_ediv_of_nonneg _ (by omega)]
  exact h _ _
theorem News.swap {h₀ h : Heap} {L : Addr} {p q : Addr × Obj} {r : Led} (N : News h₀ L h (p :: q :: r)) : News h₀ L h (q :: p :: r) := fun x hx => N x (by
  rcases List.mem_cons.mp hx with rfl | hx
  · exact .tail _ (.head _)
  · rcases List.mem_cons.mp hx with rfl | hx
    · exact .head _
    · exact .tail _ (.tail _ hx))
theorem News.drop2 {h₀ h : Heap} {L : Addr} {p q : Addr × Obj} {r : Led} (N : News h₀ L h (p :: q :: r)) : News h₀ L h (p :: r) := fun x hx => N x (by
  rcases List.mem_cons.mp hx with rfl | hx
  · exact .head _
  · exact .tail _ (.tail _ hx))
theorem neI {l b : Addr} {vs ws : List Value} {n k : Nat} {ns ms : List Int} (N : News h₀ L hp news) (hl : (l, lst vs n) ∈ news) (hb : (b, lst ws k) ∈ news) (hi : IntsAre vs ns) (hj : IntsAre ws ms) (hu : A.units + 64 < cLine) (h : Q (.bool (!decide (ns = ms))) (St s hp tk)) :
    wpAny (MM w) A (compareOp .NotEq (.ref l) (.ref b)) Q E (St s hp tk) := ke_ne_ints (s := St s hp tk) (News.isList N hl) (News.isList N hb) hi hj hu h
theorem mpop {l : Addr} {vs : List Value} {n : Nat} {pl : Sem Bool} {Q : Value × List Value → Shared → Prop} (N : News h₀ L hp news) (hm : (l, lst vs n) ∈ news) (h : Q (.builtin "list.pop", [.ref l]) (St s hp tk)) :
    wpAny (MM w) A (getMethod (.ref l) "pop" pl) Q E (St s hp tk) := kl_method (s := St s hp tk) N hm PySem.F.slot_list_pop PySem.F.type_list_pop h
theorem popL {l : Addr} {y : Value} {q : List Value} {n : Nat} {rest : Led} (F : Fr h₀ L hp m) (N : News h₀ L hp ((l, lst (y :: q) n) :: rest)) (ne : ∀ p ∈ rest, p.1 ≠ l) (hz : (y :: q).length ≤ sizeLine)
    (h : ∀ h', Fr h₀ L h' m → News h₀ L h' ((l, lst q (n + 1)) :: rest) → Q y (St s h' tk)) : wpAny (MM w) A (call (.builtin "list.pop") [.ref l, .int 0 t]) Q E (St s hp tk) := by
  refine kl_popAt (s := St s hp tk) (k := 0) (p := []) (q := q) (y := y) F N (by rfl) ?_ (by rfl) (Upd.head ne) hz h
  simp [seqIndex?]
theorem deep1 {env : Env} {n k : Nat} (h : A.depth + n < recursionLimit) (hk : k + 1 ≤ n) : (A.deeper env).depth + k < recursionLimit := by show A.depth + 1 + k < _; omega
theorem unit1 {env : Env} {n k : Nat} (h : A.units + 8 * n + 100 < cLine) (hk : k + 1 ≤ n) : (A.deeper env).units + 8 * k + 100 < cLine := by show A.units + 3 + 8 * k + 100 < _; omega
theorem unit2 {env : Env} (h : A.units + 100 < cLine) : (A.deeper env).units + 64 < cLine := by show A.units + 3 + 64 < _; omega
theorem News.sub {h₀ h : Heap} {L : Addr} {news news' : Led} (N : News h₀ L h news) (hs : ∀ p ∈ news', p ∈ news) : News h₀ L h news' := fun p hp => N p (hs p hp)
end
end Mine
local macro_rules | `(tactic| walk_at "m") => `(tactic| first
  | ((with_reducible show wpAny _ _ (execs (_ :: _) _) _ _ _); refine wpAny_execs_cons ?_)
  | ((with_reducible show wpAny _ _ (execs [] _) _ _ _); refine wpAny_execs_nil ?_)
  | ((with_reducible show wpAny _ _ (exec (Stmt.If _ _ _ _) _) _ _ _); refine wpAny_If ?_)
  | ((with_reducible show wpAny _ _ (exec (Stmt.Assign [Expr.Name _ _] _ _) _) _ _ _); refine wpAny_Assign_Name ?_)
  | ((with_reducible show wpAny _ _ (exec (Stmt.AugAssign (Expr.Name _ _) _ _ _) _) _ _ _); refine wpAny_AugAssign_Name ?_)
  | ((with_reducible show wpAny _ _ (exec (Stmt.Return (some _) _) _) _ _ _); refine wpAny_Return_some ?_)
  | ((with_reducible show wpAny _ _ (isTrue (Expr.Compare _ [_] [_] _) _ _) _ _ _); refine wpAny_isTrue_Compare1 ?_)
  | ((with_reducible show wpAny _ _ (eval (Expr.Compare _ [_] [_] _) _) _ _ _); refine wpAny_Compare1 ?_)
  | ((with_reducible show wpAny _ _ (eval (Expr.Subscript _ _ _) _) _ _ _); refine Subscript_ ?_)
  | ((with_reducible show wpAny _ _ (eval (Expr.Slice _ _ _ _) _) _ _ _); refine wpAny_Slice ?_)
  | ((with_reducible show wpAny _ _ (evalPart (some _) _) _ _ _); refine evalPart_some_step ?_)
  | ((with_reducible show wpAny _ _ (evalPart none _) _ _ _); refine evalPart_none_step ?_)
  | ((with_reducible show wpAny _ _ (eval (Expr.IfExp _ _ _ _) _) _ _ _); refine wpAny_IfExp ?_)
  | ((with_reducible show wpAny _ _ (eval (Expr.BinOp _ _ _ _) _) _ _ _); refine wpAny_BinOp ?_)
  | ((with_reducible show wpAny _ _ (eval (Expr.List _ _) _) _ _ _); refine List_ ?_)
  | ((with_reducible show wpAny _ _ (eval (Expr.Tuple _ _ _) _) _ _ _); refine Tuple_ ?_)
  | ((with_reducible show wpAny _ _ (eval (Expr.Constant (Const.int _) _ _) _) _ _ _); refine Mine.cint ?_; intro _ _)
  | ((with_reducible show wpAny _ _ (eval (Expr.Constant (Const.str _) _ _) _) _ _ _); refine Mine.cstr ?_; intro _ _)
  | ((with_reducible show wpAny _ _ (eval (Expr.Constant Const.none _ _) _) _ _ _); refine Mine.cnone ?_)
  | ((with_reducible show wpAny _ _ (eval (Expr.Constant (Const.bool _) _ _) _) _ _ _); refine Mine.cbool ?_)
  | ((with_reducible show wpAny _ _ (compareOp CmpOp.Eq (Value.int _ _) (Value.int _ _)) _ _ _); refine Mine.req ?_)
  | ((with_reducible show wpAny _ _ (compareOp CmpOp.Lt (Value.int _ _) (Value.int _ _)) _ _ _); refine Mine.rlt ?_)
  | ((with_reducible show wpAny _ _ (compareOp CmpOp.Gt (Value.int _ _) (Value.int _ _)) _ _ _); refine Mine.rgt ?_)
  | ((with_reducible show wpAny _ _ (truthy (Value.bool _)) _ _ _); refine Mine.tbool ?_)
  | ((with_reducible show wpAny _ _ (truthy (Value.int _ _)) _ _ _); refine Mine.tint ?_)
  | ((with_reducible show wpAny _ _ (binaryOp Operator.Sub (Value.int _ _) (Value.int _ _)) _ _ _); refine Mine.rsub ?_; intro _ _)
  | ((with_reducible show wpAny _ _ (binaryOp Operator.Add (Value.int _ _) (Value.int _ _)) _ _ _); refine Mine.radd ?_; intro _ _)
  | ((with_reducible show wpAny _ _ (binaryOp Operator.Mult (Value.int _ _) (Value.int _ _)) _ _ _); refine Mine.rmul (by decide) (by decide) ?_; intro _ _)
  | ((with_reducible show wpAny _ _ (binaryOp Operator.Mod (Value.int _ _) (Value.int _ _)) _ _ _); refine Mine.rmod (by decide) ?_; intro _ _)
  | ((with_reducible show wpAny _ _ (binaryOp Operator.FloorDiv (Value.int _ _) (Value.int _ _)) _ _ _); refine Mine.rdiv (by decide) (by decide) ?_; intro _ _)
  | ((with_reducible show wpAny _ _ (binaryOp Operator.BitAnd (Value.int _ _) (Value.int _ _)) _ _ _); refine Mine.rand ?_; intro _ _)
  | ((with_reducible show wpAny _ _ (eval (Expr.Name _ _) _) _ _ _); refine Mine.nmL (by assumption) (by assumption) (by rfl) ?_)
  | ((with_reducible show wpAny _ _ (loadName _ _) _ _ _); refine Mine.ldL (by assumption) (by assumption) (by rfl) ?_)
  | ((with_reducible show wpAny _ _ (spliced (backTo _ (starEach (_ :: _) _))) _ _ _); refine spliced_more ?_)
  | ((with_reducible show wpAny _ _ (spliced (backTo _ (starEach [] _))) _ _ _); refine spliced_none ?_)
  | ((with_reducible show wpAny _ _ (eval (Expr.Call (Expr.Name _ _) _ [] _) _) _ _ _); refine Call_ ?_))
namespace Mine
set_option maxHeartbeats 1000000 in
theorem worth_ok (w : World) (x y : Int) (t1 t2 : Tok) (k : Nat) (o : Addr) : ∀ (t : T) (news : Led) (v : Value), TIn news v t → t.two → (o, lst [.int x t1, .int y t2] k) ∈ news →
    SaysR w 79 t.depth [v, .ref o] news (fun r => ∃ tk, r = .int (t.worth x y) tk) := by
  intro t
  induction t with
  | num n =>
    intro news v hT h2 ho A env L h₀ hp m s tk Q E C F N hd hu hret
    cases hT with | @num a _ t1 t2 k hm =>
    simp only [T.depth] at hd hu
    refine enter [("outer", .ref o), ("term", .ref a)] C F N (by exact rfl) (by kernel_rfl) (by omega) (BindsTo.of_eq (by rfl)) (locs (by rfl)) (by decide) (by rfl) (by rfl) (by rfl) ?_
    clear C F N
    intro g L' h₁ tk C F N lt
    repeat walk_at "m"
    refine subL N hm (by decide) (by decide) rfl ?_
    repeat walk_at "m"
    refine ite_tt ?_
    repeat walk_at "m"
    refine subL N hm (by decide) (by decide) rfl ?_
    exact Ret.mk F N (fun F N => hret _ _ _ F N ⟨_, rfl⟩)
  | nm n =>
    intro news v hT h2 ho A env L h₀ hp m s tk Q E C F N hd hu hret
    cases hT with | @nm a _ t1 t2 k hm =>
    simp only [T.depth] at hd hu
    refine enter [("outer", .ref o), ("term", .ref a)] C F N (by exact rfl) (by kernel_rfl) (by omega) (BindsTo.of_eq (by rfl)) (locs (by rfl)) (by decide) (by rfl) (by rfl) (by rfl) ?_
    clear C F N
    intro g L' h₁ tk C F N lt
    repeat walk_at "m"
    refine subL N hm (by decide) (by decide) rfl ?_
    repeat walk_at "m"
    refine ite_ff ?_
    repeat walk_at "m"
    refine subL N hm (by decide) (by decide) rfl ?_
    repeat walk_at "m"
    refine ite_tt ?_
    repeat walk_at "m"
    refine subL N hm (by decide) (by decide) rfl ?_
    rcases h2 with rfl | rfl
    · refine subL N ho (by decide) (by decide) rfl ?_
      exact Ret.mk F N (fun F N => hret _ _ _ F N ⟨_, rfl⟩)
    · refine subL N ho (by decide) (by decide) rfl ?_
      exact Ret.mk F N (fun F N => hret _ _ _ F N ⟨_, rfl⟩)
  | bin b p l r ihl ihr =>
    intro news v hT h2 ho A env L h₀ hp m s tk Q E C F N hd hu hret
    cases hT with | @bin a _ _ t1 t2 k v1 v2 _ _ hm hl hr =>
    simp only [T.depth] at hd hu
    refine enter [("outer", .ref o), ("term", .ref a)] C F N (by exact rfl) (by kernel_rfl) (by omega) (BindsTo.of_eq (by rfl)) (locs (by rfl)) (by decide) (by rfl) (by rfl) (by rfl) ?_
    clear C F N
    intro g L' h₁ tk C F N lt
    repeat walk_at "m"
    refine subL N hm (by decide) (by decide) rfl ?_
    repeat walk_at "m"
    have hb0 : (tag b == 0) = false := by cases b <;> rfl
    have hb1 : (tag b == 1) = false := by cases b <;> rfl
    rw [hb0]
    refine ite_ff ?_
    repeat walk_at "m"
    refine subL N hm (by decide) (by decide) rfl ?_
    repeat walk_at "m"
    rw [hb1]
    refine ite_ff ?_
    repeat walk_at "m"
    refine nmG C F (g_worth w) ?_
    refine callWith_K C.inK (kp_worth w) ?_
    repeat walk_at "m"
    refine subL N hm (by decide) (by decide) rfl ?_
    repeat walk_at "m"
    refine ⟨C.inK.keeps F.keep, ?_⟩
    refine ihl news v1 hl h2.1 ho _ _ _ _ _ _ _ _ _ _ C F N (deep1 hd (by omega)) (unit1 hu (by omega)) ?_
    clear F N
    rintro _ h₂ tk₂ F N ⟨tk3, rfl⟩
    repeat walk_at "m"
    refine nmG C F (g_worth w) ?_
    refine callWith_K C.inK (kp_worth w) ?_
    repeat walk_at "m"
    refine subL N hm (by decide) (by decide) rfl ?_
    repeat walk_at "m"
    refine ⟨C.inK.keeps F.keep, ?_⟩
    refine ihr _ v2 hr h2.2 ho _ _ _ _ _ _ _ _ _ _ C F N (deep1 hd (by omega)) (unit1 hu (by omega)) ?_
    clear F N
    rintro _ h₂ tk₂ F N ⟨tk3, rfl⟩
    repeat walk_at "m"
    refine subL N hm (by decide) (by decide) rfl ?_
    repeat walk_at "m"
    exact Ret.mk F N (fun F N => hret _ _ _ F N ⟨_, rfl⟩)
end Mine
namespace Mine
inductive Mk : List Int → Int → T → List Int → Prop where
  | nil (b : Int) : Mk [] b (.num 1) []
  | num {n b : Int} {ns : List Int} : n % 4 = 0 → Mk (n :: ns) b (.num (n / 4 % 5000)) ns
  | nm {n b : Int} {ns : List Int} : n % 4 = 1 → Mk (n :: ns) b (.nm (n / 4 % 5000 % (b + 2))) ns
  | bin {n b : Int} {ns ns1 ns2 : List Int} {c : Bool} {l r : T} : n % 4 = tag c → Mk ns b l ns1 → Mk ns1 (b + tag c - 2) r ns2 → Mk (n :: ns) b (.bin c (n / 4 % 5000) l r) ns2
theorem Mk.len {ns ns' : List Int} {b : Int} {t : T} (h : Mk ns b t ns') : ns'.length ≤ ns.length := by
  induction h with
  | nil => exact Nat.le_refl _
  | num => simp
  | nm => simp
  | bin _ _ _ i1 i2 => simp only [List.length_cons]; omega
def TermPost (a : Addr) (rest : Led) (ns' : List Int) (t : T) (news' : Led) (r : Value) : Prop :=
  ∃ ws' k' rest', news' = (a, lst ws' k') :: rest' ∧ IntsAre ws' ns' ∧ (∀ p ∈ rest, p ∈ rest') ∧ (∀ p ∈ rest', p.1 ≠ a) ∧ TIn rest' r t
theorem termPost_leaf {a c : Addr} {rest : Led} {ns' : List Int} {t : T} {ws : List Value} {k : Nat} {o : Obj} {h₀ h : Heap} {L : Addr} {Q : Value → Shared → Prop} {s : Shared} {m : Str → Option Value} {tk : Nat}
    (hI : IntsAre ws ns') (lt : ∀ p ∈ (a, lst ws k) :: rest, p.1 < c) (hne : ∀ p ∈ rest, p.1 ≠ a) (hT : TIn ((c, o) :: rest) (.ref c) t)
    (F : Fr h₀ L h m) (N : News h₀ L h ((c, o) :: (a, lst ws k) :: rest))
    (hret : ∀ r news' h' tk', Fr h₀ L h' m → News h₀ L h' news' → TermPost a rest ns' t news' r → Q r (St s h' tk')) : Q (.ref c) (St s h tk) := by
  refine hret _ _ _ _ F (News.swap N) ⟨ws, k, _, rfl, hI, fun p hp => .tail _ hp, ?_, hT⟩
  intro p hp
  rcases List.mem_cons.mp hp with rfl | hp
  · have := lt _ (.head _); exact Nat.ne_of_gt this
  · exact hne p hp
set_option maxHeartbeats 2000000 in
theorem term_ok (w : World) {ns ns' : List Int} {b : Int} {t : T} (h : Mk ns b t ns') : 0 ≤ b → ns.length ≤ 1000 → ∀ (a : Addr) (ws : List Value) (k : Nat) (rest : Led) (tb : Tok), IntsAre ws ns → (∀ p ∈ rest, p.1 ≠ a) →
    Says w 58 t.depth [.ref a, .int b tb] ((a, lst ws k) :: rest) (TermPost a rest ns' t) := by
  induction h with
  | nil b =>
    intro hb hlen a ws k rest tb hI hne A env L h₀ hp m s tk Q E C F N hd hu hret
    simp only [T.depth] at hd hu
    refine enter [("bound", .int b tb), ("numbers", .ref a)] C F N (by exact rfl) (by kernel_rfl) (by omega) (BindsTo.of_eq (by rfl)) (locs (by rfl)) (by decide) (by rfl) (by rfl) (by rfl) ?_
    clear C F N
    intro g L' h₁ tk C F N lt
    repeat walk_at "m"
    refine newL F N ?_
    clear F N
    intro e h₂ F N lt2
    refine neI N (.tail _ (.head _)) (.head _) hI .nil (unit2 (by omega)) ?_
    repeat walk_at "m"
    refine ite_ff ?_
    repeat walk_at "m"
    refine stL C F (News.sub N (fun p hp => .tail _ hp)) ?_
    clear F N
    intro h₄ tk4 F N
    repeat walk_at "m"
    refine stL C F N ?_
    clear F N
    intro h₅ tk5 F N
    repeat walk_at "m"
    refine ite_tt ?_
    repeat walk_at "m"
    refine newL F N ?_
    clear F N
    intro c h₆ F N lt3
    exact Ret.mk F N (fun F N => termPost_leaf hI lt3 hne (.num (.head _)) F N hret)
  | @num n b ns hn =>
    intro hb hlen a ws k rest tb hI hne A env L h₀ hp m s tk Q E C F N hd hu hret
    simp only [T.depth] at hd hu
    simp only [List.length_cons] at hlen
    refine enter [("bound", .int b tb), ("numbers", .ref a)] C F N (by exact rfl) (by kernel_rfl) (by omega) (BindsTo.of_eq (by rfl)) (locs (by rfl)) (by decide) (by rfl) (by rfl) (by rfl) ?_
    clear C F N
    intro g L' h₁ tk C F N lt
    repeat walk_at "m"
    refine newL F N ?_
    clear F N
    intro e h₂ F N lt2
    refine neI N (.tail _ (.head _)) (.head _) hI .nil (unit2 (by omega)) ?_
    repeat walk_at "m"
    refine ite_tt ?_
    cases hI with | @cons _ tn ws _ hI =>
    refine MethodCall_ ?_
    repeat walk_at "m"
    refine mpop N (.tail _ (.head _)) ?_
    refine callWith_method1 ?_
    repeat walk_at "m"
    refine popL F (News.sub N (fun p hp => .tail _ hp)) hne (by rw [List.length_cons, hI.length]; have := sizeLine_eq; omega) ?_
    clear F N
    intro h₃ F N
    refine stL C F N ?_
    clear F N
    intro h₄ tk4 F N
    repeat walk_at "m"
    refine stL C F N ?_
    clear F N
    intro h₅ tk5 F N
    repeat walk_at "m"
    rw [show (n % 4 == 0) = true from by rw [hn]; rfl]
    refine ite_tt ?_
    repeat walk_at "m"
    refine newL F N ?_
    clear F N
    intro c h₆ F N lt3
    exact Ret.mk F N (fun F N => termPost_leaf hI lt3 hne (.num (.head _)) F N hret)
  | @nm n b ns hn =>
    intro hb hlen a ws k rest tb hI hne A env L h₀ hp m s tk Q E C F N hd hu hret
    simp only [T.depth] at hd hu
    simp only [List.length_cons] at hlen
    refine enter [("bound", .int b tb), ("numbers", .ref a)] C F N (by exact rfl) (by kernel_rfl) (by omega) (BindsTo.of_eq (by rfl)) (locs (by rfl)) (by decide) (by rfl) (by rfl) (by rfl) ?_
    clear C F N
    intro g L' h₁ tk C F N lt
    repeat walk_at "m"
    refine newL F N ?_
    clear F N
    intro e h₂ F N lt2
    refine neI N (.tail _ (.head _)) (.head _) hI .nil (unit2 (by omega)) ?_
    repeat walk_at "m"
    refine ite_tt ?_
    cases hI with | @cons _ tn ws _ hI =>
    refine MethodCall_ ?_
    repeat walk_at "m"
    refine mpop N (.tail _ (.head _)) ?_
    refine callWith_method1 ?_
    repeat walk_at "m"
    refine popL F (News.sub N (fun p hp => .tail _ hp)) hne (by rw [List.length_cons, hI.length]; have := sizeLine_eq; omega) ?_
    clear F N
    intro h₃ F N
    refine stL C F N ?_
    clear F N
    intro h₄ tk4 F N
    repeat walk_at "m"
    refine stL C F N ?_
    clear F N
    intro h₅ tk5 F N
    repeat walk_at "m"
    rw [show (n % 4 == 0) = false from by rw [hn]; rfl]
    refine ite_ff ?_
    repeat walk_at "m"
    rw [show (n % 4 == 1) = true from by rw [hn]; rfl]
    refine ite_tt ?_
    repeat walk_at "m"
    refine rmod (by omega) ?_
    intro _ _
    repeat walk_at "m"
    refine newL F N ?_
    clear F N
    intro c h₆ F N lt3
    exact Ret.mk F N (fun F N => termPost_leaf hI lt3 hne (.nm (.head _)) F N hret)
  | @bin n b ns ns1 ns2 c l r hn h1 h2 ih1 ih2 =>
    intro hb hlen a ws k rest tb hI hne A env L h₀ hp m s tk Q E C F N hd hu hret
    simp only [T.depth] at hd hu
    simp only [List.length_cons] at hlen
    have hc0 : (n % 4 == 0) = false := by rw [hn]; cases c <;> rfl
    have hc1 : (n % 4 == 1) = false := by rw [hn]; cases c <;> rfl
    have hb2 : 0 ≤ b + tag c - 2 := by cases c <;> simp only [tag] <;> omega
    have hl1 := h1.len
    refine enter [("bound", .int b tb), ("numbers", .ref a)] C F N (by exact rfl) (by kernel_rfl) (by omega) (BindsTo.of_eq (by rfl)) (locs (by rfl)) (by decide) (by rfl) (by rfl) (by rfl) ?_
    clear C F N
    intro g L' h₁ tk C F N lt
    repeat walk_at "m"
    refine newL F N ?_
    clear F N
    intro e h₂ F N lt2
    refine neI N (.tail _ (.head _)) (.head _) hI .nil (unit2 (by omega)) ?_
    repeat walk_at "m"
    refine ite_tt ?_
    cases hI with | @cons _ tn ws _ hI =>
    refine MethodCall_ ?_
    repeat walk_at "m"
    refine mpop N (.tail _ (.head _)) ?_
    refine callWith_method1 ?_
    repeat walk_at "m"
    refine popL F (News.sub N (fun p hp => .tail _ hp)) hne (by rw [List.length_cons, hI.length]; have := sizeLine_eq; omega) ?_
    clear F N
    intro h₃ F N
    refine stL C F N ?_
    clear F N
    intro h₄ tk4 F N
    repeat walk_at "m"
    refine stL C F N ?_
    clear F N
    intro h₅ tk5 F N
    repeat walk_at "m"
    rw [hc0]
    refine ite_ff ?_
    repeat walk_at "m"
    rw [hc1]
    refine ite_ff ?_
    repeat walk_at "m"
    refine nmG C F (g_term w) ?_
    refine callWith_K C.inK (kp_term w) ?_
    repeat walk_at "m"
    refine ⟨C.inK.keeps F.keep, ?_⟩
    refine ih1 hb (by omega) a ws (k + 1) rest tb hI hne _ _ _ _ _ _ _ _ _ _ C F N (deep1 hd (by omega)) (unit1 hu (by omega)) ?_
    clear F N
    rintro v1 _ h₆ tk6 F N ⟨ws1, k1, rest1, rfl, hI1, hs1, hne1, hT1⟩
    refine stL C F N ?_
    clear F N
    intro h₇ tk7 F N
    repeat walk_at "m"
    refine nmG C F (g_term w) ?_
    refine callWith_K C.inK (kp_term w) ?_
    repeat walk_at "m"
    refine ⟨C.inK.keeps F.keep, ?_⟩
    rw [show b + n % 4 - 2 = b + tag c - 2 from by rw [hn]]
    refine ih2 hb2 (by omega) a ws1 k1 rest1 _ hI1 hne1 _ _ _ _ _ _ _ _ _ _ C F N (deep1 hd (by omega)) (unit1 hu (by omega)) ?_
    clear F N
    rintro v2 _ h₈ tk8 F N ⟨ws2, k2, rest2, rfl, hI2, hs2, hne2, hT2⟩
    repeat walk_at "m"
    refine newL F N ?_
    clear F N
    intro d h₉ F N lt3
    rw [hn] at N
    refine Ret.mk F N (fun F N => ?_)
    refine hret _ _ _ _ F (News.swap N) ⟨ws2, k2, _, rfl, hI2, fun p hp => .tail _ (hs2 p (hs1 p hp)), ?_, .bin (.head _) (hT1.mono fun p hp => .tail _ (hs2 p hp)) (hT2.mono fun p hp => .tail _ hp)⟩
    intro p hp
    rcases List.mem_cons.mp hp with rfl | hp
    · have := lt3 _ (.head _); exact Nat.ne_of_gt this
    · exact hne2 p hp
end Mine
namespace Mine
def T.ok : T → Prop
  | .num n => 0 ≤ n ∧ n < 5000
  | .nm k => 0 ≤ k ∧ k < 5000
  | .bin _ p l r => (0 ≤ p ∧ p < 5000) ∧ l.ok ∧ r.ok
def T.putIn : T → List T → T
  | .num n, _ => .num n
  | .nm k, bs => if k < bs.length then bs.getD k.toNat (.num 0) else .nm (k - bs.length)
  | .bin true _ l r, bs => r.putIn (l.putIn bs :: bs)
  | .bin false p l r, bs => .bin false p (l.putIn bs) (r.putIn bs)
inductive TsIn (news : Led) : List Value → List T → Prop where
  | nil : TsIn news [] []
  | cons {v : Value} {t : T} {vs : List Value} {ts : List T} : TIn news v t → TsIn news vs ts → TsIn news (v :: vs) (t :: ts)
theorem TsIn.mono {news news' : Led} {vs : List Value} {ts : List T} (h : TsIn news vs ts) (hs : ∀ p ∈ news, p ∈ news') : TsIn news' vs ts := by
  induction h with
  | nil => exact .nil
  | cons h _ ih => exact .cons (h.mono hs) ih
theorem TsIn.length {news : Led} {vs : List Value} {ts : List T} (h : TsIn news vs ts) : vs.length = ts.length := by
  induction h with
  | nil => rfl
  | cons _ _ ih => simp only [List.length_cons, ih]
theorem TsIn.get {news : Led} {vs : List Value} {ts : List T} (h : TsIn news vs ts) (d : T) : ∀ {i : Nat}, i < ts.length → ∃ v, vs[i]? = some v ∧ TIn news v (ts.getD i d) := by
  induction h with
  | nil => intro i hi; exact absurd hi (Nat.not_lt_zero _)
  | cons h _ ih =>
    intro i hi
    cases i with
    | zero => exact ⟨_, rfl, h⟩
    | succ i => exact ih (by simpa using hi)
set_option maxHeartbeats 2000000 in
theorem putin_ok (w : World) : ∀ (t : T) (bs : List T) (news : Led) (v : Value) (b : Addr) (vb : List Value) (kb : Nat), TIn news v t → (b, lst vb kb) ∈ news → TsIn news vb bs → t.ok → bs.length + t.depth ≤ 1000 →
    Says w 72 t.depth [v, .ref b] news (fun news' r => (∀ p ∈ news, p ∈ news') ∧ TIn news' r (t.putIn bs)) := by
  intro t
  induction t with
  | num n =>
    intro bs news v b vb kb hT hb hB hok hlen A env L h₀ hp m s tk Q E C F N hd hu hret
    cases hT with | @num a _ t1 t2 k hm =>
    simp only [T.depth] at hd hu
    refine enter [("bound", .ref b), ("term", .ref a)] C F N (by exact rfl) (by kernel_rfl) (by omega) (BindsTo.of_eq (by rfl)) (locs (by rfl)) (by decide) (by rfl) (by rfl) (by rfl) ?_
    clear C F N
    intro g L' h₁ tk C F N lt
    repeat walk_at "m"
    refine subL N hm (by decide) (by decide) rfl ?_
    repeat walk_at "m"
    refine ite_tt ?_
    repeat walk_at "m"
    exact Ret.mk F N (fun F N => hret _ _ _ _ F N ⟨fun _ h => h, .num hm⟩)
  | nm n =>
    intro bs news v b vb kb hT hb hB hok hlen A env L h₀ hp m s tk Q E C F N hd hu hret
    cases hT with | @nm a _ t1 t2 k hm =>
    simp only [T.depth] at hd hu hlen
    have hz := sizeLine_eq
    refine enter [("bound", .ref b), ("term", .ref a)] C F N (by exact rfl) (by kernel_rfl) (by omega) (BindsTo.of_eq (by rfl)) (locs (by rfl)) (by decide) (by rfl) (by rfl) (by rfl) ?_
    clear C F N
    intro g L' h₁ tk C F N lt
    repeat walk_at "m"
    refine subL N hm (by decide) (by decide) rfl ?_
    repeat walk_at "m"
    refine ite_ff ?_
    repeat walk_at "m"
    refine subL N hm (by decide) (by decide) rfl ?_
    repeat walk_at "m"
    refine ite_tt ?_
    repeat walk_at "m"
    refine subL N hm (by decide) (by decide) rfl ?_
    repeat walk_at "m"
    refine nmB C F (g_len w) b_len ?_
    refine PyProof.Rows.callWith_builtin1 ?_
    repeat walk_at "m"
    refine lenL N hb (by rw [hB.length]; omega) ?_
    intro _ _
    repeat walk_at "m"
    rw [hB.length]
    by_cases hlt : n < (bs.length : Int)
    · rw [decide_eq_true hlt]
      refine ite_tt ?_
      repeat walk_at "m"
      refine subL N hm (by decide) (by decide) rfl ?_
      obtain ⟨v', hv', hT'⟩ := hB.get (.num 0) (i := n.toNat) (by have := hok.1; omega)
      refine subL N hb hok.1 (by have := hok.2; omega) hv' ?_
      refine Ret.mk F N (fun F N => hret _ _ _ _ F N ⟨fun _ h => h, ?_⟩)
      rw [T.putIn, if_pos hlt]; exact hT'
    · rw [decide_eq_false hlt]
      refine ite_ff ?_
      repeat walk_at "m"
      refine subL N hm (by decide) (by decide) rfl ?_
      repeat walk_at "m"
      refine nmB C F (g_len w) b_len ?_
      refine PyProof.Rows.callWith_builtin1 ?_
      repeat walk_at "m"
      refine lenL N hb (by rw [hB.length]; omega) ?_
      intro _ _
      repeat walk_at "m"
      refine newL F N ?_
      clear F N
      intro c h₂ F N lt2
      refine Ret.mk F N (fun F N => hret _ _ _ _ F N ⟨fun _ h => .tail _ h, ?_⟩)
      rw [T.putIn, if_neg hlt, ← hB.length]; exact .nm (.head _)
  | bin c p l r ihl ihr =>
    intro bs news v b vb kb hT hb hB hok hlen A env L h₀ hp m s tk Q E C F N hd hu hret
    cases hT with | @bin a _ _ t1 t2 k v1 v2 _ _ hm hl hr =>
    simp only [T.depth] at hd hu hlen
    have hz := sizeLine_eq
    have hc0 : (tag c == 0) = false := by cases c <;> rfl
    have hc1 : (tag c == 1) = false := by cases c <;> rfl
    refine enter [("bound", .ref b), ("term", .ref a)] C F N (by exact rfl) (by kernel_rfl) (by omega) (BindsTo.of_eq (by rfl)) (locs (by rfl)) (by decide) (by rfl) (by rfl) (by rfl) ?_
    clear C F N
    intro g L' h₁ tk C F N lt
    repeat walk_at "m"
    refine subL N hm (by decide) (by decide) rfl ?_
    repeat walk_at "m"
    rw [hc0]
    refine ite_ff ?_
    repeat walk_at "m"
    refine subL N hm (by decide) (by decide) rfl ?_
    repeat walk_at "m"
    rw [hc1]
    refine ite_ff ?_
    repeat walk_at "m"
    refine nmG C F (g_putin w) ?_
    refine callWith_K C.inK (kp_putin w) ?_
    repeat walk_at "m"
    refine subL N hm (by decide) (by decide) rfl ?_
    repeat walk_at "m"
    refine ⟨C.inK.keeps F.keep, ?_⟩
    refine ihl bs news v1 b vb kb hl hb hB hok.2.1 (by omega) _ _ _ _ _ _ _ _ _ _ C F N (deep1 hd (by omega)) (unit1 hu (by omega)) ?_
    clear F N
    rintro f1 news1 h₂ tk2 F N ⟨hs1, hT1⟩
    refine stL C F N ?_
    clear F N
    intro h₃ tk3 F N
    have hm1 := hs1 _ hm
    have hb1 := hs1 _ hb
    repeat walk_at "m"
    refine subL N hm1 (by decide) (by decide) rfl ?_
    repeat walk_at "m"
    cases c with
    | true =>
      refine ite_tt ?_
      repeat walk_at "m"
      refine nmG C F (g_putin w) ?_
      refine callWith_K C.inK (kp_putin w) ?_
      repeat walk_at "m"
      refine subL N hm1 (by decide) (by decide) rfl ?_
      repeat walk_at "m"
      refine newL F N ?_
      clear F N
      intro e h₄ F N lt4
      repeat walk_at "m"
      refine addL F N (.head _) (.tail _ hb1) ?_ (by rw [hB.length]; simp only [List.length_cons, List.length_nil]; omega)
      clear F N
      intro d h₅ F N lt5
      repeat walk_at "m"
      refine ⟨C.inK.keeps F.keep, ?_⟩
      refine ihr (l.putIn bs :: bs) _ v2 d _ 0 (hr.mono fun q hq => .tail _ (.tail _ (hs1 q hq))) (.head _) (.cons (hT1.mono fun q hq => .tail _ (.tail _ hq)) (hB.mono fun q hq => .tail _ (.tail _ (hs1 q hq)))) hok.2.2 (by simp only [List.length_cons]; omega) _ _ _ _ _ _ _ _ _ _ C F N (deep1 hd (by omega)) (unit1 hu (by omega)) ?_
      clear F N
      rintro f2 news2 h₆ tk6 F N ⟨hs2, hT2⟩
      exact Ret.mk F N (fun F N => hret _ _ _ _ F N ⟨fun q hq => hs2 _ (.tail _ (.tail _ (hs1 q hq))), hT2⟩)
    | false =>
      refine ite_ff ?_
      repeat walk_at "m"
      refine subL N hm1 (by decide) (by decide) rfl ?_
      repeat walk_at "m"
      refine nmG C F (g_putin w) ?_
      refine callWith_K C.inK (kp_putin w) ?_
      repeat walk_at "m"
      refine subL N hm1 (by decide) (by decide) rfl ?_
      repeat walk_at "m"
      refine ⟨C.inK.keeps F.keep, ?_⟩
      refine ihr bs _ v2 b _ kb (hr.mono hs1) hb1 (hB.mono hs1) hok.2.2 (by omega) _ _ _ _ _ _ _ _ _ _ C F N (deep1 hd (by omega)) (unit1 hu (by omega)) ?_
      clear F N
      rintro f2 news2 h₆ tk6 F N ⟨hs2, hT2⟩
      repeat walk_at "m"
      refine newL F N ?_
      clear F N
      intro e h₄ F N lt4
      exact Ret.mk F N (fun F N => hret _ _ _ _ F N ⟨fun q hq => .tail _ (hs2 _ (hs1 q hq)), .bin (b := false) (.head _) (hT1.mono fun q hq => .tail _ (hs2 _ hq)) (hT2.mono fun q hq => .tail _ hq)⟩)
end Mine
namespace Mine
def ItO (l : Addr) (i : Nat) (o : Obj) : Prop := o.cls = .type "list_iterator" ∧ o.data = .fields #[.ref l, .int i 0]
section
variable {w : World} {A : Around} {E : Value → Shared → Prop} {s : Shared} {hp h₀ : Heap} {tk : Nat} {L a : Addr} {m : Str → Option Value} {news rest : Led} {x : Str} {pos : Pos} {v : Value} {env : Env} {l I : Addr} {i n : Nat} {o : Obj} {vs : List Value}
theorem frExt {h h' : Heap} {b : Addr} (F : Fr h₀ L h m) (hs : Heap.ExtBut b h h') (hb : L ≠ b) (hn : h₀.get? b = none) : Fr h₀ L h' m :=
  ⟨F.ns.extBut hs hb, fun c x e => hs c x (fun q => by rw [q, hn] at e; cases e) (F.keep c x e), F.above⟩
theorem iterL {Q : Value → Shared → Prop} (F : Fr h₀ L hp m) (N : News h₀ L hp news) (hm : (l, lst vs n) ∈ news)
    (h : ∀ I o h', Fr h₀ L h' m → News h₀ L h' ((I, o) :: news) → ItO l 0 o → (∀ p ∈ news, p.1 < I) → Q (.ref I) (St s h' tk)) :
    wpAny (MM w) A (pyIter (.ref l)) Q E (St s hp tk) := by
  refine wpAny_pyIter_list (s := St s hp tk) (News.isList N hm) ?_
  exact h _ _ _ (F.push _) (News.push F N _) ⟨rfl, rfl⟩ (fun p hq => Heap.lt_size (N p hq).1)
theorem nextI {Q : Option Value → Shared → Prop} (F : Fr h₀ L hp m) (N : News h₀ L hp ((I, o) :: rest)) (ho : ItO l i o) (ne : ∀ p ∈ rest, p.1 ≠ I) (hm : (l, lst vs n) ∈ rest) (hx : vs[i]? = some v)
    (h : ∀ o' h', Fr h₀ L h' m → News h₀ L h' ((I, o') :: rest) → ItO l (i + 1) o' → Q (some v) (St s h' tk)) :
    wpAny (MM w) A (pyNext (.ref I)) Q E (St s hp tk) := by
  have hI := N (I, o) (.head _)
  refine wpAny_pyNext_list_item (s := St s hp tk) (items := vs.toArray) ⟨o, hI.1, ho.1, ho.2⟩ (News.isList N (.tail _ hm)) (by simpa using hx) ?_
  intro h' hit hs
  obtain ⟨o', h1, h2, h3⟩ := hit
  exact h o' h' (F.change hs hI.2.1 hI.2.2) (news_set (pre := []) N (fun _ h => nomatch h) ne hs h1) ⟨h2, h3⟩
theorem nextE {Q : Option Value → Shared → Prop} (hh : A.handled = none) (F : Fr h₀ L hp m) (N : News h₀ L hp ((I, o) :: rest)) (ho : ItO l i o) (ne : ∀ p ∈ rest, p.1 ≠ I) (hm : (l, lst vs n) ∈ rest) (hx : vs[i]? = none)
    (h : ∀ h', Fr h₀ L h' m → News h₀ L h' rest → Q none (St s h' tk)) :
    wpAny (MM w) A (pyNext (.ref I)) Q E (St s hp tk) := by
  have hI := N (I, o) (.head _)
  refine wpAny_pyNext_list_end (s := St s hp tk) (items := vs.toArray) hh ⟨o, hI.1, ho.1, ho.2⟩ (News.isList N (.tail _ hm)) (by simpa using hx) ?_
  intro h' hs
  refine h h' (frExt F hs (Ne.symm hI.2.1) hI.2.2) (fun p hq => ?_)
  have := N p (.tail _ hq)
  exact ⟨hs _ _ (ne p hq) this.1, this.2.1, this.2.2⟩
theorem sliceL {Q : Value → Shared → Prop} {value slice : PySem.Expr} {vl vu : Value} {lo hi : Option Int} {zs : List Value} (F : Fr h₀ L hp m) (N : News h₀ L hp news) (hm : (l, lst vs n) ∈ news) (pl : IsPart vl lo) (pu : IsPart vu hi) (e : (slicePick vs.toArray lo hi none).toList = zs) (hz : vs.length ≤ sizeLine)
    (h : ∀ D h', Fr h₀ L h' m → News h₀ L h' ((D, lst zs 0) :: news) → (∀ p ∈ news, p.1 < D) → Q (.ref D) (St s h' tk))
    (hs : subscripted slice false (.ref l) (.ref hp.objs.size) = operate [.ref hp.objs.size, .ref l] (getItem (.ref l) (.ref hp.objs.size)) := by with_unfolding_all rfl) (ht : ∀ r, letTemporaryGo value (.ref l) r = pure () := by intro _; with_unfolding_all rfl) :
    wpAny (MM w) A (subscriptTail value slice (.ref l) (.ref hp.objs.size)) Q E (St s (hp.push { cls := .type "slice", data := .fields #[vl, vu, .none] }) tk) :=
  kmk_slice_lit (s := St s hp tk) F N (News.isList N hm) pl pu e h hs ht (by rw [List.size_toArray]; exact hz)
end
def WL (w : World) (A : Around) (test : PySem.Expr) (body : List Stmt) (env : Env) (Q : Shared → Prop) : Nat → Shared → Prop
  | 0, s => wpAny (MM w) A (isTrue test env (eval test env)) (fun b s₂ => b = false ∧ Q s₂) (fun _ _ => False) s
  | n + 1, s => wpAny (MM w) A (isTrue test env (eval test env)) (fun b s₂ => if b = true then wpAny (MM w) A (execs body env) (fun f s₃ => match f with | .next => WL w A test body env Q n s₃ | _ => False) (fun _ _ => False) s₂ else Q s₂) (fun _ _ => False) s
theorem while_wl {w : World} {A : Around} {E : Value → Shared → Prop} {test : PySem.Expr} {body : List Stmt} {env : Env} {pos : Pos} {Q : Flow → Shared → Prop} {s : Shared} (n : Nat) (h : WL w A test body env (Q .next) n s) :
    wpAny (MM w) A (exec (.While test body [] pos) env) Q E s := by
  refine wpAny_While (codeAny_whileLoop (WL w A test body env (Q .next)) (fun n s hI => ?_) n h)
  cases n with
  | zero =>
    refine wpAny_mono hI (fun b s₂ h₂ => ?_) (fun _ _ x => x.elim)
    obtain ⟨rfl, h₂⟩ := h₂
    exact wpAny_execs_nil h₂
  | succ n =>
    refine wpAny_mono hI (fun b s₂ h₂ => ?_) (fun _ _ x => x.elim)
    cases b with
    | false => exact wpAny_execs_nil h₂
    | true =>
      refine wpAny_mono h₂ (fun f s₃ h₃ => ?_) (fun _ _ x => x.elim)
      cases f with
      | next => exact ⟨n, Nat.lt_succ_self n, h₃⟩
      | _ => exact h₃.elim
def FL (w : World) (A : Around) (target : PySem.Expr) (it : Value) (body : List Stmt) (env : Env) (Q : Flow → Shared → Prop) : Nat → Shared → Prop
  | 0, s => wpAny (MM w) A (pyNext it) (fun r s₁ => r = none ∧ Q .next s₁) (fun _ _ => False) s
  | n + 1, s => wpAny (MM w) A (pyNext it) (fun r s₁ => match r with
      | none => Q .next s₁
      | some v => wpAny (MM w) A (assign target env v) (fun _ s₂ => wpAny (MM w) A (execs body env) (fun f s₃ => match f with | .next => FL w A target it body env Q n s₃ | .ret v => Q (.ret v) s₃ | _ => False) (fun _ _ => False) s₂) (fun _ _ => False) s₁) (fun _ _ => False) s
theorem for_fl {w : World} {A : Around} {E : Value → Shared → Prop} {target : PySem.Expr} {it : Value} {body : List Stmt} {env : Env} {Q : Flow → Shared → Prop} {s : Shared} (n : Nat) (h : FL w A target it body env Q n s)
    (ht : ∀ v, letOwnedTupleGo target it v = pure () := by intro _; rfl) :
    codeAny (MM w) A (.forLoop target it body [] env) (fun r s' => match r with | .ok f => Q f s' | .error e => cameBackBy (MM w) A env E e s') s := by
  refine codeAny_forLoop (FL w A target it body env Q) (fun n s hI => ?_) n h ht
  cases n with
  | zero =>
    refine wpAny_mono hI (fun r s₁ h₁ => ?_) (fun _ _ x => x.elim)
    obtain ⟨rfl, h₁⟩ := h₁
    exact wpAny_execs_nil h₁
  | succ n =>
    refine wpAny_mono hI (fun r s₁ h₁ => ?_) (fun _ _ x => x.elim)
    cases r with
    | none => exact wpAny_execs_nil h₁
    | some v =>
      refine wpAny_mono h₁ (fun _ s₂ h₂ => ?_) (fun _ _ x => x.elim)
      refine wpAny_mono h₂ (fun f s₃ h₃ => ?_) (fun _ _ x => x.elim)
      cases f with
      | next => exact ⟨n, Nat.lt_succ_self n, h₃⟩
      | ret v => exact h₃
      | _ => exact h₃.elim
end Mine
namespace Mine
def raw (n : Int) : List Int := if 0 < n / 64 then (if 0 < n / 64 / 64 then [64 + n / 64 / 64 % 64, 64 + n / 64 % 64, n % 64] else [64 + n / 64 % 64, n % 64]) else [n % 64]
def up128 : List Int → List Int
  | [] => []
  | x :: r => (128 + x) :: r
theorem raw_cons (n : Int) : ∃ x r, raw n = x :: r := by
  unfold raw; split
  · split <;> exact ⟨_, _, rfl⟩
  · exact ⟨_, _, rfl⟩
theorem raw_len (n : Int) : (raw n).length ≤ 3 := by
  unfold raw; split
  · split <;> simp
  · simp
def T.tg : T → Int
  | .num _ => 0
  | .nm _ => 1
  | .bin c _ _ _ => tag c
def T.part : T → Int
  | .num n => n
  | .nm k => k
  | .bin _ p _ _ => p
def T.subs : T → List T
  | .num _ => []
  | .nm _ => []
  | .bin _ _ l r => [l, r]
def T.tape : T → List Int
  | .num n => up128 (raw (4 * n + 0))
  | .nm k => up128 (raw (4 * k + 1))
  | .bin c p l r => up128 (raw (4 * p + tag c)) ++ l.tape ++ r.tape
theorem TIn.shape {news : Led} {v : Value} {t : T} (h : TIn news v t) : ∃ a t1 t2 more k, v = .ref a ∧ (a, lst (.int t.tg t1 :: .int t.part t2 :: more) k) ∈ news ∧ TsIn news more t.subs := by
  cases h with
  | num h => exact ⟨_, _, _, _, _, rfl, h, .nil⟩
  | nm h => exact ⟨_, _, _, _, _, rfl, h, .nil⟩
  | bin h h1 h2 => exact ⟨_, _, _, _, _, rfl, h, .cons h1 (.cons h2 .nil)⟩
theorem T.ok.hd {t : T} (h : t.ok) : 0 ≤ 4 * t.part + t.tg ∧ 4 * t.part + t.tg < 20000 := by
  cases t with
  | num n => obtain ⟨h1, h2⟩ := h; simp only [T.part, T.tg]; omega
  | nm n => obtain ⟨h1, h2⟩ := h; simp only [T.part, T.tg]; omega
  | bin c p l r => obtain ⟨⟨h1, h2⟩, _⟩ := h; cases c <;> simp only [T.part, T.tg, tag] <;> omega
theorem slice_from (vs : List Value) (a : Nat) : (slicePick vs.toArray (some (a : Int)) none none).toList = vs.drop a := by
  rw [slicePick_from']
theorem while_post {w : World} {A : Around} {E : Value → Shared → Prop} {test : PySem.Expr} {body : List Stmt} {env : Env} {pos : Pos} {Q : Flow → Shared → Prop} {s : Shared} (n : Nat) (P : Shared → Prop) (h : WL w A test body env P n s) (k : ∀ s', P s' → Q .next s') :
    wpAny (MM w) A (exec (.While test body [] pos) env) Q E s := by
  refine while_wl n ?_
  induction n generalizing s with
  | zero => exact wpAny_mono h (fun b s₂ h₂ => ⟨h₂.1, k _ h₂.2⟩) (fun _ _ x => x)
  | succ n ih =>
    refine wpAny_mono h (fun b s₂ h₂ => ?_) (fun _ _ x => x)
    cases b with
    | false => exact k _ h₂
    | true =>
      refine wpAny_mono h₂ (fun f s₃ h₃ => ?_) (fun _ _ x => x)
      cases f with
      | next => exact ih h₃
      | _ => exact h₃
theorem WL.succ {w : World} {A : Around} {test : PySem.Expr} {body : List Stmt} {env : Env} {P : Shared → Prop} {s : Shared} {n : Nat} (h : wpAny (MM w) A (isTrue test env (eval test env)) (fun b s₂ => if b = true then wpAny (MM w) A (execs body env) (fun f s₃ => match f with | .next => WL w A test body env P n s₃ | _ => False) (fun _ _ => False) s₂ else P s₂) (fun _ _ => False) s) : WL w A test body env P (n + 1) s := h
theorem WL.zero {w : World} {A : Around} {test : PySem.Expr} {body : List Stmt} {env : Env} {P : Shared → Prop} {s : Shared} (h : wpAny (MM w) A (isTrue test env (eval test env)) (fun b s₂ => b = false ∧ P s₂) (fun _ _ => False) s) : WL w A test body env P 0 s := h
theorem FL.succ {w : World} {A : Around} {target : PySem.Expr} {it : Value} {body : List Stmt} {env : Env} {Q : Flow → Shared → Prop} {s : Shared} {n : Nat} (h : wpAny (MM w) A (pyNext it) (fun r s₁ => match r with
      | none => Q .next s₁
      | some v => wpAny (MM w) A (assign target env v) (fun _ s₂ => wpAny (MM w) A (execs body env) (fun f s₃ => match f with | .next => FL w A target it body env Q n s₃ | .ret v => Q (.ret v) s₃ | _ => False) (fun _ _ => False) s₂) (fun _ _ => False) s₁) (fun _ _ => False) s) : FL w A target it body env Q (n + 1) s := h
theorem FL.zero {w : World} {A : Around} {target : PySem.Expr} {it : Value} {body : List Stmt} {env : Env} {Q : Flow → Shared → Prop} {s : Shared} (h : wpAny (MM w) A (pyNext it) (fun r s₁ => r = none ∧ Q .next s₁) (fun _ _ => False) s) : FL w A target it body env Q 0 s := h
def TapePost (news : Led) (xs : List Int) (news' : Led) (r : Value) : Prop := ∃ o ws, news' = (o, lst ws 0) :: news ∧ r = .ref o ∧ IntsAre ws xs ∧ ∀ q ∈ news, q.1 < o
def TapeS (w : World) (u : T) : Prop := ∀ (news : Led) (v : Value), TIn news v u → u.ok → u.tape.length ≤ sizeLine → Says w 65 u.depth [v] news (TapePost news u.tape)
set_option maxHeartbeats 2000000 in
theorem tape_step (w : World) (t : T) (IH : ∀ u ∈ t.subs, TapeS w u) : TapeS w t := by
  intro news v hT hok hlen A env L h₀ hp m s tk Q E C F N hd hu hret
  obtain ⟨a, t1, t2, more, k, rfl, hm, hS⟩ := hT.shape
  obtain ⟨hn0, hn1⟩ := hok.hd
  have hz := sizeLine_eq
  have hd1 : 1 ≤ t.depth := by cases t <;> simp [T.depth]
  refine enter [("term", .ref a)] C F N (by exact rfl) (by kernel_rfl) (by omega) (BindsTo.of_eq (by rfl)) (locs (by rfl)) (by decide) (by rfl) (by rfl) (by rfl) ?_
  clear C F N
  intro g L' h₁ tk C F N lt
  repeat walk_at "m"
  refine subL N hm (by decide) (by decide) rfl ?_
  repeat walk_at "m"
  refine subL N hm (by decide) (by decide) rfl ?_
  repeat walk_at "m"
  generalize hn : 4 * t.part + t.tg = n at hn0 hn1
  refine stL C F N ?_
  clear F N
  intro h₂ tk2 F N
  repeat walk_at "m"
  refine newL F N ?_
  clear F N
  intro o0 h₃ F N lt3
  refine stL C F N ?_
  clear F N
  intro h₄ tk4 F N
  repeat walk_at "m"
  refine stL C F N ?_
  clear F N
  intro h₅ tk5 F N
  repeat walk_at "m"
  refine while_post 2 (fun s' => ∃ (h' : Heap) (tk' : Nat) (l' : List (Str × Value)) (o : Addr) (ws : List Value), s' = St s h' tk' ∧ Fr g L' h' (mp l') ∧ News g L' h' ((o, lst ws 0) :: news) ∧ IntsAre ws (raw n) ∧ mp l' "octets" = some (.ref o) ∧ mp l' "term" = some (.ref a)) ?_ ?_
  · refine WL.succ ?_
    repeat walk_at "m"
    by_cases q1 : 0 < n / 64
    · rw [decide_eq_true q1]
      refine ite_tt ?_
      repeat walk_at "m"
      refine newL F N ?_
      clear F N
      intro o1 h₆ F N lt6
      repeat walk_at "m"
      refine addL F N (.head _) (.tail _ (.head _)) ?_ (by exact Nat.le_of_ble_eq_true rfl)
      clear F N
      intro o2 h₇ F N lt7
      refine stL C F N ?_
      clear F N
      intro h₈ tk8 F N
      repeat walk_at "m"
      refine stL C F N ?_
      clear F N
      intro h₉ tk9 F N
      repeat walk_at "m"
      refine WL.succ ?_
      repeat walk_at "m"
      by_cases q2 : 0 < n / 64 / 64
      · rw [decide_eq_true q2]
        refine ite_tt ?_
        repeat walk_at "m"
        refine newL F N ?_
        clear F N
        intro o3 h₆ F N lt6
        repeat walk_at "m"
        refine addL F N (.head _) (.tail _ (.head _)) ?_ (by exact Nat.le_of_ble_eq_true rfl)
        clear F N
        intro o4 h₇ F N lt7
        refine stL C F N ?_
        clear F N
        intro h₈ tk8 F N
        repeat walk_at "m"
        refine stL C F N ?_
        clear F N
        intro h₉ tk9 F N
        repeat walk_at "m"
        refine WL.zero ?_
        repeat walk_at "m"
        refine ⟨decide_eq_false (by omega), _, _, _, _, _, rfl, F, News.drop2 (News.drop2 (News.drop2 (News.drop2 N))), ?_, rfl, rfl⟩
        rw [raw, if_pos q1, if_pos q2]; exact .cons _ _ (.cons _ _ (.cons _ _ .nil))
      · rw [decide_eq_false q2]
        refine ite_ff ?_
        refine ⟨_, _, _, _, _, rfl, F, News.drop2 (News.drop2 N), ?_, rfl, rfl⟩
        rw [raw, if_pos q1, if_neg q2]; exact .cons _ _ (.cons _ _ .nil)
    · rw [decide_eq_false q1]
      refine ite_ff ?_
      refine ⟨_, _, _, _, _, rfl, F, N, ?_, rfl, rfl⟩
      rw [raw, if_neg q1]; exact .cons _ _ .nil
  · clear F N
    rintro _ ⟨h', tk', l', o, ws, rfl, F, N, hI, ql1, ql2⟩
    obtain ⟨x0, xs0, hraw⟩ := raw_cons n
    have hrl := raw_len n
    rw [hraw] at hI hrl
    cases hI with | @cons _ tn ws _ hI =>
    simp only [List.length_cons] at hrl
    have hwl := hI.length
    repeat walk_at "m"
    refine nmL C F ql1 ?_
    repeat walk_at "m"
    refine subL N (.head _) (by decide) (by decide) rfl ?_
    repeat walk_at "m"
    refine newL F N ?_
    clear F N
    intro o1 h₆ F N lt6
    repeat walk_at "m"
    refine nmL C F ql1 ?_
    repeat walk_at "m"
    refine sliceL F N (.tail _ (.head _)) (.int _ _) .none (slice_from _ 1) (by simp only [List.length_cons]; omega) ?_
    clear F N
    intro o2 h₇ F N lt7
    repeat walk_at "m"
    refine addL F N (.tail _ (.head _)) (.head _) ?_ (by simp only [List.drop_succ_cons, List.drop_zero, List.length_cons, List.length_nil]; omega)
    clear F N
    intro o3 h₈ F N lt8
    refine stL C F N ?_
    clear F N
    intro h₉ tk9 F N
    have lt9 : ∀ p ∈ news, p.1 < o3 := fun p hp => lt8 p (.tail _ (.tail _ (.tail _ hp)))
    obtain ⟨ws3, N, hJ⟩ : ∃ ws3, News g L' h₉ ((o3, lst ws3 0) :: news) ∧ IntsAre ws3 (up128 (raw n)) := ⟨_, News.drop2 (News.drop2 (News.drop2 N)), by rw [hraw]; exact .cons _ _ hI⟩
    rename_i N0
    clear N0
    have hw3 : ws3.length ≤ 3 := by rw [hJ.length, hraw]; simp only [up128, List.length_cons]; omega
    clear lt6 lt7 lt8
    repeat walk_at "m"
    refine wpAny_For ?_
    repeat walk_at "m"
    refine nmL C F ql2 ?_
    repeat walk_at "m"
    refine sliceL F N (.tail _ hm) (.int _ _) .none (slice_from _ 2) (by simp only [List.length_cons]; rw [hS.length]; cases t <;> simp only [T.subs, List.length_cons, List.length_nil] <;> omega) ?_
    clear F N
    intro D h10 F N lt10
    refine iterL F N (.head _) ?_
    clear F N
    intro I oi h11 F N hit lt11
    simp only [List.drop_succ_cons, List.drop_zero] at N lt11
    have ne11 : ∀ p ∈ (D, lst more 0) :: (o3, lst ws3 0) :: news, p.1 ≠ I := fun p hp => Nat.ne_of_lt (lt11 p hp)
    have ltD : D < I := lt11 _ (.head _)
    cases t with
    | num n' =>
      cases hS
      subst hn
      refine for_fl 0 (FL.zero ?_)
      refine nextE C.hnd F N hit ne11 (.head _) rfl ?_
      clear F N
      intro h12 F N
      refine ⟨rfl, ?_⟩
      repeat walk_at "m"
      exact Ret.mk F (News.sub N (fun p hp => .tail _ hp)) (fun F N => hret _ _ _ _ F N ⟨o3, ws3, rfl, rfl, hJ, lt9⟩)
    | nm n' =>
      cases hS
      subst hn
      refine for_fl 0 (FL.zero ?_)
      refine nextE C.hnd F N hit ne11 (.head _) rfl ?_
      clear F N
      intro h12 F N
      refine ⟨rfl, ?_⟩
      repeat walk_at "m"
      exact Ret.mk F (News.sub N (fun p hp => .tail _ hp)) (fun F N => hret _ _ _ _ F N ⟨o3, ws3, rfl, rfl, hJ, lt9⟩)
    | bin c p l r =>
      cases hS with | @cons v1 _ _ _ hv1 hS =>
      cases hS with | @cons v2 _ _ _ hv2 hS =>
      cases hS
      have hn' : 4 * p + tag c = n := hn
      subst hn'
      simp only [T.tape, List.length_append] at hlen
      have hl3 := hJ.length
      refine for_fl 2 (FL.succ ?_)
      refine nextI F N hit ne11 (.head _) (v := v1) rfl ?_
      clear F N hit ne11
      intro oi2 h12 F N hit
      refine wpAny_assign_Name ?_
      refine stL C F N ?_
      clear F N
      intro h13 tk13 F N
      repeat walk_at "m"
      refine nmG C F (g_tape w) ?_
      refine callWith_K C.inK (kp_tape w) ?_
      repeat walk_at "m"
      refine ⟨C.inK.keeps F.keep, ?_⟩
      refine IH l (.head _) _ v1 (hv1.mono fun p hp => .tail _ (.tail _ (.tail _ hp))) hok.2.1 (by omega) _ _ _ _ _ _ _ _ _ _ C F N (deep1 hd (by simp only [T.depth]; omega)) (unit1 hu (by simp only [T.depth]; omega)) ?_
      clear F N
      rintro _ _ h14 tk14 F N ⟨o4, ws4, rfl, rfl, hI4, lt14⟩
      have hl4 := hI4.length
      refine addL F N (l := o3) (.tail _ (.tail _ (.tail _ (.head _)))) (.head _) ?_ (by first | omega | (simp only [List.length_append]; omega))
      clear F N
      intro o5 h15 F N lt15
      refine stL C F N ?_
      clear F N
      intro h16 tk16 F N
      have lt5 : ∀ p ∈ news, p.1 < o5 := fun p hp => lt15 p (.tail _ (.tail _ (.tail _ (.tail _ hp))))
      have ltI5 : I < o5 := lt15 _ (.tail _ (.head _))
      replace N : News g L' h16 ((I, oi2) :: (D, lst [v1, v2] 0) :: (o5, lst (ws3 ++ ws4) 0) :: news) := News.sub N (fun p hp => by
        simp only [List.mem_cons] at hp ⊢
        rcases hp with rfl | rfl | rfl | hp <;> simp only [*, true_or, or_true])
      have ne11 : ∀ p ∈ (D, lst [v1, v2] 0) :: (o5, lst (ws3 ++ ws4) 0) :: news, p.1 ≠ I := fun p hp => by
        simp only [List.mem_cons] at hp
        rcases hp with rfl | rfl | hp
        · exact Nat.ne_of_lt ltD
        · exact Nat.ne_of_gt ltI5
        · exact Nat.ne_of_lt (lt11 p (.tail _ (.tail _ hp)))
      repeat walk_at "m"
      refine FL.succ ?_
      refine nextI F N hit ne11 (.head _) (v := v2) rfl ?_
      clear F N hit ne11
      intro oi3 h12 F N hit
      refine wpAny_assign_Name ?_
      refine stL C F N ?_
      clear F N
      intro h13 tk13 F N
      repeat walk_at "m"
      refine nmG C F (g_tape w) ?_
      refine callWith_K C.inK (kp_tape w) ?_
      repeat walk_at "m"
      refine ⟨C.inK.keeps F.keep, ?_⟩
      refine IH r (.tail _ (.head _)) _ v2 (hv2.mono fun p hp => .tail _ (.tail _ (.tail _ hp))) hok.2.2 (by omega) _ _ _ _ _ _ _ _ _ _ C F N (deep1 hd (by simp only [T.depth]; omega)) (unit1 hu (by simp only [T.depth]; omega)) ?_
      clear F N
      rintro _ _ h14 tk14 F N ⟨o6, ws6, rfl, rfl, hI6, lt14⟩
      have hl6 := hI6.length
      refine addL F N (l := o5) (.tail _ (.tail _ (.tail _ (.head _)))) (.head _) ?_ (by first | omega | (simp only [List.length_append]; omega))
      clear F N
      intro o7 h15 F N lt15
      refine stL C F N ?_
      clear F N
      intro h16 tk16 F N
      have lt7 : ∀ p ∈ news, p.1 < o7 := fun p hp => lt15 p (.tail _ (.tail _ (.tail _ (.tail _ hp))))
      have ltI7 : I < o7 := lt15 _ (.tail _ (.head _))
      replace N : News g L' h16 ((I, oi3) :: (D, lst [v1, v2] 0) :: (o7, lst (ws3 ++ ws4 ++ ws6) 0) :: news) := News.sub N (fun p hp => by
        simp only [List.mem_cons] at hp ⊢
        rcases hp with rfl | rfl | rfl | hp <;> simp only [*, true_or, or_true])
      have ne11 : ∀ p ∈ (D, lst [v1, v2] 0) :: (o7, lst (ws3 ++ ws4 ++ ws6) 0) :: news, p.1 ≠ I := fun p hp => by
        simp only [List.mem_cons] at hp
        rcases hp with rfl | rfl | hp
        · exact Nat.ne_of_lt ltD
        · exact Nat.ne_of_gt ltI7
        · exact Nat.ne_of_lt (lt11 p (.tail _ (.tail _ hp)))
      repeat walk_at "m"
      refine FL.zero ?_
      refine nextE C.hnd F N hit ne11 (.head _) rfl ?_
      clear F N
      intro h12 F N
      refine ⟨rfl, ?_⟩
      repeat walk_at "m"
      exact Ret.mk F (News.sub N (fun p hp => .tail _ hp)) (fun F N => hret _ _ _ _ F N ⟨o7, _, rfl, rfl, (hJ.append hI4).append hI6, lt7⟩)
theorem tape_ok (w : World) : ∀ t : T, TapeS w t := by
  intro t
  induction t with
  | num n => exact tape_step w _ (fun u hu => nomatch hu)
  | nm n => exact tape_step w _ (fun u hu => nomatch hu)
  | bin c p l r ihl ihr =>
    refine tape_step w _ (fun u hu => ?_)
    simp only [T.subs, List.mem_cons, List.not_mem_nil, or_false] at hu
    rcases hu with rfl | rfl
    · exact ihl
    · exact ihr
end Mine
namespace Mine
def T.hasName : T → Bool
  | .num _ => false
  | .nm _ => true
  | .bin _ _ l r => l.hasName || r.hasName
section
variable {w : World} {A : Around} {E : Value → Shared → Prop} {s : Shared} {hp h₀ : Heap} {tk : Nat} {L : Addr} {m : Str → Option Value} {news : Led} {Q : Value → Shared → Prop}
theorem neNil {D e : Addr} {ys : List Value} {k : Nat} (N : News h₀ L hp news) (hD : (D, LCg.lst ys) ∈ news) (he : (e, lst [] k) ∈ news) (hu : A.units < cLine) (h : Q (.bool (!ys.isEmpty)) (St s hp tk)) :
    wpAny (MM w) A (compareOp .NotEq (.ref D) (.ref e)) Q E (St s hp tk) := by
  refine cmp_ofNotEq ?_
  cases ys with
  | nil => exact SeqAt.RcNeAt.lists (s := St s hp tk) (e := fun _ => true) (News.isList N hD) (News.isList N he) rfl hu (fun j h1 _ => absurd h1 (Nat.not_lt_zero _)) _ _ _ _ h
  | cons y q => exact SeqAt.RcNeAt.lists_lengths (s := St s hp tk) (News.isList N hD) (News.isList N he) (by simp) hu _ _ _ _ h
theorem cmG {env : Env} {scope : Scope} {cl : List (Str × Addr)} {C' : Addr} {x : Str} {pos : Pos} {v : Value} {env' : Env} (C : At w A env' L h₀) (F : Fr h₀ L hp m) (e : nsIn (KW w) mainGlobals x = some (some v)) (h : Q v (St s hp tk)) (hg : env.globals = mainGlobals := by rfl)
    (hk : (compEnvC scope cl C' env).scope.kind = .function := by rfl) (hx : (compEnvC scope cl C' env).kindOf x = some .globalImplicit := by rfl) (hd : (x == ("__debug__" : Str)) = false := by decide) :
    wpAny (MM w) A (eval (.Name x pos) (compEnvC scope cl C' env)) Q E (St s hp tk) := by
  obtain ⟨p, loose, mean, mg, mb, T⟩ := C.top
  exact LCgL.ld_global (s := St s hp tk) F C.inK T e h hg hk hx hd
theorem cmB {env : Env} {scope : Scope} {cl : List (Str × Addr)} {C' : Addr} {x : Str} {pos : Pos} {v : Value} {env' : Env} (C : At w A env' L h₀) (F : Fr h₀ L hp m) (e : nsIn (KW w) mainGlobals x = some none) (hv : bootBuiltins x = some v) (h : Q v (St s hp tk)) (hn : x ≠ "__name__" := by decide) (hg : env.globals = mainGlobals := by rfl) (hb : env.builtins = builtinsNs := by rfl)
    (hk : (compEnvC scope cl C' env).scope.kind = .function := by rfl) (hx : (compEnvC scope cl C' env).kindOf x = some .globalImplicit := by rfl) (hd : (x == ("__debug__" : Str)) = false := by decide) :
    wpAny (MM w) A (eval (.Name x pos) (compEnvC scope cl C' env)) Q E (St s hp tk) := by
  obtain ⟨p, loose, mean, mg, mb, T⟩ := C.top
  exact LCgL.ld_built (s := St s hp tk) F C.inK T e hv hn h hg hb hk hx hd
end
set_option maxHeartbeats 2000000 in
theorem has_ok (w : World) : ∀ (t : T) (news : Led) (v : Value), TIn news v t → SaysR w 84 t.depth [v] news (fun r => r = .bool t.hasName) := by
  intro t
  induction t with
  | num n =>
    intro news v hT A env L h₀ hp m s tk Q E C F N hd hu hret
    cases hT with | @num a _ t1 t2 k hm =>
    simp only [T.depth] at hd hu
    refine enter [("term", .ref a)] C F N (by exact rfl) (by kernel_rfl) (by omega) (BindsTo.of_eq (by rfl)) (locs (by rfl)) (by decide) (by rfl) (by rfl) (by rfl) ?_
    clear C F N
    intro g L' h₁ tk C F N lt
    repeat walk_at "m"
    refine BoolOp_or ?_
    repeat walk_at "m"
    refine subL N hm (by decide) (by decide) rfl ?_
    repeat walk_at "m"
    refine ite_ff ?_
    refine BoolOp_one ?_
    repeat walk_at "m"
    refine LCt.ListComp_T (s := St s _ _) F (by with_unfolding_all rfl) (by decide) (by rfl) (by decide) (by rfl) ?_
    repeat walk_at "m"
    refine sliceL F N hm (.int _ _) .none (slice_from _ 2) (by exact Nat.le_of_ble_eq_true rfl) ?_
    clear F N
    intro D h₂ F N lt2
    refine LCt.CompSrcT.ledger C.hnd F N (.head _) (by exact Nat.le_of_ble_eq_true rfl) ?_
    intro g'
    refine LCt.CompRestT.zero ?_
    clear F N
    intro D2 h₃ tk3 F N o1
    show wpAny _ _ _ _ _ (St s h₃ tk3)
    repeat walk_at "m"
    refine newL F N ?_
    clear F N
    intro e h₄ F N lt4
    refine neNil N (.tail _ (.head _)) (.head _) (by show A.units + 3 < _; omega) ?_
    exact Ret.mk F (News.sub N (fun p hp => .tail _ (.tail _ (.tail _ hp)))) (fun F N => hret _ _ _ F N rfl)
  | nm n =>
    intro news v hT A env L h₀ hp m s tk Q E C F N hd hu hret
    cases hT with | @nm a _ t1 t2 k hm =>
    simp only [T.depth] at hd hu
    refine enter [("term", .ref a)] C F N (by exact rfl) (by kernel_rfl) (by omega) (BindsTo.of_eq (by rfl)) (locs (by rfl)) (by decide) (by rfl) (by rfl) (by rfl) ?_
    clear C F N
    intro g L' h₁ tk C F N lt
    repeat walk_at "m"
    refine BoolOp_or ?_
    repeat walk_at "m"
    refine subL N hm (by decide) (by decide) rfl ?_
    repeat walk_at "m"
    refine ite_tt ?_
    exact Ret.mk F N (fun F N => hret _ _ _ F N rfl)
  | bin c p l r ihl ihr =>
    intro news v hT A env L h₀ hp m s tk Q E C F N hd hu hret
    cases hT with | @bin a _ _ t1 t2 k v1 v2 _ _ hm hl hr =>
    simp only [T.depth] at hd hu
    have hc1 : (tag c == 1) = false := by cases c <;> rfl
    refine enter [("term", .ref a)] C F N (by exact rfl) (by kernel_rfl) (by omega) (BindsTo.of_eq (by rfl)) (locs (by rfl)) (by decide) (by rfl) (by rfl) (by rfl) ?_
    clear C F N
    intro g L' h₁ tk C F N lt
    repeat walk_at "m"
    refine BoolOp_or ?_
    repeat walk_at "m"
    refine subL N hm (by decide) (by decide) rfl ?_
    repeat walk_at "m"
    rw [hc1]
    refine ite_ff ?_
    refine BoolOp_one ?_
    repeat walk_at "m"
    refine LCt.ListComp_T (s := St s _ _) F (by with_unfolding_all rfl) (by decide) (by rfl) (by decide) (by rfl) ?_
    repeat walk_at "m"
    refine sliceL F N hm (.int _ _) .none (slice_from _ 2) (by exact Nat.le_of_ble_eq_true rfl) ?_
    clear F N
    intro D h₂ F N lt2
    refine LCt.CompSrcT.ledger C.hnd F N (.head _) (by exact Nat.le_of_ble_eq_true rfl) ?_
    intro g'
    rw [show (List.drop 2 [Value.int (tag c) t1, Value.int p t2, v1, v2]).toArray.size = 2 from rfl]
    refine LCt.CompRestT.succ ?_
    clear F N
    intro u I oI C' oC D1 m₂ h₃ tk3 E' hv hNs hx F N off ne
    have hu1 : v1 = u := by simpa using hv
    subst hu1
    show wpAny _ _ _ _ _ (St s h₃ tk3)
    refine isTrue_plain ?_
    repeat walk_at "m"
    refine cmG C F (g_has w) ?_
    refine callWith_K C.inK (kp_has w) ?_
    repeat walk_at "m"
    refine LCgL.ld_own (s := St s _ _) N (.tail _ (.head _)) hNs hx ?_
    repeat walk_at "m"
    refine ⟨C.inK.keeps F.keep, ?_⟩
    refine ihl _ _ (hl.mono fun q hq => .tail _ (.tail _ (.tail _ (.tail _ hq)))) _ _ _ _ _ _ _ _ _ _ C F N (deep1 hd (by omega)) (unit1 hu (by omega)) ?_
    clear F N
    rintro _ h₄ tk4 F N rfl
    repeat walk_at "m"
    cases h1 : l.hasName with
    | true =>
      refine ite_tt ?_
      refine LCgL.ld_own (s := St s _ _) N (.tail _ (.head _)) hNs hx ?_
      refine LCg.CompEnd.intro F N _ (fun _ hq => hq) off (.inr ⟨_, .head _, rfl, _, rfl⟩) ?_
      refine LCt.CompRestT.succ ?_
      clear F N
      intro u I oI C' oC D1 m₂ h₃ tk3 E' hv hNs hx F N off ne
      have hu2 : v2 = u := by simpa using hv
      subst hu2
      show wpAny _ _ _ _ _ (St s h₃ tk3)
      refine isTrue_plain ?_
      repeat walk_at "m"
      refine cmG C F (g_has w) ?_
      refine callWith_K C.inK (kp_has w) ?_
      repeat walk_at "m"
      refine LCgL.ld_own (s := St s _ _) N (.tail _ (.head _)) hNs hx ?_
      repeat walk_at "m"
      refine ⟨C.inK.keeps F.keep, ?_⟩
      refine ihr _ _ (hr.mono fun q hq => .tail _ (.tail _ (.tail _ (.tail _ hq)))) _ _ _ _ _ _ _ _ _ _ C F N (deep1 hd (by omega)) (unit1 hu (by omega)) ?_
      clear F N
      rintro _ h₄ tk4 F N rfl
      repeat walk_at "m"
      cases h2 : r.hasName with
      | true =>
        refine ite_tt ?_
        refine LCgL.ld_own (s := St s _ _) N (.tail _ (.head _)) hNs hx ?_
        refine LCg.CompEnd.intro F N _ (fun _ hq => hq) off (.inr ⟨_, .head _, rfl, _, rfl⟩) ?_
        refine LCt.CompRestT.zero ?_
        clear F N
        intro D2 h₅ tk5 F N o1
        show wpAny _ _ _ _ _ (St s h₅ tk5)
        repeat walk_at "m"
        refine newL F N ?_
        clear F N
        intro e h₆ F N lt4
        refine neNil N (.tail _ (.head _)) (.head _) (by show A.units + 3 < _; omega) ?_
        exact Ret.mk F (News.sub N (fun p hp => .tail _ (.tail _ (.tail _ hp)))) (fun F N => hret _ _ _ F N (by simp only [T.hasName, h1, h2]; rfl))
      | false =>
        refine ite_ff ?_
        refine LCg.CompEnd.intro F N _ (fun _ hq => hq) off (.inr ⟨_, .head _, rfl, _, rfl⟩) ?_
        refine LCt.CompRestT.zero ?_
        clear F N
        intro D2 h₅ tk5 F N o1
        show wpAny _ _ _ _ _ (St s h₅ tk5)
        repeat walk_at "m"
        refine newL F N ?_
        clear F N
        intro e h₆ F N lt4
        refine neNil N (.tail _ (.head _)) (.head _) (by show A.units + 3 < _; omega) ?_
        exact Ret.mk F (News.sub N (fun p hp => .tail _ (.tail _ (.tail _ hp)))) (fun F N => hret _ _ _ F N (by simp only [T.hasName, h1, h2]; rfl))
    | false =>
      refine ite_ff ?_
      refine LCg.CompEnd.intro F N _ (fun _ hq => hq) off (.inr ⟨_, .head _, rfl, _, rfl⟩) ?_
      refine LCt.CompRestT.succ ?_
      clear F N
      intro u I oI C' oC D1 m₂ h₃ tk3 E' hv hNs hx F N off ne
      have hu2 : v2 = u := by simpa using hv
      subst hu2
      show wpAny _ _ _ _ _ (St s h₃ tk3)
      refine isTrue_plain ?_
      repeat walk_at "m"
      refine cmG C F (g_has w) ?_
      refine callWith_K C.inK (kp_has w) ?_
      repeat walk_at "m"
      refine LCgL.ld_own (s := St s _ _) N (.tail _ (.head _)) hNs hx ?_
      repeat walk_at "m"
      refine ⟨C.inK.keeps F.keep, ?_⟩
      refine ihr _ _ (hr.mono fun q hq => .tail _ (.tail _ (.tail _ (.tail _ hq)))) _ _ _ _ _ _ _ _ _ _ C F N (deep1 hd (by omega)) (unit1 hu (by omega)) ?_
      clear F N
      rintro _ h₄ tk4 F N rfl
      repeat walk_at "m"
      cases h2 : r.hasName with
      | true =>
        refine ite_tt ?_
        refine LCgL.ld_own (s := St s _ _) N (.tail _ (.head _)) hNs hx ?_
        refine LCg.CompEnd.intro F N _ (fun _ hq => hq) off (.inr ⟨_, .head _, rfl, _, rfl⟩) ?_
        refine LCt.CompRestT.zero ?_
        clear F N
        intro D2 h₅ tk5 F N o1
        show wpAny _ _ _ _ _ (St s h₅ tk5)
        repeat walk_at "m"
        refine newL F N ?_
        clear F N
        intro e h₆ F N lt4
        refine neNil N (.tail _ (.head _)) (.head _) (by show A.units + 3 < _; omega) ?_
        exact Ret.mk F (News.sub N (fun p hp => .tail _ (.tail _ (.tail _ hp)))) (fun F N => hret _ _ _ F N (by simp only [T.hasName, h1, h2]; rfl))
      | false =>
        refine ite_ff ?_
        refine LCg.CompEnd.intro F N _ (fun _ hq => hq) off (.inr ⟨_, .head _, rfl, _, rfl⟩) ?_
        refine LCt.CompRestT.zero ?_
        clear F N
        intro D2 h₅ tk5 F N o1
        show wpAny _ _ _ _ _ (St s h₅ tk5)
        repeat walk_at "m"
        refine newL F N ?_
        clear F N
        intro e h₆ F N lt4
        refine neNil N (.tail _ (.head _)) (.head _) (by show A.units + 3 < _; omega) ?_
        exact Ret.mk F (News.sub N (fun p hp => .tail _ (.tail _ (.tail _ hp)))) (fun F N => hret _ _ _ F N (by simp only [T.hasName, h1, h2]; rfl))
end Mine
namespace Mine
section
variable {w : World} {A : Around} {E : Value → Shared → Prop} {s : Shared} {hp h₀ : Heap} {tk : Nat} {L : Addr} {m : Str → Option Value} {news rest : Led} {v : Value} {l I : Addr} {i n : Nat} {o : Obj} {vs : List Value} {Q : Value → Shared → Prop}
theorem iterB (F : Fr h₀ L hp m) (N : News h₀ L hp news) (hm : (l, lst vs n) ∈ news)
    (h : ∀ I o h', Fr h₀ L h' m → News h₀ L h' ((I, o) :: news) → ItO l 0 o → (∀ p ∈ news, p.1 < I) → Q (.ref I) (St s h' tk)) :
    wpAny (MM w) A (call (.builtin "iter") [.ref l]) Q E (St s hp tk) := by
  refine call_function_entry (by decide +kernel) (by decide +kernel) kdk_entry_iter (kdk_args_iter _) ?_
  unfold Builtin.«iter»
  refine wpAny_bind (m := someArgs "iter" 1 2 _) (wpAny_of_eq (a := [Value.ref l]) (by first | rfl | kernel_rfl!) ?_)
  show wpAny _ _ (pyIter (.ref l) >>= _) _ _ _
  refine wpAny_bind (iterL F N hm ?_)
  intro I o h' F' N' ho lt
  exact wpAny_pure ⟨_, rfl, h _ _ _ F' N' ho lt⟩
theorem nextSp {Q : Option Value → Shared → Prop} (F : Fr h₀ L hp m) (N : News h₀ L hp ((I, o) :: rest)) (ho : ItO l i o) (ne : ∀ p ∈ rest, p.1 ≠ I) (hm : (l, lst vs n) ∈ rest) (hx : vs[i]? = some v)
    (h : ∀ o' h', Fr h₀ L h' m → News h₀ L h' ((I, o') :: rest) → ItO l (i + 1) o' → Q (some v) (St s h' tk)) :
    wpAny (MM w) A (callSpecial? (.ref I) (Str.ofString "__next__")) Q E (St s hp tk) := by
  have hI := N (I, o) (.head _)
  have hit : (St s hp tk).heap.IsListIter I l i := ⟨o, hI.1, ho.1, ho.2⟩
  have hl : (St s hp tk).heap.IsList l vs.toArray := News.isList N (.tail _ hm)
  obtain ⟨o0, ho0, hc, hd⟩ := id hit
  obtain ⟨ol, hol, _, nl, hdl⟩ := hl
  refine wpAny_callSpecial?_slot (name := Str.ofString "__next__") hit.typeIs slot_listiter_next
    (wpAny_call_entry slot_listiter_next hit.typeIs entry_listiter_next ?_ (args_listiter_next _))
  show wpAny _ _ (field (.ref I) 0 >>= _) _ _ _
  refine wpAny_bind (wpAny_field ho0 hd (x := .ref l) rfl ?_)
  show wpAny _ _ (if (Value.ref l == Value.none) = true then _ else _) _ _ _
  rw [if_neg (show ¬ ((Value.ref l == Value.none) = true) from Bool.false_ne_true)]
  show wpAny _ _ (field (.ref I) 1 >>= _) _ _ _
  refine wpAny_bind (wpAny_field ho0 hd (x := .int i 0) rfl ?_)
  show wpAny _ _ (seqItems? (.ref l) >>= _) _ _ _
  refine wpAny_bind (wpAny_seqItems hol hdl ?_)
  have hx' : vs.toArray[i]? = some v := by simpa using hx
  simp only [Int.toNat_natCast, hx']
  refine wpAny_bind (wpAny_setField ho0 hd (by simp) (wpAny_pure ⟨v, rfl, ?_⟩))
  have hs : Heap.SameBut I hp (hp.update I (Obj.mapFields (·.setIfInBounds 1 (rawInt ((i : Int) + 1))))) := Heap.SameBut.update ..
  exact h _ _ (F.change hs hI.2.1 hI.2.2) (news_set (pre := []) N (fun _ h => nomatch h) ne hs (Heap.get?_update_self _ ho0 (Obj.isFreed_of_fields (Obj.data_mapFields hd _))))
    ⟨(Obj.cls_mapFields ..).trans hc, by rw [Obj.data_mapFields hd]; simp [rawInt]⟩
theorem nextB (F : Fr h₀ L hp m) (N : News h₀ L hp ((I, o) :: rest)) (ho : ItO l i o) (ne : ∀ p ∈ rest, p.1 ≠ I) (hm : (l, lst vs n) ∈ rest) (hx : vs[i]? = some v)
    (h : ∀ o' h', Fr h₀ L h' m → News h₀ L h' ((I, o') :: rest) → ItO l (i + 1) o' → Q v (St s h' tk)) :
    wpAny (MM w) A (call (.builtin "next") [.ref I]) Q E (St s hp tk) := by
  have hI := N (I, o) (.head _)
  have hit : (St s hp tk).heap.IsListIter I l i := ⟨o, hI.1, ho.1, ho.2⟩
  refine call_function_entry (by decide +kernel) (by decide +kernel) kdk_entry_next (kdk_args_next _) ?_
  unfold Builtin.«next»
  refine wpAny_bind (m := someArgs "next" 1 2 _) (wpAny_of_eq (a := [Value.ref I]) (by first | rfl | kernel_rfl!) ?_)
  dsimp only
  refine wpAny_bind (wpAny_specialOf (name := Str.ofString "__next__") hit.typeIs slot_listiter_next.lookup ?_)
  refine wpAny_ite_split (fun hab => absurd hab (by decide)) (fun _ => ?_)
  refine wpAny_bind (nextSp F N ho ne hm hx ?_)
  intro o' h' F' N' ho'
  exact wpAny_pure ⟨_, rfl, h o' h' F' N' ho'⟩
theorem listEnd (hh : A.handled = none) (F : Fr h₀ L hp m) (N : News h₀ L hp ((I, o) :: rest)) (ho : ItO l i o) (ne : ∀ p ∈ rest, p.1 ≠ I) (hm : (l, lst vs n) ∈ rest) (hx : vs[i]? = none)
    (h : ∀ D c h', Fr h₀ L h' m → News h₀ L h' ((D, lst [] c) :: rest) → (∀ p ∈ rest, p.1 < D) → Q (.ref D) (St s h' tk)) :
    wpAny (MM w) A (call (.type "list") [.ref I]) Q E (St s hp tk) := by
  have hI := N (I, o) (.head _)
  have hIlt : I < hp.objs.size := Heap.lt_size hI.1
  refine callType_codes (Q₁ := fun obj s₁ => obj = .ref hp.objs.size ∧ s₁ = St s (hp.push { cls := .type "list", data := .seq #[] }) tk) PySem.F.called_list (PySem.F.typeCall_list_1 _) PySem.F.entry_list_init
    (code_list_new _ ⟨rfl, rfl⟩) fun obj s₁ h₁ => ?_
  obtain ⟨rfl, rfl⟩ := h₁
  have hS : (hp.push { cls := .type "list", data := .seq #[] }).get? hp.objs.size = some { cls := .type "list", data := .seq #[] } := Heap.get?_push_size _ rfl
  refine ⟨⟨_, hS, rfl⟩, PySem.F.args_list_init_2 _ _, ?_⟩
  show wpAny _ _ (do let old ← Builtin.List.listItems (.ref hp.objs.size); Builtin.List.listUpdate (.ref hp.objs.size) (fun _ => #[]); letGo old.toList.reverse; Builtin.List.listExtendWith (.ref hp.objs.size) (.ref I) .none) _ _ _
  refine wpAny_bind ?_
  unfold Builtin.List.listItems
  refine wpAny_bind (wpAny_seqItems hS rfl (wpAny_pure ?_))
  show wpAny _ _ (updateSeq hp.objs.size (fun _ => #[]) >>= fun _ => letGo (#[] : Array Value).toList.reverse >>= fun _ => Builtin.List.listExtendWith (.ref hp.objs.size) (.ref I) .none) _ _ _
  refine wpAny_bind (wpAny_updateSeq hS rfl ?_)
  have hS₂ := Heap.get?_update_self (Obj.mapSeq (fun _ => (#[] : Array Value))) hS rfl
  refine wpAny_bind (wpAny_letGo ?_)
  generalize hH : (hp.push { cls := .type "list", data := .seq #[] }).update hp.objs.size (Obj.mapSeq (fun _ => (#[] : Array Value))) = H at hS₂ ⊢
  have old : ∀ b ob, hp.get? b = some ob → H.get? b = some ob := fun b ob e => by
    rw [← hH]
    exact (Heap.get?_update_other _ _ (Nat.ne_of_gt (Heap.lt_size e))).trans (Heap.get?_push_of_some _ e)
  have F₂ : Fr h₀ L H m := F.keeps old
  have N₂ : News h₀ L H ((I, o) :: rest) := fun p hq => ⟨old _ _ (N p hq).1, (N p hq).2⟩
  have hit : (St s H tk).heap.IsListIter I l i := ⟨o, old _ _ hI.1, ho.1, ho.2⟩
  have hSI : hp.objs.size ≠ I := Nat.ne_of_gt hIlt
  have h1 : Builtin.List.listSameRef (.ref hp.objs.size) (.ref I) = false := by simp [Builtin.List.listSameRef, hSI]
  show wpAny _ _ _ _ _ (St s H tk)
  unfold Builtin.List.listExtendWith
  refine wpAny_bind (wpAny_typeOf hit.typeIs ?_)
  rw [if_neg (by rw [h1]; decide)]
  refine wpAny_bind (wpAny_pyIter_listiter hit ?_)
  refine wpAny_bind (wpAny_holding ?_)
  unfold Builtin.List.listLengthHint
  refine wpAny_bind (wpAny_specialOf hit.typeIs PySem.F.nolen_li ?_)
  show wpAny _ _ (specialOf (Value.ref I) (Str.ofString "__length_hint__") >>= _) _ _ _
  refine wpAny_bind (wpAny_specialOf hit.typeIs PySem.F.hint_li ?_)
  generalize hid : ("list_iterator.__length_hint__" : String) = id0
  wp_delta
  rw [show splitId id0 = some ("list_iterator", "__length_hint__") from by subst hid; decide +kernel]
  subst hid
  refine wpAny_bind (wpAny_isInstance (b := true) hit.typeIs (by rw [isSubtype_type]; kernel_rfl) ?_)
  refine wpAny_pure ?_
  rw [if_neg (by decide)]
  refine wpAny_pure ⟨plainId_quiet PySem.F.plain_extend_loop _, codeAny_builtin PySem.F.entry_extend_loop ?_⟩
  rw [Around.under_plainId PySem.F.plain_extend_loop _]
  show wpAny _ _ (pyNext (.ref I) >>= _) _ _ _
  refine wpAny_bind ?_
  refine wpAny_pyNext_list_end (s := St s H tk) (items := vs.toArray) hh hit (News.isList N₂ (.tail _ hm)) (by simpa using hx) ?_
  intro h' hs
  refine wpAny_pure ⟨rfl, ?_⟩
  have hS₀ : h₀.get? hp.objs.size = none := by
    cases e : h₀.get? hp.objs.size with
    | none => rfl
    | some o' => exact absurd (Heap.lt_size (F.keep _ _ e)) (Nat.lt_irrefl _)
  refine h hp.objs.size 0 h' (frExt F₂ hs (Ne.symm hI.2.1) hI.2.2) (fun p hq => ?_) (fun p hq => Heap.lt_size (N p (.tail _ hq)).1)
  rcases List.mem_cons.mp hq with rfl | hq
  · exact ⟨hs _ _ hSI hS₂, Ne.symm (Nat.ne_of_lt F.ns.lt), hS₀⟩
  · have := N₂ p (.tail _ hq)
    exact ⟨hs _ _ (ne p hq) this.1, this.2.1, this.2.2⟩
end
end Mine
namespace Mine
theorem band64 (x : Int) : Builtin.bitAnd x 64 = x / 64 % 2 * 64 := kbt_bit x 6
theorem nat_and_low (v x : Nat) (hx : x < 64) : v * 64 &&& x = 0 := by
  apply Nat.eq_of_testBit_eq
  intro i
  rw [Nat.testBit_and, Nat.zero_testBit]
  by_cases hi : i < 6
  · have : (v * 64).testBit i = false := by
      rw [show v * 64 = v * 2 ^ 6 from rfl, Nat.testBit_mul_two_pow]
      simp; omega
    rw [this]; rfl
  · have : x.testBit i = false := Nat.testBit_lt_two_pow (Nat.lt_of_lt_of_le hx (by
      have : 2 ^ 6 ≤ 2 ^ i := Nat.pow_le_pow_right (by decide) (by omega)
      exact this))
    rw [this, Bool.and_false]
theorem bor_low {v x : Int} (hv : 0 ≤ v) (hx0 : 0 ≤ x) (hx : x < 64) : Builtin.bitOr (v * 64) x = v * 64 + x := by
  have h1 : Builtin.bitXor (v * 64) x = v * 64 + x - 2 * Builtin.bitAnd (v * 64) x := bitXor_and _ _
  have h2 : Builtin.bitXor (v * 64) x = Builtin.bitOr (v * 64) x - Builtin.bitAnd (v * 64) x := rfl
  have h3 : Builtin.bitAnd (v * 64) x = 0 := by
    unfold Builtin.bitAnd
    rw [decide_eq_true (show 0 ≤ v * 64 by omega), decide_eq_true hx0]
    show (((v * 64).toNat &&& x.toNat : Nat) : Int) = 0
    rw [show (v * 64).toNat = v.toNat * 64 by omega, nat_and_low _ _ (by omega)]
    rfl
  omega
theorem ints_at {vs : List Value} {xs : List Int} (h : IntsAre vs xs) : ∀ {i : Nat} {x : Int} {r : List Int}, xs.drop i = x :: r → (∃ t, vs[i]? = some (.int x t)) ∧ xs.drop (i + 1) = r := by
  induction h with
  | nil => intro i x r e; simp at e
  | cons n t _ ih =>
    intro i x r e
    cases i with
    | zero =>
      simp only [List.drop_zero, List.cons.injEq] at e
      obtain ⟨rfl, rfl⟩ := e
      exact ⟨⟨t, rfl⟩, rfl⟩
    | succ i => simpa using ih (by simpa using e)
section
variable {w : World} {A : Around} {E : Value → Shared → Prop} {s : Shared} {hp : Heap} {tk : Nat} {i j : Int} {t u : Tok} {Q : Value → Shared → Prop}
theorem rishl6 (h0 : 0 ≤ i) (h1 : i < 2 ^ 60) (h : ∀ t' tk', Q (.int (i * 64) t') (St s hp tk')) : wpAny (MM w) A (inplaceOp .LShift (.int i t) (.int 6 u)) Q E (St s hp tk) :=
  ilshift_int_small (by decide) (by decide) (by omega) (h _ _)
theorem rior (h : ∀ t' tk', Q (.int (Builtin.bitOr i j) t') (St s hp tk')) : wpAny (MM w) A (inplaceOp .BitOr (.int i t) (.int j u)) Q E (St s hp tk) := ior_int (h _ _)
end
def VPost (I l : Addr) (i : Nat) (n : Int) (rest : Led) (news' : Led) (r : Value) : Prop := ∃ o' t, news' = (I, o') :: rest ∧ ItO l i o' ∧ r = .int n t
set_option maxHeartbeats 2000000 in
theorem varint_ok (w : World) {n : Int} (hn0 : 0 ≤ n) (hn1 : n < 20000) (I : Addr) (o : Obj) (l : Addr) (i : Nat) (vs : List Value) (k : Nat) (rest : Led) (xs ys : List Int) (ho : ItO l i o) (ne : ∀ p ∈ rest, p.1 ≠ I) (hm : (l, lst vs k) ∈ rest) (hI : IntsAre vs xs)
    (hx : xs.drop i = up128 (raw n) ++ ys) : Says w 51 1 [.ref I] ((I, o) :: rest) (VPost I l (i + (raw n).length) n rest) := by
  intro A env L h₀ hp m s tk Q E C F N hd hu hret
  refine enter [("iterator", .ref I)] C F N (by exact rfl) (by kernel_rfl) (by omega) (BindsTo.of_eq (by rfl)) (locs (by rfl)) (by decide) (by rfl) (by rfl) (by rfl) ?_
  clear C F N
  intro g L' h₁ tk C F N lt
  repeat walk_at "m"
  refine nmB C F (g_next w) b_next ?_
  refine PyProof.Rows.callWith_builtin1 ?_
  repeat walk_at "m"
  by_cases q1 : 0 < n / 64
  · by_cases q2 : 0 < n / 64 / 64
    · have hr : raw n = [64 + n / 64 / 64 % 64, 64 + n / 64 % 64, n % 64] := by rw [raw, if_pos q1, if_pos q2]
      rw [hr] at hx hret
      simp only [up128, List.cons_append, List.nil_append] at hx
      obtain ⟨⟨t0, hv0⟩, hx⟩ := ints_at hI hx
      obtain ⟨⟨t1, hv1⟩, hx⟩ := ints_at hI hx
      obtain ⟨⟨t2, hv2⟩, hx⟩ := ints_at hI hx
      refine nextB F N ho ne hm hv0 ?_
      clear F N
      intro o1 h₂ F N ho1
      refine stL C F N ?_
      clear F N
      intro h₃ tk3 F N
      repeat walk_at "m"
      refine stL C F N ?_
      clear F N
      intro h₄ tk4 F N
      repeat walk_at "m"
      refine while_wl 2 ?_
      refine WL.succ ?_
      refine isTrue_plain ?_
      repeat walk_at "m"
      rw [show (Builtin.bitAnd (128 + (64 + n / 64 / 64 % 64)) 64 != 0) = true by rw [band64]; simp only [bne_iff_ne, ne_eq]; omega]
      refine ite_tt ?_
      repeat walk_at "m"
      refine rishl6 (by rw [bitAnd_m6]; omega) (by rw [bitAnd_m6]; omega) ?_
      intro _ _
      refine stL C F N ?_
      clear F N
      intro h₅ tk5 F N
      repeat walk_at "m"
      refine nmB C F (g_next w) b_next ?_
      refine PyProof.Rows.callWith_builtin1 ?_
      repeat walk_at "m"
      refine nextB F N ho1 ne hm hv1 ?_
      clear F N
      intro o2 h₆ F N ho2
      refine stL C F N ?_
      clear F N
      intro h₇ tk7 F N
      repeat walk_at "m"
      refine rior ?_
      intro _ _
      refine stL C F N ?_
      clear F N
      intro h₈ tk8 F N
      repeat walk_at "m"
      refine WL.succ ?_
      refine isTrue_plain ?_
      repeat walk_at "m"
      rw [show (Builtin.bitAnd (64 + n / 64 % 64) 64 != 0) = true by rw [band64]; simp only [bne_iff_ne, ne_eq]; omega]
      refine ite_tt ?_
      repeat walk_at "m"
      rw [show Builtin.bitOr (Builtin.bitAnd (128 + (64 + n / 64 / 64 % 64)) 63 * 64) (Builtin.bitAnd (64 + n / 64 % 64) 63) = n / 64 by
        rw [bitAnd_m6, bitAnd_m6, bor_low (by omega) (by omega) (by omega)]; omega]
      refine rishl6 (by omega) (by omega) ?_
      intro _ _
      refine stL C F N ?_
      clear F N
      intro h₅ tk5 F N
      repeat walk_at "m"
      refine nmB C F (g_next w) b_next ?_
      refine PyProof.Rows.callWith_builtin1 ?_
      repeat walk_at "m"
      refine nextB F N ho2 ne hm hv2 ?_
      clear F N
      intro o3 h₆ F N ho3
      refine stL C F N ?_
      clear F N
      intro h₇ tk7 F N
      repeat walk_at "m"
      refine rior ?_
      intro _ _
      refine stL C F N ?_
      clear F N
      intro h₈ tk8 F N
      repeat walk_at "m"
      refine WL.zero ?_
      refine isTrue_plain ?_
      repeat walk_at "m"
      refine ⟨by rw [band64]; simp only [bne_eq_false_iff_eq]; omega, ?_⟩
      repeat walk_at "m"
      rw [show Builtin.bitOr (n / 64 * 64) (Builtin.bitAnd (n % 64) 63) = n by rw [bitAnd_m6, bor_low (by omega) (by omega) (by omega)]; omega]
      exact Ret.mk F N (fun F N => hret _ _ _ _ F N ⟨o3, _, rfl, ho3, rfl⟩)
    · have hr : raw n = [64 + n / 64 % 64, n % 64] := by rw [raw, if_pos q1, if_neg q2]
      rw [hr] at hx hret
      simp only [up128, List.cons_append, List.nil_append] at hx
      obtain ⟨⟨t0, hv0⟩, hx⟩ := ints_at hI hx
      obtain ⟨⟨t1, hv1⟩, hx⟩ := ints_at hI hx
      refine nextB F N ho ne hm hv0 ?_
      clear F N
      intro o1 h₂ F N ho1
      refine stL C F N ?_
      clear F N
      intro h₃ tk3 F N
      repeat walk_at "m"
      refine stL C F N ?_
      clear F N
      intro h₄ tk4 F N
      repeat walk_at "m"
      refine while_wl 1 ?_
      refine WL.succ ?_
      refine isTrue_plain ?_
      repeat walk_at "m"
      rw [show (Builtin.bitAnd (128 + (64 + n / 64 % 64)) 64 != 0) = true by rw [band64]; simp only [bne_iff_ne, ne_eq]; omega]
      refine ite_tt ?_
      repeat walk_at "m"
      refine rishl6 (by rw [bitAnd_m6]; omega) (by rw [bitAnd_m6]; omega) ?_
      intro _ _
      refine stL C F N ?_
      clear F N
      intro h₅ tk5 F N
      repeat walk_at "m"
      refine nmB C F (g_next w) b_next ?_
      refine PyProof.Rows.callWith_builtin1 ?_
      repeat walk_at "m"
      refine nextB F N ho1 ne hm hv1 ?_
      clear F N
      intro o2 h₆ F N ho2
      refine stL C F N ?_
      clear F N
      intro h₇ tk7 F N
      repeat walk_at "m"
      refine rior ?_
      intro _ _
      refine stL C F N ?_
      clear F N
      intro h₈ tk8 F N
      repeat walk_at "m"
      refine WL.zero ?_
      refine isTrue_plain ?_
      repeat walk_at "m"
      refine ⟨by rw [band64]; simp only [bne_eq_false_iff_eq]; omega, ?_⟩
      repeat walk_at "m"
      rw [show Builtin.bitOr (Builtin.bitAnd (128 + (64 + n / 64 % 64)) 63 * 64) (Builtin.bitAnd (n % 64) 63) = n by
        rw [bitAnd_m6, bitAnd_m6, bor_low (by omega) (by omega) (by omega)]; omega]
      exact Ret.mk F N (fun F N => hret _ _ _ _ F N ⟨o2, _, rfl, ho2, rfl⟩)
  · have hr : raw n = [n % 64] := by rw [raw, if_neg q1]
    rw [hr] at hx hret
    simp only [up128, List.cons_append, List.nil_append] at hx
    obtain ⟨⟨t0, hv0⟩, hx⟩ := ints_at hI hx
    refine nextB F N ho ne hm hv0 ?_
    clear F N
    intro o1 h₂ F N ho1
    refine stL C F N ?_
    clear F N
    intro h₃ tk3 F N
    repeat walk_at "m"
    refine stL C F N ?_
    clear F N
    intro h₄ tk4 F N
    repeat walk_at "m"
    refine while_wl 0 ?_
    refine WL.zero ?_
    refine isTrue_plain ?_
    repeat walk_at "m"
    refine ⟨by rw [band64]; simp only [bne_eq_false_iff_eq]; omega, ?_⟩
    repeat walk_at "m"
    rw [show Builtin.bitAnd (128 + n % 64) 63 = n by rw [bitAnd_m6]; omega]
    exact Ret.mk F N (fun F N => hret _ _ _ _ F N ⟨o1, _, rfl, ho1, rfl⟩)
end Mine
namespace Mine
theorem enterKw {w : World} {A : Around} {env : Env} {L : Addr} {h₀ hp : Heap} {s : Shared} {tk : Nat} {m : Str → Option Value} {news : Led} {Q E : Value → Shared → Prop} {f : Addr} {vs : List Value} {kw : List (Str × Value)}
    {name qual : Str} {params : Arguments} {body : List Stmt} {scope : Scope} {dV kV doc pm cdv ct oc : Value} {an od : Option Addr} {osl : Array (Option Value)} (rb : Addr → List (Str × Value)) {ex : List (Str × Value)} {g₁ : Addr → Sem (List (Str × Value))}
    (C : At w A env L h₀) (F : Fr h₀ L hp m) (N : News h₀ L hp news)
    (ho : (KW w).lookup f = some ⟨oc, od, .func (fnX name qual params body scope [] dV kV doc pm an cdv ct), osl⟩) (hcd : codeIn (KW w) cdv qual = true) (hroom : A.depth < recursionLimit)
    (hn : kwDistinct ex = true)
    (hpk : peekA (KW w) ⟨PySem.Challenge.rw_pe0008_01.row.prog, w.params⟩ (bindArgs (fnX name qual params body scope [] dV kV doc pm an cdv ct) ⟨vs, kw⟩) = some (dictOf [] 0, g₁))
    (hk₁ : ∀ D, g₁ D = (forIn ex PUnit.unit (fun x _ => (nsSet D x.1 x.2 >>= fun _ => pure (ForInStep.yield PUnit.unit))) >>= fun _ => pure (rb D).reverse))
    (hloc : ∀ D, ∀ y ∈ (rb D).reverse, scope.names.lookup y.1 = some .local)
    (hcell : ∀ x ∈ scope.names, x.2 ≠ .cell) (hco : scope.isCoroutine = false) (hgen : scope.isGenerator = false) (hk : scope.kind = .function)
    (h : ∀ D t g L' h₁ tk', (∀ p ∈ news, p.1 < D) → (D == sysModules) = false → At w (A.deeper (envX qual scope L' f cdv [])) (envX qual scope L' f cdv []) L' g → Fr g L' h₁ (mp (rb D)) → News g L' h₁ ((D, dictOf (kwEs w.params t ex) (0 + ex.length)) :: news) →
      wpAny (MM w) (A.deeper (envX qual scope L' f cdv [])) (execs body (envX qual scope L' f cdv [])) (Ret h₀ L m g L' s Q) (fun _ _ => False) (St s h₁ tk')) :
    wpAny (MM w) A (call (.ref f) vs kw) Q E (St s hp tk) := by
  obtain ⟨A₀, base, outer, B, hA⟩ := C.below
  obtain ⟨p, loose, mean, mg, mb, T⟩ := C.top
  have hn' := kwDistinct_nodup hn
  refine wpAny_call ?_
  refine codeAny_call_function (fd := fnX name qual params body scope [] dV kV doc pm an cdv ct) (body := body) hroom ((C.inK.keeps F.keep) _ _ ho) rfl hco hgen rfl (codeRec_of (C.inK.keeps F.keep) hcd) ?_
  refine wp_of_peekA (o := dictOf [] 0) (s := St s hp tk) F N (C.inK.keeps F.keep) rfl _ g₁ hpk fun h' F' N' l => ?_
  rw [hk₁]
  refine wpAny_bind (kp_fill ex { St s hp tk with heap := h' } [] 0 F' N' (fun p hp => Nat.ne_of_lt (l p hp)) (fun _ he => nomatch he) (fun _ he => nomatch he) hn' fun h'' F'' N'' => wpAny_pure ?_)
  refine kp_frame (cl := []) (s := { St s hp tk with heap := h'', toks := (St s hp tk).toks + ex.length }) B F'' N'' T.nolimit hA C.fr C.kind (hloc _)
    (fun g L' h₁ FG FL NG BG st => ?_) hcell hk
  have C' : At w (A.deeper (envX qual scope L' f cdv [])) (envX qual scope L' f cdv []) L' g :=
    ⟨⟨A, base, env :: outer, BG, by show A.frames.map _ = _; rw [hA]; rfl⟩, rfl, hk, C.inK.keeps st, ⟨p, loose, mean, mg, mb, T.keeps st⟩, C.hnd⟩
  rw [List.reverse_reverse] at FL
  refine wpAny_mono (h _ tk g L' h₁ _ l (F.notModules (modules_low T.nolimit)) C' FL NG) (fun fl s' x => ?_) (fun _ _ x => x.elim)
  obtain ⟨v, m', news', h', tk', rfl, rfl, F', N', k⟩ := x
  exact ⟨_, _, _, F', N', k⟩
section
variable {w : World} {A : Around} {E : Value → Shared → Prop} {s : Shared} {hp h₀ : Heap} {tk : Nat} {L : Addr} {m : Str → Option Value} {news : Led}
theorem mergeOne {d D : Addr} {n : Nat} {hsh : Int} {x : Str} {t : Tok} {v : Value} {Q : Unit → Shared → Prop} (F : Fr h₀ L hp m) (N : News h₀ L hp ((d, dictOf [] 0) :: news)) (ne : ∀ p ∈ news, p.1 ≠ d) (hD : (D, dictOf [⟨hsh, .str x t, v⟩] n) ∈ news) (hs : (D == sysModules) = false)
    (h : ∀ h', Fr h₀ L h' m → News h₀ L h' ((d, dictOf [⟨hsh, .str x t, v⟩] 1) :: news) → Q () (St s h' tk)) :
    wpAny (MM w) A (mergeMapping d (.ref D) true) Q E (St s hp tk) := by
  have zD := N (D, _) (.tail _ hD)
  have zd := N (d, _) (.head _)
  have hT : (St s hp tk).TypeIs (.ref D) "dict" := ⟨_, zD.1, rfl⟩
  unfold mergeMapping
  refine wpAny_bind (wpAny_isInstance hT isSubtype_dict_dict ?_)
  rw [if_pos rfl]
  refine wpAny_bind (wpAny_specialOf hT PySem.F.slot_dict_iter.lookup ?_)
  refine wpAny_bind (wpAny_pure ?_)
  dsimp only
  rw [beq_self_eq_true]
  dsimp only
  rw [if_neg (by rw [hs]; decide)]
  refine wpAny_bind (wpAny_dictEntries zd.1 rfl ?_)
  rw [if_pos (show (#[] : Array DictEntry).isEmpty = true from rfl)]
  refine wpAny_bind (wpAny_dictEntries zD.1 rfl ?_)
  rw [List.forIn_toArray, List.forIn_cons]
  refine wpAny_bind (wpAny_bind (wpAny_pure ?_))
  dsimp only
  rw [List.forIn_nil]
  refine wpAny_pure ?_
  refine wpAny_bind (wpAny_dictEntries zD.1 rfl ?_)
  refine wpAny_bind (wpAny_dictEpoch zD.1 rfl ?_)
  rw [show List.range [(⟨hsh, .str x t, v⟩ : DictEntry)].toArray.size = [0] from rfl, List.forIn_cons]
  refine wpAny_bind (wpAny_bind ?_)
  refine wpAny_bind (wpAny_dictEntries zD.1 rfl ?_)
  rw [show [(⟨hsh, .str x t, v⟩ : DictEntry)].toArray[0]? = some ⟨hsh, .str x t, v⟩ from rfl]
  dsimp only
  rw [if_pos rfl]
  refine wpAny_bind (wpAny_holding ?_)
  refine wpAny_bind (KTD.kt_dictFind_strs zd.1 rfl (by simp) ?_)
  rw [show (([] : List DictEntry).toArray.findIdx? fun e => e.key.isStr x) = none from by simp]
  rw [if_neg (by decide)]
  unfold dictPut
  refine wpAny_bind (KTD.kt_dictFind_strs zd.1 rfl (by simp) ?_)
  rw [show (([] : List DictEntry).toArray.findIdx? fun e => e.key.isStr x) = none from by simp]
  dsimp only
  refine wpAny_updateDictKeys zd.1 rfl ?_
  obtain ⟨F', N'⟩ := news_upd (pre := []) (f := Obj.mapDictKeys (·.push (⟨hsh, .str x t, v⟩ : DictEntry))) (o' := dictOf [⟨hsh, .str x t, v⟩] 1) F N (fun _ h => nomatch h) ne rfl rfl
  refine wpAny_bind (wpAny_dictEpoch (N' (D, _) (.tail _ hD)).1 rfl ?_)
  rw [if_neg (by simp)]
  refine wpAny_pure ?_
  dsimp only
  rw [List.forIn_nil]
  exact wpAny_pure (wpAny_pure (h _ F' N'))
theorem kwStar {e ke : PySem.Expr} {env : Env} {f : Value} {pos kp : Pos} {D : Addr} {n : Nat} {hsh : Int} {x : Str} {t : Tok} {v rv : Value} {Q : Value → Shared → Prop} {env' : Env} (C : At w A env' L h₀) (hk : keepIn (KW w) f = true) (F : Fr h₀ L hp m) (N : News h₀ L hp news)
    (hD : (D, dictOf [⟨hsh, .str x t, rv⟩] n) ∈ news) (hs : (D == sysModules) = false)
    (he : ∀ (Q E : Value → Shared → Prop), Q v (St s hp tk) → wpAny (MM w) A (eval e env) Q E (St s hp tk))
    (hke : ∀ (hp' : Heap) (tk' : Nat) (Q E : Value → Shared → Prop), Fr h₀ L hp' m → Q (.ref D) (St s hp' tk') → wpAny (MM w) A (eval ke env) Q E (St s hp' tk'))
    (h : ∀ h', Fr h₀ L h' m → News h₀ L h' news → wpAny (MM w) A (call f [v] [(x, rv)]) Q E (St s h' tk))
    (hse : starEach [e] env = [(false, eval e env)] := by rfl) :
    wpAny (MM w) A (callWith pos f [] (backTo pos (starEach [e] env)) (backToKw pos (keywordEach [⟨none, ke, kp⟩] env))) Q E (St s hp tk) := by
  have main : wpAny (MM w) A (evalArgs f true (backTo pos (starEach [e] env)) (backToKw pos (keywordEach [⟨none, ke, kp⟩] env))) (fun a s₁ => (KW w).In s₁.heap ∧ wpAny (MM w) A (call f ([] ++ a.pos) a.kw) Q E s₁) E (St s hp tk) := by
    rw [hse]
    unfold evalArgs
    show wpAny (MM w) A (_ >>= _) _ _ _
    refine wpAny_bind ?_
    rw [← hse]
    refine spliced_more ?_ hse
    refine he _ _ ?_
    refine spliced_none ?_
    refine wpAny_bind (wpAny_pure ?_)
    dsimp only
    refine wpAny_holding ?_
    rw [if_neg (by intro hh; cases hh)]
    refine wpAny_bind ?_
    unfold mergedKeywords
    refine wpAny_bind (wpAny_alloc ?_)
    refine wpAny_bind (wpAny_holding ?_)
    have F1 := F.push (dictOf [] 0)
    have N1 := News.push F N (dictOf [] 0)
    have ne1 : ∀ p ∈ news, p.1 ≠ hp.objs.size := fun p hq => Nat.ne_of_lt (Heap.lt_size (N p hq).1)
    show wpAny _ _ _ _ _ (St s (hp.push (dictOf [] 0)) tk)
    dsimp only
    rw [show backToKw pos (keywordEach [⟨none, ke, kp⟩] env) = [(none, (do let v ← eval ke env; standAt pos; pure v))] from rfl, List.forIn_cons]
    refine wpAny_bind (wpAny_bind ?_)
    dsimp only
    refine wpAny_bind ?_
    rw [if_pos (show ([] : List (Str × Sem Value)).isEmpty = true from rfl)]
    refine wpAny_pure ?_
    refine wpAny_bind (wpAny_bind (hke _ _ _ _ F1 (wpAny_bind (wpAny_standAt (wpAny_pure ?_)))))
    refine wpAny_bind (wpAny_onRaise ?_)
    refine wpAny_holding ?_
    refine wpAny_tryCatch (wpAny_onRaise ?_)
    refine mergeOne F1 N1 ne1 hD hs ?_
    intro h2 F2 N2
    refine wpAny_pure ?_
    dsimp only
    rw [List.forIn_nil]
    refine wpAny_pure ?_
    rw [if_pos (show ([] : List (Str × Sem Value)).isEmpty = true from rfl)]
    refine wpAny_pure (wpAny_pure ?_)
    refine wpAny_bind (wpAny_pure ?_)
    refine wpAny_bind (wpAny_holding ?_)
    unfold keywordsIn
    refine wpAny_bind (wpAny_dictEntries (N2 _ (.head _)).1 rfl ?_)
    rw [List.forIn_toArray, List.forIn_cons]
    refine wpAny_bind (wpAny_bind (wpAny_pure ?_))
    dsimp only
    rw [List.forIn_nil]
    refine wpAny_pure (wpAny_pure (wpAny_pure ⟨C.inK.keeps F2.keep, ?_⟩))
    exact h _ F2 (News.sub N2 (fun p hq => .tail _ hq))
  unfold callWith
  refine wpAny_bind (wpAny_holding (wpAny_mono main (fun a s₁ h₁ => wpAny_bind (wpAny_standAt ?_)) fun _ _ x => x))
  obtain ⟨k, hk', L'⟩ := keeps_K (M := MM w) hk _ h₁.1
  rw [show ((backToKw pos (keywordEach [⟨none, ke, kp⟩] env)).any (·.1.isNone)) = true from rfl, Bool.or_true]
  refine wpAny_bind (L'.here ?_)
  have tail : ∀ {t : Sem Value}, wpAny (MM w) A t Q E s₁ → wpAny (MM w) A (t >>= fun r => holding [r] point >>= fun _ => pure r) Q E s₁ :=
    fun ht => wpAny_bind (wpAny_mono ht (fun r s₂ hr => wpAny_bind (wpAny_holding (wpAny_point (wpAny_pure hr)))) fun _ _ x => x)
  have marked (mk : Value) : wpAny (MM w) A (callMarked mk f ([] ++ a.pos) a.kw) Q E s₁ := by unfold callMarked; exact Calls.wpAny_keep h₁.2
  rcases hk' with rfl | rfl | rfl <;> dsimp only <;> first | exact tail (marked _) | exact tail (wpAny_operating h₁.2)
end
end Mine
namespace Mine
abbrev unkO : Obj := { cls := .ref 31, dict := some 36 }
theorem unk_at (w : World) : (KW w).lookup 37 = some unkO := by kernel_rfl
theorem unk_cmp {w : World} {h : Heap} (X : (KW w).In h) : h.CmpInst 37 31 [.type "object"] := by
  have hN : h.Ns 30 (h.nsMap 30) := .of_isNs (isNs_of_in X (by kernel_rfl))
  exact ⟨_, _, _, 30, _, _, _, _, _, _, _, _, _, _, _, _, _, h.nsMap 30, X _ _ (unk_at w), rfl, X _ _ (by exact rfl), hN, ns_none_of X hN (by kernel_rfl), ns_none_of X hN (by kernel_rfl)⟩
theorem str_eq_unk (b : Str) (u : Tok) :
    Meets (Builtin.«str.__eq__» ⟨[.str b u, .ref 37], []⟩) (fun _ R s => s.heap.get? 37 = some unkO ∧ R (.ok (.ret .notImplemented)) s) :=
  .of_wp fun prog w A R s h => by obtain ⟨hp, g, d, tk, os⟩ := s; obtain ⟨hl, h⟩ := h; wp_walk using AutoSeq1.wpAny_loadPart' hl, wpAny_load hl; exact ⟨_, rfl, h⟩
section
variable {w : World} {A : Around} {E : Value → Shared → Prop} {h : Heap} {g : Array GenState} {d : Drawn} {t : Nat} {os : OsState}
theorem objEq_str {x : Str} {u : Tok} {Q : Fin → Shared → Prop} (hq : Q (.done (.ret .notImplemented)) ⟨h, g, d, t, os⟩) : wpAny (MM w) A (Builtin.«object.__eq__» ⟨[.ref 37, .str x u], []⟩) Q E ⟨h, g, d, t, os⟩ := by
  unfold Builtin.«object.__eq__»
  repeat (first | (with_reducible refine wpAny_of_eq (rfl : isSame (.ref 37) (.str x u) = pure false) ?_) | wp_step)
  exact hq
theorem tryUS {x : Str} {u : Tok} {Q : Option Value → Shared → Prop} (X : (KW w).In h) (hq : Q none ⟨h, g, d, t, os⟩) : wpAny (MM w) A (tryCompare (.ref 37) "__eq__" (.str x u)) Q E ⟨h, g, d, t, os⟩ := by
  obtain ⟨o, nm, q, N, bs, hdct, sn, sub, ab, col, dd, k0, k1, k2, k3, k5, newId, mN, hx, hc, hC, hn, he, _⟩ := unk_cmp X
  simp only [tryCompare]
  refine wpAny_bind (wpAny_callSpecialIfBound?_inst hx hc hC hn he PySem.F.cmp_object.mro PySem.F.cmp_object.eq (wpAny_call (codeAny_call_builtin PySem.F.cmp_object.eq.plain PySem.F.cmpEntry_eq
    (wpAny_check_slot_inst PySem.F.cmpKind_eq PySem.F.cmpSplit_eq (PySem.F.cmpArgs_eq _ _) PySem.F.cmp_object.hasObject hx hc hC (objEq_str ?_)))))
  exact wpAny_pure hq
theorem eqUS {x : Str} {u : Tok} {Q : Value → Shared → Prop} (X : (KW w).In h) (hu : A.units < cLine) (hq : Q (.bool false) ⟨h, g, d, t, os⟩) : wpAny (MM w) A (compareOp .Eq (.ref 37) (.str x u)) Q E ⟨h, g, d, t, os⟩ := by
  refine cmp_ofEq ?_
  have hx := X _ _ (unk_at w)
  simp only [richCompare, cmpInfo_Eq]
  refine wpAny_holding ?_
  refine wpAny_bind (wpAny_cRoomFor hu ?_)
  rw [show oneThing? CmpOp.Eq (Value.ref 37) (Value.str x u) = none from rfl]
  dsimp only
  refine wpAny_bind ((looks_typeIn (M := MM w) X (by kernel_rfl : typeIn (KW w) (.ref 37) = some (.ref 31))).here ?_)
  refine wpAny_bind (wpAny_of_eq (a := Value.type "str") rfl ?_)
  rw [if_pos (show (Value.ref 31 != Value.type "str") = true by decide)]
  refine wpAny_bind (wpAny_of_eq (a := false) (by rw [isSubtype_type]; kernel_rfl) ?_)
  simp only [Bool.false_eq_true, if_false, Bool.not_false, if_true]
  refine wpAny_bind (m := tryCompare (.ref 37) _ _) (tryUS X ?_)
  dsimp only
  refine wpAny_bind (m := tryCompare (.str x u) _ _) (wpAny_tryCompare_declines (typeIs_str _ x u) PySem.F.slot_str_eq (call_meets PySem.F.slot_str_eq (typeIs_str _ x u) PySem.F.entry_str_eq (PySem.F.args_str_eq_2 _ _) (str_eq_unk x u) ⟨hx, ⟨rfl, ?_⟩⟩))
  exact wpAny_bind (wpAny_rule (wpAny_bind (wpAny_of_eq (rfl : isSame (.ref 37) (.str x u) = pure false) (wpAny_pure hq))))
theorem eqUU {Q : Value → Shared → Prop} (X : (KW w).In h) (hu : A.units < cLine) (hq : Q (.bool true) ⟨h, g, d, t, os⟩) : wpAny (MM w) A (compareOp .Eq (.ref 37) (.ref 37)) Q E ⟨h, g, d, t, os⟩ :=
  compareOp_eq_same PySem.F.cmp_object (unk_cmp X) hu hq
end
end Mine
namespace Mine
abbrev tup (vs : List Value) : Obj := { cls := .type "tuple", data := .seq vs.toArray }
section
variable {w : World} {A : Around} {E : Value → Shared → Prop} {s : Shared} {hp h₀ : Heap} {tk : Nat} {L : Addr} {m : Str → Option Value} {news : Led} {Q : Value → Shared → Prop} {v : Value}
theorem newT {vs : List Value} (F : Fr h₀ L hp m) (N : News h₀ L hp news)
    (h : ∀ l h', Fr h₀ L h' m → News h₀ L h' ((l, tup vs) :: news) → (∀ p ∈ news, p.1 < l) → Q (.ref l) (St s h' tk)) (hz : vs.length ≤ sizeLine := by exact Nat.le_of_ble_eq_true rfl) :
    wpAny (MM w) A (newTuple vs) Q E (St s hp tk) := newTuple_N (s := St s hp tk) F N (fun h' F' N' => h _ h' F' N' (fun p hq => Heap.lt_size (N p hq).1)) hz
theorem subT {value slice : PySem.Expr} {l : Addr} {vs : List Value} {k : Int} {u : Tok} {j : Nat} (N : News h₀ L hp news) (hm : (l, tup vs) ∈ news) (hlo : -(2 ^ 63) ≤ k) (hhi : k < 2 ^ 63) (hj : seqIndex? k vs.length = some j) (hx : vs[j]? = some v) (h : Q v (St s hp tk))
    (hs : subscripted slice false (.ref l) (.int k u) = operate [.ref l, .int k u] (getItem (.ref l) (.int k u)) := by with_unfolding_all rfl) (hg : ∀ r, letTemporaryGo value (.ref l) r = pure () := by intro _; with_unfolding_all rfl) :
    wpAny (MM w) A (subscriptTail value slice (.ref l) (.int k u)) Q E (St s hp tk) := item_tupleL (s := St s hp tk) (News.isTup N hm) hlo hhi hj hx h hs hg
end
set_option maxHeartbeats 2000000 in
theorem info_known {w : World} {A : Around} {env : Env} {E : Value → Shared → Prop} {s : Shared} {hp h₀ : Heap} {tk : Nat} {L : Addr} {m : Str → Option Value} {news : Led} {Q : Value → Shared → Prop} {v : Value} {k : Int} {t : Tok} {b : Addr} {vs : List Value} {kb : Nat}
    (C : At w A env L h₀) (F : Fr h₀ L hp m) (N : News h₀ L hp news) (hd : A.depth + 2 < recursionLimit) (hb : (b, lst vs kb) ∈ news) (h0 : 0 ≤ k) (h1 : k < 2 ^ 63) (hv : vs[k.toNat]? = some v)
    (hret : ∀ T h' tk', Fr h₀ L h' m → News h₀ L h' ((T, tup [v, v]) :: news) → Q (.ref T) (St s h' tk')) :
    wpAny (MM w) A (call (.ref 44) [.int k t, .ref 91] [("row", .ref b)]) Q E (St s hp tk) := by
  refine enterKw (fun D => [("extrainfo", .ref D), ("get_name", .ref 91), ("name_index", .int k t)]) (ex := [("row", .ref b)]) C F N (by exact rfl) (by kernel_rfl) (by omega) (by rfl) (by rfl) (fun _ => by rfl) (fun D => locs (by rfl)) (by decide) (by rfl) (by rfl) (by rfl) ?_
  clear C F N
  intro D tD g L' h₁ tk' lt hsys C F N
  repeat walk_at "m"
  refine isnot_none_ne (by intro h; cases h) ?_
  repeat walk_at "m"
  refine ite_tt ?_
  repeat walk_at "m"
  refine wpAny_Call_Name_kw ?_
  repeat walk_at "m"
  refine kwStar C (kp_at w) F N (.head _) hsys (fun Q E h => nmL C F (by rfl) h) (fun hp' tk' Q E F' h => nmL C F' (by rfl) h) ?_
  clear F N
  intro h₂ F N
  refine enter [("row", .ref b), ("place", .int k t)] C F N (by exact rfl) (by kernel_rfl) (by show A.depth + 1 < _; omega) (BindsTo.of_eq (by rfl)) (locs (by rfl)) (by decide) (by rfl) (by rfl) (by rfl) ?_
  intro g2 L2 h₃ tk3 C2 F2 N2 lt2
  repeat walk_at "m"
  refine subL N2 (.tail _ hb) h0 h1 hv ?_
  refine Ret.mk F2 N2 (fun F N => ?_)
  clear C2 F2 N2 lt2
  refine stL C F N ?_
  clear F N
  intro h₄ tk4 F N
  repeat walk_at "m"
  refine newT F N ?_
  clear F N
  intro T h₅ F N lt5
  exact Ret.mk F (News.drop2 N) (fun F N => hret _ _ _ F N)
set_option maxHeartbeats 2000000 in
theorem info_none {w : World} {A : Around} {env : Env} {E : Value → Shared → Prop} {s : Shared} {hp h₀ : Heap} {tk : Nat} {L : Addr} {m : Str → Option Value} {news : Led} {Q : Value → Shared → Prop} {k : Int} {t : Tok} {rv : Value}
    (C : At w A env L h₀) (F : Fr h₀ L hp m) (N : News h₀ L hp news) (hd : A.depth + 1 < recursionLimit)
    (hret : ∀ T u h' tk', Fr h₀ L h' m → News h₀ L h' ((T, tup [.ref 37, .str "" u]) :: news) → Q (.ref T) (St s h' tk')) :
    wpAny (MM w) A (call (.ref 44) [.int k t, .none] [("row", rv)]) Q E (St s hp tk) := by
  refine enterKw (fun D => [("extrainfo", .ref D), ("get_name", .none), ("name_index", .int k t)]) (ex := [("row", rv)]) C F N (by exact rfl) (by kernel_rfl) (by omega) (by rfl) (by rfl) (fun _ => by rfl) (fun D => locs (by rfl)) (by decide) (by rfl) (by rfl) (by rfl) ?_
  clear C F N
  intro D tD g L' h₁ tk' lt hsys C F N
  repeat walk_at "m"
  refine isnot_none_none ?_
  repeat walk_at "m"
  refine ite_ff ?_
  repeat walk_at "m"
  refine nmG C F (g_unknown w) ?_
  repeat walk_at "m"
  refine newT F N ?_
  clear F N
  intro T h₅ F N lt5
  exact Ret.mk F (News.drop2 N) (fun F N => hret _ _ _ _ F N)
inductive VIs : Value → Option Int → Prop where
  | int (i : Int) (t : Tok) : VIs (.int i t) (some i)
  | unk : VIs (.ref 37) none
set_option maxHeartbeats 2000000 in
theorem name_known {w : World} {news : Led} {v : Value} {x : Option Int} {k : Int} {t : Tok} {b : Addr} {vs : List Value} {kb : Nat} (hb : (b, lst vs kb) ∈ news) (h0 : 0 ≤ k) (h1 : k < 2 ^ 63) (hv : vs[k.toNat]? = some v) (hx : VIs v x) :
    SaysR w 98 3 [.int k t, .ref b, .bool true] news (fun r => VIs r x) := by
  intro A env L h₀ hp m s tk Q E C F N hd hu hret
  refine enter [("known", .bool true), ("row", .ref b), ("place", .int k t)] C F N (by exact rfl) (by kernel_rfl) (by omega) (BindsTo.of_eq (by rfl)) (locs (by rfl)) (by decide) (by rfl) (by rfl) (by rfl) ?_
  clear C F N
  intro g L' h₁ tk' C F N lt
  repeat walk_at "m"
  refine wpAny_Call_Name_kw ?_
  refine nmG C F (g_info w) ?_
  refine callWith_KW C.inK (kp_info w) (by rfl) ?_
  repeat walk_at "m"
  refine isTrue_plain ?_
  repeat walk_at "m"
  refine ite_tt ?_
  refine nmG C F (g_at w) ?_
  repeat walk_at "m"
  refine kwAll_cons ?_
  repeat walk_at "m"
  refine kwAll_nil ?_
  refine ⟨C.inK.keeps F.keep, ?_⟩
  refine info_known C F N (by show A.depth + 1 + 2 < _; omega) hb h0 h1 hv ?_
  clear F N
  intro T h₂ tk2 F N
  refine stL C F N ?_
  clear F N
  intro h₃ tk3 F N
  repeat walk_at "m"
  refine isTrue_and ?_
  refine isTrue_plain ?_
  repeat walk_at "m"
  refine ite_tt ?_
  refine isTrue_and ?_
  repeat walk_at "m"
  refine subT N (.head _) (by decide) (by decide) (by rfl) (by rfl) ?_
  repeat walk_at "m"
  refine subT N (.head _) (by decide) (by decide) (by rfl) (by rfl) ?_
  have fin : ∀ (h4 : Heap) (tk4 : Nat) (v' : Value), VIs v' x → Fr h₀ L h4 m → News h₀ L h4 news → Q v' (St s h4 tk4) := fun h4 tk4 v' hx' F N => hret _ _ _ F N hx'
  cases hx with
  | int i u =>
    repeat walk_at "m"
    rw [beq_self_eq_true]
    refine ite_tt ?_
    refine isTrue_and_nil ?_
    refine ite_tt ?_
    repeat walk_at "m"
    refine subT N (.head _) (by decide) (by decide) (by rfl) (by rfl) ?_
    exact Ret.mk F (News.sub N (fun p hp => .tail _ hp)) (fun F N => fin _ _ _ (.int i u) F N)
  | unk =>
    refine eqUU (C.inK.keeps F.keep) (by show A.units + 3 < _; omega) ?_
    repeat walk_at "m"
    refine ite_tt ?_
    refine isTrue_and_nil ?_
    refine ite_tt ?_
    repeat walk_at "m"
    refine subT N (.head _) (by decide) (by decide) (by rfl) (by rfl) ?_
    exact Ret.mk F (News.sub N (fun p hp => .tail _ hp)) (fun F N => fin _ _ _ .unk F N)
set_option maxHeartbeats 2000000 in
theorem name_none {w : World} {news : Led} {k : Int} {t : Tok} : SaysR w 98 3 [.int k t, .none, .bool false] news (fun r => r = .ref 37) := by
  intro A env L h₀ hp m s tk Q E C F N hd hu hret
  refine enter [("known", .bool false), ("row", .none), ("place", .int k t)] C F N (by exact rfl) (by kernel_rfl) (by omega) (BindsTo.of_eq (by rfl)) (locs (by rfl)) (by decide) (by rfl) (by rfl) (by rfl) ?_
  clear C F N
  intro g L' h₁ tk' C F N lt
  repeat walk_at "m"
  refine wpAny_Call_Name_kw ?_
  refine nmG C F (g_info w) ?_
  refine callWith_KW C.inK (kp_info w) (by rfl) ?_
  repeat walk_at "m"
  refine isTrue_plain ?_
  repeat walk_at "m"
  refine ite_ff ?_
  repeat walk_at "m"
  refine kwAll_cons ?_
  repeat walk_at "m"
  refine kwAll_nil ?_
  refine ⟨C.inK.keeps F.keep, ?_⟩
  refine info_none C F N (by show A.depth + 1 + 1 < _; omega) ?_
  clear F N
  intro T u h₂ tk2 F N
  refine stL C F N ?_
  clear F N
  intro h₃ tk3 F N
  repeat walk_at "m"
  refine isTrue_and ?_
  refine isTrue_plain ?_
  repeat walk_at "m"
  refine ite_ff ?_
  refine ite_ff ?_
  repeat walk_at "m"
  refine isTrue_and ?_
  refine isTrue_not ?_
  refine isTrue_plain ?_
  repeat walk_at "m"
  refine ite_tt ?_
  refine isTrue_and ?_
  repeat walk_at "m"
  refine nmG C F (g_unknown w) ?_
  repeat walk_at "m"
  refine newT F N ?_
  clear F N
  intro T2 h₄ F N lt4
  refine SeqAt.eq_tupleAt (s := St s _ _) (e := fun _ => true) (News.isTup N (.tail _ (.head _))) (News.isTup N (.head _)) (by show A.units + 3 < _; omega) ?_ ?_
  · intro j h1 h2
    match j, h1, h2 with
    | 0, _, _ => exact SeqAt.EqAt.same _
    | 1, _, _ => exact SeqAt.EqAt.str_str _ _ _ _
  · show wpAny _ _ (truthy (.bool true)) _ _ _
    repeat walk_at "m"
    refine ite_tt ?_
    refine isTrue_and_nil ?_
    refine ite_tt ?_
    repeat walk_at "m"
    refine nmG C F (g_unknown w) ?_
    exact Ret.mk F (News.sub N (fun p hp => .tail _ (.tail _ hp))) (fun F N => hret _ _ _ F N rfl)
end Mine
namespace Mine
inductive VsAre : List Value → List (Option Int) → Prop where
  | nil : VsAre [] []
  | cons {v : Value} {x : Option Int} {vs : List Value} {xs : List (Option Int)} : VIs v x → VsAre vs xs → VsAre (v :: vs) (x :: xs)
theorem VsAre.length {vs : List Value} {xs : List (Option Int)} (h : VsAre vs xs) : vs.length = xs.length := by
  induction h with
  | nil => rfl
  | cons _ _ ih => simp only [List.length_cons, ih]
theorem VsAre.get {vs : List Value} {xs : List (Option Int)} (h : VsAre vs xs) : ∀ {i : Nat}, i < xs.length → ∃ v, vs[i]? = some v ∧ VIs v (xs.getD i none) := by
  induction h with
  | nil => intro i hi; exact absurd hi (Nat.not_lt_zero _)
  | cons h _ ih =>
    intro i hi
    cases i with
    | zero => exact ⟨_, rfl, h⟩
    | succ i => exact ih (by simpa using hi)
def T.rd : T → List (Option Int) → Option (Int × Int) → Option Int
  | .num n, _, _ => some n
  | .nm k, bs, out => if k < bs.length then bs.getD k.toNat none else out.map fun z => if k - bs.length = 0 then z.1 else z.2
  | .bin true _ l r, bs, out => r.rd (l.rd bs out :: bs) out
  | .bin false p l r, bs, out => match l.rd bs out, r.rd bs out with
    | some a, some b => some (3 * a - b + p)
    | _, _ => none
def T.names : Nat → T → Prop
  | _, .num _ => True
  | m, .nm k => k < m + 2
  | m, .bin true _ l r => l.names m ∧ r.names (m + 1)
  | m, .bin false _ l r => l.names m ∧ r.names m
inductive OIn (news : Led) : Value → Option (Int × Int) → Prop where
  | none : OIn news .none none
  | some {c : Addr} {x y : Int} {t1 t2 : Tok} {k : Nat} : (c, lst [.int x t1, .int y t2] k) ∈ news → OIn news (.ref c) (some (x, y))
theorem OIn.mono {news news' : Led} {v : Value} {z : Option (Int × Int)} (h : OIn news v z) (hs : ∀ p ∈ news, p ∈ news') : OIn news' v z := by
  cases h with
  | none => exact .none
  | some h => exact .some (hs _ h)
theorem up128_len (xs : List Int) : (up128 xs).length = xs.length := by cases xs <;> rfl
def RPost (I l : Addr) (i : Nat) (x : Option Int) (rest : Led) (news' : Led) (r : Value) : Prop := VIs r x ∧ ∃ o', news' = (I, o') :: rest ∧ ItO l i o'
def ReadS (w : World) (out : Option (Int × Int)) (t : T) : Prop :=
  ∀ (bs : List (Option Int)) (I : Addr) (o : Obj) (l : Addr) (i : Nat) (vs : List Value) (k : Nat) (rest : Led) (xs ys : List Int) (b : Addr) (bvs : List Value) (kb : Nat) (ov : Value),
    ItO l i o → (∀ p ∈ rest, p.1 ≠ I) → (l, lst vs k) ∈ rest → IntsAre vs xs → xs.drop i = t.tape ++ ys → (b, lst bvs kb) ∈ rest → VsAre bvs bs → OIn rest ov out → t.ok → t.names bs.length → bs.length + t.depth ≤ 1000 →
    Says w 105 (t.depth + 3) [.ref I, .ref b, ov] ((I, o) :: rest) (RPost I l (i + t.tape.length) (t.rd bs out) rest)
theorem drop_more {xs us ys : List Int} {i : Nat} (h : xs.drop i = us ++ ys) : xs.drop (i + us.length) = ys := by
  rw [← List.drop_drop, h, List.drop_left]
set_option maxHeartbeats 4000000 in
theorem read_ok (w : World) (out : Option (Int × Int)) : ∀ t : T, ReadS w out t := by
  intro t
  induction t with
  | num n =>
    intro bs I o l i vs k rest xs ys b bvs kb ov ho ne hm hI hx hb hB hO hok hnm hlen A env L h₀ hp m s tk Q E C F N hd hu hret
    simp only [T.depth] at hd hu
    simp only [T.tape] at hx hret
    have hn0 : 0 ≤ 4 * n + 0 := by have := hok.1; omega
    have hn1 : 4 * n + 0 < 20000 := by have := hok.2; omega
    refine enter [("outer", ov), ("bound", .ref b), ("source", .ref I)] C F N (by exact rfl) (by kernel_rfl) (by omega) (BindsTo.of_eq (by rfl)) (locs (by rfl)) (by decide) (by rfl) (by rfl) (by rfl) ?_
    clear C F N
    intro g L' h₁ tk C F N lt
    repeat walk_at "m"
    refine nmG C F (g_varint w) ?_
    refine callWith_K C.inK (kp_varint w) ?_
    repeat walk_at "m"
    refine ⟨C.inK.keeps F.keep, ?_⟩
    refine varint_ok w hn0 hn1 I o l i vs k rest xs _ ho ne hm hI hx _ _ _ _ _ _ _ _ _ _ C F N (by show A.depth + 1 + _ < recursionLimit; omega) (by rw [Around.deeper_units]; omega) ?_
    clear F N
    rintro _ _ h₂ tk2 F N ⟨o1, t1, rfl, ho1, rfl⟩
    refine stL C F N ?_
    clear F N
    intro h₃ tk3 F N
    repeat walk_at "m"
    rw [show ((4 * n + 0) % 4 == 0) = true by simp only [beq_iff_eq]; omega]
    refine ite_tt ?_
    repeat walk_at "m"
    rw [show (4 * n + 0) / 4 = n by omega]
    refine Ret.mk F N (fun F N => hret _ _ _ _ F N ⟨.int _ _, o1, rfl, ?_⟩)
    rw [up128_len]; exact ho1
  | nm n =>
    intro bs I o l i vs k rest xs ys b bvs kb ov ho ne hm hI hx hb hB hO hok hnm hlen A env L h₀ hp m s tk Q E C F N hd hu hret
    simp only [T.depth] at hd hu hlen
    simp only [T.tape] at hx hret
    have hn0 : 0 ≤ 4 * n + 1 := by have := hok.1; omega
    have hn1 : 4 * n + 1 < 20000 := by have := hok.2; omega
    have hz := sizeLine_eq
    refine enter [("outer", ov), ("bound", .ref b), ("source", .ref I)] C F N (by exact rfl) (by kernel_rfl) (by omega) (BindsTo.of_eq (by rfl)) (locs (by rfl)) (by decide) (by rfl) (by rfl) (by rfl) ?_
    clear C F N
    intro g L' h₁ tk C F N lt
    repeat walk_at "m"
    refine nmG C F (g_varint w) ?_
    refine callWith_K C.inK (kp_varint w) ?_
    repeat walk_at "m"
    refine ⟨C.inK.keeps F.keep, ?_⟩
    refine varint_ok w hn0 hn1 I o l i vs k rest xs _ ho ne hm hI hx _ _ _ _ _ _ _ _ _ _ C F N (by show A.depth + 1 + _ < recursionLimit; omega) (by rw [Around.deeper_units]; omega) ?_
    clear F N
    rintro _ _ h₂ tk2 F N ⟨o1, t1, rfl, ho1, rfl⟩
    refine stL C F N ?_
    clear F N
    intro h₃ tk3 F N
    repeat walk_at "m"
    rw [show ((4 * n + 1) % 4 == 0) = false by simp only [beq_eq_false_iff_ne]; omega]
    refine ite_ff ?_
    repeat walk_at "m"
    rw [show ((4 * n + 1) % 4 == 1) = true by simp only [beq_iff_eq]; omega]
    refine ite_tt ?_
    repeat walk_at "m"
    refine nmB C F (g_len w) b_len ?_
    refine PyProof.Rows.callWith_builtin1 ?_
    repeat walk_at "m"
    refine lenL N (.tail _ hb) (by rw [hB.length]; omega) ?_
    intro _ _
    repeat walk_at "m"
    rw [hB.length, show (4 * n + 1) / 4 = n by omega]
    have ho2 : ItO l (i + (up128 (raw (4 * n + 1))).length) o1 := by rw [up128_len]; exact ho1
    by_cases hlt : n < (bs.length : Int)
    · rw [decide_eq_true hlt]
      refine ite_tt ?_
      repeat walk_at "m"
      refine nmG C F (g_name w) ?_
      refine callWith_K C.inK (kp_name w) ?_
      repeat walk_at "m"
      refine ⟨C.inK.keeps F.keep, ?_⟩
      rw [show (4 * n + 1) / 4 = n by omega]
      obtain ⟨v', hv', hV'⟩ := hB.get (i := n.toNat) (by have := hok.1; omega)
      refine name_known (.tail _ hb) hok.1 (by have := hok.2; omega) hv' hV' _ _ _ _ _ _ _ _ _ _ C F N (by show A.depth + 1 + _ < recursionLimit; omega) (by rw [Around.deeper_units]; omega) ?_
      clear F N
      intro r h₄ tk4 F N hV
      refine Ret.mk F N (fun F N => hret _ _ _ _ F N ⟨?_, o1, rfl, ho2⟩)
      rw [T.rd, if_pos hlt]; exact hV
    · rw [decide_eq_false hlt]
      refine ite_ff ?_
      repeat walk_at "m"
      refine nmG C F (g_name w) ?_
      refine callWith_K C.inK (kp_name w) ?_
      repeat walk_at "m"
      refine nmB C F (g_len w) b_len ?_
      refine PyProof.Rows.callWith_builtin1 ?_
      repeat walk_at "m"
      refine lenL N (.tail _ hb) (by rw [hB.length]; omega) ?_
      intro _ _
      repeat walk_at "m"
      rw [hB.length, show (4 * n + 1) / 4 = n by omega]
      have hnm' : n < (bs.length : Int) + 2 := hnm
      cases hO with
      | none =>
        refine isnot_none_none ?_
        repeat walk_at "m"
        refine ⟨C.inK.keeps F.keep, ?_⟩
        refine name_none _ _ _ _ _ _ _ _ _ _ C F N (by show A.depth + 1 + _ < recursionLimit; omega) (by rw [Around.deeper_units]; omega) ?_
        clear F N
        rintro _ h₄ tk4 F N rfl
        refine Ret.mk F N (fun F N => hret _ _ _ _ F N ⟨?_, o1, rfl, ho2⟩)
        rw [T.rd, if_neg hlt]; exact .unk
      | @some c x y t3 t4 kc hc =>
        refine isnot_none_ne (by intro h; cases h) ?_
        repeat walk_at "m"
        refine ⟨C.inK.keeps F.keep, ?_⟩
        have key : ∃ v, [Value.int x t3, Value.int y t4][(n - (bs.length : Int)).toNat]? = some v ∧ VIs v (some (if n - (bs.length : Int) = 0 then x else y)) := by
          by_cases h00 : n - (bs.length : Int) = 0
          · rw [h00, if_pos rfl]; exact ⟨_, rfl, .int _ _⟩
          · rw [if_neg h00, show n - (bs.length : Int) = 1 by omega]; exact ⟨_, rfl, .int _ _⟩
        obtain ⟨v', hv', hV'⟩ := key
        refine name_known (.tail _ hc) (by omega) (by have := hok.2; omega) hv' hV' _ _ _ _ _ _ _ _ _ _ C F N (by show A.depth + 1 + _ < recursionLimit; omega) (by rw [Around.deeper_units]; omega) ?_
        clear F N
        intro r h₄ tk4 F N hV
        refine Ret.mk F N (fun F N => hret _ _ _ _ F N ⟨?_, o1, rfl, ho2⟩)
        rw [T.rd, if_neg hlt]; exact hV
  | bin c p lt_ rt_ ihl ihr =>
    intro bs I o l i vs k rest xs ys b bvs kb ov ho ne hm hI hx hb hB hO hok hnm hlen A env L h₀ hp m s tk Q E C F N hd hu hret
    simp only [T.depth] at hd hu hlen
    simp only [T.tape, List.append_assoc] at hx hret
    have hn0 : 0 ≤ 4 * p + tag c := by have := hok.1; cases c <;> simp only [tag] <;> omega
    have hn1 : 4 * p + tag c < 20000 := by have := hok.1; cases c <;> simp only [tag] <;> omega
    have hz := sizeLine_eq
    refine enter [("outer", ov), ("bound", .ref b), ("source", .ref I)] C F N (by exact rfl) (by kernel_rfl) (by omega) (BindsTo.of_eq (by rfl)) (locs (by rfl)) (by decide) (by rfl) (by rfl) (by rfl) ?_
    clear C F N
    intro g L' h₁ tk C F N lt
    repeat walk_at "m"
    refine nmG C F (g_varint w) ?_
    refine callWith_K C.inK (kp_varint w) ?_
    repeat walk_at "m"
    refine ⟨C.inK.keeps F.keep, ?_⟩
    refine varint_ok w hn0 hn1 I o l i vs k rest xs _ ho ne hm hI hx _ _ _ _ _ _ _ _ _ _ C F N (by show A.depth + 1 + _ < recursionLimit; omega) (by rw [Around.deeper_units]; omega) ?_
    clear F N
    rintro _ _ h₂ tk2 F N ⟨o1, t1, rfl, ho1, rfl⟩
    refine stL C F N ?_
    clear F N
    intro h₃ tk3 F N
    repeat walk_at "m"
    rw [show ((4 * p + tag c) % 4 == 0) = false by simp only [beq_eq_false_iff_ne]; cases c <;> simp only [tag] <;> omega]
    refine ite_ff ?_
    repeat walk_at "m"
    rw [show ((4 * p + tag c) % 4 == 1) = false by simp only [beq_eq_false_iff_ne]; cases c <;> simp only [tag] <;> omega]
    refine ite_ff ?_
    repeat walk_at "m"
    refine nmG C F (g_read w) ?_
    refine callWith_K C.inK (kp_read w) ?_
    repeat walk_at "m"
    refine ⟨C.inK.keeps F.keep, ?_⟩
    have hx1 := drop_more hx
    rw [up128_len] at hx1
    refine ihl bs I o1 l _ vs k rest xs _ b bvs kb ov ho1 ne hm hI hx1 hb hB hO hok.2.1 (by cases c <;> exact hnm.1) (by omega) _ _ _ _ _ _ _ _ _ _ C F N (by show A.depth + 1 + _ < recursionLimit; omega) (by rw [Around.deeper_units]; omega) ?_
    clear F N
    rintro v1 _ h₄ tk4 F N ⟨hV1, o2, rfl, ho2⟩
    have hx2 := drop_more hx1
    refine stL C F N ?_
    clear F N
    intro h₅ tk5 F N
    repeat walk_at "m"
    have hlast : ∀ o3, ItO l (i + (raw (4 * p + tag c)).length + lt_.tape.length + rt_.tape.length) o3 → ItO l (i + (up128 (raw (4 * p + tag c)) ++ (lt_.tape ++ rt_.tape)).length) o3 := by
      intro o3 h
      rw [List.length_append, List.length_append, up128_len, ← Nat.add_assoc, ← Nat.add_assoc]; exact h
    cases c with
    | true =>
      rw [show ((4 * p + tag true) % 4 == 3) = true by simp only [beq_iff_eq, tag]; omega]
      refine ite_tt ?_
      repeat walk_at "m"
      refine nmG C F (g_read w) ?_
      refine callWith_K C.inK (kp_read w) ?_
      repeat walk_at "m"
      refine newL F N ?_
      clear F N
      intro e h₆ F N lt6
      repeat walk_at "m"
      refine addL F N (.head _) (.tail _ (.tail _ hb)) ?_ (by rw [hB.length]; simp only [List.length_cons, List.length_nil]; omega)
      clear F N
      intro d h₇ F N lt7
      repeat walk_at "m"
      refine ⟨C.inK.keeps F.keep, ?_⟩
      have ne2 : ∀ q ∈ (d, lst ([v1] ++ bvs) 0) :: rest, q.1 ≠ I := by
        intro q hq
        rcases List.mem_cons.mp hq with rfl | hq
        · have := lt7 _ (.tail _ (.head _)); exact Nat.ne_of_gt this
        · exact ne q hq
      refine ihr (lt_.rd bs out :: bs) I o2 l _ vs k _ xs ys d _ 0 ov ho2 ne2 (.tail _ hm) hI hx2 (.head _) (.cons hV1 hB) (hO.mono fun q hq => .tail _ hq) hok.2.2 hnm.2 (by simp only [List.length_cons]; omega) _ _ _ _ _ _ _ _ _ _ C F (News.swap (News.drop2 N)) (by show A.depth + 1 + _ < recursionLimit; omega) (by rw [Around.deeper_units]; omega) ?_
      clear F N
      rintro v2 _ h₈ tk8 F N ⟨hV2, o3, rfl, ho3⟩
      exact Ret.mk F (News.drop2 N) (fun F N => hret _ _ _ _ F N ⟨hV2, o3, rfl, hlast o3 ho3⟩)
    | false =>
      rw [show ((4 * p + tag false) % 4 == 3) = false by simp only [beq_eq_false_iff_ne, tag]; omega]
      refine ite_ff ?_
      repeat walk_at "m"
      refine nmG C F (g_read w) ?_
      refine callWith_K C.inK (kp_read w) ?_
      repeat walk_at "m"
      refine ⟨C.inK.keeps F.keep, ?_⟩
      refine ihr bs I o2 l _ vs k rest xs ys b bvs kb ov ho2 ne hm hI hx2 hb hB hO hok.2.2 hnm.2 (by omega) _ _ _ _ _ _ _ _ _ _ C F N (by show A.depth + 1 + _ < recursionLimit; omega) (by rw [Around.deeper_units]; omega) ?_
      clear F N
      rintro v2 _ h₆ tk6 F N ⟨hV2, o3, rfl, ho3⟩
      refine stL C F N ?_
      clear F N
      intro h₇ tk7 F N
      repeat walk_at "m"
      have fin : ∀ (h9 : Heap) (tk9 : Nat) (v : Value), VIs v ((T.bin false p lt_ rt_).rd bs out) → Fr h₀ L h9 m → News h₀ L h9 ((I, o3) :: rest) → Q v (St s h9 tk9) := fun h9 tk9 v hV F N => hret _ _ _ _ F N ⟨hV, o3, rfl, hlast o3 ho3⟩
      rw [T.rd] at fin
      generalize lt_.rd bs out = x1 at hV1 fin
      generalize rt_.rd bs out = x2 at hV2 fin
      cases hV1 with
      | int a ta =>
        cases hV2 with
        | int b2 tb =>
          refine isTrue_or ?_
          repeat walk_at "m"
          refine EqMixed.eq_int_str ?_
          repeat walk_at "m"
          refine ite_ff ?_
          refine isTrue_or ?_
          repeat walk_at "m"
          refine EqMixed.eq_int_str ?_
          repeat walk_at "m"
          refine ite_ff ?_
          refine isTrue_or_nil ?_
          refine ite_ff ?_
          repeat walk_at "m"
          refine isTrue_or ?_
          repeat walk_at "m"
          refine nmG C F (g_unknown w) ?_
          refine wpAny_is_other (by rfl) (by intro h; cases h) ?_
          repeat walk_at "m"
          refine ite_ff ?_
          refine isTrue_or ?_
          repeat walk_at "m"
          refine nmG C F (g_unknown w) ?_
          refine wpAny_is_other (by rfl) (by intro h; cases h) ?_
          repeat walk_at "m"
          refine ite_ff ?_
          refine isTrue_or_nil ?_
          refine ite_ff ?_
          repeat walk_at "m"
          rw [show (4 * p + tag false) / 4 = p by simp only [tag]; omega]
          exact Ret.mk F N (fun F N => fin _ _ _ (.int _ _) F N)
        | unk =>
          refine isTrue_or ?_
          repeat walk_at "m"
          refine EqMixed.eq_int_str ?_
          repeat walk_at "m"
          refine ite_ff ?_
          refine isTrue_or ?_
          repeat walk_at "m"
          refine eqUS (C.inK.keeps F.keep) (by show A.units + 3 < _; omega) ?_
          repeat walk_at "m"
          refine ite_ff ?_
          refine isTrue_or_nil ?_
          refine ite_ff ?_
          repeat walk_at "m"
          refine isTrue_or ?_
          repeat walk_at "m"
          refine nmG C F (g_unknown w) ?_
          refine wpAny_is_other (by rfl) (by intro h; cases h) ?_
          repeat walk_at "m"
          refine ite_ff ?_
          refine isTrue_or ?_
          repeat walk_at "m"
          refine nmG C F (g_unknown w) ?_
          refine wpAny_is_ref_self ?_
          repeat walk_at "m"
          refine ite_tt ?_
          refine ite_tt ?_
          repeat walk_at "m"
          refine nmG C F (g_unknown w) ?_
          exact Ret.mk F N (fun F N => fin _ _ _ .unk F N)
      | unk =>
        cases hV2 with
        | int b2 tb =>
          refine isTrue_or ?_
          repeat walk_at "m"
          refine eqUS (C.inK.keeps F.keep) (by show A.units + 3 < _; omega) ?_
          repeat walk_at "m"
          refine ite_ff ?_
          refine isTrue_or ?_
          repeat walk_at "m"
          refine EqMixed.eq_int_str ?_
          repeat walk_at "m"
          refine ite_ff ?_
          refine isTrue_or_nil ?_
          refine ite_ff ?_
          repeat walk_at "m"
          refine isTrue_or ?_
          repeat walk_at "m"
          refine nmG C F (g_unknown w) ?_
          refine wpAny_is_ref_self ?_
          repeat walk_at "m"
          refine ite_tt ?_
          refine ite_tt ?_
          repeat walk_at "m"
          refine nmG C F (g_unknown w) ?_
          exact Ret.mk F N (fun F N => fin _ _ _ .unk F N)
        | unk =>
          refine isTrue_or ?_
          repeat walk_at "m"
          refine eqUS (C.inK.keeps F.keep) (by show A.units + 3 < _; omega) ?_
          repeat walk_at "m"
          refine ite_ff ?_
          refine isTrue_or ?_
          repeat walk_at "m"
          refine eqUS (C.inK.keeps F.keep) (by show A.units + 3 < _; omega) ?_
          repeat walk_at "m"
          refine ite_ff ?_
          refine isTrue_or_nil ?_
          refine ite_ff ?_
          repeat walk_at "m"
          refine isTrue_or ?_
          repeat walk_at "m"
          refine nmG C F (g_unknown w) ?_
          refine wpAny_is_ref_self ?_
          repeat walk_at "m"
          refine ite_tt ?_
          refine ite_tt ?_
          repeat walk_at "m"
          refine nmG C F (g_unknown w) ?_
          exact Ret.mk F N (fun F N => fin _ _ _ .unk F N)
end Mine
namespace Mine
def ToldPost (x : Option Int) (news : Led) (news' : Led) (r : Value) : Prop := ∃ D e v c, news' = (D, lst [v, .ref e] 0) :: (e, lst [] c) :: news ∧ r = .ref D ∧ VIs v x ∧ (∀ p ∈ news, p.1 < e) ∧ e < D
set_option maxHeartbeats 2000000 in
theorem told_ok (w : World) (out : Option (Int × Int)) (t : T) (news : Led) (l : Addr) (vs : List Value) (k : Nat) (ov : Value) (hm : (l, lst vs k) ∈ news) (hI : IntsAre vs t.tape) (hO : OIn news ov out) (hok : t.ok) (hnm : t.names 0) (hlen : t.depth ≤ 1000) :
    Says w 112 (t.depth + 4) [.ref l, ov] news (ToldPost (t.rd [] out) news) := by
  intro A env L h₀ hp m s tk Q E C F N hd hu hret
  refine enter [("outer", ov), ("tape", .ref l)] C F N (by exact rfl) (by kernel_rfl) (by omega) (BindsTo.of_eq (by rfl)) (locs (by rfl)) (by decide) (by rfl) (by rfl) (by rfl) ?_
  clear C F N
  intro g L' h₁ tk C F N lt
  repeat walk_at "m"
  refine nmB C F (g_iter w) b_iter ?_
  refine PyProof.Rows.callWith_builtin1 ?_
  repeat walk_at "m"
  refine iterB F N hm ?_
  clear F N
  intro I o h₂ F N ho lt2
  refine stL C F N ?_
  clear F N
  intro h₃ tk3 F N
  repeat walk_at "m"
  refine nmG C F (g_read w) ?_
  refine callWith_K C.inK (kp_read w) ?_
  repeat walk_at "m"
  refine newL F N ?_
  clear F N
  intro b h₄ F N lt4
  repeat walk_at "m"
  refine ⟨C.inK.keeps F.keep, ?_⟩
  have ne : ∀ p ∈ (b, lst [] 0) :: news, p.1 ≠ I := by
    intro p hp
    rcases List.mem_cons.mp hp with rfl | hp
    · have := lt4 _ (.head _); exact Nat.ne_of_gt this
    · exact Nat.ne_of_lt (lt2 p hp)
  refine read_ok w out t [] I o l 0 vs k ((b, lst [] 0) :: news) t.tape [] b [] 0 ov ho ne (.tail _ hm) hI (by rw [List.drop_zero, List.append_nil]) (.head _) .nil (hO.mono fun p hp => .tail _ hp) hok hnm (by simpa using hlen) _ _ _ _ _ _ _ _ _ _ C F (News.swap N) (by show A.depth + 1 + _ < recursionLimit; omega) (by rw [Around.deeper_units]; omega) ?_
  clear F N
  rintro v _ h₅ tk5 F N ⟨hV, o2, rfl, ho2⟩
  refine stL C F N ?_
  clear F N
  intro h₆ tk6 F N
  repeat walk_at "m"
  refine nmB C F (g_list w) b_list ?_
  refine Pv.callWith_type1 ?_
  repeat walk_at "m"
  refine listEnd C.hnd F N ho2 ne (.tail _ hm) (List.getElem?_eq_none (by rw [hI.length]; omega)) ?_
  clear F N
  intro e c h₇ F N lt7
  repeat walk_at "m"
  refine newL F N ?_
  clear F N
  intro D h₈ F N lt8
  refine Ret.mk F (News.sub N (news' := (D, lst [v, .ref e] 0) :: (e, lst [] c) :: news) (fun p hp => ?_)) (fun F N => hret _ _ _ _ F N ⟨D, e, v, c, rfl, rfl, hV, fun p hp => lt7 p (.tail _ hp), lt8 _ (.head _)⟩)
  simp only [List.mem_cons] at hp ⊢
  rcases hp with rfl | rfl | hp <;> simp only [*, true_or, or_true]
end Mine
namespace Mine
def T.bins : T → Nat
  | .num _ => 0
  | .nm _ => 0
  | .bin _ _ l r => l.bins + r.bins + 1
def T.cnt : T → Nat
  | .num _ => 1
  | .nm _ => 1
  | .bin _ _ l r => l.cnt + r.cnt + 1
theorem mk_exists : ∀ (n : Nat) (ns : List Int) (b : Int), ns.length ≤ n → ∃ t ns', Mk ns b t ns' := by
  intro n
  induction n with
  | zero =>
    intro ns b h
    cases ns with
    | nil => exact ⟨_, _, .nil b⟩
    | cons x r => simp at h
  | succ n ih =>
    intro ns b h
    cases ns with
    | nil => exact ⟨_, _, .nil b⟩
    | cons x r =>
      have hr : r.length ≤ n := by simpa using h
      have hx : x % 4 = 0 ∨ x % 4 = 1 ∨ x % 4 = tag false ∨ x % 4 = tag true := by simp only [tag]; omega
      rcases hx with h0 | h1 | h2 | h3
      · exact ⟨_, _, .num h0⟩
      · exact ⟨_, _, .nm h1⟩
      · obtain ⟨l, ns1, hl⟩ := ih r b hr
        obtain ⟨q, ns2, hq⟩ := ih ns1 (b + tag false - 2) (Nat.le_trans hl.len hr)
        exact ⟨_, _, .bin h2 hl hq⟩
      · obtain ⟨l, ns1, hl⟩ := ih r b hr
        obtain ⟨q, ns2, hq⟩ := ih ns1 (b + tag true - 2) (Nat.le_trans hl.len hr)
        exact ⟨_, _, .bin h3 hl hq⟩
theorem mk_facts {ns ns' : List Int} {b : Int} {t : T} (h : Mk ns b t ns') : ∀ m : Nat, b = (m : Int) → t.ok ∧ t.names m ∧ t.bins + ns'.length ≤ ns.length ∧ t.depth ≤ ns.length + 1 := by
  induction h with
  | nil b => intro m hb; exact ⟨⟨by decide, by decide⟩, trivial, Nat.le_refl _, Nat.le_refl _⟩
  | @num n b ns h =>
    intro m hb
    refine ⟨⟨by omega, by omega⟩, trivial, by simp [T.bins], by simp [T.depth]⟩
  | @nm n b ns h =>
    intro m hb
    subst hb
    have h1 : 0 ≤ n / 4 % 5000 := by omega
    have h2 : n / 4 % 5000 < 5000 := by omega
    have h3 := Int.emod_nonneg (n / 4 % 5000) (show ((m : Int) + 2) ≠ 0 by omega)
    have h4 := Int.emod_lt_of_pos (n / 4 % 5000) (show 0 < (m : Int) + 2 by omega)
    have h5 : n / 4 % 5000 % ((m : Int) + 2) ≤ n / 4 % 5000 := by
      by_cases hh : n / 4 % 5000 < (m : Int) + 2
      · rw [Int.emod_eq_of_lt h1 hh]; omega
      · omega
    exact ⟨⟨h3, by omega⟩, h4, by simp [T.bins], by simp [T.depth]⟩
  | @bin n b ns ns1 ns2 c l r h h1 h2 i1 i2 =>
    intro m hb
    subst hb
    obtain ⟨a1, a2, a3, a4⟩ := i1 m rfl
    cases c with
    | true =>
      obtain ⟨b1, b2, b3, b4⟩ := i2 (m + 1) (by simp only [tag]; omega)
      refine ⟨⟨⟨by omega, by omega⟩, a1, b1⟩, ⟨a2, b2⟩, ?_, ?_⟩
      · simp only [T.bins, List.length_cons]; omega
      · have := h1.len; simp only [T.depth, List.length_cons]; omega
    | false =>
      obtain ⟨b1, b2, b3, b4⟩ := i2 m (by simp only [tag]; omega)
      refine ⟨⟨⟨by omega, by omega⟩, a1, b1⟩, ⟨a2, b2⟩, ?_, ?_⟩
      · simp only [T.bins, List.length_cons]; omega
      · have := h1.len; simp only [T.depth, List.length_cons]; omega
/-- what substitution keeps -/
def T.flat : T → Prop
  | .num _ => True
  | .nm k => k = 0 ∨ k = 1
  | .bin c _ l r => c = false ∧ l.flat ∧ r.flat
theorem getD_mem {α : Type} {d : α} : ∀ {xs : List α} {i : Nat}, i < xs.length → xs.getD i d ∈ xs
  | [], _, h => absurd h (Nat.not_lt_zero _)
  | x :: r, 0, _ => .head _
  | x :: r, i + 1, h => .tail _ (getD_mem (xs := r) (by simpa using h))
theorem putIn_facts : ∀ (t : T) (bs : List T) (M K : Nat), t.ok → t.names bs.length → 1 ≤ K → (∀ u ∈ bs, u.ok ∧ u.flat ∧ u.depth ≤ M ∧ u.cnt ≤ K) →
    (t.putIn bs).ok ∧ (t.putIn bs).flat ∧ (t.putIn bs).depth ≤ t.bins + 1 + M ∧ (t.putIn bs).cnt ≤ 3 ^ t.bins * K := by
  intro t
  induction t with
  | num n =>
    intro bs M K hok hn hK hb
    refine ⟨hok, trivial, ?_, ?_⟩
    · simp only [T.putIn, T.depth, T.bins]; omega
    · simp only [T.putIn, T.cnt, T.bins]; omega
  | nm k =>
    intro bs M K hok hn hK hb
    rw [T.putIn]
    have hn' : k < (bs.length : Int) + 2 := hn
    split
    · rename_i h
      obtain ⟨a, b, c, d⟩ := hb _ (getD_mem (d := T.num 0) (xs := bs) (i := k.toNat) (by have := hok.1; omega))
      refine ⟨a, b, by simp only [T.bins]; omega, by simp only [T.bins]; omega⟩
    · rename_i h
      refine ⟨⟨by omega, by have := hok.2; omega⟩, ?_, by simp only [T.depth, T.bins]; omega, by simp only [T.cnt, T.bins]; omega⟩
      show k - (bs.length : Int) = 0 ∨ k - (bs.length : Int) = 1
      omega
  | bin c p l r ihl ihr =>
    intro bs M K hok hn hK hb
    cases c with
    | true =>
      obtain ⟨a1, a2, a3, a4⟩ := ihl bs M K hok.2.1 hn.1 hK hb
      have hp : 1 ≤ 3 ^ l.bins := Nat.one_le_pow _ _ (by decide)
      have hK2 : 1 ≤ 3 ^ l.bins * K := Nat.mul_le_mul hp hK
      obtain ⟨b1, b2, b3, b4⟩ := ihr (l.putIn bs :: bs) (l.bins + 1 + M) (3 ^ l.bins * K) hok.2.2 (by simpa using hn.2) hK2 (by
        intro u hu
        rcases List.mem_cons.mp hu with rfl | hu
        · exact ⟨a1, a2, a3, a4⟩
        · obtain ⟨c1, c2, c3, c4⟩ := hb u hu
          refine ⟨c1, c2, by omega, Nat.le_trans c4 ?_⟩
          exact Nat.le_trans (by rw [Nat.one_mul]; exact Nat.le_refl _) (Nat.mul_le_mul_right K hp))
      refine ⟨b1, b2, ?_, ?_⟩
      · show (r.putIn (l.putIn bs :: bs)).depth ≤ l.bins + r.bins + 1 + 1 + M
        omega
      · show (r.putIn (l.putIn bs :: bs)).cnt ≤ 3 ^ (l.bins + r.bins + 1) * K
        refine Nat.le_trans b4 ?_
        rw [← Nat.mul_assoc, ← Nat.pow_add]
        refine Nat.mul_le_mul_right K (Nat.pow_le_pow_right (by decide) (by omega))
    | false =>
      obtain ⟨a1, a2, a3, a4⟩ := ihl bs M K hok.2.1 hn.1 hK hb
      obtain ⟨b1, b2, b3, b4⟩ := ihr bs M K hok.2.2 hn.2 hK hb
      refine ⟨⟨hok.1, a1, b1⟩, ⟨rfl, a2, b2⟩, ?_, ?_⟩
      · show max (l.putIn bs).depth (r.putIn bs).depth + 1 ≤ l.bins + r.bins + 1 + 1 + M
        omega
      · show (l.putIn bs).cnt + (r.putIn bs).cnt + 1 ≤ 3 ^ (l.bins + r.bins + 1) * K
        have e1 : 3 ^ l.bins * K ≤ 3 ^ (l.bins + r.bins) * K := Nat.mul_le_mul_right K (Nat.pow_le_pow_right (by decide) (by omega))
        have e2 : 3 ^ r.bins * K ≤ 3 ^ (l.bins + r.bins) * K := Nat.mul_le_mul_right K (Nat.pow_le_pow_right (by decide) (by omega))
        have e3 : 1 ≤ 3 ^ (l.bins + r.bins) * K := Nat.mul_le_mul (Nat.one_le_pow _ _ (by decide)) hK
        have e4 : 3 ^ (l.bins + r.bins + 1) * K = 3 * (3 ^ (l.bins + r.bins) * K) := by rw [Nat.pow_succ]; rw [Nat.mul_comm (3 ^ (l.bins + r.bins)) 3, Nat.mul_assoc]
        omega
theorem tape_len (t : T) : t.tape.length ≤ 3 * t.cnt := by
  induction t with
  | num n => simp only [T.tape, T.cnt, up128_len]; exact raw_len _
  | nm n => simp only [T.tape, T.cnt, up128_len]; exact raw_len _
  | bin c p l r i1 i2 =>
    have := raw_len (4 * p + tag c)
    simp only [T.tape, T.cnt, up128_len, List.length_append]; omega
theorem cnt_bins (t : T) : t.cnt = 2 * t.bins + 1 := by
  induction t with
  | num n => rfl
  | nm n => rfl
  | bin c p l r i1 i2 => simp only [T.cnt, T.bins]; omega
theorem flat_two : ∀ {t : T}, t.flat → t.two
  | .num _, _ => trivial
  | .nm _, h => h
  | .bin _ _ _ _, h => ⟨flat_two h.2.1, flat_two h.2.2⟩
theorem flat_names : ∀ {t : T}, t.flat → t.names 0
  | .num _, _ => trivial
  | .nm k, h => by have h' : k = 0 ∨ k = 1 := h; show k < ((0 : Nat) : Int) + 2; omega
  | .bin true _ _ _, h => nomatch h.1
  | .bin false _ _ _, h => ⟨flat_names h.2.1, flat_names h.2.2⟩
theorem rd_flat_some (x y : Int) : ∀ {t : T}, t.flat → t.rd [] (some (x, y)) = some (t.worth x y)
  | .num _, _ => rfl
  | .nm k, h => by
    have h' : k = 0 ∨ k = 1 := h
    rcases h' with rfl | rfl <;> rfl
  | .bin true _ _ _, h => nomatch h.1
  | .bin false p l r, h => by rw [T.rd, rd_flat_some x y h.2.1, rd_flat_some x y h.2.2]; rfl
theorem rd_flat_none (x y : Int) : ∀ {t : T}, t.flat → t.rd [] none = if t.hasName then none else some (t.worth x y)
  | .num _, _ => rfl
  | .nm k, h => by
    have h' : k = 0 ∨ k = 1 := h
    rcases h' with rfl | rfl <;> rfl
  | .bin true _ _ _, h => nomatch h.1
  | .bin false p l r, h => by
    rw [T.rd, rd_flat_none x y h.2.1, rd_flat_none x y h.2.2]
    simp only [T.hasName]
    by_cases hl : l.hasName = true <;> by_cases hr : r.hasName = true <;> simp [hl, hr, T.worth]
theorem rd_putIn (out : Option (Int × Int)) : ∀ (t : T) (bs : List T), t.ok → t.rd (bs.map fun u => u.rd [] out) out = (t.putIn bs).rd [] out := by
  intro t
  induction t with
  | num n => intro bs _; rfl
  | nm k =>
    intro bs hok
    rw [T.rd, T.putIn, List.length_map]
    by_cases h : k < (bs.length : Int)
    · rw [if_pos h, if_pos h]
      have hk : k.toNat < bs.length := by have := hok.1; omega
      simp only [List.getD_eq_getElem?_getD, List.getElem?_map, List.getElem?_eq_getElem hk, Option.map_some, Option.getD_some]
    · rw [if_neg h, if_neg h, T.rd, if_neg (by simp; omega)]
      simp
  | bin c p l r ihl ihr =>
    intro bs hok
    cases c with
    | true =>
      show r.rd (l.rd (bs.map fun u => u.rd [] out) out :: bs.map fun u => u.rd [] out) out = (r.putIn (l.putIn bs :: bs)).rd [] out
      rw [ihl bs hok.2.1, ← ihr (l.putIn bs :: bs) hok.2.2]; rfl
    | false => rw [T.rd, ihl bs hok.2.1, ihr bs hok.2.2]; rfl
end Mine
namespace Mine
theorem frBut {h₀ h h' : Heap} {L : Addr} {m : Str → Option Value} {P : Addr → Prop} (F : Fr h₀ L h m) (hk : ∀ b o, ¬ P b → h.get? b = some o → h'.get? b = some o) (hL : ¬ P L) (h0 : ∀ b, P b → h₀.get? b = none) : Fr h₀ L h' m :=
  ⟨F.ns.at' fun o e => hk L o hL e, fun b o e => hk b o (fun hm => by rw [h0 b hm] at e; cases e) (F.keep b o e), F.above⟩
theorem nwBut {h₀ h h' : Heap} {L : Addr} {news : Led} {P : Addr → Prop} (N : News h₀ L h news) (hk : ∀ b o, ¬ P b → h.get? b = some o → h'.get? b = some o) (off : ∀ p ∈ news, ¬ P p.1) : News h₀ L h' news :=
  fun p hp => ⟨hk _ _ (off p hp) (N p hp).1, (N p hp).2⟩
theorem IntsAre.snoc {ys : List Value} {zs : List Int} {n : Int} {t : Tok} (h : IntsAre ys zs) : IntsAre (ys ++ [.int n t]) (zs ++ [n]) := by
  refine PyProof.Rows.IntsAre.append h ?_
  exact .cons _ _ .nil

def EnumAt (h₀ : Heap) (L : Addr) (m : Str → Option Value) (s : Shared) (news : Led) (n : Nat) (v : Value) (s₁ : Shared) : Prop :=
  ∃ e it l vs ns k h₁ tk₁ news', v = .ref e ∧ s₁ = St s h₁ tk₁ ∧ IsEnum h₁ e it 0 .none ∧ h₁.IsListIter it l 0 ∧ Fr h₀ L h₁ m ∧ News h₀ L h₁ news' ∧ (l, lst vs k) ∈ news' ∧ (∀ p ∈ news, p ∈ news') ∧ (∀ p ∈ news', p.1 ≠ e ∧ p.1 ≠ it) ∧
    h₀.get? e = none ∧ h₀.get? it = none ∧ L ≠ e ∧ L ≠ it ∧ e ≠ it ∧ IntsAre vs ns ∧ vs.length = n ∧ n ≤ sizeLine
section
variable {w : World} {A : Around} {E : Value → Shared → Prop} {s : Shared} {hp h₀ : Heap} {tk : Nat} {L : Addr} {m : Str → Option Value} {news : Led} {env : Env}
set_option maxHeartbeats 4000000 in
theorem assign_enum {elt iter : PySem.Expr} {x x₂ y : Str} {px px₂ py tp pos spos : Pos} {kk n : Nat} {scope : Scope} {cl : List (Str × Addr)} {Q : Flow → Shared → Prop} (hh : A.handled = none) (F₁ : Fr h₀ L hp m) (N₁ : News h₀ L hp news) (hLe : env.locals = L)
    (hsw : swapsWith (.ListComp elt [⟨.Tuple [.Name x px, .Name x₂ px₂] kk tp, iter, [], 0⟩] scope pos) (some (.Name y py)) spos.line env = pure true)
    (hclos : closureFor scope env = pure cl) (hcell : ∀ z ∈ scope.names, z.2 ≠ .cell) (hkind : scope.kind = .function)
    (hnames : ∀ z ∈ scope.names, z.2 = .local → scope.names.lookup z.1 = some .local) (hx : scope.names.lookup x = some .local) (hx₂ : scope.names.lookup x₂ = some .local) (hxx : x ≠ x₂)
    (hy : env.kindOf y = some .local) (hpp : (env.scope.kind == .class || (env.scope.kind == .module && env.locals != env.globals)) = false)
    (h : wpAny (MM w) A (eval iter env) (EnumAt h₀ L m s news n) E (St s hp tk))
    (step : ∀ (i j : Int) (t u : Tok) (e it C D : Addr) (oe oit oC oD : Obj) m₂ h tk' (news' : Led) (E' : Value → Shared → Prop), (∀ p ∈ news, p ∈ news') → LCg.NsObj oC m₂ → m₂ x = some (.int i t) → m₂ x₂ = some (.int j u) → Fr h₀ L h m → News h₀ L h ((e, oe) :: (it, oit) :: (C, oC) :: (D, oD) :: news') →
      wpAny (MM w) A (eval elt (compEnvC scope cl C env)) (fun r s' => ∃ z t' h' tk'', r = .int z t' ∧ s' = St s h' tk'' ∧ Fr h₀ L h' m ∧ News h₀ L h' ((e, oe) :: (it, oit) :: (C, oC) :: (D, oD) :: news')) E' (St s h tk'))
    (fin : ∀ D ys zs h tk', Fr h₀ L h (fun z => if z = y then some (.ref D) else m z) → News h₀ L h ((D, LCg.lst ys) :: news) → (∀ p ∈ news, p.1 ≠ D) → IntsAre ys zs → ys.length = n → Q .next (St s h tk'))
    (hs : ∀ x, foldedSetIterable iter env x = pure x := by intro _; rfl) :
    wpAny (MM w) A (exec (.Assign [.Name y py] (.ListComp elt [⟨.Tuple [.Name x px, .Name x₂ px₂] kk tp, iter, [], 0⟩] scope pos) spos) env) Q E (St s hp tk) := by
  subst hLe
  rw [exec_Assign_Name_used _ _ _ _ hsw]
  refine wpAny_bind (wpAny_standAt (wpAny_bind ?_))
  show wpAny _ A (do let _ ← comprehension (.ListComp elt [⟨.Tuple [.Name x px, .Name x₂ px₂] kk tp, iter, [], 0⟩] scope pos) scope env _ (newList []) false (eval iter env) (some (assign (.Name y py) env))) _ _ _
  refine wpAny_bind (wpAny_mono (wpAny_comprehension_free (use := some (assign (.Name y py) env)) (Q := fun _ s' => Q .next s') rfl hs hclos hkind hnames
    (wpAny_mono h (fun xv s₁ h₁ => ?_) fun _ _ e => e)) (fun _ s' hq => wpAny_pure (wpAny_pure hq)) fun _ _ e => e)
  obtain ⟨e, it, l, vs, ns, kl, h₁, tk₁, news', rfl, rfl, he, hit, F, N, hml, hsub, hoff, he0, hit0, heL, hitL, hei, hI, hlen, hsz⟩ := h₁
  refine wpAny_pyIter_enum (s := St s h₁ tk₁) he ?_
  refine wpAny_newObj_type (wpAny_newFunctionEnv hcell (by intro y hy; simp at hy) (fun h₂ hns₂ hsb₂ => ?_) hkind)
  dsimp only at hns₂ hsb₂ ⊢
  generalize hH2 : h₁.push { cls := .type "list", dict := none, data := .seq ([] : List Value).toArray } = H2 at hns₂ hsb₂ ⊢
  have hC : H2.objs.size = h₁.objs.size + 1 := by rw [← hH2, Heap.size_push]
  generalize hCC : H2.objs.size = C at hns₂ hsb₂ hC ⊢
  generalize hDD : h₁.objs.size = D at hC ⊢
  have hDC : D ≠ C := by rw [hC]; exact Nat.ne_of_lt (Nat.lt_succ_self _)
  have lt₁ : ∀ b o, h₁.get? b = some o → b ≠ C ∧ b ≠ D := fun b o e => by
    have := Heap.lt_size e
    rw [hDD] at this
    exact ⟨by rw [hC]; exact Nat.ne_of_lt (Nat.lt_succ_of_lt this), Nat.ne_of_lt this⟩
  have old : ∀ b o, h₁.get? b = some o → h₂.get? b = some o := fun b o e => hsb₂.extBut b o (lt₁ b o e).1 (Heap.get?_push_of_some _ (hH2 ▸ Heap.get?_push_of_some _ e))
  have hacc : h₂.get? D = some (LCg.lst []) := hsb₂.extBut _ _ hDC (Heap.get?_push_of_some _ (by rw [← hH2, ← hDD]; exact Heap.get?_push_size _ rfl))
  have fresh₀ : ∀ a, D ≤ a → h₀.get? a = none := fun a ha => by
    cases e : h₀.get? a with
    | none => rfl
    | some o' => have := Heap.lt_size (F.keep a o' e); rw [hDD] at this; exact absurd this (Nat.not_lt.mpr ha)
  have hD0 : h₀.get? D = none := fresh₀ _ (Nat.le_refl _)
  have hC0 : h₀.get? C = none := fresh₀ _ (by rw [hC]; exact Nat.le_succ _)
  have hLlt : env.locals < D := hDD ▸ F.ns.lt
  have hDL : D ≠ env.locals := Nat.ne_of_gt hLlt
  have hCL : C ≠ env.locals := by rw [hC]; exact Nat.ne_of_gt (Nat.lt_succ_of_lt hLlt)
  have heC := (lt₁ _ _ he).1
  have heD := (lt₁ _ _ he).2
  obtain ⟨oi, hoi, hoi2⟩ := hit
  have hiC := (lt₁ _ _ hoi).1
  have hiD := (lt₁ _ _ hoi).2
  have offN : ∀ p ∈ news', p.1 ≠ e ∧ p.1 ≠ it ∧ p.1 ≠ C ∧ p.1 ≠ D := fun p hp => ⟨(hoff p hp).1, (hoff p hp).2, (lt₁ _ _ (N p hp).1).1, (lt₁ _ _ (N p hp).1).2⟩
  have ha : (compEnvC scope cl C env).kindOf x = some .local := lookup_relabel_local hx
  have hb : (compEnvC scope cl C env).kindOf x₂ = some .local := lookup_relabel_local hx₂
  have loop : ∀ s₃ : Shared, s₃ = St s h₂ tk₁ →
      codeAny (MM w) A (.compLoop (.ListComp elt [⟨.Tuple [.Name x px, .Name x₂ px₂] kk tp, iter, [], 0⟩] scope pos) 0 (.ref e) (.ref D) (compEnvC scope cl C env))
        (compPost (MM w) A E (some (assign (.Name y py) env)) (fun _ s' => Q .next s') (.ref D) C) s₃ := by
    rintro s₃ rfl
    refine kcp_loop
      (fun k s' => ∃ h' tk' i ys zs m' ol, s' = St s h' tk' ∧ i ≤ n ∧ k = n + 1 - i ∧ ys.length = i ∧ IsEnum h' e it ((i : Nat) : Int) ol ∧ h'.IsListIter it l i ∧ Fr h₀ env.locals h' m ∧ h'.Ns C m' ∧ News h₀ env.locals h' ((D, LCg.lst ys) :: news') ∧ IntsAre ys zs) ?_ (n + 1)
      ⟨h₂, tk₁, 0, [], [], _, .none, rfl, Nat.zero_le _, rfl, rfl, old _ _ he, ⟨oi, old _ _ hoi, hoi2⟩, F.keeps old, hns₂, fun p hp => ?_, .nil⟩
    · rintro k s' ⟨h', tk', i, ys, zs, m', ol, rfl, hi, rfl, hyl, he', hit', F', hn', N', hI'⟩
      have hlist := News.isList N' (.tail _ hml)
      by_cases hlt : i < n
      · have hgi : vs.toArray[i]? = some (vs[i]'(hlen ▸ hlt)) := by simp [hlen, hlt]
        obtain ⟨j, u, hju⟩ : ∃ j u, vs[i]'(hlen ▸ hlt) = .int j u := by
          obtain ⟨a, b, c, _⟩ := hI.at i (vs[i]'(hlen ▸ hlt)) (by simp [hlen, hlt])
          exact ⟨a, b, c⟩
        rw [hju] at hgi
        refine wpAny_pyNext_enum_item (s := St s h' tk') he' hit' hlist hgi hei (fun h₃ heo hit₃ htup hz₃ k₃ => ?_)
        refine wpAny_letOwnedTupleGo_enum heo fun h₄ he₄ hs₄ => ?_
        have lt' : ∀ b o, h'.get? b = some o → b ≠ h'.objs.size := fun b o e => Nat.ne_of_lt (Heap.lt_size e)
        have k₄ : ∀ b o, ¬ (b = e ∨ b = it) → h'.get? b = some o → h₄.get? b = some o := fun b o hb e => hs₄.extBut b o (fun q => hb (.inl q)) (k₃ b o (fun q => hb (.inl q)) (fun q => hb (.inr q)) e)
        have F₄ : Fr h₀ env.locals h₄ m := frBut F' k₄ (by rintro (q | q); exact heL q; exact hitL q) (by rintro b (rfl | rfl); exact he0; exact hit0)
        have N₄ : News h₀ env.locals h₄ ((D, LCg.lst ys) :: news') := nwBut N' k₄ (fun p hp => by
          rcases List.mem_cons.mp hp with rfl | hp
          · rintro (q | q); exact heD q.symm; exact hiD q.symm
          · rintro (q | q); exact (offN p hp).1 q; exact (offN p hp).2.1 q)
        have hn₄ : h₄.Ns C m' := hn'.at' fun o e => k₄ _ o (by rintro (q | q); exact heC q.symm; exact hiC q.symm) e
        have htup₄ : h₄.get? h'.objs.size = some { cls := .type "tuple", data := .seq #[.int i tk', .int j u] } := hs₄.extBut _ _ (Ne.symm (lt' _ _ he')) htup
        have hit₄ : h₄.IsListIter it l (i + 1) := hit₃.extBut hs₄.extBut (Ne.symm hei)
        refine kcp_assign hh ⟨_, htup₄, rfl, _, rfl⟩ ha hb (by simp [compEnvC, relabel, hkind]) hn₄ (fun h₅ tk₅ hn₅ k₅ => ?_)
        have F₅ : Fr h₀ env.locals h₅ m := frBut (P := fun b => b = C) F₄ (fun b o hb e => k₅ b o hb e) (Ne.symm hCL) (by rintro b rfl; exact hC0)
        have N₅ : News h₀ env.locals h₅ ((D, LCg.lst ys) :: news') := nwBut (P := fun b => b = C) N₄ (fun b o hb e => k₅ b o hb e) (fun p hp => by
          rcases List.mem_cons.mp hp with rfl | hp
          · exact hDC
          · exact (offN p hp).2.2.1)
        have he₅ : IsEnum h₅ e it ((i : Int) + 1) (.int j u) := k₅ _ _ heC he₄
        obtain ⟨oi₅, hoi₅, hoi₅2⟩ : h₅.IsListIter it l (i + 1) := by
          obtain ⟨o, e1, e2⟩ := hit₄
          exact ⟨o, k₅ _ _ hiC e1, e2⟩
        obtain ⟨oC, hoC, hoC2⟩ := LCg.ns_obj hn₅
        have NN : News h₀ env.locals h₅ ((e, { cls := .type "enumerate", dict := none, data := .fields #[.none, .bool false, .ref it, rawInt ((i : Int) + 1), .none, .int j u], slots := #[] }) :: (it, oi₅) :: (C, oC) :: (D, LCg.lst ys) :: news') := fun p hp => by
          rcases List.mem_cons.mp hp with rfl | hp
          · exact ⟨he₅, Ne.symm heL, he0⟩
          · rcases List.mem_cons.mp hp with rfl | hp
            · exact ⟨hoi₅, Ne.symm hitL, hit0⟩
            · rcases List.mem_cons.mp hp with rfl | hp
              · exact ⟨hoC, hCL, hC0⟩
              · exact N₅ p hp
        refine wpAny_mono (step i j tk' u e it C D _ oi₅ oC (LCg.lst ys) _ h₅ tk₅ news' _ hsub hoC2 (by simp [hxx]) (by simp) F₅ NN) (fun r s' h₆ => ?_) fun _ _ e => e
        obtain ⟨z, t', h₆, tk₆, rfl, rfl, F₆, N₆⟩ := h₆
        have zE := (N₆ _ (.head _)).1
        have zI := (N₆ _ (.tail _ (.head _))).1
        have zC := (N₆ _ (.tail _ (.tail _ (.head _)))).1
        have zD := (N₆ _ (.tail _ (.tail _ (.tail _ (.head _))))).1
        refine append_at (s := St s h₆ tk₆) (hsz := by show ys.toArray.size ≤ sizeLine; rw [List.size_toArray, hyl]; exact Nat.le_trans hi hsz) zD fun h₇ hs₇ hD₇ => ?_
        refine ⟨n + 1 - (i + 1), by omega, h₇, tk₆, i + 1, ys ++ [.int z t'], zs ++ [z], _, .int j u, rfl, hlt, rfl, by rw [List.length_append, List.length_singleton, hyl], hs₇.extBut _ _ heD zE, ⟨oi₅, hs₇.extBut _ _ hiD zI, hoi₅2⟩, F₆.change hs₇ hDL hD0,
          (hoC2.ns zC).sameBut hs₇ (Ne.symm hDC), fun p hp => ?_, IntsAre.snoc hI'⟩
        rcases List.mem_cons.mp hp with rfl | hp
        · exact ⟨hD₇.trans (congrArg some (LCg.lst_snoc ys _)), hDL, hD0⟩
        · have z := N₆ p (.tail _ (.tail _ (.tail _ (.tail _ hp))))
          exact ⟨hs₇.extBut _ _ (offN p hp).2.2.2 z.1, z.2⟩
      · obtain rfl : i = n := Nat.le_antisymm hi (Nat.not_lt.mp hlt)
        refine wpAny_pyNext_enum_end (s := St s h' tk') hh he' hit' hlist (by simp [hlen]) (fun h₃ hs₃ => ?_)
        have F₃ : Fr h₀ env.locals h₃ m := frBut (P := fun b => b = it) F' (fun b o hb e => hs₃ b o hb e) hitL (by rintro b rfl; exact hit0)
        have N₃ : News h₀ env.locals h₃ ((D, LCg.lst ys) :: news') := nwBut (P := fun b => b = it) N' (fun b o hb e => hs₃ b o hb e) (fun p hp => by
          rcases List.mem_cons.mp hp with rfl | hp
          · exact Ne.symm hiD
          · exact (offN p hp).2.1)
        have hn₃ : h₃.Ns C m' := hn'.at' fun o e => hs₃ _ o (Ne.symm hiC) e
        show wpAny _ A (assign (.Name y py) env (.ref D)) _ _ _
        refine wpAny_assign_Name (wpAny_storeName_local hy F₃.ns (fun h₄ hn₄ hs₄ => ?_) hpp)
        have hL₀ : h₀.get? env.locals = none := Heap.get?_none_of_le F₃.above
        have F₄ : Fr h₀ env.locals h₄ (fun z => if z = y then some (.ref D) else m z) := ⟨hn₄, fun b o e => hs₄.extBut b o (fun q => by rw [q, hL₀] at e; cases e) (F₃.keep b o e), F₃.above⟩
        refine ⟨m', hn₃.sameBut hs₄ hCL, fun h'' hs'' => fin D ys zs h'' _ (F₄.change hs'' hCL hC0) (fun p hp => ?_) (fun p hp => (offN p (hsub p hp)).2.2.2) hI' hyl⟩
        rcases List.mem_cons.mp hp with rfl | hp
        · have z := N₃ _ (.head _)
          exact ⟨hs''.extBut _ _ hDC (hs₄.extBut _ _ z.2.1 z.1), z.2⟩
        · have z := N₃ _ (.tail _ (hsub p hp))
          exact ⟨hs''.extBut _ _ (offN p (hsub p hp)).2.2.1 (hs₄.extBut _ _ z.2.1 z.1), z.2⟩
    · rcases List.mem_cons.mp hp with rfl | hp
      · exact ⟨hacc, hDL, hD0⟩
      · exact ⟨old _ _ (N p hp).1, (N p hp).2⟩
  exact codeAny_compStart_list (loop _ rfl) (wpAny_pyIter_enum (s := St s h₂ _) (old _ _ he) (loop _ rfl))
end
end Mine
namespace Mine
theorem slice_to (vs : List Value) (a : Nat) : (slicePick vs.toArray none (some (a : Int)) none).toList = vs.take a := by
  rw [slicePick_upto']
theorem off1_mem {D : Addr} : ∀ {l : Led}, LCg.Off1 D l → ∀ p ∈ l, p.1 ≠ D
  | [], _, _, h => nomatch h
  | _ :: _, x, p, h => by
    rcases List.mem_cons.mp h with rfl | h
    · exact x.1
    · exact off1_mem x.2 p h
section
variable {w : World} {A : Around} {E : Value → Shared → Prop} {s : Shared} {hp h₀ : Heap} {tk : Nat} {L : Addr} {m : Str → Option Value} {news : Led} {env : Env}
theorem comp_ints {elt iter : PySem.Expr} {x : Str} {px pos : Pos} {n : Nat} {scope : Scope} {cl : List (Str × Addr)} {Q : Value → Shared → Prop} (hh : A.handled = none) (F₀ : Fr h₀ L hp m) (N₁ : News h₀ L hp news)
    (hclos : closureFor scope env = pure cl) (hcell : ∀ z ∈ scope.names, z.2 ≠ .cell) (hkind : scope.kind = .function)
    (hnames : ∀ z ∈ scope.names, z.2 = .local → scope.names.lookup z.1 = some .local) (hx : scope.names.lookup x = some .local)
    (h : wpAny (MM w) A (eval iter env) (fun v s₁ => ∃ ax vs ns k h₁ tk₁ news', v = .ref ax ∧ s₁ = St s h₁ tk₁ ∧ Fr h₀ L h₁ m ∧ News h₀ L h₁ news' ∧ (ax, lst vs k) ∈ news' ∧ (∀ p ∈ news, p ∈ news') ∧ IntsAre vs ns ∧ vs.length ≤ n) E (St s hp tk))
    (hn : n ≤ sizeLine)
    (step : ∀ (i : Int) (t : Tok) (C : Addr) (oC : Obj) (rest : Led) m₂ h tk' (E' : Value → Shared → Prop), LCg.NsObj oC m₂ → m₂ x = some (.int i t) → Fr h₀ L h m → News h₀ L h ((C, oC) :: rest) →
      wpAny (MM w) A (eval elt (compEnvC scope cl C env)) (fun r s' => ∃ z t' h' tk'', r = .int z t' ∧ s' = St s h' tk'' ∧ Fr h₀ L h' m ∧ News h₀ L h' ((C, oC) :: rest)) E' (St s h tk'))
    (fin : ∀ D ys zs h tk', Fr h₀ L h m → News h₀ L h ((D, LCg.lst ys) :: news) → (∀ p ∈ news, p.1 ≠ D) → IntsAre ys zs → ys.length ≤ n → Q (.ref D) (St s h tk'))
    (hs : ∀ x, foldedSetIterable iter env x = pure x := by intro _; rfl) :
    wpAny (MM w) A (eval (.ListComp elt [⟨.Name x px, iter, [], 0⟩] scope pos) env) Q E (St s hp tk) := by
  refine LCg.ListComp_U (s := St s hp tk) F₀ hclos hcell hkind hnames hx ?_ hs
  refine wpAny_mono h (fun v s₁ h₁ => ?_) fun _ _ e => e
  obtain ⟨ax, vs, ns, k, h₁, tk₁, news', rfl, rfl, F, N, hm, hsub, hI, hlen⟩ := h₁
  refine LCg.CompSrc.ledger hh F N hm (by rw [List.size_toArray]; omega) (fun g => ?_)
  have all : ∀ k i ys zs, i + k = vs.toArray.size → IntsAre ys zs → ys.length = i → LCg.CompRest PySem.Challenge.rw_pe0008_01.row.prog w A h₀ L m env elt x scope cl { St s h₁ tk₁ with heap := g } (LCg.SrcAt h₀ ax vs.toArray) (fun i v => vs.toArray[i]? = some v) (LCg.FinE h₀ L m { St s h₁ tk₁ with heap := g } Q) k i ys news' := by
    intro k
    induction k with
    | zero =>
      intro i ys zs hik hy hyl
      refine LCg.CompRest.zero ?_
      intro D h tk' F' N' off
      refine fin D ys zs h tk' F' (News.sub N' (fun p hp => ?_)) (fun p hp => off1_mem off p (hsub p hp)) hy (by rw [List.size_toArray] at hik; omega)
      rcases List.mem_cons.mp hp with rfl | hp
      · exact .head _
      · exact .tail _ (hsub p hp)
    | succ k ih =>
      intro i ys zs hik hy hyl
      refine LCg.CompRest.succ ?_
      intro v I oI C oC D m₂ h tk' E' hv hNs hx' F' N' off ne
      obtain ⟨j, t, rfl, _⟩ := hI.at i v (by simpa using hv)
      refine wpAny_mono (step j t C oC ((I, oI) :: (D, LCg.lst ys) :: news') m₂ h tk' E' hNs hx' F' (News.swap N')) (fun r s' hr => ?_) fun _ _ e => e
      obtain ⟨z, t', h', tk'', rfl, rfl, F'', N''⟩ := hr
      refine LCg.CompEnd.intro F'' (News.swap N'') news' (fun _ hq => hq) off (.inr ⟨_, hm, rfl, _, rfl⟩) ?_
      exact ih (i + 1) (ys ++ [.int z t']) (zs ++ [z]) (by omega) (IntsAre.snoc hy) (by rw [List.length_append, List.length_singleton, hyl])
  exact all _ 0 [] [] (Nat.zero_add _) .nil rfl
theorem enumL {l : Addr} {vs : List Value} {ns : List Int} {k : Nat} {news' : Led} (F : Fr h₀ L hp m) (N : News h₀ L hp news') (hm : (l, lst vs k) ∈ news') (hsub : ∀ p ∈ news, p ∈ news') (hI : IntsAre vs ns) (hz : vs.length ≤ sizeLine) :
    wpAny (MM w) A (call (.type "enumerate") [.ref l]) (EnumAt h₀ L m s news vs.length) E (St s hp tk) := by
  refine call_enumerate_list (s := St s hp tk) (News.isList N hm) (fun h' he hit hsz old => ?_)
  have lt : ∀ p ∈ news', p.1 < hp.objs.size := fun p hq => Heap.lt_size (N p hq).1
  have lL : L < hp.objs.size := F.ns.lt
  refine ⟨_, _, l, vs, ns, k, h', tk, news', rfl, rfl, he, hit, F.keeps old, N.grown old, hm, hsub, fun p hq => ⟨?_, ?_⟩, ?_, next_is_new F, ?_, ?_, ?_, hI, rfl, hz⟩
  · exact Nat.ne_of_lt (Nat.lt_succ_of_lt (lt p hq))
  · exact Nat.ne_of_lt (lt p hq)
  · exact Heap.get?_none_of_le (Nat.le_of_lt (Nat.lt_succ_of_lt (Nat.lt_of_le_of_lt F.above F.ns.lt)))
  · exact Nat.ne_of_lt (Nat.lt_succ_of_lt lL)
  · exact Nat.ne_of_lt lL
  · exact Nat.ne_of_gt (Nat.lt_succ_self _)
theorem rpow {Q : Value → Shared → Prop} {t u : Tok} (h : ∀ t' tk', Q (.int 1000000 t') (St s hp tk')) : wpAny (MM w) A (binaryOp .Pow (.int 10 t) (.int 6 u)) Q E (St s hp tk) :=
  PyProof.Rows.pow_int_small (by decide) (by decide) (by decide) (h _ _)
theorem sumL {Q : Value → Shared → Prop} {l : Addr} {vs : List Value} {ns : List Int} {k : Nat} (hh : A.handled = none) (F : Fr h₀ L hp m) (N : News h₀ L hp news) (hl : (l, lst vs k) ∈ news) (hi : IntsAre vs ns)
    (h : ∀ h' tk' t', Fr h₀ L h' m → News h₀ L h' news → Q (.int ns.sum t') (St s h' tk')) :
    wpAny (MM w) A (call (.builtin "sum") [.ref l]) Q E (St s hp tk) := sumK (s := St s hp tk) hh F N (News.isList N hl) hi h
theorem slice3L {Q : Value → Shared → Prop} {value slice : PySem.Expr} {vl vu vk : Value} {lo hi st : Option Int} {ops : List Value} {l : Addr} {vs : List Value} (F : Fr h₀ L hp m) (N : News h₀ L hp news) (hl : hp.IsList l vs.toArray) (pl : IsPart vl lo) (pu : IsPart vu hi) (pk : IsPart vk st) (h0 : st ≠ some 0) (hz : vs.length ≤ sizeLine)
    (h : ∀ D h', Fr h₀ L h' m → News h₀ L h' ((D, lst (slicePick vs.toArray lo hi st).toList 0) :: news) → (∀ p ∈ news, p.1 < D) → Q (.ref D) (St s h' tk))
    (hs : subscripted slice false (.ref l) (.ref hp.objs.size) = operate ops (getItem (.ref l) (.ref hp.objs.size))) (ht : ∀ r, letTemporaryGo value (.ref l) r = pure () := by intro _; with_unfolding_all rfl) :
    wpAny (MM w) A (subscriptTail value slice (.ref l) (.ref hp.objs.size)) Q E (St s (hp.push { cls := .type "slice", data := .fields #[vl, vu, vk] }) tk) :=
  kmk_slice3_lit (s := St s hp tk) F N hl pl pu pk h0 rfl h hs ht (by rw [List.size_toArray]; exact hz)
theorem stC {Q : Unit → Shared → Prop} {cn x : Str} {cs : Scope} {a c : Addr} {ccd v : Value} {v₀ : Option Value} {cl : List (Str × Addr)} {o : Obj} {rest : Led} (C : At w A (envX cn cs L a ccd cl) L h₀) (F : Fr h₀ L hp m) (N : News h₀ L hp ((c, o) :: rest)) (ne : ∀ p ∈ rest, p.1 ≠ c) (hc : cl.lookup x = some c) (hd : o.data = .cell v₀)
    (h : ∀ h' o', Fr h₀ L h' m → News h₀ L h' ((c, o') :: rest) → o'.data = .cell (some v) → Q () (St s h' tk)) (hx : (envX cn cs L a ccd cl).kindOf x = some .cell := by rfl) :
    wpAny (MM w) A (storeName (envX cn cs L a ccd cl) x v) Q E (St s hp tk) :=
  storeX_C (s := St s hp tk) F N hc (.head ne) hd h C.kind hx
theorem nmC {Q : Value → Shared → Prop} {cn x : Str} {cs : Scope} {a c : Addr} {ccd v : Value} {cl : List (Str × Addr)} {o : Obj} {pos : Pos} (C : At w A (envX cn cs L a ccd cl) L h₀) (N : News h₀ L hp news) (hc : cl.lookup x = some c) (hm : (c, o) ∈ news) (hd : o.data = .cell (some v)) (h : Q v (St s hp tk))
    (hx : (envX cn cs L a ccd cl).kindOf x = some .cell := by rfl) (hb : (x == ("__debug__" : Str)) = false := by decide) : wpAny (MM w) A (eval (.Name x pos) (envX cn cs L a ccd cl)) Q E (St s hp tk) :=
  nameX_C (s := St s hp tk) N hc hm hd h C.kind hx hb
/-- what is told is compared with what is due -/
theorem neTold {Q : Value → Shared → Prop} {D D2 e e2 : Addr} {v v2 : Value} {x : Option Int} {c c2 k k2 : Nat} (N : News h₀ L hp news) (hD : (D, lst [v, .ref e] k) ∈ news) (hD2 : (D2, lst [v2, .ref e2] k2) ∈ news) (he : (e, lst [] c) ∈ news) (he2 : (e2, lst [] c2) ∈ news)
    (hne : e ≠ e2) (hv : VIs v x) (hv2 : VIs v2 x) (hu : A.units + 64 < cLine) (h : Q (.bool false) (St s hp tk)) :
    wpAny (MM w) A (compareOp .NotEq (.ref D) (.ref D2)) Q E (St s hp tk) := by
  have hc : A.units < cLine := by omega
  have hc1 : A.in1.units < cLine := by show A.units + 1 < _; omega
  refine cmp_ofNotEq ?_
  refine SeqAt.RcNeAt.lists (s := St s hp tk) (e := fun _ => true) (News.isList N hD) (News.isList N hD2) rfl hc (fun j h1 h2 => ?_) _ _ _ _ h
  match j, h1 with
  | 0, _ =>
    show SeqAt.EqAt A.in1 (St s hp tk) v v2 true
    cases hv with
    | int i t =>
      cases hv2 with
      | int _ t' =>
        have := SeqAt.EqAt.int_int (A := A.in1) (s := St s hp tk) i t i t'
        rwa [beq_self_eq_true] at this
    | unk =>
      cases hv2
      exact SeqAt.EqAt.same _
  | 1, _ =>
    show SeqAt.EqAt A.in1 (St s hp tk) (.ref e) (.ref e2) true
    exact SeqAt.EqAt.of_refs hne (SeqAt.RcAt.lists (s := St s hp tk) (e := fun _ => true) (News.isList N he) (News.isList N he2) rfl hc1 (fun j h1 _ => absurd h1 (Nat.not_lt_zero _)))
end
end Mine
namespace Mine
theorem law_in {w : World} {body : List Stmt} {nm : Str} {sc : Scope} {fa a : Addr} {cd : Value} {m₁ : Str → Option Value} {Q : Flow → Shared → Prop} {E : Value → Shared → Prop} {s₁ : Shared} {h₁ : Heap} {tk₁ : Nat} {cl : List (Str × Addr)} {p : Program} {loose : List Str} {mean : ExcName → Option Value} {mg mb : Str → Option Value}
    (KX : (KW w).In s₁.heap) (TT : Top p loose mean mg mb s₁.heap) (K0 : Below callerA s₁.heap [] s₁.heap) (hk : sc.kind = .function) (hc : cellsFrom (s₁.heap.objs.size + 1) sc.names [] = cl)
    (F0 : Fr s₁.heap s₁.heap.objs.size h₁ m₁) (hm₁ : m₁ = (fun y => if y = (Str.ofString "script") then some (.ref a) else none))
    (hQ : ∀ h' m' tk', Fr s₁.heap s₁.heap.objs.size h' m' → Q (.ret (.bool true)) (St s₁ h' tk'))
    (h : ∀ (Q' : Flow → Shared → Prop) E', (∀ h' m' tk', Fr s₁.heap s₁.heap.objs.size h' m' → Q' (.ret (.bool true)) (St s₁ h' tk')) → 
      At w (callerA.deeper (envX nm sc s₁.heap.objs.size fa cd cl)) (envX nm sc s₁.heap.objs.size fa cd cl) s₁.heap.objs.size s₁.heap →
      Fr s₁.heap s₁.heap.objs.size h₁ (mp [("script", .ref a)]) → 
      wpAny (MM w) (callerA.deeper (envX nm sc s₁.heap.objs.size fa cd cl)) (execs body (envX nm sc s₁.heap.objs.size fa cd cl)) Q' E' (St s₁ h₁ tk₁)) :
    wpAny (model PySem.Challenge.rw_pe0008_01.row.prog w) (callerA.deeper (envOfC nm sc s₁.heap.objs.size fa cd)) (execs body (envOfC nm sc s₁.heap.objs.size fa cd)) Q E { s₁ with heap := h₁, toks := tk₁ } := by
  subst hc
  refine h Q E hQ ⟨⟨callerA, s₁.heap, [], K0, rfl⟩, rfl, hk, KX, ⟨p, loose, mean, mg, mb, TT⟩, rfl⟩ ?_
  have e : mp [("script", .ref a)] = m₁ := by
    rw [hm₁]
    funext y
    show List.lookup y [(("script" : Str), Value.ref a)] = _
    rw [List.lookup_cons]
    by_cases hy : y = ("script" : Str)
    · subst hy; simp
    · rw [beq_eq_false_iff_ne.mpr hy, if_neg hy]; rfl
  rw [e]
  exact F0
theorem dpc {env : Env} {n : Nat} (h : n ≤ 100) : (callerA.deeper env).depth + n < recursionLimit := by show 1 + 300 + 1 + n < 1000; omega
theorem unc {env : Env} {n : Nat} (h : n ≤ 100) : (callerA.deeper env).units + 8 * n + 100 < cLine := by show 4 + 3 + 8 * n + 100 < 9900; omega
theorem un64 {env : Env} : (callerA.deeper env).units + 64 < cLine := by show 4 + 3 + 64 < 9900; omega
theorem led_gen {h₀ h : Heap} {L : Addr} {p : Addr × Obj} {l : Led} (N : News h₀ L h (p :: l)) : ∃ l', News h₀ L h l' ∧ (∀ q ∈ l, q ∈ l') ∧ p ∈ l' := ⟨_, N, fun _ hq => .tail _ hq, .head _⟩
theorem it_gen {h₀ h : Heap} {L I : Addr} {o : Obj} {p1 p2 p3 : Addr × Obj} {l : Led} (N : News h₀ L h ((I, o) :: p1 :: p2 :: p3 :: l)) (lt : ∀ p ∈ p1 :: p2 :: p3 :: l, p.1 < I) :
    ∃ rest, News h₀ L h ((I, o) :: rest) ∧ p1 ∈ rest ∧ p2 ∈ rest ∧ p3 ∈ rest ∧ (∀ q ∈ l, q ∈ rest) ∧ (∀ p ∈ rest, p.1 ≠ I) :=
  ⟨_, N, .head _, .tail _ (.head _), .tail _ (.tail _ (.head _)), fun _ hq => .tail _ (.tail _ (.tail _ hq)), fun p hp => Nat.ne_of_lt (lt p hp)⟩
def DueAt (h₀ : Heap) (L : Addr) (m : Str → Option Value) (s : Shared) (news : Led) (X : Option Int) (v : Value) (s' : Shared) : Prop := ∃ h tk, s' = St s h tk ∧ Fr h₀ L h m ∧ News h₀ L h news ∧ VIs v X
theorem due_split {M : Model} {A : Around} {E : Value → Shared → Prop} {t : Sem Value} {Q : Value → Shared → Prop} {h₀ hp : Heap} {L : Addr} {m : Str → Option Value} {s : Shared} {news : Led} {tk : Nat} (X : Option Int) (F₁ : Fr h₀ L hp m) (N₁ : News h₀ L hp news) (h1 : wpAny M A t (DueAt h₀ L m s news X) E (St s hp tk))
    (h2 : ∀ v h tk, Fr h₀ L h m → News h₀ L h news → VIs v X → Q v (St s h tk)) : wpAny M A t Q E (St s hp tk) :=
  wpAny_mono h1 (fun v s' ⟨h, tk, e, F, N, hv⟩ => e ▸ h2 v h tk F N hv) fun _ _ e => e
theorem ivl {vs : List Value} {ns : List Int} (hI : IntsAre vs ns) (h : ¬ ((63 : Nat) : Int) < ((ns.length : Nat) : Int)) : vs.length ≤ 63 := by rw [hI.length]; omega
theorem frMp {h₀ h : Heap} {L : Addr} {y : Str} {v : Value} {l : List (Str × Value)} (F : Fr h₀ L h (fun z => if z = y then some v else mp l z)) : Fr h₀ L h (mp ((y, v) :: l)) := by
  have e : (mp ((y, v) :: l)) = (fun z => if z = y then some v else mp l z) := by
    funext z
    show List.lookup z ((y, v) :: l) = _
    rw [List.lookup_cons]
    by_cases hy : z = y
    · subst hy; simp
    · rw [beq_eq_false_iff_ne.mpr hy, if_neg hy]
  rw [e]; exact F
set_option maxHeartbeats 8000000 in
theorem law_ok : PySem.Challenge.rw_pe0008_01.Holds := Mine.hd (by
  k_go0
  dsimp only
  rename World => w
  rename Frag.In _ _ => KX
  rename Top _ _ _ _ _ _ => TT
  rename Below _ _ _ _ => K0
  rename News _ _ _ _ => N
  rename Fr _ _ _ _ => F0
  rename Heap.IsList _ _ _ => hL
  rename IntsAre _ _ => hI
  rename (_ = #[]) => hg
  rename (_ = Data.cell _) => hoc
  rename (¬ _ < _) => hcond
  refine Mine.law_in (cl := [("taken", _)]) KX TT K0 (by rfl) (by rfl) F0 (by rfl) (fun h' m' tk' F => ?_) (fun Q E hQ C F => ?_)
  · refine goodW_bool F hg (raisesW_false ?_) ?_; (· wrow_none_raised); (· wrow_post)
  clear F0
  have hvl := ivl hI hcond
  repeat walk_at "m"
  refine comp_ints (n := 63) C.hnd F N (by with_unfolding_all rfl) (by decide) (by rfl) (by decide) (by rfl) ?_ (by exact Nat.le_of_ble_eq_true rfl) ?_ ?_
  · repeat walk_at "m"
    refine kmk_slice_lit (s := St _ _ _) F N (Fr.lst F hL) .none (.int _ _) (slice_to _ 63) ?_ (by with_unfolding_all rfl) (by intro _; with_unfolding_all rfl) (by rw [List.size_toArray, sizeLine_eq]; omega)
    intro D h' F N lt
    exact ⟨D, _, _, 0, h', _, _, rfl, rfl, F, N, .head _, fun p hp => .tail _ hp, hI.take 63, by rw [List.length_take]; omega⟩
  · intro i t C' oC rest m₂ h tk' E' hNs hx F N
    repeat walk_at "m"
    refine LCgL.ld_own (s := St _ _ _) N (.head _) hNs hx ?_
    repeat walk_at "m"
    refine rpow ?_
    intro _ _
    repeat walk_at "m"
    exact ⟨_, _, _, _, rfl, rfl, F, N⟩
  clear F N
  intro D1 ys zs h2 tk2 F N off hy hyl
  refine stC C F (News.swap N) (fun p hp => by
    rcases List.mem_cons.mp hp with rfl | hp
    · exact Ne.symm (off _ (.head _))
    · exact nomatch hp) (by rfl) hoc ?_
  clear F N hoc
  intro h3 oc3 F N hoc
  repeat walk_at "m"
  refine assign_enum (n := 12) C.hnd F N rfl (by with_unfolding_all rfl) (by with_unfolding_all rfl) (by decide) (by rfl) (by decide) (by rfl) (by rfl) (by decide) (by rfl) (by rfl) ?_ ?_ ?_
  · repeat walk_at "m"
    refine nmB C F (g_enum w) b_enum ?_
    refine Pv.callWith_type1 ?_
    repeat walk_at "m"
    refine newL F N ?_
    clear F N
    intro l h4 F N lt
    repeat walk_at "m"
    exact enumL F N (.head _) (fun p hp => .tail _ hp) (by repeat' constructor) (by exact Nat.le_of_ble_eq_true rfl)
  · intro i j t u e it C' D oe oit oC oD m₂ h tk' news' E' hsub hNs hx hx2 F N
    repeat walk_at "m"
    refine LCgL.ld_own (s := St _ _ _) N (.tail _ (.tail _ (.head _))) hNs hx2 ?_
    repeat walk_at "m"
    refine cmB C F (g_sum w) b_sum ?_
    refine PyProof.Rows.callWith_builtin1 ?_
    repeat walk_at "m"
    refine lcf_cell (s := St _ _ _) N (by rfl) (.tail _ (.tail _ (.tail _ (.tail _ (hsub _ (.head _)))))) hoc ?_ (by rfl) (by rfl)
    repeat walk_at "m"
    refine LCgL.ld_own (s := St _ _ _) N (.tail _ (.tail _ (.head _))) hNs hx ?_
    repeat walk_at "m"
    refine slice3L F N (News.isList N (.tail _ (.tail _ (.tail _ (.tail _ (hsub _ (.tail _ (.head _)))))))) (.int _ _) .none (.int _ _) (by decide) (by rw [sizeLine_eq]; omega) ?_ (by with_unfolding_all rfl)
    clear F N
    intro D' h5 F N lt
    repeat walk_at "m"
    refine sumL C.hnd F N (.head _) (hy.pick _ _ _) ?_
    clear F N
    intro h6 tk6 t6 F N
    repeat walk_at "m"
    exact ⟨_, _, _, _, rfl, rfl, F, News.sub N (fun p hp => .tail _ hp)⟩
  clear F N
  intro D2 ys2 zs2 h7 tk7 F N off2 hy2 hyl2
  replace F := frMp F
  obtain ⟨tm, ns', hmk⟩ := mk_exists 12 zs2 0 (by rw [← hy2.length]; omega)
  have hzl : zs2.length = 12 := by rw [← hy2.length]; exact hyl2
  obtain ⟨ok1, nm1, bn1, dp1⟩ := mk_facts hmk 0 rfl
  have bn2 : tm.bins ≤ 12 := by omega
  have dp2 : tm.depth ≤ 13 := by omega
  obtain ⟨ok2, fl2, dp3, cn2⟩ := putIn_facts tm [] 0 1 ok1 nm1 (Nat.le_refl _) (fun u hu => nomatch hu)
  have dp4 : (tm.putIn []).depth ≤ 13 := by omega
  have cn3 : (tm.putIn []).cnt ≤ 531441 := Nat.le_trans cn2 (by
    rw [Nat.mul_one]
    exact Nat.le_trans (Nat.pow_le_pow_right (by decide) bn2) (by decide))
  have tl2 : (tm.putIn []).tape.length ≤ sizeLine := by
    have := tape_len (tm.putIn [])
    rw [sizeLine_eq]; omega
  have tl1 : tm.tape.length ≤ sizeLine := by
    have := tape_len tm
    have := cnt_bins tm
    rw [sizeLine_eq]; omega
  repeat walk_at "m"
  refine nmG C F (g_term w) ?_
  refine callWith_K C.inK (kp_term w) ?_
  repeat walk_at "m"
  refine ⟨C.inK.keeps F.keep, ?_⟩
  refine term_ok w hmk (by decide) (by omega) D2 ys2 ys2.length _ _ hy2 off2 _ _ _ _ _ _ _ _ _ _ C F N (dpc (by omega)) (unc (by omega)) ?_
  clear F N
  rintro v1 _ h8 tk8 F N ⟨ws', k', led, rfl, -, hsub, -, hT1⟩
  replace N := News.sub N (fun p hp => List.Mem.tail _ hp)
  have hcl := hsub _ (.head _)
  have htk := hsub _ (.tail _ (.head _))
  clear hsub off2
  refine stL C F N ?_
  clear F N
  intro h9 tk9 F N
  repeat walk_at "m"
  refine nmG C F (g_putin w) ?_
  refine callWith_K C.inK (kp_putin w) ?_
  repeat walk_at "m"
  refine newL F N ?_
  clear F N
  intro b h10 F N lt10
  repeat walk_at "m"
  refine ⟨C.inK.keeps F.keep, ?_⟩
  refine putin_ok w tm [] _ v1 b [] 0 (hT1.mono fun p hp => .tail _ hp) (.head _) .nil ok1 (by simp only [List.length_nil]; omega) _ _ _ _ _ _ _ _ _ _ C F N (dpc (by omega)) (unc (by omega)) ?_
  clear F N
  rintro v2 led2 h11 tk11 F N ⟨hsub2, hT2⟩
  replace hT1 := hT1.mono fun p hp => hsub2 p (.tail _ hp)
  replace hcl := hsub2 _ (.tail _ hcl)
  replace htk := hsub2 _ (.tail _ htk)
  clear hsub2 lt10
  refine stL C F N ?_
  clear F N
  intro h12 tk12 F N
  repeat walk_at "m"
  refine nmB C F (g_sum w) b_sum ?_
  refine PyProof.Rows.callWith_builtin1 ?_
  repeat walk_at "m"
  refine nmC C N (by rfl) hcl hoc ?_
  repeat walk_at "m"
  refine sumL C.hnd F N htk hy ?_
  clear F N
  intro h13 tk13 t13 F N
  repeat walk_at "m"
  refine nmB C F (g_sum w) b_sum ?_
  refine PyProof.Rows.callWith_builtin1 ?_
  repeat walk_at "m"
  refine nmC C N (by rfl) hcl hoc ?_
  repeat walk_at "m"
  refine sumL C.hnd F N htk hy ?_
  clear F N
  intro h14 tk14 t14 F N
  repeat walk_at "m"
  generalize 7 + zs.sum = x at *
  generalize 5 - zs.sum = y at *
  refine newL F N ?_
  clear F N
  intro o h15 F N lt15
  refine stL C F N ?_
  clear F N
  intro h16 tk16 F N
  obtain ⟨led3, N, hs3, hO⟩ := led_gen N
  replace hT1 := hT1.mono hs3
  replace hT2 := hT2.mono hs3
  clear hs3
  repeat walk_at "m"
  refine nmG C F (g_worth w) ?_
  refine callWith_K C.inK (kp_worth w) ?_
  repeat walk_at "m"
  refine ⟨C.inK.keeps F.keep, ?_⟩
  refine worth_ok w x y _ _ 0 o (tm.putIn []) _ v2 hT2 (flat_two fl2) hO _ _ _ _ _ _ _ _ _ _ C F N (dpc (by omega)) (unc (by omega)) ?_
  clear F N
  rintro _ h17 tk17 F N ⟨tw, rfl⟩
  refine stL C F N ?_
  clear F N
  intro h18 tk18 F N
  rename Shared => s₁
  refine wpAny_execs_cons ?_
  refine wpAny_Assign_Name ?_
  refine due_split ((tm.putIn []).rd [] none) F N ?_ ?_
  · repeat walk_at "m"
    refine isTrue_plain ?_
    repeat walk_at "m"
    refine nmG C F (g_has w) ?_
    refine callWith_K C.inK (kp_has w) ?_
    repeat walk_at "m"
    refine ⟨C.inK.keeps F.keep, ?_⟩
    refine has_ok w (tm.putIn []) _ v2 hT2 _ _ _ _ _ _ _ _ _ _ C F N (dpc (by omega)) (unc (by omega)) ?_
    clear F N
    rintro _ h tk F N rfl
    repeat walk_at "m"
    cases hh : (tm.putIn []).hasName with
    | true =>
      have e : (tm.putIn []).rd [] none = none := by rw [rd_flat_none x y fl2, hh]; rfl
      refine ite_tt ?_
      refine nmG C F (g_unknown w) ?_
      exact ⟨_, _, rfl, F, N, e ▸ .unk⟩
    | false =>
      have e : (tm.putIn []).rd [] none = some ((tm.putIn []).worth x y) := by rw [rd_flat_none x y fl2, hh]; rfl
      refine ite_ff ?_
      repeat walk_at "m"
      exact ⟨_, _, rfl, F, N, e ▸ .int _ _⟩
  clear F N
  intro dv h19 tk19 F N hdv
  refine stL C F N ?_
  clear F N
  intro h20 tk20 F N
  repeat walk_at "m"
  refine wpAny_For ?_
  repeat walk_at "m"
  refine nmG C F (g_tape w) ?_
  refine callWith_K C.inK (kp_tape w) ?_
  repeat walk_at "m"
  refine ⟨C.inK.keeps F.keep, ?_⟩
  refine tape_ok w tm _ v1 hT1 ok1 tl1 _ _ _ _ _ _ _ _ _ _ C F N (dpc (by omega)) (unc (by omega)) ?_
  clear F N
  rintro _ _ h21 tk21 F N ⟨o1, ws1, rfl, rfl, hI1, lt21⟩
  repeat walk_at "m"
  refine nmG C F (g_tape w) ?_
  refine callWith_K C.inK (kp_tape w) ?_
  repeat walk_at "m"
  refine ⟨C.inK.keeps F.keep, ?_⟩
  refine tape_ok w (tm.putIn []) _ v2 (hT2.mono fun p hp => .tail _ hp) ok2 tl2 _ _ _ _ _ _ _ _ _ _ C F N (dpc (by omega)) (unc (by omega)) ?_
  clear F N
  rintro _ _ h22 tk22 F N ⟨o2, ws2, rfl, rfl, hI2, lt22⟩
  repeat walk_at "m"
  refine newL F N ?_
  clear F N
  intro D3 h23 F N lt23
  refine iterL F N (.head _) ?_
  clear F N
  intro I oi h24 F N hit lt24
  obtain ⟨rest, N, hD3, ho2, ho1, hsr, ne⟩ := it_gen N lt24
  replace hO := hsr _ hO
  clear lt21 lt22 lt23 lt24 hsr hT1 hT2
  have e1 : tm.rd [] (some (x, y)) = some ((tm.putIn []).worth x y) := (rd_putIn (some (x, y)) tm [] ok1).trans (rd_flat_some x y fl2)
  have e2 : tm.rd [] none = (tm.putIn []).rd [] none := rd_putIn none tm [] ok1
  have e3 : (tm.putIn []).rd [] (some (x, y)) = some ((tm.putIn []).worth x y) := rd_flat_some x y fl2
  have e4 : (tm.putIn []).rd [] none = (tm.putIn []).rd [] none := rfl
  refine for_fl 2 (FL.succ ?_)
  refine nextI F N hit ne hD3 (v := .ref o1) rfl ?_
  clear F N hit
  intro oi2 h25 F N hit
  refine wpAny_assign_Name ?_
  refine stL C F N ?_
  clear F N
  intro h26 tk26 F N
  repeat walk_at "m"
  refine nmG C F (g_told w) ?_
  refine callWith_K C.inK (kp_told w) ?_
  repeat walk_at "m"
  refine ⟨C.inK.keeps F.keep, ?_⟩
  refine told_ok w (some (x, y)) tm _ o1 ws1 0 (.ref o) (.tail _ ho1) hI1 (.some (.tail _ hO)) ok1 nm1 (by omega) _ _ _ _ _ _ _ _ _ _ C F N (dpc (by omega)) (unc (by omega)) ?_
  clear F N
  rintro _ _ h27 tk27 F N ⟨Da, ea, va, ca, rfl, rfl, hva, lta, ltd⟩
  repeat walk_at "m"
  refine newL F N ?_
  clear F N
  intro eb h28 F N lt28
  repeat walk_at "m"
  refine newL F N ?_
  clear F N
  intro Db h29 F N lt29
  refine neTold N (D := Da) (e := ea) (D2 := Db) (e2 := eb) (.tail _ (.tail _ (.head _))) (.head _) (.tail _ (.tail _ (.tail _ (.head _)))) (.tail _ (.head _)) (Nat.ne_of_lt (lt28 _ (.tail _ (.head _)))) (e1 ▸ hva) (.int _ _) un64 ?_
  repeat walk_at "m"
  refine ite_ff ?_
  replace N := News.sub N (fun p hp => List.Mem.tail _ (.tail _ (.tail _ (.tail _ hp))))
  clear hva lta ltd lt28 lt29
  repeat walk_at "m"
  refine nmG C F (g_told w) ?_
  refine callWith_K C.inK (kp_told w) ?_
  repeat walk_at "m"
  refine ⟨C.inK.keeps F.keep, ?_⟩
  refine told_ok w none tm _ o1 ws1 0 .none (.tail _ ho1) hI1 .none ok1 nm1 (by omega) _ _ _ _ _ _ _ _ _ _ C F N (dpc (by omega)) (unc (by omega)) ?_
  clear F N
  rintro _ _ h27 tk27 F N ⟨Da, ea, va, ca, rfl, rfl, hva, lta, ltd⟩
  repeat walk_at "m"
  refine newL F N ?_
  clear F N
  intro eb h28 F N lt28
  repeat walk_at "m"
  refine newL F N ?_
  clear F N
  intro Db h29 F N lt29
  refine neTold N (D := Da) (e := ea) (D2 := Db) (e2 := eb) (.tail _ (.tail _ (.head _))) (.head _) (.tail _ (.tail _ (.tail _ (.head _)))) (.tail _ (.head _)) (Nat.ne_of_lt (lt28 _ (.tail _ (.head _)))) (e2 ▸ hva) hdv un64 ?_
  repeat walk_at "m"
  refine ite_ff ?_
  replace N := News.sub N (fun p hp => List.Mem.tail _ (.tail _ (.tail _ (.tail _ hp))))
  clear hva lta ltd lt28 lt29
  repeat walk_at "m"
  refine FL.succ ?_
  refine nextI F N hit ne hD3 (v := .ref o2) rfl ?_
  clear F N hit
  intro oi3 h25 F N hit
  refine wpAny_assign_Name ?_
  refine stL C F N ?_
  clear F N
  intro h26 tk26 F N
  repeat walk_at "m"
  refine nmG C F (g_told w) ?_
  refine callWith_K C.inK (kp_told w) ?_
  repeat walk_at "m"
  refine ⟨C.inK.keeps F.keep, ?_⟩
  refine told_ok w (some (x, y)) (tm.putIn []) _ o2 ws2 0 (.ref o) (.tail _ ho2) hI2 (.some (.tail _ hO)) ok2 (flat_names fl2) (by omega) _ _ _ _ _ _ _ _ _ _ C F N (dpc (by omega)) (unc (by omega)) ?_
  clear F N
  rintro _ _ h27 tk27 F N ⟨Da, ea, va, ca, rfl, rfl, hva, lta, ltd⟩
  repeat walk_at "m"
  refine newL F N ?_
  clear F N
  intro eb h28 F N lt28
  repeat walk_at "m"
  refine newL F N ?_
  clear F N
  intro Db h29 F N lt29
  refine neTold N (D := Da) (e := ea) (D2 := Db) (e2 := eb) (.tail _ (.tail _ (.head _))) (.head _) (.tail _ (.tail _ (.tail _ (.head _)))) (.tail _ (.head _)) (Nat.ne_of_lt (lt28 _ (.tail _ (.head _)))) (e3 ▸ hva) (.int _ _) un64 ?_
  repeat walk_at "m"
  refine ite_ff ?_
  replace N := News.sub N (fun p hp => List.Mem.tail _ (.tail _ (.tail _ (.tail _ hp))))
  clear hva lta ltd lt28 lt29
  repeat walk_at "m"
  refine nmG C F (g_told w) ?_
  refine callWith_K C.inK (kp_told w) ?_
  repeat walk_at "m"
  refine ⟨C.inK.keeps F.keep, ?_⟩
  refine told_ok w none (tm.putIn []) _ o2 ws2 0 .none (.tail _ ho2) hI2 .none ok2 (flat_names fl2) (by omega) _ _ _ _ _ _ _ _ _ _ C F N (dpc (by omega)) (unc (by omega)) ?_
  clear F N
  rintro _ _ h27 tk27 F N ⟨Da, ea, va, ca, rfl, rfl, hva, lta, ltd⟩
  repeat walk_at "m"
  refine newL F N ?_
  clear F N
  intro eb h28 F N lt28
  repeat walk_at "m"
  refine newL F N ?_
  clear F N
  intro Db h29 F N lt29
  refine neTold N (D := Da) (e := ea) (D2 := Db) (e2 := eb) (.tail _ (.tail _ (.head _))) (.head _) (.tail _ (.tail _ (.tail _ (.head _)))) (.tail _ (.head _)) (Nat.ne_of_lt (lt28 _ (.tail _ (.head _)))) (e4 ▸ hva) hdv un64 ?_
  repeat walk_at "m"
  refine ite_ff ?_
  replace N := News.sub N (fun p hp => List.Mem.tail _ (.tail _ (.tail _ (.tail _ hp))))
  clear hva lta ltd lt28 lt29
  repeat walk_at "m"
  refine FL.zero ?_
  refine nextE C.hnd F N hit ne hD3 rfl ?_
  clear F N
  intro h12 F N
  refine ⟨rfl, ?_⟩
  repeat walk_at "m"
  exact hQ _ _ _ F)
end Mine
theorem PySem.Challenge.cw_pe0008_01_holds : PySem.Challenge.rw_pe0008_01.Holds := by
  exact Mine.law_ok
