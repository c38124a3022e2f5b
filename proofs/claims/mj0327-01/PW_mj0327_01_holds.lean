import PyProof.Rows.All
import Wide.All
import OpenK.AllK
import Wide.FinOn
import PySem.Challenge.RW_mj0327_01
open PySem PySem.W PyProof.Rows
set_option Elab.async false
set_option maxRecDepth 100000
set_option maxHeartbeats 0
set_option compiler.extract_closed false
namespace Mine
local macro_rules | `(tactic| walk_at $s:str) => `(tactic| k_extra $s)
open_top hd for PySem.Challenge.rw_mj0327_01

theorem clean {M : Model} {A : Around} {E : Value → Shared → Prop} {ss : List Stmt} {env : Env} {Q : Flow → Shared → Prop} {h : Heap} {g : _} {d : _} {t : Nat} {o : _} (k : ∀ tk, wpAny M A (execs ss env) Q E (Shared.mk h g d tk o)) : wpAny M A (execs ss env) Q E (Shared.mk h g d t o) := k t
section claims
variable (w : World) (mean : ExcName → Option Value) (mg mb : Str → Option Value)

/-- a call that hands back a plain value and keeps the frame and the ledger -/
def ClI (k : Nat) (f : Addr) (pre : Prop) (vs : List Value) (R : Tok → Value) : Prop :=
  ∀ (news : List (Addr × Obj)) (dp un : Nat) (gd : Option (List Code)) (cn : Str) (cs : Scope) (a : Addr) (ccd : Value) (cl : List (Str × Addr)) (outer : List Env) (A₀ : Around) (base h₀ : Heap) (L : Addr) (m : Str → Option Value) (s : Shared) (Q E : Value → Shared → Prop),
    Below A₀ base outer h₀ → Fr h₀ L s.heap m → (hd.heap_39 w.params).In h₀ → News h₀ L s.heap news → Top hd.view_39 (looseW hd.view_39 [Str.ofString "_DAYS_IN_MONTH", Str.ofString "_DAYS_BEFORE_MONTH", Str.ofString "_DI400Y", Str.ofString "_DI100Y", Str.ofString "_DI4Y"]) mean mg mb h₀ → cs.kind = .function → pre → dp + k < recursionLimit → un + 8 * k < cLine →
    (∀ (t : Tok) (h' : Heap) (tk' : Nat), Fr h₀ L h' m → News h₀ L h' news → Q (R t) { s with heap := h', toks := tk' }) →
    wpAny (model Challenge.rw_mj0327_01.row.prog w) (ktrTop dp un gd cn cs L a ccd cl outer) (call (.ref f) vs) Q E s

/-- a call that raises an exception with one text -/
def ClX (k : Nat) (f : Addr) (pre : Prop) (vs : List Value) (cls : String) (msg : Str) : Prop :=
  ∀ (news : List (Addr × Obj)) (dp un : Nat) (gd : Option (List Code)) (cn : Str) (cs : Scope) (a : Addr) (ccd : Value) (outer : List Env) (A₀ : Around) (base h₀ : Heap) (L : Addr) (m : Str → Option Value) (s : Shared) (Q E : Value → Shared → Prop),
    Below A₀ base outer h₀ → Fr h₀ L s.heap m → (hd.heap_39 w.params).In h₀ → News h₀ L s.heap news → Top hd.view_39 (looseW hd.view_39 [Str.ofString "_DAYS_IN_MONTH", Str.ofString "_DAYS_BEFORE_MONTH", Str.ofString "_DI400Y", Str.ofString "_DI100Y", Str.ofString "_DI4Y"]) mean mg mb h₀ → cs.kind = .function →
    (hd.heap_39 w.params).In base → Top hd.view_39 (looseW hd.view_39 [Str.ofString "_DAYS_IN_MONTH", Str.ofString "_DAYS_BEFORE_MONTH", Str.ofString "_DI400Y", Str.ofString "_DI100Y", Str.ofString "_DI4Y"]) mean mg mb base → KtsDicts (outer.filterMap (·.frame)) h₀ → pre → dp + k < recursionLimit → un + 8 * k < cLine →
    (∀ (e t : Addr) (G h' : Heap) (tok : Tok) (tk' : Nat), Fr h₀ L G m → RaisedS base G (envOf cn cs L a ccd :: outer) e (.type cls) t [.str msg tok] news h' → RaisedK base (envOf cn cs L a ccd :: outer) e (.type cls) t [.str msg tok] news h' → G.UpToSlots h' → E (.ref e) { s with heap := h', toks := tk' }) →
    wpAny (model Challenge.rw_mj0327_01.row.prog w) (ktrTop dp un gd cn cs L a ccd [] outer) (call (.ref f) vs) Q E s
end claims

section uses
variable {w : World} {mean : ExcName → Option Value} {mg mb : Str → Option Value} {k : Nat} {f : Addr} {pre : Prop} {vs : List Value} {R : Tok → Value} {cls : String} {msg : Str} {news : List (Addr × Obj)} {dp un : Nat} {gd : Option (List Code)} {cn : Str} {cs : Scope} {a : Addr} {ccd : Value} {cl : List (Str × Addr)} {outer : List Env} {A₀ : Around} {base h₀ : Heap} {L : Addr} {m : Str → Option Value} {s : Shared} {Q E : Value → Shared → Prop}
theorem ClI.use (C : ClI w mean mg mb k f pre vs R) (B : Below A₀ base outer h₀) (F : Fr h₀ L s.heap m) (X : (hd.heap_39 w.params).In h₀) (N : News h₀ L s.heap news) (T : Top hd.view_39 (looseW hd.view_39 [Str.ofString "_DAYS_IN_MONTH", Str.ofString "_DAYS_BEFORE_MONTH", Str.ofString "_DI400Y", Str.ofString "_DI100Y", Str.ofString "_DI4Y"]) mean mg mb h₀) (hk : cs.kind = .function) (hp : pre) (hd : dp + k < recursionLimit) (hu : un + 8 * k < cLine)
    (hr : ∀ (t : Tok) (h' : Heap) (tk' : Nat), Fr h₀ L h' m → News h₀ L h' news → Q (R t) { s with heap := h', toks := tk' }) :
    wpAny (model Challenge.rw_mj0327_01.row.prog w) (ktrTop dp un gd cn cs L a ccd cl outer) (call (.ref f) vs) Q E s := C _ _ _ _ _ _ _ _ _ _ _ _ _ _ _ _ _ _ B F X N T hk hp hd hu hr
theorem ClX.use (C : ClX w mean mg mb k f pre vs cls msg) (B : Below A₀ base outer h₀) (F : Fr h₀ L s.heap m) (X : (hd.heap_39 w.params).In h₀) (N : News h₀ L s.heap news) (T : Top hd.view_39 (looseW hd.view_39 [Str.ofString "_DAYS_IN_MONTH", Str.ofString "_DAYS_BEFORE_MONTH", Str.ofString "_DI400Y", Str.ofString "_DI100Y", Str.ofString "_DI4Y"]) mean mg mb h₀) (hk : cs.kind = .function) (XB : (hd.heap_39 w.params).In base) (TB : Top hd.view_39 (looseW hd.view_39 [Str.ofString "_DAYS_IN_MONTH", Str.ofString "_DAYS_BEFORE_MONTH", Str.ofString "_DI400Y", Str.ofString "_DI100Y", Str.ofString "_DI4Y"]) mean mg mb base) (D : KtsDicts (outer.filterMap (·.frame)) h₀) (hp : pre) (hd : dp + k < recursionLimit) (hu : un + 8 * k < cLine)
    (hr : ∀ (e t : Addr) (G h' : Heap) (tok : Tok) (tk' : Nat), Fr h₀ L G m → RaisedS base G (envOf cn cs L a ccd :: outer) e (.type cls) t [.str msg tok] news h' → RaisedK base (envOf cn cs L a ccd :: outer) e (.type cls) t [.str msg tok] news h' → G.UpToSlots h' → E (.ref e) { s with heap := h', toks := tk' }) :
    wpAny (model Challenge.rw_mj0327_01.row.prog w) (ktrTop dp un gd cn cs L a ccd [] outer) (call (.ref f) vs) Q E s := C _ _ _ _ _ _ _ _ _ _ _ _ _ _ _ _ _ B F X N T hk XB TB D hp hd hu hr
theorem retN {t : Tok} {h' : Heap} {tk' : Nat} {x y : Int} {s' : Shared} (hr : ∀ (t : Tok) (h' : Heap) (tk' : Nat), Fr h₀ L h' m → News h₀ L h' news → Q (.int y t) { s with heap := h', toks := tk' })
    (hs : s' = { s with heap := h', toks := tk' }) (F : Fr h₀ L h' m) (N : News h₀ L h' news) (e : x = y) : Q (.int x t) s' := by
  subst e; subst hs; exact hr t h' tk' F N
theorem retB {h' : Heap} {tk' : Nat} {x y : Bool} {s' : Shared} (hr : ∀ (t : Tok) (h' : Heap) (tk' : Nat), Fr h₀ L h' m → News h₀ L h' news → Q (.bool y) { s with heap := h', toks := tk' })
    (hs : s' = { s with heap := h', toks := tk' }) (F : Fr h₀ L h' m) (N : News h₀ L h' news) (e : x = y) : Q (.bool x) s' := by
  subst e; subst hs; exact hr 0 h' tk' F N
end uses
theorem fm {a b : Int} (h : 0 ≤ b) : a.fmod b = a % b := Int.fmod_eq_emod_of_nonneg a h
theorem fd {a b : Int} (h : 0 ≤ b) : a.fdiv b = a / b := Int.fdiv_eq_ediv_of_nonneg a h

def isLeap (y : Int) : Bool := decide (y % 4 = 0) && (decide (y % 100 ≠ 0) || decide (y % 400 = 0))

theorem c_is_leap (w : World) (mean : ExcName → Option Value) (mg mb : Str → Option Value) (y : Int) (t0 : Tok) :
   ClI w mean mg mb 1 28 True [.int y t0] (fun _ => .bool (isLeap y)) := by
  k_with_none
  (k_with "execs cons" => (k_here; (first | (with_reducible show wpAny _ _ _ _ _ (Shared.mk _ _ _ (HAdd.hAdd _ _) _)) | (with_reducible show wpAny _ _ _ _ _ (Shared.mk _ _ _ (Shared.toks _) _))); (with_reducible refine clean ?_); intro tk0; dsimp only))
  (k_with "mine asks" => ((case k1 => k_asm); (case k2 => k_asm); (case k3 => k_asm); (case k4 => k_asm); (case k5 => k_asm); (case kK => first | exact rfl | assumption); (case kp => first | trivial | assumption | ((try dsimp only); omega)); (case kd => ktr_room); (case ku => ktr_units)))
  (k_with "mine gotI" => (walk_at "mine asks"; intro t9 h9 tk9 F9 N9; (try dsimp only); (try k_fold)))
  unfold ClI
  k_fill; intro news dp un gd cn cs a ccd cl outer A₀ base h₀ L m s Q E hB hF hX hN hT hK hp hdp hun hret; refine wpAny_call ?_; k_dflt cell_enter; k_steps
  all_goals (refine retB (Q := Q) (s := s) hret rfl (by k_asm) (by k_asm) ?_)
  all_goals (simp only [fm (show (0:Int) ≤ 4 by decide), fm (show (0:Int) ≤ 100 by decide), fm (show (0:Int) ≤ 400 by decide)] at *; rw [Bool.eq_iff_iff]; simp [isLeap]; omega)

def dby (y : Int) : Int := (y - 1) * 365 + (y - 1) / 4 - (y - 1) / 100 + (y - 1) / 400
theorem c_days_before_year (w : World) (mean : ExcName → Option Value) (mg mb : Str → Option Value) (y : Int) (t0 : Tok) :
   ClI w mean mg mb 1 35 True [.int y t0] (fun t => .int (dby y) t) := by
  k_with_none
  (k_with "execs cons" => (k_here; (first | (with_reducible show wpAny _ _ _ _ _ (Shared.mk _ _ _ (HAdd.hAdd _ _) _)) | (with_reducible show wpAny _ _ _ _ _ (Shared.mk _ _ _ (Shared.toks _) _))); (with_reducible refine clean ?_); intro tk0; dsimp only))
  (k_with "mine asks" => ((case k1 => k_asm); (case k2 => k_asm); (case k3 => k_asm); (case k4 => k_asm); (case k5 => k_asm); (case kK => first | exact rfl | assumption); (case kp => first | trivial | assumption | ((try dsimp only); omega)); (case kd => ktr_room); (case ku => ktr_units)))
  (k_with "mine gotI" => (walk_at "mine asks"; intro t9 h9 tk9 F9 N9; (try dsimp only); (try k_fold)))
  unfold ClI
  k_fill; intro news dp un gd cn cs a ccd cl outer A₀ base h₀ L m s Q E hB hF hX hN hT hK hp hdp hun hret; refine wpAny_call ?_; k_dflt cell_enter; k_steps
  all_goals (refine retN (Q := Q) (s := s) hret rfl (by k_asm) (by k_asm) ?_; unfold dby; simp only [fd (show (0:Int) ≤ 4 by decide), fd (show (0:Int) ≤ 100 by decide), fd (show (0:Int) ≤ 400 by decide)] at *)

/-- a list of ints that the text's top has made, as its ints -/
def asInt : Value → Option Int
  | .int x _ => some x
  | _ => none
theorem asInt_some {v : Value} {x : Int} (h : asInt v = some x) : ∃ t, v = .int x t := by
  cases v <;> simp [asInt] at h
  subst h; exact ⟨_, rfl⟩
def listInts (o : Option Obj) : Option (List Int) := match o with
  | some o => if o.cls = .type "list" then (match o.data with | .seq items _ => items.toList.mapM asInt | _ => none) else none
  | none => none
theorem mapM_ints {f : Value → Option Int} (hf : ∀ v x, f v = some x → ∃ t, v = Value.int x t) : ∀ {l : List Value} {ns : List Int}, l.mapM f = some ns → ∀ (i : Nat) (x : Int), ns[i]? = some x → ∃ t, l[i]? = some (Value.int x t)
  | [], ns, h, i, x, hx => by simp at h; subst h; simp at hx
  | v :: l, ns, h, i, x, hx => by
    simp only [List.mapM_cons, Option.bind_eq_bind, Option.bind_eq_some_iff, Option.pure_def, Option.some.injEq] at h
    obtain ⟨y, hy, ys, hys, rfl⟩ := h
    cases i with
    | zero => simp at hx; subst hx; obtain ⟨t, rfl⟩ := hf v y hy; exact ⟨t, rfl⟩
    | succ i => simp at hx; obtain ⟨t, ht⟩ := mapM_ints hf hys i x hx; exact ⟨t, by simpa using ht⟩
theorem tab_item {K : Frag} {prog : Program} {w : World} {A : Around} {E : Value → Shared → Prop} {s : Shared} {value slice : PySem.Expr} {h₀ : Heap} {L : Addr} {m : Str → Option Value} {l : Addr} {ns : List Int} {k : Int} {u : Tok} {Q : Value → Shared → Prop}
    (F : Fr h₀ L s.heap m) (X : K.In h₀) (ho : listInts (K.lookup l) = some ns) (h0 : 0 ≤ k) (h1 : k.toNat < ns.length) (h2 : ns.length ≤ 1000) (h : ∀ t, Q (.int (ns.getD k.toNat 0) t) s)
    (hs : subscripted slice false (.ref l) (.int k u) = operate [.ref l, .int k u] (getItem (.ref l) (.int k u))) :
    wpAny (model prog w) A (subscriptTail value slice (.ref l) (.int k u)) Q E s := by
  cases hk : K.lookup l with
  | none => rw [hk] at ho; cases ho
  | some o =>
    rw [hk] at ho
    unfold listInts at ho
    dsimp only at ho
    split at ho
    · rename_i hc
      split at ho
      · rename_i items n hd
        have hl : s.heap.IsList l items := ⟨o, F.keep _ _ (X _ _ hk), hc, n, hd⟩
        have hx : ns[k.toNat]? = some (ns.getD k.toNat 0) := by rw [List.getD_eq_getElem?_getD, List.getElem?_eq_getElem h1]; rfl
        obtain ⟨t, ht⟩ := mapM_ints (fun v x e => asInt_some e) ho _ _ hx
        exact tail_any hl.typeIs slot_list_getitem.lookup (wpAny_getItem_list hl h0 (by lia) (by simpa using ht) (h t)) hs
      · cases ho
    · cases ho
def lawLen (y m : Int) : Int := if m = 2 then (if y % 16 = 0 ∨ (y % 4 = 0 ∧ y % 25 ≠ 0) then 29 else 28) else 30 + (m + m / 8) % 2
theorem c_law_length (w : World) (mean : ExcName → Option Value) (mg mb : Str → Option Value) (y mo : Int) (t0 t1 : Tok) :
   ClI w mean mg mb 1 87 True [.int y t0, .int mo t1] (fun t => .int (lawLen y mo) t) := by
  k_with_none
  (k_with "execs cons" => (k_here; (first | (with_reducible show wpAny _ _ _ _ _ (Shared.mk _ _ _ (HAdd.hAdd _ _) _)) | (with_reducible show wpAny _ _ _ _ _ (Shared.mk _ _ _ (Shared.toks _) _))); (with_reducible refine clean ?_); intro tk0; dsimp only))
  (k_with "mine asks" => ((case k1 => k_asm); (case k2 => k_asm); (case k3 => k_asm); (case k4 => k_asm); (case k5 => k_asm); (case kK => first | exact rfl | assumption); (case kp => first | trivial | assumption | ((try dsimp only); omega)); (case kd => ktr_room); (case ku => ktr_units)))
  (k_with "mine gotI" => (walk_at "mine asks"; intro t9 h9 tk9 F9 N9; (try dsimp only); (try k_fold)))
  (k_with "call ref" => (k_here; k_dflt (first | (refine' ClI.use (c_is_leap _ _ _ _ _ _) ?k1 ?k2 ?k3 ?k4 ?k5 ?kK ?kp ?kd ?ku ?_; walk_at "mine gotI") | (refine' ClI.use (c_days_before_year _ _ _ _ _ _) ?k1 ?k2 ?k3 ?k4 ?k5 ?kK ?kp ?kd ?ku ?_; walk_at "mine gotI"))))
  (k_with "subscriptTail" => (k_here; (with_reducible show wpAny _ _ (subscriptTail _ _ (Value.ref 15) (Value.int _ _)) _ _ _); (with_unfolding_all refine' tab_item (ns := [-1, 31, 28, 31, 30, 31, 30, 31, 31, 30, 31, 30, 31]) ?k1 ?k2 ?k3 ?k4 ?k5 ?k7 ?_ ?k6; (case k1 => k_asm); (case k2 => k_asm); (case k3 => kernel_rfl); (case k4 => omega); (case k5 => ((try simp only [List.length]); omega)); (case k7 => decide); (case k6 => with_unfolding_all rfl); k_whole); intro t'; (try dsimp only)))
  (k_with "subscriptTail" => (k_here; (with_reducible show wpAny _ _ (subscriptTail _ _ (Value.ref 16) (Value.int _ _)) _ _ _); (with_unfolding_all refine' tab_item (ns := [-1, 0, 31, 59, 90, 120, 151, 181, 212, 243, 273, 304, 334]) ?k1 ?k2 ?k3 ?k4 ?k5 ?k7 ?_ ?k6; (case k1 => k_asm); (case k2 => k_asm); (case k3 => kernel_rfl); (case k4 => omega); (case k5 => ((try simp only [List.length]); omega)); (case k7 => decide); (case k6 => with_unfolding_all rfl); k_whole); intro t'; (try dsimp only)))
  unfold ClI
  k_fill; intro news dp un gd cn cs a ccd cl outer A₀ base h₀ L m s Q E hB hF hX hN hT hK hp hdp hun hret; refine wpAny_call ?_; k_dflt cell_enter; k_steps
  all_goals (refine retN (Q := Q) (s := s) hret rfl (by k_asm) (by k_asm) ?_; unfold lawLen; simp only [fd (show (0:Int) ≤ 8 by decide), fm (show (0:Int) ≤ 2 by decide), fm (show (0:Int) ≤ 4 by decide), fm (show (0:Int) ≤ 16 by decide), fm (show (0:Int) ≤ 25 by decide)] at *; simp_all)

def dim (y m : Int) : Int := if m = 2 then (if isLeap y then 29 else 28) else 30 + (m + m / 8) % 2
def dbm (y m : Int) : Int := (367 * m - 362) / 12 - (if m ≤ 2 then 0 else if isLeap y then 1 else 2)
def ymd (y m d : Int) : Int := dby y + dbm y m + d
def dbmL (L : Bool) (m : Int) : Int := (367 * m - 362) / 12 - (if m ≤ 2 then 0 else if L then 1 else 2)
def dimL (L : Bool) (m : Int) : Int := if m = 2 then (if L then 29 else 28) else 30 + (m + m / 8) % 2
theorem fin_of {x : Int} {k : Nat} (h : 1 ≤ x ∧ x ≤ (k : Int)) : ∃ i : Fin k, x = (i.val : Int) + 1 := ⟨⟨(x - 1).toNat, by lia⟩, by simp only; lia⟩
theorem allLM {P : Bool → Int → Prop} (h : ∀ L : Bool, ∀ i : Fin 12, P L ((i.val : Int) + 1)) (L : Bool) {m : Int} (hm : 1 ≤ m ∧ m ≤ 12) : P L m := by
  obtain ⟨i, rfl⟩ := fin_of (k := 12) hm; exact h L i
theorem tabDim {m : Int} (h : 1 ≤ m ∧ m ≤ 12) : [-1, 31, 28, 31, 30, 31, 30, 31, 31, 30, 31, 30, 31].getD m.toNat 0 = if m = 2 then 28 else 30 + (m + m / 8) % 2 :=
  allLM (P := fun _ m => [-1, 31, 28, 31, 30, 31, 30, 31, 31, 30, 31, 30, 31].getD m.toNat 0 = if m = 2 then 28 else 30 + (m + m / 8) % 2) (by decide +kernel) true h
theorem tabDbm {m : Int} (h : 1 ≤ m ∧ m ≤ 12) : [-1, 0, 31, 59, 90, 120, 151, 181, 212, 243, 273, 304, 334].getD m.toNat 0 = (367 * m - 362) / 12 - (if m ≤ 2 then 0 else 2) :=
  allLM (P := fun _ m => [-1, 0, 31, 59, 90, 120, 151, 181, 212, 243, 273, 304, 334].getD m.toNat 0 = (367 * m - 362) / 12 - (if m ≤ 2 then 0 else 2)) (by decide +kernel) true h
theorem mod2 (x : Int) : 0 ≤ x % 2 ∧ x % 2 ≤ 1 := ⟨Int.emod_nonneg x (by decide), Int.le_of_lt_add_one (Int.emod_lt_of_pos x (by decide))⟩
theorem dim_ge (y m : Int) : 28 ≤ dim y m := by
  unfold dim
  split
  · split <;> decide
  · exact Int.le_trans (by decide) (Int.add_le_add_left (mod2 _).1 30)
theorem dim_le (y m : Int) : dim y m ≤ 31 := by
  unfold dim
  split
  · split <;> decide
  · exact Int.add_le_add_left (mod2 _).2 30

theorem c_days_in_month (w : World) (mean : ExcName → Option Value) (mg mb : Str → Option Value) (y mo : Int) (t0 t1 : Tok) :
   ClI w mean mg mb 2 42 (1 ≤ mo ∧ mo ≤ 12) [.int y t0, .int mo t1] (fun t => .int (dim y mo) t) := by
  k_with_none
  (k_with "execs cons" => (k_here; (first | (with_reducible show wpAny _ _ _ _ _ (Shared.mk _ _ _ (HAdd.hAdd _ _) _)) | (with_reducible show wpAny _ _ _ _ _ (Shared.mk _ _ _ (Shared.toks _) _))); (with_reducible refine clean ?_); intro tk0; dsimp only))
  (k_with "mine asks" => ((case k1 => k_asm); (case k2 => k_asm); (case k3 => k_asm); (case k4 => k_asm); (case k5 => k_asm); (case kK => first | exact rfl | assumption); (case kp => first | trivial | assumption | ((try dsimp only); omega)); (case kd => ktr_room); (case ku => ktr_units)))
  (k_with "mine gotI" => (walk_at "mine asks"; intro t9 h9 tk9 F9 N9; (try dsimp only); (try k_fold)))
  (k_with "call ref" => (k_here; k_dflt (first | (refine' ClI.use (c_is_leap _ _ _ _ _ _) ?k1 ?k2 ?k3 ?k4 ?k5 ?kK ?kp ?kd ?ku ?_; walk_at "mine gotI") | (refine' ClI.use (c_days_before_year _ _ _ _ _ _) ?k1 ?k2 ?k3 ?k4 ?k5 ?kK ?kp ?kd ?ku ?_; walk_at "mine gotI"))))
  (k_with "subscriptTail" => (k_here; (with_reducible show wpAny _ _ (subscriptTail _ _ (Value.ref 15) (Value.int _ _)) _ _ _); (with_unfolding_all refine' tab_item (ns := [-1, 31, 28, 31, 30, 31, 30, 31, 31, 30, 31, 30, 31]) ?k1 ?k2 ?k3 ?k4 ?k5 ?k7 ?_ ?k6; (case k1 => k_asm); (case k2 => k_asm); (case k3 => kernel_rfl); (case k4 => omega); (case k5 => ((try simp only [List.length]); omega)); (case k7 => decide); (case k6 => with_unfolding_all rfl); k_whole); intro t'; (try dsimp only)))
  (k_with "subscriptTail" => (k_here; (with_reducible show wpAny _ _ (subscriptTail _ _ (Value.ref 16) (Value.int _ _)) _ _ _); (with_unfolding_all refine' tab_item (ns := [-1, 0, 31, 59, 90, 120, 151, 181, 212, 243, 273, 304, 334]) ?k1 ?k2 ?k3 ?k4 ?k5 ?k7 ?_ ?k6; (case k1 => k_asm); (case k2 => k_asm); (case k3 => kernel_rfl); (case k4 => omega); (case k5 => ((try simp only [List.length]); omega)); (case k7 => decide); (case k6 => with_unfolding_all rfl); k_whole); intro t'; (try dsimp only)))
  unfold ClI
  k_fill; intro news dp un gd cn cs a ccd cl outer A₀ base h₀ L m s Q E hB hF hX hN hT hK hp hdp hun hret; refine wpAny_call ?_; k_dflt cell_enter; k_steps
  all_goals (refine retN (Q := Q) (s := s) hret rfl (by k_asm) (by k_asm) ?_)
  all_goals (unfold dim; first | (simp only [tabDim hp]; simp_all; done) | (simp_all; done))
theorem c_days_before_month (w : World) (mean : ExcName → Option Value) (mg mb : Str → Option Value) (y mo : Int) (t0 t1 : Tok) :
   ClI w mean mg mb 2 49 (1 ≤ mo ∧ mo ≤ 12) [.int y t0, .int mo t1] (fun t => .int (dbm y mo) t) := by
  k_with_none
  (k_with "execs cons" => (k_here; (first | (with_reducible show wpAny _ _ _ _ _ (Shared.mk _ _ _ (HAdd.hAdd _ _) _)) | (with_reducible show wpAny _ _ _ _ _ (Shared.mk _ _ _ (Shared.toks _) _))); (with_reducible refine clean ?_); intro tk0; dsimp only))
  (k_with "mine asks" => ((case k1 => k_asm); (case k2 => k_asm); (case k3 => k_asm); (case k4 => k_asm); (case k5 => k_asm); (case kK => first | exact rfl | assumption); (case kp => first | trivial | assumption | ((try dsimp only); omega)); (case kd => ktr_room); (case ku => ktr_units)))
  (k_with "mine gotI" => (walk_at "mine asks"; intro t9 h9 tk9 F9 N9; (try dsimp only); (try k_fold)))
  (k_with "call ref" => (k_here; k_dflt (first | (refine' ClI.use (c_is_leap _ _ _ _ _ _) ?k1 ?k2 ?k3 ?k4 ?k5 ?kK ?kp ?kd ?ku ?_; walk_at "mine gotI") | (refine' ClI.use (c_days_before_year _ _ _ _ _ _) ?k1 ?k2 ?k3 ?k4 ?k5 ?kK ?kp ?kd ?ku ?_; walk_at "mine gotI"))))
  (k_with "subscriptTail" => (k_here; (with_reducible show wpAny _ _ (subscriptTail _ _ (Value.ref 15) (Value.int _ _)) _ _ _); (with_unfolding_all refine' tab_item (ns := [-1, 31, 28, 31, 30, 31, 30, 31, 31, 30, 31, 30, 31]) ?k1 ?k2 ?k3 ?k4 ?k5 ?k7 ?_ ?k6; (case k1 => k_asm); (case k2 => k_asm); (case k3 => kernel_rfl); (case k4 => omega); (case k5 => ((try simp only [List.length]); omega)); (case k7 => decide); (case k6 => with_unfolding_all rfl); k_whole); intro t'; (try dsimp only)))
  (k_with "subscriptTail" => (k_here; (with_reducible show wpAny _ _ (subscriptTail _ _ (Value.ref 16) (Value.int _ _)) _ _ _); (with_unfolding_all refine' tab_item (ns := [-1, 0, 31, 59, 90, 120, 151, 181, 212, 243, 273, 304, 334]) ?k1 ?k2 ?k3 ?k4 ?k5 ?k7 ?_ ?k6; (case k1 => k_asm); (case k2 => k_asm); (case k3 => kernel_rfl); (case k4 => omega); (case k5 => ((try simp only [List.length]); omega)); (case k7 => decide); (case k6 => with_unfolding_all rfl); k_whole); intro t'; (try dsimp only)))
  unfold ClI
  k_fill; intro news dp un gd cn cs a ccd cl outer A₀ base h₀ L m s Q E hB hF hX hN hT hK hp hdp hun hret; refine wpAny_call ?_; k_dflt cell_enter; k_steps
  all_goals (refine retN (Q := Q) (s := s) hret rfl (by k_asm) (by k_asm) ?_)
  · rw [tabDbm hp]; unfold dbm; cases isLeap y <;> simp <;> split <;> omega
  · rw [tabDbm hp]; unfold dbm; cases isLeap y <;> simp <;> split <;> omega
theorem c_ymd2ord (w : World) (mean : ExcName → Option Value) (mg mb : Str → Option Value) (y mo d : Int) (t0 t1 t2 : Tok) :
   ClI w mean mg mb 3 56 ((1 ≤ mo ∧ mo ≤ 12) ∧ 1 ≤ d ∧ d ≤ dim y mo) [.int y t0, .int mo t1, .int d t2] (fun t => .int (ymd y mo d) t) := by
  k_with_none
  (k_with "execs cons" => (k_here; (first | (with_reducible show wpAny _ _ _ _ _ (Shared.mk _ _ _ (HAdd.hAdd _ _) _)) | (with_reducible show wpAny _ _ _ _ _ (Shared.mk _ _ _ (Shared.toks _) _))); (with_reducible refine clean ?_); intro tk0; dsimp only))
  (k_with "mine asks" => ((case k1 => k_asm); (case k2 => k_asm); (case k3 => k_asm); (case k4 => k_asm); (case k5 => k_asm); (case kK => first | exact rfl | assumption); (case kp => first | trivial | assumption | ((try dsimp only); omega)); (case kd => ktr_room); (case ku => ktr_units)))
  (k_with "mine gotI" => (walk_at "mine asks"; intro t9 h9 tk9 F9 N9; (try dsimp only); (try k_fold)))
  (k_with "call ref" => (k_here; k_dflt (first | (refine' ClI.use (c_is_leap _ _ _ _ _ _) ?k1 ?k2 ?k3 ?k4 ?k5 ?kK ?kp ?kd ?ku ?_; walk_at "mine gotI") | (refine' ClI.use (c_days_before_year _ _ _ _ _ _) ?k1 ?k2 ?k3 ?k4 ?k5 ?kK ?kp ?kd ?ku ?_; walk_at "mine gotI"))))
  (k_with "subscriptTail" => (k_here; (with_reducible show wpAny _ _ (subscriptTail _ _ (Value.ref 15) (Value.int _ _)) _ _ _); (with_unfolding_all refine' tab_item (ns := [-1, 31, 28, 31, 30, 31, 30, 31, 31, 30, 31, 30, 31]) ?k1 ?k2 ?k3 ?k4 ?k5 ?k7 ?_ ?k6; (case k1 => k_asm); (case k2 => k_asm); (case k3 => kernel_rfl); (case k4 => omega); (case k5 => ((try simp only [List.length]); omega)); (case k7 => decide); (case k6 => with_unfolding_all rfl); k_whole); intro t'; (try dsimp only)))
  (k_with "subscriptTail" => (k_here; (with_reducible show wpAny _ _ (subscriptTail _ _ (Value.ref 16) (Value.int _ _)) _ _ _); (with_unfolding_all refine' tab_item (ns := [-1, 0, 31, 59, 90, 120, 151, 181, 212, 243, 273, 304, 334]) ?k1 ?k2 ?k3 ?k4 ?k5 ?k7 ?_ ?k6; (case k1 => k_asm); (case k2 => k_asm); (case k3 => kernel_rfl); (case k4 => omega); (case k5 => ((try simp only [List.length]); omega)); (case k7 => decide); (case k6 => with_unfolding_all rfl); k_whole); intro t'; (try dsimp only)))
  (k_with "mine asks" => ((case k1 => k_asm); (case k2 => k_asm); (case k3 => k_asm); (case k4 => k_asm); (case k5 => k_asm); (case kK => first | exact rfl | assumption); (case kp => first | trivial | assumption | ((try dsimp only); omega) | ((have hdm := dim_ge _ _); omega) | exact ⟨⟨by omega, by omega⟩, by omega, Int.le_trans (by omega) (dim_ge _ _)⟩); (case kd => ktr_room); (case ku => ktr_units)))
  (k_with "call ref" => (k_here; k_dflt (first | (refine' ClI.use (c_days_in_month _ _ _ _ _ _ _ _) ?k1 ?k2 ?k3 ?k4 ?k5 ?kK ?kp ?kd ?ku ?_; walk_at "mine gotI") | (refine' ClI.use (c_days_before_month _ _ _ _ _ _ _ _) ?k1 ?k2 ?k3 ?k4 ?k5 ?kK ?kp ?kd ?ku ?_; walk_at "mine gotI"))))
  unfold ClI
  k_fill; intro news dp un gd cn cs a ccd cl outer A₀ base h₀ L m s Q E hB hF hX hN hT hK hp hdp hun hret; refine wpAny_call ?_; k_dflt cell_enter; k_steps
  all_goals (refine retN (Q := Q) (s := s) hret rfl (by k_asm) (by k_asm) ?_)
  all_goals rfl

theorem c_ymd2ord_xm (w : World) (mean : ExcName → Option Value) (mg mb : Str → Option Value) (y mo d : Int) (t0 t1 t2 : Tok) :
   ClX w mean mg mb 3 56 (mo < 1 ∨ 12 < mo) [.int y t0, .int mo t1, .int d t2] "AssertionError" (Str.ofString "month must be in 1..12") := by
  k_with_none
  (k_with "execs cons" => (k_here; (first | (with_reducible show wpAny _ _ _ _ _ (Shared.mk _ _ _ (HAdd.hAdd _ _) _)) | (with_reducible show wpAny _ _ _ _ _ (Shared.mk _ _ _ (Shared.toks _) _))); (with_reducible refine clean ?_); intro tk0; dsimp only))
  (k_with "mine asks" => ((case k1 => k_asm); (case k2 => k_asm); (case k3 => k_asm); (case k4 => k_asm); (case k5 => k_asm); (case kK => first | exact rfl | assumption); (case kp => first | trivial | assumption | ((try dsimp only); omega)); (case kd => ktr_room); (case ku => ktr_units)))
  (k_with "mine gotI" => (walk_at "mine asks"; intro t9 h9 tk9 F9 N9; (try dsimp only); (try k_fold)))
  (k_with "call ref" => (k_here; k_dflt (first | (refine' ClI.use (c_is_leap _ _ _ _ _ _) ?k1 ?k2 ?k3 ?k4 ?k5 ?kK ?kp ?kd ?ku ?_; walk_at "mine gotI") | (refine' ClI.use (c_days_before_year _ _ _ _ _ _) ?k1 ?k2 ?k3 ?k4 ?k5 ?kK ?kp ?kd ?ku ?_; walk_at "mine gotI"))))
  (k_with "subscriptTail" => (k_here; (with_reducible show wpAny _ _ (subscriptTail _ _ (Value.ref 15) (Value.int _ _)) _ _ _); (with_unfolding_all refine' tab_item (ns := [-1, 31, 28, 31, 30, 31, 30, 31, 31, 30, 31, 30, 31]) ?k1 ?k2 ?k3 ?k4 ?k5 ?k7 ?_ ?k6; (case k1 => k_asm); (case k2 => k_asm); (case k3 => kernel_rfl); (case k4 => omega); (case k5 => ((try simp only [List.length]); omega)); (case k7 => decide); (case k6 => with_unfolding_all rfl); k_whole); intro t'; (try dsimp only)))
  (k_with "subscriptTail" => (k_here; (with_reducible show wpAny _ _ (subscriptTail _ _ (Value.ref 16) (Value.int _ _)) _ _ _); (with_unfolding_all refine' tab_item (ns := [-1, 0, 31, 59, 90, 120, 151, 181, 212, 243, 273, 304, 334]) ?k1 ?k2 ?k3 ?k4 ?k5 ?k7 ?_ ?k6; (case k1 => k_asm); (case k2 => k_asm); (case k3 => kernel_rfl); (case k4 => omega); (case k5 => ((try simp only [List.length]); omega)); (case k7 => decide); (case k6 => with_unfolding_all rfl); k_whole); intro t'; (try dsimp only)))
  (k_with "mine asks" => ((case k1 => k_asm); (case k2 => k_asm); (case k3 => k_asm); (case k4 => k_asm); (case k5 => k_asm); (case kK => first | exact rfl | assumption); (case kp => first | trivial | assumption | ((try dsimp only); omega) | ((have hdm := dim_ge _ _); omega) | exact ⟨⟨by omega, by omega⟩, by omega, Int.le_trans (by omega) (dim_ge _ _)⟩); (case kd => ktr_room); (case ku => ktr_units)))
  (k_with "call ref" => (k_here; k_dflt (first | (refine' ClI.use (c_days_in_month _ _ _ _ _ _ _ _) ?k1 ?k2 ?k3 ?k4 ?k5 ?kK ?kp ?kd ?ku ?_; walk_at "mine gotI") | (refine' ClI.use (c_days_before_month _ _ _ _ _ _ _ _) ?k1 ?k2 ?k3 ?k4 ?k5 ?kK ?kp ?kd ?ku ?_; walk_at "mine gotI"))))
  (k_with "call ref" => (k_here; k_dflt (first | (refine' ClI.use (c_ymd2ord _ _ _ _ _ _ _ _ _ _) ?k1 ?k2 ?k3 ?k4 ?k5 ?kK ?kp ?kd ?ku ?_; walk_at "mine gotI"))))
  (k_with "exec Assert" => refine wpAny_Assert_msg rfl ?_)
  unfold ClX
  k_fill; intro news dp un gd cn cs a ccd outer A₀ base h₀ L m s Q E hB hF hX hN hT hK hXB hTB hD hp hdp hun hret; refine wpAny_call ?_; k_dflt cell_enter; k_steps
  all_goals exact hret _ _ _ _ _ _ (by k_asm) (by assumption) (by assumption) (by assumption)
theorem c_ymd2ord_xd (w : World) (mean : ExcName → Option Value) (mg mb : Str → Option Value) (y mo d : Int) (t0 t1 t2 : Tok) :
   ClX w mean mg mb 3 56 ((1 ≤ mo ∧ mo ≤ 12) ∧ (d < 1 ∨ dim y mo < d)) [.int y t0, .int mo t1, .int d t2] "AssertionError" (Str.ofString "day must be in 1.." ++ Str.ofString (toString (dim y mo))) := by
  k_with_none
  (k_with "execs cons" => (k_here; (first | (with_reducible show wpAny _ _ _ _ _ (Shared.mk _ _ _ (HAdd.hAdd _ _) _)) | (with_reducible show wpAny _ _ _ _ _ (Shared.mk _ _ _ (Shared.toks _) _))); (with_reducible refine clean ?_); intro tk0; dsimp only))
  (k_with "mine asks" => ((case k1 => k_asm); (case k2 => k_asm); (case k3 => k_asm); (case k4 => k_asm); (case k5 => k_asm); (case kK => first | exact rfl | assumption); (case kp => first | trivial | assumption | ((try dsimp only); omega)); (case kd => ktr_room); (case ku => ktr_units)))
  (k_with "mine gotI" => (walk_at "mine asks"; intro t9 h9 tk9 F9 N9; (try dsimp only); (try k_fold)))
  (k_with "call ref" => (k_here; k_dflt (first | (refine' ClI.use (c_is_leap _ _ _ _ _ _) ?k1 ?k2 ?k3 ?k4 ?k5 ?kK ?kp ?kd ?ku ?_; walk_at "mine gotI") | (refine' ClI.use (c_days_before_year _ _ _ _ _ _) ?k1 ?k2 ?k3 ?k4 ?k5 ?kK ?kp ?kd ?ku ?_; walk_at "mine gotI"))))
  (k_with "subscriptTail" => (k_here; (with_reducible show wpAny _ _ (subscriptTail _ _ (Value.ref 15) (Value.int _ _)) _ _ _); (with_unfolding_all refine' tab_item (ns := [-1, 31, 28, 31, 30, 31, 30, 31, 31, 30, 31, 30, 31]) ?k1 ?k2 ?k3 ?k4 ?k5 ?k7 ?_ ?k6; (case k1 => k_asm); (case k2 => k_asm); (case k3 => kernel_rfl); (case k4 => omega); (case k5 => ((try simp only [List.length]); omega)); (case k7 => decide); (case k6 => with_unfolding_all rfl); k_whole); intro t'; (try dsimp only)))
  (k_with "subscriptTail" => (k_here; (with_reducible show wpAny _ _ (subscriptTail _ _ (Value.ref 16) (Value.int _ _)) _ _ _); (with_unfolding_all refine' tab_item (ns := [-1, 0, 31, 59, 90, 120, 151, 181, 212, 243, 273, 304, 334]) ?k1 ?k2 ?k3 ?k4 ?k5 ?k7 ?_ ?k6; (case k1 => k_asm); (case k2 => k_asm); (case k3 => kernel_rfl); (case k4 => omega); (case k5 => ((try simp only [List.length]); omega)); (case k7 => decide); (case k6 => with_unfolding_all rfl); k_whole); intro t'; (try dsimp only)))
  (k_with "mine asks" => ((case k1 => k_asm); (case k2 => k_asm); (case k3 => k_asm); (case k4 => k_asm); (case k5 => k_asm); (case kK => first | exact rfl | assumption); (case kp => first | trivial | assumption | ((try dsimp only); omega) | ((have hdm := dim_ge _ _); omega) | exact ⟨⟨by omega, by omega⟩, by omega, Int.le_trans (by omega) (dim_ge _ _)⟩); (case kd => ktr_room); (case ku => ktr_units)))
  (k_with "call ref" => (k_here; k_dflt (first | (refine' ClI.use (c_days_in_month _ _ _ _ _ _ _ _) ?k1 ?k2 ?k3 ?k4 ?k5 ?kK ?kp ?kd ?ku ?_; walk_at "mine gotI") | (refine' ClI.use (c_days_before_month _ _ _ _ _ _ _ _) ?k1 ?k2 ?k3 ?k4 ?k5 ?kK ?kp ?kd ?ku ?_; walk_at "mine gotI"))))
  (k_with "call ref" => (k_here; k_dflt (first | (refine' ClI.use (c_ymd2ord _ _ _ _ _ _ _ _ _ _) ?k1 ?k2 ?k3 ?k4 ?k5 ?kK ?kp ?kd ?ku ?_; walk_at "mine gotI"))))
  (k_with "exec Assert" => refine wpAny_Assert_msg rfl ?_)
  unfold ClX
  have hg := dim_ge y mo
  have hl := dim_le y mo
  k_fill; intro news dp un gd cn cs a ccd outer A₀ base h₀ L m s Q E hB hF hX hN hT hK hXB hTB hD hp hdp hun hret; refine wpAny_call ?_; k_dflt cell_enter; k_steps
  all_goals exact hret _ _ _ _ _ _ (by k_asm) (by assumption) (by assumption) (by assumption)

def isoMon (y : Int) : Int := ymd y 1 1 - (ymd y 1 1 + 6) % 7 + (if (ymd y 1 1 + 6) % 7 > 3 then 7 else 0)
theorem c_isoweek1monday (w : World) (mean : ExcName → Option Value) (mg mb : Str → Option Value) (y : Int) (t0 : Tok) :
   ClI w mean mg mb 4 80 True [.int y t0] (fun t => .int (isoMon y) t) := by
  k_with_none
  (k_with "execs cons" => (k_here; (first | (with_reducible show wpAny _ _ _ _ _ (Shared.mk _ _ _ (HAdd.hAdd _ _) _)) | (with_reducible show wpAny _ _ _ _ _ (Shared.mk _ _ _ (Shared.toks _) _))); (with_reducible refine clean ?_); intro tk0; dsimp only))
  (k_with "mine asks" => ((case k1 => k_asm); (case k2 => k_asm); (case k3 => k_asm); (case k4 => k_asm); (case k5 => k_asm); (case kK => first | exact rfl | assumption); (case kp => first | trivial | assumption | ((try dsimp only); omega)); (case kd => ktr_room); (case ku => ktr_units)))
  (k_with "mine gotI" => (walk_at "mine asks"; intro t9 h9 tk9 F9 N9; (try dsimp only); (try k_fold)))
  (k_with "call ref" => (k_here; k_dflt (first | (refine' ClI.use (c_is_leap _ _ _ _ _ _) ?k1 ?k2 ?k3 ?k4 ?k5 ?kK ?kp ?kd ?ku ?_; walk_at "mine gotI") | (refine' ClI.use (c_days_before_year _ _ _ _ _ _) ?k1 ?k2 ?k3 ?k4 ?k5 ?kK ?kp ?kd ?ku ?_; walk_at "mine gotI"))))
  (k_with "subscriptTail" => (k_here; (with_reducible show wpAny _ _ (subscriptTail _ _ (Value.ref 15) (Value.int _ _)) _ _ _); (with_unfolding_all refine' tab_item (ns := [-1, 31, 28, 31, 30, 31, 30, 31, 31, 30, 31, 30, 31]) ?k1 ?k2 ?k3 ?k4 ?k5 ?k7 ?_ ?k6; (case k1 => k_asm); (case k2 => k_asm); (case k3 => kernel_rfl); (case k4 => omega); (case k5 => ((try simp only [List.length]); omega)); (case k7 => decide); (case k6 => with_unfolding_all rfl); k_whole); intro t'; (try dsimp only)))
  (k_with "subscriptTail" => (k_here; (with_reducible show wpAny _ _ (subscriptTail _ _ (Value.ref 16) (Value.int _ _)) _ _ _); (with_unfolding_all refine' tab_item (ns := [-1, 0, 31, 59, 90, 120, 151, 181, 212, 243, 273, 304, 334]) ?k1 ?k2 ?k3 ?k4 ?k5 ?k7 ?_ ?k6; (case k1 => k_asm); (case k2 => k_asm); (case k3 => kernel_rfl); (case k4 => omega); (case k5 => ((try simp only [List.length]); omega)); (case k7 => decide); (case k6 => with_unfolding_all rfl); k_whole); intro t'; (try dsimp only)))
  (k_with "mine asks" => ((case k1 => k_asm); (case k2 => k_asm); (case k3 => k_asm); (case k4 => k_asm); (case k5 => k_asm); (case kK => first | exact rfl | assumption); (case kp => first | trivial | assumption | ((try dsimp only); omega) | ((have hdm := dim_ge _ _); omega) | exact ⟨⟨by omega, by omega⟩, by omega, Int.le_trans (by omega) (dim_ge _ _)⟩); (case kd => ktr_room); (case ku => ktr_units)))
  (k_with "call ref" => (k_here; k_dflt (first | (refine' ClI.use (c_days_in_month _ _ _ _ _ _ _ _) ?k1 ?k2 ?k3 ?k4 ?k5 ?kK ?kp ?kd ?ku ?_; walk_at "mine gotI") | (refine' ClI.use (c_days_before_month _ _ _ _ _ _ _ _) ?k1 ?k2 ?k3 ?k4 ?k5 ?kK ?kp ?kd ?ku ?_; walk_at "mine gotI"))))
  (k_with "call ref" => (k_here; k_dflt (first | (refine' ClI.use (c_ymd2ord _ _ _ _ _ _ _ _ _ _) ?k1 ?k2 ?k3 ?k4 ?k5 ?kK ?kp ?kd ?ku ?_; walk_at "mine gotI"))))
  (k_with "exec Assert" => refine wpAny_Assert_msg rfl ?_)
  unfold ClI
  k_fill; intro news dp un gd cn cs a ccd cl outer A₀ base h₀ L m s Q E hB hF hX hN hT hK hp hdp hun hret; refine wpAny_call ?_; k_dflt cell_enter; k_steps
  all_goals (refine retN (Q := Q) (s := s) hret rfl (by k_asm) (by k_asm) ?_; unfold isoMon; simp only [fm (show (0:Int) ≤ 7 by decide)] at *)
  all_goals (split <;> omega)
section claimT
/-- a call that hands back a new tuple of three ints -/
def ClT (w : World) (mean : ExcName → Option Value) (mg mb : Str → Option Value) (k : Nat) (f : Addr) (pre : Prop) (vs : List Value) (y mo d : Int) : Prop :=
  ∀ (news : List (Addr × Obj)) (dp un : Nat) (gd : Option (List Code)) (cn : Str) (cs : Scope) (a : Addr) (ccd : Value) (cl : List (Str × Addr)) (outer : List Env) (A₀ : Around) (base h₀ : Heap) (L : Addr) (m : Str → Option Value) (s : Shared) (Q E : Value → Shared → Prop),
    Below A₀ base outer h₀ → Fr h₀ L s.heap m → (hd.heap_39 w.params).In h₀ → News h₀ L s.heap news → Top hd.view_39 (looseW hd.view_39 [Str.ofString "_DAYS_IN_MONTH", Str.ofString "_DAYS_BEFORE_MONTH", Str.ofString "_DI400Y", Str.ofString "_DI100Y", Str.ofString "_DI4Y"]) mean mg mb h₀ → cs.kind = .function → pre → dp + k < recursionLimit → un + 8 * k < cLine →
    (∀ (D : Addr) (t1 t2 t3 : Tok) (c : Nat) (h' : Heap) (tk' : Nat), (∀ p ∈ news, p.1 < D) → Fr h₀ L h' m → News h₀ L h' ((D, { cls := .type "tuple", data := .seq #[.int y t1, .int mo t2, .int d t3] c }) :: news) → Q (.ref D) { s with heap := h', toks := tk' }) →
    wpAny (model Challenge.rw_mj0327_01.row.prog w) (ktrTop dp un gd cn cs L a ccd cl outer) (call (.ref f) vs) Q E s
variable {w : World} {mean : ExcName → Option Value} {mg mb : Str → Option Value} {k : Nat} {f : Addr} {pre : Prop} {vs : List Value} {y mo d : Int} {news : List (Addr × Obj)} {dp un : Nat} {gd : Option (List Code)} {cn : Str} {cs : Scope} {a : Addr} {ccd : Value} {cl : List (Str × Addr)} {outer : List Env} {A₀ : Around} {base h₀ : Heap} {L : Addr} {m : Str → Option Value} {s : Shared} {Q E : Value → Shared → Prop}
theorem ClT.use (C : ClT w mean mg mb k f pre vs y mo d) (B : Below A₀ base outer h₀) (F : Fr h₀ L s.heap m) (X : (hd.heap_39 w.params).In h₀) (N : News h₀ L s.heap news) (T : Top hd.view_39 (looseW hd.view_39 [Str.ofString "_DAYS_IN_MONTH", Str.ofString "_DAYS_BEFORE_MONTH", Str.ofString "_DI400Y", Str.ofString "_DI100Y", Str.ofString "_DI4Y"]) mean mg mb h₀) (hk : cs.kind = .function) (hp : pre) (hd : dp + k < recursionLimit) (hu : un + 8 * k < cLine)
    (hr : ∀ (D : Addr) (t1 t2 t3 : Tok) (c : Nat) (h' : Heap) (tk' : Nat), (∀ p ∈ news, p.1 < D) → Fr h₀ L h' m → News h₀ L h' ((D, { cls := .type "tuple", data := .seq #[.int y t1, .int mo t2, .int d t3] c }) :: news) → Q (.ref D) { s with heap := h', toks := tk' }) :
    wpAny (model Challenge.rw_mj0327_01.row.prog w) (ktrTop dp un gd cn cs L a ccd cl outer) (call (.ref f) vs) Q E s := C _ _ _ _ _ _ _ _ _ _ _ _ _ _ _ _ _ _ B F X N T hk hp hd hu hr
theorem retT {D : Addr} {t1 t2 t3 : Tok} {c : Nat} {h' : Heap} {tk' : Nat} {y' mo' d' : Int} {s' : Shared} {news' : List (Addr × Obj)} (hr : ∀ (D : Addr) (t1 t2 t3 : Tok) (c : Nat) (h' : Heap) (tk' : Nat), (∀ p ∈ news, p.1 < D) → Fr h₀ L h' m → News h₀ L h' ((D, { cls := .type "tuple", data := .seq #[.int y t1, .int mo t2, .int d t3] c }) :: news) → Q (.ref D) { s with heap := h', toks := tk' })
    (hs : s' = { s with heap := h', toks := tk' }) (F : Fr h₀ L h' m) (N : News h₀ L h' news') (hm : (D, ({ cls := .type "tuple", data := .seq #[.int y' t1, .int mo' t2, .int d' t3] c } : Obj)) ∈ news') (hn : ∀ p ∈ news, p ∈ news') (hlt : ∀ p ∈ news, p.1 < D) (e1 : y' = y) (e2 : mo' = mo) (e3 : d' = d) : Q (.ref D) s' := by
  subst e1; subst e2; subst e3; subst hs
  refine hr D t1 t2 t3 c h' tk' hlt F fun p hp => ?_
  rcases List.mem_cons.mp hp with rfl | hp
  · exact N _ hm
  · exact N _ (hn p hp)
theorem allLt_mem {d : Addr} : ∀ {l : List (Addr × Obj)}, AllLt d l → ∀ p ∈ l, p.1 < d
  | [], _, _, h => nomatch h
  | _ :: _, x, p, h => by
    rcases List.mem_cons.mp h with rfl | h
    · exact x.1
    · exact allLt_mem x.2 p h
end claimT

theorem leap_iff (y : Int) : isLeap y = true ↔ (y % 4 = 0 ∧ (y % 100 ≠ 0 ∨ y % 400 = 0)) := by
  simp [isLeap]
theorem leap_not (y : Int) : isLeap y = false ↔ ¬ (y % 4 = 0 ∧ (y % 100 ≠ 0 ∨ y % 400 = 0)) := by
  rw [← leap_iff]; simp
theorem leap_mod (y : Int) : isLeap y = isLeap (y % 400) := by
  unfold isLeap
  rw [Int.emod_emod_of_dvd y (show (4 : Int) ∣ 400 by decide), Int.emod_emod_of_dvd y (show (100 : Int) ∣ 400 by decide), Int.emod_emod]

/-- the day of the year, counted from nought -/
def doy (y m d : Int) : Int := dbm y m + d - 1
theorem dbm_nonneg (y : Int) {m : Int} (h : 1 ≤ m ∧ m ≤ 12) : 0 ≤ dbm y m := allLM (P := fun L m => 0 ≤ dbmL L m) (by decide +kernel) (isLeap y) h
theorem doy_ge {y m d : Int} (h : 1 ≤ m ∧ m ≤ 12) (hd : 1 ≤ d) : 0 ≤ doy y m d :=
  Int.sub_nonneg_of_le (Int.le_trans hd (Int.le_add_of_nonneg_left (dbm_nonneg y h)))
theorem doy_lt {y m d : Int} (h : 1 ≤ m ∧ m ≤ 12) (hd : d ≤ dim y m) : doy y m d ≤ 364 + (if isLeap y then 1 else 0) :=
  Int.le_trans (Int.sub_le_sub_right (Int.add_le_add_left hd _) 1) (allLM (P := fun L m => dbmL L m + dimL L m - 1 ≤ 364 + (if L then 1 else 0)) (by decide +kernel) (isLeap y) h)
theorem doy_last {y m d : Int} (h : 1 ≤ m ∧ m ≤ 12) (hd : d ≤ dim y m) (e : doy y m d = 365) : m = 12 ∧ d = 31 ∧ isLeap y = true := by
  have h1 : dbm y m + dim y m - 1 ≤ 364 ∨ (m = 12 ∧ isLeap y = true ∧ dbm y m = 335) := allLM (P := fun L m => dbmL L m + dimL L m - 1 ≤ 364 ∨ (m = 12 ∧ L = true ∧ dbmL L m = 335)) (by decide +kernel) (isLeap y) h
  rcases h1 with h1 | ⟨h1, h2, h3⟩
  · have := Int.le_trans (Int.sub_le_sub_right (Int.add_le_add_left hd (dbm y m)) 1) h1
    unfold doy at e; rw [e] at this; exact absurd this (by decide)
  · unfold doy at e; rw [h3] at e
    exact ⟨h1, by lia, h2⟩

theorem ediv_of {x k q r : Int} (h : x = k * q + r) (h0 : 0 ≤ r) (h1 : r < k) : x / k = q := by
  rw [h, Int.add_comm, Int.add_mul_ediv_left _ _ (Int.ne_of_gt (Int.lt_of_le_of_lt h0 h1)), Int.ediv_eq_zero_of_lt h0 h1, Int.zero_add]
theorem emod_of {x k q r : Int} (h : x = k * q + r) (h0 : 0 ≤ r) (h1 : r < k) : x % k = r := by
  rw [h, Int.mul_add_emod_self_left, Int.emod_eq_of_lt h0 h1]
/-- a division's two parts are the only ones -/
theorem parts_uniq {k q r a s : Int} (h : k * a + s = k * q + r) (h0 : 0 ≤ r ∧ r < k) (g0 : 0 ≤ s ∧ s < k) : q = a ∧ r = s :=
  ⟨(ediv_of h h0.1 h0.2).symm.trans (ediv_of rfl g0.1 g0.2), (emod_of h h0.1 h0.2).symm.trans (emod_of rfl g0.1 g0.2)⟩

theorem lin {k c x n m : Int} (hk : 0 ≤ k) (hc : 0 ≤ c ∧ c ≤ n) (hx : 0 ≤ x ∧ x ≤ m) : 0 ≤ k * c + x ∧ k * c + x ≤ k * n + m :=
  ⟨Int.add_nonneg (Int.mul_nonneg hk hc.1) hx.1, Int.add_le_add (Int.mul_le_mul_of_nonneg_left hc.2 hk) hx.2⟩
theorem ltk {x m k : Int} (h : 0 ≤ x ∧ x ≤ m) (hk : m < k) : 0 ≤ x ∧ x < k := ⟨h.1, Int.lt_of_le_of_lt h.2 hk⟩
theorem dby_parts {y a b c e : Int} (hy : y - 1 = 400 * a + 100 * b + 4 * c + e) (hb : 0 ≤ b ∧ b ≤ 3) (hc : 0 ≤ c ∧ c ≤ 24) (he : 0 ≤ e ∧ e ≤ 3) : dby y = 146097 * a + 36524 * b + 1461 * c + 365 * e := by
  have l1 := lin (k := 4) (by decide) hc he
  have l2 := lin (k := 100) (by decide) hb l1
  have h1 : y - 1 = 4 * (100 * a + 25 * b + c) + e := by lia
  have h2 : y - 1 = 100 * (4 * a + b) + (4 * c + e) := by lia
  have h3 : y - 1 = 400 * a + (100 * b + (4 * c + e)) := by lia
  unfold dby
  rw [ediv_of h1 he.1 (Int.lt_add_one_of_le he.2), ediv_of h2 l1.1 (Int.lt_of_le_of_lt l1.2 (by decide)), ediv_of h3 l2.1 (Int.lt_of_le_of_lt l2.2 (by decide)), hy]
  clear h1 h2 h3 l1 l2 hb hc he hy
  lia
theorem leap_low : ∀ b : Fin 4, ∀ c : Fin 25, ∀ e : Fin 4, isLeap (100 * (b.val : Int) + 4 * (c.val : Int) + (e.val : Int) + 1) = decide ((e.val : Int) = 3 ∧ ((c.val : Int) ≠ 24 ∨ (b.val : Int) = 3)) := by decide +kernel
theorem fin0 {x : Int} {k : Nat} (h : 0 ≤ x ∧ x ≤ (k : Int)) : ∃ i : Fin (k + 1), x = (i.val : Int) := ⟨⟨x.toNat, by lia⟩, by simp only; lia⟩
theorem leap_parts {y a b c e : Int} (hy : y - 1 = 400 * a + 100 * b + 4 * c + e) (hb : 0 ≤ b ∧ b ≤ 3) (hc : 0 ≤ c ∧ c ≤ 24) (he : 0 ≤ e ∧ e ≤ 3) : isLeap y = true ↔ e = 3 ∧ (c ≠ 24 ∨ b = 3) := by
  obtain ⟨i, rfl⟩ := fin0 (k := 3) hb
  obtain ⟨j, rfl⟩ := fin0 (k := 24) hc
  obtain ⟨l, rfl⟩ := fin0 (k := 3) he
  have : y = 400 * a + (100 * (i.val : Int) + 4 * (j.val : Int) + (l.val : Int) + 1) := by lia
  rw [leap_mod, this, Int.mul_add_emod_self_left, ← leap_mod, leap_low i j l, decide_eq_true_iff]
theorem year_parts (y : Int) : ∃ a b c e, y - 1 = 400 * a + 100 * b + 4 * c + e ∧ (0 ≤ b ∧ b ≤ 3) ∧ (0 ≤ c ∧ c ≤ 24) ∧ (0 ≤ e ∧ e ≤ 3) := by
  generalize y - 1 = x
  have h1 := Int.mul_ediv_add_emod x 400
  have h2 := Int.mul_ediv_add_emod (x % 400) 100
  have h3 := Int.mul_ediv_add_emod (x % 400 % 100) 4
  have g1 := Int.emod_nonneg x (show (400 : Int) ≠ 0 by decide)
  have g2 := Int.emod_nonneg (x % 400) (show (100 : Int) ≠ 0 by decide)
  refine ⟨x / 400, x % 400 / 100, x % 400 % 100 / 4, x % 400 % 100 % 4, (by rw [Int.add_assoc, h3, Int.add_assoc, h2, h1]), ⟨Int.ediv_nonneg g1 (by decide), Int.le_of_lt_add_one (Int.ediv_lt_of_lt_mul (by decide) (Int.emod_lt_of_pos _ (by decide)))⟩,
    ⟨Int.ediv_nonneg g2 (by decide), Int.le_of_lt_add_one (Int.ediv_lt_of_lt_mul (by decide) (Int.emod_lt_of_pos _ (by decide)))⟩, ⟨Int.emod_nonneg _ (by decide), Int.le_of_lt_add_one (Int.emod_lt_of_pos _ (by decide))⟩⟩

theorem year_sum {y a b c e : Int} (hy : y - 1 = 400 * a + 100 * b + 4 * c + e) : y = a * 400 + 1 + (b * 100 + c * 4 + e) := by lia
/-- what _ord2ymd's divisions give -/
theorem ord_parts {y mo d : Int} (h : 1 ≤ mo ∧ mo ≤ 12) (hd : 1 ≤ d ∧ d ≤ dim y mo) {q400 r400 q100 r100 q4 r4 q1 r1 : Int}
    (e1 : ymd y mo d - 1 = 146097 * q400 + r400) (f1 : 0 ≤ r400 ∧ r400 < 146097) (e2 : r400 = 36524 * q100 + r100) (f2 : 0 ≤ r100 ∧ r100 < 36524)
    (e3 : r100 = 1461 * q4 + r4) (f3 : 0 ≤ r4 ∧ r4 < 1461) (e4 : r4 = 365 * q1 + r1) (f4 : 0 ≤ r1 ∧ r1 < 365) :
    ((q1 = 4 ∨ q100 = 4) ∧ r1 = 0 ∧ mo = 12 ∧ d = 31 ∧ y = q400 * 400 + 1 + (q100 * 100 + q4 * 4 + q1) - 1) ∨
    (q1 ≠ 4 ∧ q100 ≠ 4 ∧ y = q400 * 400 + 1 + (q100 * 100 + q4 * 4 + q1) ∧ r1 = doy y mo d ∧ (isLeap y = true ↔ q1 = 3 ∧ (q4 ≠ 24 ∨ q100 = 3))) := by
  obtain ⟨a, b, c, e, hy, hb, hc, he⟩ := year_parts y
  have hL := leap_parts hy hb hc he
  have g1 := doy_ge (y := y) h hd.1
  have hn : ymd y mo d - 1 = 146097 * a + (36524 * b + (1461 * c + (365 * e + doy y mo d))) := by
    unfold ymd doy; rw [dby_parts hy hb hc he]; lia
  have e1' := hn.symm.trans e1
  by_cases hD : doy y mo d = 365
  · obtain ⟨m12, d31, hl⟩ := doy_last h hd.2 hD
    obtain ⟨he3, hl'⟩ := hL.mp hl
    rw [hD] at e1'
    left
    obtain ⟨u1, v1⟩ := parts_uniq e1' f1 (ltk (lin (by decide) hb (lin (by decide) hc (lin (by decide) he (show (0 : Int) ≤ 365 ∧ (365 : Int) ≤ 365 by decide)))) (by decide))
    have e2' := v1.symm.trans e2
    have y1 := year_sum hy
    rw [he3] at e2' y1
    by_cases hc24 : c = 24
    · have hb3 : b = 3 := hl'.resolve_left (fun z => z hc24)
      rw [hc24] at e2' y1; rw [hb3] at e2' y1
      obtain ⟨u2, v2⟩ := parts_uniq (k := 36524) (a := 4) (s := 0) e2' f2 (by decide)
      obtain ⟨u3, v3⟩ := parts_uniq (k := 1461) (a := 0) (s := 0) (v2.symm.trans e3) f3 (by decide)
      obtain ⟨u4, v4⟩ := parts_uniq (k := 365) (a := 0) (s := 0) (v3.symm.trans e4) f4 (by decide)
      exact ⟨.inr u2, v4, m12, d31, by rw [u1, u2, u3, u4, y1]; lia⟩
    · have hc23 : 0 ≤ c ∧ c ≤ 23 := ⟨hc.1, Int.le_of_lt_add_one (Int.lt_iff_le_and_ne.mpr ⟨hc.2, hc24⟩)⟩
      obtain ⟨u2, v2⟩ := parts_uniq e2' f2 (ltk (lin (by decide) hc23 (show (0 : Int) ≤ 365 * 3 + 365 ∧ (365 * 3 + 365 : Int) ≤ 1460 by decide)) (by decide))
      obtain ⟨u3, v3⟩ := parts_uniq (v2.symm.trans e3) f3 (by decide)
      obtain ⟨u4, v4⟩ := parts_uniq (k := 365) (a := 4) (s := 0) (v3.symm.trans e4) f4 (by decide)
      exact ⟨.inl u4, v4, m12, d31, by rw [u1, u2, u3, u4, y1]; lia⟩
  · have g4 : 0 ≤ doy y mo d ∧ doy y mo d ≤ 364 := by
      have g2 := doy_lt h hd.2
      refine ⟨g1, ?_⟩
      split at g2
      · exact Int.le_of_lt_add_one (Int.lt_iff_le_and_ne.mpr ⟨g2, hD⟩)
      · exact g2
    right
    have l4 := lin (k := 365) (by decide) he g4
    have l3 := lin (k := 1461) (by decide) hc l4
    obtain ⟨u1, v1⟩ := parts_uniq e1' f1 (ltk (lin (by decide) hb l3) (by decide))
    obtain ⟨u2, v2⟩ := parts_uniq (v1.symm.trans e2) f2 (ltk l3 (by decide))
    obtain ⟨u3, v3⟩ := parts_uniq (v2.symm.trans e3) f3 (ltk l4 (by decide))
    obtain ⟨u4, v4⟩ := parts_uniq (v3.symm.trans e4) f4 (ltk g4 (by decide))
    rw [u1, u2, u3, u4]
    exact ⟨Int.ne_of_lt (Int.lt_of_le_of_lt he.2 (by decide)), Int.ne_of_lt (Int.lt_of_le_of_lt hb.2 (by decide)), year_sum hy, v4, hL⟩

theorem fdm (a : Int) {b : Int} (h : 0 < b) : a = b * a.fdiv b + a.fmod b ∧ 0 ≤ a.fmod b ∧ a.fmod b < b := by
  rw [fm (Int.le_of_lt h), fd (Int.le_of_lt h)]
  exact ⟨(Int.mul_ediv_add_emod a b).symm, Int.emod_nonneg _ (Int.ne_of_gt h), Int.emod_lt_of_pos _ h⟩
theorem mod400 (y : Int) : ∃ k : Fin 400, y % 400 = (k.val : Int) := fin0 (k := 399) ⟨Int.emod_nonneg y (by decide), Int.le_of_lt_add_one (Int.emod_lt_of_pos y (by decide))⟩

theorem dbm_succ (y : Int) {m : Int} (h : 1 ≤ m ∧ m ≤ 11) : dbm y (m + 1) = dbm y m + dim y m :=
  allLM (P := fun L m => m ≤ 11 → dbmL L (m + 1) = dbmL L m + dimL L m) (by decide +kernel) (isLeap y) ⟨h.1, Int.le_trans h.2 (by decide)⟩ h.2
theorem leap_ind_low : ∀ k : Fin 400, (if isLeap (k.val : Int) then (1 : Int) else 0) = (if (k.val : Int) % 4 = 0 then 1 else 0) - (if (k.val : Int) % 100 = 0 then 1 else 0) + (if (k.val : Int) % 400 = 0 then 1 else 0) := by decide +kernel
theorem leap_ind (y : Int) : (if isLeap y then (1 : Int) else 0) = (if y % 4 = 0 then 1 else 0) - (if y % 100 = 0 then 1 else 0) + (if y % 400 = 0 then 1 else 0) := by
  obtain ⟨k, hk⟩ := mod400 y
  have h := leap_ind_low k
  rw [← hk, Int.emod_emod_of_dvd y (show (4 : Int) ∣ 400 by decide), Int.emod_emod_of_dvd y (show (100 : Int) ∣ 400 by decide), Int.emod_emod] at h
  rw [leap_mod]; exact h
theorem div_pred (y : Int) {k : Int} (hk : 0 < k) : y / k = (y - 1) / k + (if y % k = 0 then 1 else 0) := by
  have h := Int.mul_ediv_add_emod y k
  have h0 := Int.emod_nonneg y (Int.ne_of_gt hk)
  have h1 := Int.emod_lt_of_pos y hk
  generalize y / k = q at *
  generalize y % k = r at *
  split
  · rename_i e
    rw [ediv_of (x := y - 1) (k := k) (q := q - 1) (r := k - 1) (by rw [Int.mul_sub, Int.mul_one, ← h, e]; lia) (by lia) (by lia)]; lia
  · rename_i e
    rw [ediv_of (x := y - 1) (k := k) (q := q) (r := r - 1) (by rw [← h, Int.add_sub_assoc]) (by lia) (by lia)]; lia
theorem dby_succ (y : Int) : dby (y + 1) = dby y + 365 + (if isLeap y then 1 else 0) := by
  unfold dby
  rw [leap_ind, Int.add_sub_cancel, div_pred y (k := 4) (by decide), div_pred y (k := 100) (by decide), div_pred y (k := 400) (by decide)]
  generalize (if y % 4 = 0 then (1 : Int) else 0) = u4
  generalize (if y % 100 = 0 then (1 : Int) else 0) = u100
  generalize (if y % 400 = 0 then (1 : Int) else 0) = u400
  generalize (y - 1) / 4 = v4
  generalize (y - 1) / 100 = v100
  generalize (y - 1) / 400 = v400
  lia
theorem dbm_one (y : Int) : dbm y 1 = 0 := by unfold dbm; rfl
theorem dbm_last (y : Int) : dbm y 12 = 334 + (if isLeap y then 1 else 0) := by unfold dbm; cases isLeap y <;> rfl
theorem dim_last (y : Int) : dim y 12 = 31 := by unfold dim; rfl
theorem ymd_day (y m d e : Int) : ymd y m (d + e) = ymd y m d + e := (Int.add_assoc _ _ _).symm
theorem ymd_year (y : Int) : ymd (y + 1) 1 1 = ymd y 12 31 + 1 := by
  unfold ymd; rw [dby_succ, dbm_one, dbm_last]; lia
theorem ymd_month (y : Int) {m : Int} (h : 1 ≤ m ∧ m ≤ 11) : ymd y (m + 1) 1 = ymd y m (dim y m) + 1 := by
  unfold ymd; rw [dbm_succ y h, ← Int.add_assoc]
def step (c : Int) (n : Nat) : Int := if 0 < c then (n : Int) else - (n : Int)
theorem step_zero (c : Int) : step c 0 = 0 := by unfold step; split <;> rfl
theorem step_up {c : Int} (h : 0 < c) (n : Nat) : step c (n + 1) = step c n + 1 := by unfold step; rw [if_pos h, if_pos h]; rfl
theorem step_down {c : Int} (h : ¬ 0 < c) (n : Nat) : step c (n + 1) = step c n - 1 := by unfold step; rw [if_neg h, if_neg h]; lia
theorem stU {c N y m d y' m' d' k : Int} {p : List Int} (hI : ymd y m d = N + step c p.length) (h1 : 1 ≤ d) (h2 : d ≤ dim y m) (h3 : 1 ≤ m) (h4 : m ≤ 12) (hc : 0 < c)
    (h : (y' = y ∧ m' = m ∧ d' = d + 1 ∧ d + 1 ≤ dim y m) ∨ (y' = y ∧ m' = m + 1 ∧ d' = 1 ∧ dim y m ≤ d ∧ m + 1 ≤ 12) ∨ (y' = y + 1 ∧ m' = 1 ∧ d' = 1 ∧ dim y m ≤ d ∧ 12 ≤ m)) :
    (1 ≤ m' ∧ m' ≤ 12) ∧ (1 ≤ d' ∧ d' ≤ dim y' m') ∧ ymd y' m' d' = N + step c (p ++ [k]).length := by
  rw [List.length_append, List.length_singleton, step_up hc, ← Int.add_assoc, ← hI]
  clear hI hc
  have one (y m : Int) : 1 ≤ dim y m := Int.le_trans (by decide) (dim_ge y m)
  rcases h with ⟨rfl, rfl, rfl, h⟩ | ⟨rfl, rfl, rfl, h, h5⟩ | ⟨rfl, rfl, rfl, h, h5⟩
  · exact ⟨⟨h3, h4⟩, ⟨Int.le_add_one h1, h⟩, ymd_day _ _ _ _⟩
  · cases Int.le_antisymm h2 h
    exact ⟨⟨Int.le_add_one h3, h5⟩, ⟨by decide, one _ _⟩, ymd_month y' ⟨h3, Int.le_of_add_le_add_right h5⟩⟩
  · cases Int.le_antisymm h4 h5
    rw [dim_last] at h h2
    cases Int.le_antisymm h2 h
    exact ⟨by decide, ⟨by decide, one _ _⟩, ymd_year y⟩
theorem stD {c N y m d y' m' d' k : Int} {p : List Int} (hI : ymd y m d = N + step c p.length) (h1 : 1 ≤ d) (h2 : d ≤ dim y m) (h3 : 1 ≤ m) (h4 : m ≤ 12) (hc : ¬ 0 < c)
    (h : (y' = y ∧ m' = m ∧ d' = d - 1 ∧ 1 ≤ d - 1) ∨ (y' = y ∧ m' = m - 1 ∧ d' = dim y' m' ∧ d ≤ 1 ∧ 1 ≤ m - 1) ∨ (y' = y - 1 ∧ m' = 12 ∧ d' = dim y' m' ∧ d ≤ 1 ∧ m ≤ 1)) :
    (1 ≤ m' ∧ m' ≤ 12) ∧ (1 ≤ d' ∧ d' ≤ dim y' m') ∧ ymd y' m' d' = N + step c (p ++ [k]).length := by
  rw [List.length_append, List.length_singleton, step_down hc, ← Int.add_sub_assoc, ← hI]
  clear hI hc
  have one (y m : Int) : 1 ≤ dim y m := Int.le_trans (by decide) (dim_ge y m)
  rcases h with ⟨rfl, rfl, rfl, h⟩ | ⟨rfl, rfl, rfl, h, h5⟩ | ⟨rfl, rfl, rfl, h, h5⟩
  · exact ⟨⟨h3, h4⟩, ⟨h, Int.le_trans (Int.sub_le_self _ (by decide)) h2⟩, ymd_day _ _ _ _⟩
  · cases Int.le_antisymm h h1
    have hq := ymd_month y' (m := m - 1) ⟨h5, Int.sub_le_sub_right h4 1⟩
    rw [Int.sub_add_cancel] at hq
    exact ⟨⟨h5, Int.le_trans (Int.sub_le_self _ (by decide)) h4⟩, ⟨one _ _, Int.le_refl _⟩, by rw [hq, Int.add_sub_cancel]⟩
  · cases Int.le_antisymm h h1
    cases Int.le_antisymm h5 h3
    have hq := ymd_year (y - 1)
    rw [Int.sub_add_cancel] at hq
    exact ⟨by decide, ⟨one _ _, Int.le_refl _⟩, by rw [dim_last, hq, Int.add_sub_cancel]⟩

theorem st0 {c N y m d : Int} (h1 : 1 ≤ m ∧ m ≤ 12) (h2 : 1 ≤ d ∧ d ≤ dim y m) : (1 ≤ m ∧ m ≤ 12) ∧ (1 ≤ d ∧ d ≤ dim y m) ∧ ymd y m d = ymd y m d + step c ([] : List Int).length :=
  ⟨h1, h2, by rw [List.length_nil, step_zero]; lia⟩

theorem genTokS {prog : Program} {w : World} {A : Around} {E : Value → Shared → Prop} {s : Shared} {env : Env} {nm : Str} {x : Int} {t0 : Tok} {Q : PUnit → Shared → Prop} (h : ∀ t, wpAny (model prog w) A (storeName env nm (.int x t)) Q E s) : wpAny (model prog w) A (storeName env nm (.int x t0)) Q E s := h _
theorem iteP {p : Prop} [Decidable p] {a b : Prop} (h : p) (ha : a) : if decide p = true then a else b := by rw [if_pos (by simpa using h)]; exact ha
theorem iteN {p : Prop} [Decidable p] {a b : Prop} (h : ¬ p) (hb : b) : if decide p = true then a else b := by rw [if_neg (by simpa using h)]; exact hb
theorem iteE {x y : Int} {a b : Prop} (h : x = y) (ha : a) : if (x == y) = true then a else b := by rw [if_pos (by simpa using h)]; exact ha
theorem iteNe {x y : Int} {a b : Prop} (h : x ≠ y) (hb : b) : if (x == y) = true then a else b := by rw [if_neg (by simpa using h)]; exact hb
theorem iteB {x y : Int} {a b : Prop} (h : x ≠ y) (ha : a) : if (x != y) = true then a else b := by rw [if_pos (by simpa using h)]; exact ha
theorem iteBn {x y : Int} {a b : Prop} (h : x = y) (hb : b) : if (x != y) = true then a else b := by rw [if_neg (by simpa using h)]; exact hb

theorem beqT {x y : Int} (h : x = y) : (x == y) = true := by simpa using h
theorem beqF {x y : Int} (h : x ≠ y) : (x == y) = false := by simpa using h
theorem bneT {x y : Int} (h : x ≠ y) : (x != y) = true := by simpa using h
theorem bneF {x y : Int} (h : x = y) : (x != y) = false := by simpa using h

theorem divmod_G {prog : Program} {w : World} {A : Around} {E : Value → Shared → Prop} {s : Shared} {h₀ : Heap} {L : Addr} {m : Str → Option Value} {news : List (Addr × Obj)} {a b : Int} {t u : Tok} {Q : Value → Shared → Prop} (F : Fr h₀ L s.heap m) (N : News h₀ L s.heap news) (hb : 0 < b) (hp : Builtin.divisionGoesByPylong a b = false)
    (h : ∀ (q r : Int) (t1 t2 : Tok) h' tk, a = b * q + r → (0 ≤ r ∧ r < b) → Fr h₀ L h' m → News h₀ L h' ((s.heap.objs.size, { cls := .type "tuple", data := .seq #[.int q t1, .int r t2] }) :: news) →
      Q (.ref s.heap.objs.size) { s with toks := tk, heap := h' }) :
    wpAny (model prog w) A (call (.builtin "divmod") [.int a t, .int b u]) Q E s :=
  divmod_N F N (Int.ne_of_gt hb) (fun h' F' N' => h _ _ _ _ h' _ (fdm a hb).1 (fdm a hb).2 F' N') (Or.inl hp)
/-- what the divisions of _ord2ymd give -/
def OD (y mo d q1 q4 q100 r1 yy : Int) : Prop := ((q1 = 4 ∨ q100 = 4) ∧ r1 = 0 ∧ mo = 12 ∧ d = 31 ∧ y = yy - 1) ∨ (q1 ≠ 4 ∧ q100 ≠ 4 ∧ y = yy ∧ r1 = doy y mo d ∧ (isLeap y = true ↔ q1 = 3 ∧ (q4 ≠ 24 ∨ q100 = 3)))
theorem ord_parts' {n y mo d : Int} (hn : ymd y mo d = n) (h : 1 ≤ mo ∧ mo ≤ 12) (hd : 1 ≤ d ∧ d ≤ dim y mo) {q400 r400 q100 r100 q4 r4 q1 r1 : Int}
    (e1 : n - 1 = 146097 * q400 + r400) (f1 : 0 ≤ r400 ∧ r400 < 146097) (e2 : r400 = 36524 * q100 + r100) (f2 : 0 ≤ r100 ∧ r100 < 36524)
    (e3 : r100 = 1461 * q4 + r4) (f3 : 0 ≤ r4 ∧ r4 < 1461) (e4 : r4 = 365 * q1 + r1) (f4 : 0 ≤ r1 ∧ r1 < 365) :
    OD y mo d q1 q4 q100 r1 (q400 * 400 + 1 + (q100 * 100 + q4 * 4 + q1)) :=
  ord_parts h hd (hn ▸ e1) f1 e2 f2 e3 f3 e4 f4
section ordcuts
variable {M : Model} {A : Around} {E : Value → Shared → Prop} {env : Env}
/-- a test's or an expression's value is one bool, and nothing but the tokens has moved -/
def BV (b : Bool) (s : Shared) (v : Value) (s' : Shared) : Prop := ∃ tk, v = .bool b ∧ s' = { s with toks := tk }
def BT (b : Bool) (s : Shared) (v : Bool) (s' : Shared) : Prop := ∃ tk, v = b ∧ s' = { s with toks := tk }
theorem cutV {t : Sem Value} {b : Bool} {s : Shared} {Q : Value → Shared → Prop} (h1 : wpAny M A t (BV b s) E s) (h2 : ∀ tk, Q (.bool b) { s with toks := tk }) : wpAny M A t Q E s :=
  wpAny_mono h1 (fun v s' ⟨tk, e1, e2⟩ => by subst e1; subst e2; exact h2 tk) (fun _ _ h => h)
theorem cutL {t : Sem Value} {b c : Bool} {s : Shared} {Q : Value → Shared → Prop} (hl : b = c) (h1 : wpAny M A t (BV c s) E s) (h2 : ∀ tk, Q (.bool b) { s with toks := tk }) : wpAny M A t Q E s := cutV (hl ▸ h1) h2
theorem cutOD {t : Sem Bool} {y mo d q1 q4 q100 r1 Y : Int} {s : Shared} {Q : Bool → Shared → Prop} (od : OD y mo d q1 q4 q100 r1 Y) (h1 : wpAny M A t (BT (q1 == 4 || q100 == 4) s) E s)
    (hA : ∀ tk, r1 = 0 → mo = 12 → d = 31 → y = Y - 1 → Q true { s with toks := tk }) (hB : ∀ tk, Y = y → r1 = doy y mo d → isLeap y = (q1 == 3 && (q4 != 24 || q100 == 3)) → Q false { s with toks := tk }) : wpAny M A t Q E s := by
  refine wpAny_mono h1 (fun v s' ⟨tk, e1, e2⟩ => ?_) (fun _ _ h => h)
  subst e1; subst e2
  rcases od with ⟨a, b, c, d, e⟩ | ⟨a, b, c, d, e⟩
  · rw [show (q1 == 4 || q100 == 4) = true by simpa using a]; exact hA tk b c d e
  · rw [show (q1 == 4 || q100 == 4) = false by simp [a, b]]
    exact hB tk c.symm d (by rw [Bool.eq_iff_iff, e]; simp)
theorem storeY {prog : Program} {w : World} {s : Shared} {Q : PUnit → Shared → Prop} {nm : Str} {t : Tok} {y mo d q1 q4 q100 r1 yy : Int} (od : OD y mo d q1 q4 q100 r1 yy) (h : ∀ Y, OD y mo d q1 q4 q100 r1 Y → wpAny (model prog w) A (storeName env nm (.int Y t)) Q E s) : wpAny (model prog w) A (storeName env nm (.int yy t)) Q E s := h _ od
theorem addP {prog : Program} {w : World} {s : Shared} {x P : Int} {t : Tok} {b : Bool} {Q : Value → Shared → Prop} (hz : (x + if b = true then (1 : Int) else 0) = P) (h : Q (.int P s.toks) { s with toks := s.toks + 1 }) : wpAny (model prog w) A (binaryOp .Add (.int x t) (.bool b)) Q E s := by
  subst hz; exact add_int_bool h
end ordcuts
theorem ew_all : ∀ L : Bool, ∀ m : Fin 12, ∀ d : Fin 31, (d.val : Int) + 1 ≤ dimL L ((m.val : Int) + 1) →
    let r := dbmL L ((m.val : Int) + 1) + ((d.val : Int) + 1) - 1
    let E := (r + 50) / 32
    let P := [-1, 0, 31, 59, 90, 120, 151, 181, 212, 243, 273, 304, 334].getD E.toNat 0 + (if (decide (2 < E) && L) = true then 1 else 0)
    let D := [-1, 31, 28, 31, 30, 31, 30, 31, 31, 30, 31, 30, 31].getD (E - 1).toNat 0 + (if (E - 1 == 2 && L) = true then 1 else 0)
    (1 ≤ E ∧ E ≤ 12) ∧ ((P ≤ r ∧ E = (m.val : Int) + 1 ∧ r - P + 1 = (d.val : Int) + 1) ∨ (r < P ∧ 2 ≤ E ∧ E - 1 = (m.val : Int) + 1 ∧ r - (P - D) + 1 = (d.val : Int) + 1)) := by decide +kernel
def PG (E P : Int) (L : Bool) : Prop := [-1, 0, 31, 59, 90, 120, 151, 181, 212, 243, 273, 304, 334].getD E.toNat 0 + (if (decide (2 < E) && L) = true then 1 else 0) = P
def PE (E D : Int) (L : Bool) : Prop := [-1, 31, 28, 31, 30, 31, 30, 31, 31, 30, 31, 30, 31].getD (E - 1).toNat 0 + (if (E - 1 == 2 && L) = true then 1 else 0) = D
theorem cutG {M : Model} {A : Around} {E' : Value → Shared → Prop} {t : Sem Value} {L : Bool} {E P : Int} {s : Shared} {Q : Value → Shared → Prop} (_ : PG E P L) (h1 : wpAny M A t (BV (decide (2 < E) && L) s) E' s) (h2 : ∀ tk, Q (.bool (decide (2 < E) && L)) { s with toks := tk }) : wpAny M A t Q E' s := cutV h1 h2
theorem cutE {M : Model} {A : Around} {E' : Value → Shared → Prop} {t : Sem Value} {L : Bool} {E P : Int} {s : Shared} {Q : Value → Shared → Prop} (_ : PE E P L) (h1 : wpAny M A t (BV (E - 1 == 2 && L) s) E' s) (h2 : ∀ tk, Q (.bool (E - 1 == 2 && L)) { s with toks := tk }) : wpAny M A t Q E' s := cutV h1 h2
theorem ew_of2 {y mo d r1 : Int} (h : 1 ≤ mo ∧ mo ≤ 12) (hd : 1 ≤ d ∧ d ≤ dim y mo) (hr : r1 = doy y mo d) :
    ∃ E P D, Int.fdiv (r1 + 50) (2 ^ Int.toNat 5) = E ∧ (1 ≤ E ∧ E ≤ 12) ∧ PG E P (isLeap y) ∧ PE E D (isLeap y) ∧
      ((P ≤ r1 ∧ E = mo ∧ r1 - P + 1 = d) ∨ (r1 < P ∧ 2 ≤ E ∧ E - 1 = mo ∧ r1 - (P - D) + 1 = d)) := by
  obtain ⟨m, rfl⟩ := fin_of (k := 12) h
  obtain ⟨e, rfl⟩ := fin_of (k := 31) ⟨hd.1, Int.le_trans hd.2 (dim_le _ _)⟩
  subst hr
  have := ew_all (isLeap y) m e hd.2
  exact ⟨_, _, _, fd (by decide), this.1, rfl, rfl, this.2⟩
theorem addG {A : Around} {E' : Value → Shared → Prop} {prog : Program} {w : World} {s : Shared} {E P : Int} {t : Tok} {L : Bool} {Q : Value → Shared → Prop} (hz : PG E P L) (h : Q (.int P s.toks) { s with toks := s.toks + 1 }) : wpAny (model prog w) A (binaryOp .Add (.int ([-1, 0, 31, 59, 90, 120, 151, 181, 212, 243, 273, 304, 334].getD E.toNat 0) t) (.bool (decide (2 < E) && L))) Q E' s := by
  subst hz; exact add_int_bool h
theorem addE {A : Around} {E' : Value → Shared → Prop} {prog : Program} {w : World} {s : Shared} {E P : Int} {t : Tok} {L : Bool} {Q : Value → Shared → Prop} (hz : PE E P L) (h : Q (.int P s.toks) { s with toks := s.toks + 1 }) : wpAny (model prog w) A (binaryOp .Add (.int ([-1, 31, 28, 31, 30, 31, 30, 31, 31, 30, 31, 30, 31].getD (E - 1).toNat 0) t) (.bool (E - 1 == 2 && L))) Q E' s := by
  subst hz; exact add_int_bool h
theorem BV.gt {E : Int} {c : Bool} {s : Shared} {tk : Nat} (h : 2 < E) : BV (decide (2 < E) && c) s (.bool c) { s with toks := tk } := ⟨tk, by rw [decide_eq_true h]; rfl, rfl⟩
theorem BV.gf {E : Int} {i : Decidable (2 < E)} {c : Bool} {s : Shared} {tk : Nat} (h : ¬ 2 < E) : BV (decide (2 < E) && c) s (.bool (@decide (2 < E) i)) { s with toks := tk } := ⟨tk, by simp [h], rfl⟩
theorem BV.et {x k : Int} {c : Bool} {s : Shared} {tk : Nat} (h : x = k) : BV (x == k && c) s (.bool c) { s with toks := tk } := ⟨tk, by rw [beqT h]; rfl, rfl⟩
theorem BV.ef {x k : Int} {c : Bool} {s : Shared} {tk : Nat} (h : x ≠ k) : BV (x == k && c) s (.bool (x == k)) { s with toks := tk } := ⟨tk, by rw [beqF h]; rfl, rfl⟩
theorem BV.o1 {x k z l : Int} {c : Bool} {s : Shared} {tk : Nat} (h : x = k) (g : z ≠ l) : BV (x == k && (z != l || c)) s (.bool (z != l)) { s with toks := tk } := ⟨tk, by rw [beqT h, bneT g]; rfl, rfl⟩
theorem BV.o2 {x k z l : Int} {c : Bool} {s : Shared} {tk : Nat} (h : x = k) (g : z = l) : BV (x == k && (z != l || c)) s (.bool c) { s with toks := tk } := ⟨tk, by rw [beqT h, bneF g]; rfl, rfl⟩
theorem BT.t1 {x k : Int} {c : Bool} {s : Shared} {tk : Nat} (h : x = k) : BT (x == k || c) s true { s with toks := tk } := ⟨tk, by rw [beqT h]; rfl, rfl⟩
theorem BT.t2 {x k : Int} {a : Bool} {s : Shared} {tk : Nat} (h : x = k) : BT (a || x == k) s true { s with toks := tk } := ⟨tk, by rw [beqT h]; cases a <;> rfl, rfl⟩
theorem BT.f {x k z l : Int} {s : Shared} {tk : Nat} (h : x ≠ k) (g : z ≠ l) : BT (x == k || z == l) s false { s with toks := tk } := ⟨tk, by rw [beqF h, beqF g]; rfl, rfl⟩
theorem iteA {p q : Prop} {d x X : Int} {i : Decidable (0 ≤ x)} (hd : 1 ≤ d ∧ d ≤ X) (h : x + 1 = d) (hp : p) : if @decide (0 ≤ x) i = true then p else q := by rw [if_pos (decide_eq_true (by omega))]; exact hp
theorem iteOk {p q : Prop} {d x y m m' : Int} {i : Decidable (x < dim y m')} (hd : 1 ≤ d ∧ d ≤ dim y m) (h : x + 1 = d) (hm : m' = m) (hp : p) : if @decide (x < dim y m') i = true then p else q := by subst hm; rw [if_pos (decide_eq_true (by omega))]; exact hp
theorem iteC {p q : Prop} {x : Int} (h : x = 0) (hp : p) : if (x == 0) = true then p else q := by subst h; exact hp
theorem iteR {p q : Prop} {b : Bool} (hp : p) : if (b == b) = true then p else q := by rw [if_pos (by simp)]; exact hp
theorem orT {a b : Bool} (h : a = true) : true = (a || b) := by rw [h]; rfl
theorem iteW {a b : Prop} {P r1 E mo d Dd : Int} {i : Decidable (r1 < P)} (hw : (P ≤ r1 ∧ E = mo ∧ r1 - P + 1 = d) ∨ (r1 < P ∧ 2 ≤ E ∧ E - 1 = mo ∧ r1 - (P - Dd) + 1 = d)) (hT : 2 ≤ E → E - 1 = mo → r1 - (P - Dd) + 1 = d → a) (hF : E = mo → r1 - P + 1 = d → b) : if @decide (r1 < P) i = true then a else b := by
  rcases hw with ⟨h1, h2, h3⟩ | ⟨h1, h2, h3, h4⟩
  · rw [decide_eq_false (Int.not_lt.mpr h1), if_neg (by decide)]; exact hF h2 h3
  · rw [decide_eq_true h1, if_pos rfl]; exact hT h2 h3 h4
section ordwalk
theorem iteTT {a b : Prop} (h : a) : if true = true then a else b := by rw [if_pos rfl]; exact h
theorem iteFT {a b : Prop} (h : b) : if false = true then a else b := by rw [if_neg (by decide)]; exact h
theorem c_ord (w : World) (mean : ExcName → Option Value) (mg mb : Str → Option Value) (y mo d : Int) (t0 : Tok) :
   ClT w mean mg mb 3 66 ((1 ≤ mo ∧ mo ≤ 12) ∧ (1 ≤ d ∧ d ≤ dim y mo)) [.int (ymd y mo d) t0] y mo d := by
  k_with_none
  (k_with "execs cons" => (k_here; (first | (with_reducible show wpAny _ _ _ _ _ (Shared.mk _ _ _ (HAdd.hAdd _ _) _)) | (with_reducible show wpAny _ _ _ _ _ (Shared.mk _ _ _ (Shared.toks _) _))); (with_reducible refine clean ?_); intro tk0; dsimp only))
  (k_with "mine asks" => ((case k1 => k_asm); (case k2 => k_asm); (case k3 => k_asm); (case k4 => k_asm); (case k5 => k_asm); (case kK => first | exact rfl | assumption); (case kp => first | trivial | assumption | ((try dsimp only); omega)); (case kd => ktr_room); (case ku => ktr_units)))
  (k_with "mine gotI" => (walk_at "mine asks"; intro t9 h9 tk9 F9 N9; (try dsimp only); (try k_fold)))
  (k_with "call ref" => (k_here; k_dflt (first | (refine' ClI.use (c_is_leap _ _ _ _ _ _) ?k1 ?k2 ?k3 ?k4 ?k5 ?kK ?kp ?kd ?ku ?_; walk_at "mine gotI") | (refine' ClI.use (c_days_before_year _ _ _ _ _ _) ?k1 ?k2 ?k3 ?k4 ?k5 ?kK ?kp ?kd ?ku ?_; walk_at "mine gotI"))))
  (k_with "subscriptTail" => (k_here; (with_reducible show wpAny _ _ (subscriptTail _ _ (Value.ref 15) (Value.int _ _)) _ _ _); (with_unfolding_all refine' tab_item (ns := [-1, 31, 28, 31, 30, 31, 30, 31, 31, 30, 31, 30, 31]) ?k1 ?k2 ?k3 ?k4 ?k5 ?k7 ?_ ?k6; (case k1 => k_asm); (case k2 => k_asm); (case k3 => kernel_rfl); (case k4 => omega); (case k5 => ((try simp only [List.length]); omega)); (case k7 => decide); (case k6 => with_unfolding_all rfl); k_whole); intro t'; (try dsimp only)))
  (k_with "subscriptTail" => (k_here; (with_reducible show wpAny _ _ (subscriptTail _ _ (Value.ref 16) (Value.int _ _)) _ _ _); (with_unfolding_all refine' tab_item (ns := [-1, 0, 31, 59, 90, 120, 151, 181, 212, 243, 273, 304, 334]) ?k1 ?k2 ?k3 ?k4 ?k5 ?k7 ?_ ?k6; (case k1 => k_asm); (case k2 => k_asm); (case k3 => kernel_rfl); (case k4 => omega); (case k5 => ((try simp only [List.length]); omega)); (case k7 => decide); (case k6 => with_unfolding_all rfl); k_whole); intro t'; (try dsimp only)))
  (k_with "mine asks" => ((case k1 => k_asm); (case k2 => k_asm); (case k3 => k_asm); (case k4 => k_asm); (case k5 => k_asm); (case kK => first | exact rfl | assumption); (case kp => first | trivial | assumption | ((try dsimp only); omega) | ((have hdm := dim_ge _ _); omega) | exact ⟨⟨by omega, by omega⟩, by omega, Int.le_trans (by omega) (dim_ge _ _)⟩); (case kd => ktr_room); (case ku => ktr_units)))
  (k_with "call ref" => (k_here; k_dflt (first | (refine' ClI.use (c_days_in_month _ _ _ _ _ _ _ _) ?k1 ?k2 ?k3 ?k4 ?k5 ?kK ?kp ?kd ?ku ?_; walk_at "mine gotI") | (refine' ClI.use (c_days_before_month _ _ _ _ _ _ _ _) ?k1 ?k2 ?k3 ?k4 ?k5 ?kK ?kp ?kd ?ku ?_; walk_at "mine gotI"))))
  (k_with "call ref" => (k_here; k_dflt (first | (refine' ClI.use (c_ymd2ord _ _ _ _ _ _ _ _ _ _) ?k1 ?k2 ?k3 ?k4 ?k5 ?kK ?kp ?kd ?ku ?_; walk_at "mine gotI"))))
  (k_with "exec Assert" => refine wpAny_Assert_msg rfl ?_)
  (k_with "call ref" => (k_here; k_dflt (first | (refine' ClI.use (c_isoweek1monday _ _ _ _ _ _) ?k1 ?k2 ?k3 ?k4 ?k5 ?kK ?kp ?kd ?ku ?_; walk_at "mine gotI"))))
  (k_with "storeName" => (k_here; (first | (with_reducible show wpAny _ _ (storeName _ _ (Value.int _ (HAdd.hAdd _ _))) _ _ _) | (with_reducible show wpAny _ _ (storeName _ _ (Value.int _ (Shared.toks _))) _ _ _)); (with_reducible refine genTokS ?_); intro tq; (try dsimp only)))
  (k_with "ite" => (k_here; first | (with_reducible refine iteE (by with_reducible assumption) ?_) | (with_reducible refine iteNe (by with_reducible assumption) ?_) | (with_reducible refine iteB (by with_reducible assumption) ?_) | (with_reducible refine iteBn (by with_reducible assumption) ?_) | (with_reducible refine iteP (by with_reducible assumption) ?_) | (with_reducible refine iteN (by with_reducible assumption) ?_) | (with_reducible refine iteE (by omega) ?_) | (with_reducible refine iteNe (by omega) ?_) | (with_reducible refine iteB (by omega) ?_) | (with_reducible refine iteBn (by omega) ?_) | (with_reducible refine iteP (by omega) ?_) | (with_reducible refine iteN (by omega) ?_)))
  (k_with "eval Call" => (k_here; (with_reducible show wpAny _ _ (eval (Expr.Call (Expr.Name _ _) _ [] _) _) _ _ _); k_dflt (refine Call_ ?_)))
  (k_with "call builtin:divmod" => (k_here; (with_reducible show wpAny _ _ (call (Value.builtin _) [Value.int _ _, Value.int _ _]) _ _ _); (refine divmod_G (by k_asm) (by k_asm) (by decide) (PyProof.noPylong_of_log2 (by decide +kernel)) ?_); intro q9 r9 t9 u9 h9 tk9 e9 f9 F9 N9; (try dsimp only); (try ((have od9 := ord_parts' (by with_reducible assumption) (by with_reducible assumption) (by with_reducible assumption) (by with_reducible assumption) (by with_reducible assumption) (by with_reducible assumption) (by with_reducible assumption) (by with_reducible assumption) (by with_reducible assumption) e9 f9); (repeat ((with_reducible rename (_ = _ * _ + _) => hz); clear hz)); (repeat ((with_reducible rename (0 ≤ _ ∧ _ < _) => hz); clear hz)); (with_reducible rename (ymd _ _ _ = _) => hz); clear hz))))
  (k_with "storeName" => (k_here; (with_reducible show wpAny _ _ (storeName _ _ (Value.int (HAdd.hAdd _ (HAdd.hAdd _ _)) _)) _ _ _); (with_reducible refine storeY (by with_reducible assumption) ?_); (with_reducible rename (OD _ _ _ _ _ _ _ _) => hz); clear hz; intro Y9 od9))
  (k_with "isTrue BoolOp" => (k_here; (fail_if_success (with_reducible show wpAny _ _ _ (BT _ _) _ _)); (with_reducible rename (OD _ _ _ _ _ _ _ _) => od9); (refine cutOD od9 ?_ ?_ ?_); rotate_left 1; intro tk9 o1 o2 o3 o4; clear od9; (try dsimp only); rotate_left 1; intro tk9 o1 o2 o3; clear od9; subst o1; (try dsimp only)))
  (k_with "ite" => (k_here; first | (with_reducible refine iteTT ?_) | (with_reducible refine iteFT ?_) | (with_reducible refine iteR ?_) | (with_reducible refine iteC (by with_reducible assumption) ?_) | (with_reducible refine iteA (by with_reducible assumption) (by with_reducible assumption) ?_) | (with_reducible refine iteOk (by with_reducible assumption) (by with_reducible assumption) (by with_reducible assumption) ?_) | ((with_reducible rename (_ ∨ _) => hz); (with_reducible refine iteW hz ?_ ?_) <;> (clear hz; intros))))
  (k_with "eval BoolOp" => (k_here; (fail_if_success (with_reducible show wpAny _ _ _ (BV _ _) _ _)); (with_reducible rename (isLeap _ = _) => hl9); (refine cutL hl9 ?_ ?_); rotate_left 1; clear hl9; intro tk9; (try dsimp only)))
  (k_with "eval BoolOp" => (k_here; (fail_if_success (with_reducible show wpAny _ _ _ (BV _ _) _ _)); (with_reducible rename (PG _ _ _) => hl9); (refine cutG hl9 ?_ ?_); rotate_left 1; intro tk9; (try dsimp only)))
  (k_with "eval BoolOp" => (k_here; (fail_if_success (with_reducible show wpAny _ _ _ (BV _ _) _ _)); (fail_if_success (with_reducible rename (PG _ _ _) => hl9)); (with_reducible rename (PE _ _ _) => hl9); (refine cutE hl9 ?_ ?_); rotate_left 1; intro tk9; (try dsimp only)))
  (k_with "storeName" => (k_here; (with_reducible show wpAny _ _ (storeName _ _ (Value.int (Int.fdiv _ _) _)) _ _ _); (obtain ⟨E9, P9, D9, hE9, hF9, hP9, hD9, hw9⟩ := ew_of2 (by with_reducible assumption) (by with_reducible assumption) (by with_reducible assumption)); rw [hE9]; clear hE9; ((with_reducible rename (_ = doy _ _ _) => hz); clear hz)))
  (k_with "binaryOp Add int bool" => (k_here; (first | ((with_reducible refine addG (by with_reducible assumption) ?_); ((with_reducible rename (PG _ _ _) => hz); clear hz)) | ((with_reducible refine addE (by with_reducible assumption) ?_); ((with_reducible rename (PE _ _ _) => hz); clear hz)))))
  (k_with "BV" => first | exact BV.gt (by with_reducible assumption) | exact BV.gf (by with_reducible assumption) | exact BV.o1 (by with_reducible assumption) (by with_reducible assumption) | exact BV.o2 (by with_reducible assumption) (by with_reducible assumption) | exact BV.et (by with_reducible assumption) | exact BV.ef (by with_reducible assumption))
  (k_with "BT" => first | exact BT.t1 (by with_reducible assumption) | exact BT.t2 (by with_reducible assumption) | exact BT.f (by with_reducible assumption) (by with_reducible assumption))
  unfold ClT
  k_fill; intro news dp un gd cn cs a ccd cl outer A₀ base h₀ L m s Q E hB hF hX hN hT hK hp hdp hun hret
  obtain ⟨hm, hd⟩ := hp
  generalize hn : ymd y mo d = n
  refine wpAny_call ?_; k_dflt cell_enter; k_steps
  all_goals ((refine retT (Q := Q) (s := s) hret rfl (by k_asm) (by k_asm) (by k_mem) (by intro p hp; (repeat (first | exact hp | refine List.Mem.tail _ ?_))) (by first | assumption | ((with_reducible rename (_ ∧ _ ∧ _ ∧ _ ∧ AllLt _ _) => l9); exact allLt_mem l9.2.2.2.2)) ?_ ?_ ?_) <;> first | with_reducible rfl | with_reducible assumption | omega)
end ordwalk

theorem c_ord' (w : World) (mean : ExcName → Option Value) (mg mb : Str → Option Value) (n y mo d : Int) (t0 : Tok) :
   ClT w mean mg mb 3 66 ((1 ≤ mo ∧ mo ≤ 12) ∧ (1 ≤ d ∧ d ≤ dim y mo) ∧ n = ymd y mo d) [.int n t0] y mo d := by
  unfold ClT
  k_fill; intro news dp un gd cn cs a ccd cl outer A₀ base h₀ L m s Q E hB hF hX hN hT hK hp hdp hun hret
  obtain ⟨h1, h2, rfl⟩ := hp
  exact (c_ord w mean mg mb y mo d t0).use hB hF hX hN hT hK ⟨h1, h2⟩ hdp hun hret
/-- the weeks of a year of weeks -/
def long (y : Int) : Prop := ymd y 1 1 % 7 = 4 ∨ (ymd y 1 1 % 7 = 3 ∧ isLeap y = true)
section isowalk
theorem c_iso_A (w : World) (mean : ExcName → Option Value) (mg mb : Str → Option Value) (y wk wd Y M D : Int) (t0 t1 t2 : Tok) :
   ClT w mean mg mb 5 73 ((1 ≤ y ∧ y ≤ 9999) ∧ (1 ≤ wk ∧ wk ≤ 52) ∧ (1 ≤ wd ∧ wd ≤ 7) ∧ (1 ≤ M ∧ M ≤ 12) ∧ (1 ≤ D ∧ D ≤ dim Y M) ∧ isoMon y + ((wk - 1) * 7 + (wd - 1)) = ymd Y M D) [.int y t0, .int wk t1, .int wd t2] Y M D := by
  k_with_none
  (k_with "execs cons" => (k_here; (first | (with_reducible show wpAny _ _ _ _ _ (Shared.mk _ _ _ (HAdd.hAdd _ _) _)) | (with_reducible show wpAny _ _ _ _ _ (Shared.mk _ _ _ (Shared.toks _) _))); (with_reducible refine clean ?_); intro tk0; dsimp only))
  (k_with "mine asks" => ((case k1 => k_asm); (case k2 => k_asm); (case k3 => k_asm); (case k4 => k_asm); (case k5 => k_asm); (case kK => first | exact rfl | assumption); (case kp => first | trivial | assumption | ((try dsimp only); omega)); (case kd => ktr_room); (case ku => ktr_units)))
  (k_with "mine gotI" => (walk_at "mine asks"; intro t9 h9 tk9 F9 N9; (try dsimp only); (try k_fold)))
  (k_with "call ref" => (k_here; k_dflt (first | (refine' ClI.use (c_is_leap _ _ _ _ _ _) ?k1 ?k2 ?k3 ?k4 ?k5 ?kK ?kp ?kd ?ku ?_; walk_at "mine gotI") | (refine' ClI.use (c_days_before_year _ _ _ _ _ _) ?k1 ?k2 ?k3 ?k4 ?k5 ?kK ?kp ?kd ?ku ?_; walk_at "mine gotI"))))
  (k_with "subscriptTail" => (k_here; (with_reducible show wpAny _ _ (subscriptTail _ _ (Value.ref 15) (Value.int _ _)) _ _ _); (with_unfolding_all refine' tab_item (ns := [-1, 31, 28, 31, 30, 31, 30, 31, 31, 30, 31, 30, 31]) ?k1 ?k2 ?k3 ?k4 ?k5 ?k7 ?_ ?k6; (case k1 => k_asm); (case k2 => k_asm); (case k3 => kernel_rfl); (case k4 => omega); (case k5 => ((try simp only [List.length]); omega)); (case k7 => decide); (case k6 => with_unfolding_all rfl); k_whole); intro t'; (try dsimp only)))
  (k_with "subscriptTail" => (k_here; (with_reducible show wpAny _ _ (subscriptTail _ _ (Value.ref 16) (Value.int _ _)) _ _ _); (with_unfolding_all refine' tab_item (ns := [-1, 0, 31, 59, 90, 120, 151, 181, 212, 243, 273, 304, 334]) ?k1 ?k2 ?k3 ?k4 ?k5 ?k7 ?_ ?k6; (case k1 => k_asm); (case k2 => k_asm); (case k3 => kernel_rfl); (case k4 => omega); (case k5 => ((try simp only [List.length]); omega)); (case k7 => decide); (case k6 => with_unfolding_all rfl); k_whole); intro t'; (try dsimp only)))
  (k_with "mine asks" => ((case k1 => k_asm); (case k2 => k_asm); (case k3 => k_asm); (case k4 => k_asm); (case k5 => k_asm); (case kK => first | exact rfl | assumption); (case kp => first | trivial | assumption | ((try dsimp only); omega) | ((have hdm := dim_ge _ _); omega) | exact ⟨⟨by omega, by omega⟩, by omega, Int.le_trans (by omega) (dim_ge _ _)⟩); (case kd => ktr_room); (case ku => ktr_units)))
  (k_with "call ref" => (k_here; k_dflt (first | (refine' ClI.use (c_days_in_month _ _ _ _ _ _ _ _) ?k1 ?k2 ?k3 ?k4 ?k5 ?kK ?kp ?kd ?ku ?_; walk_at "mine gotI") | (refine' ClI.use (c_days_before_month _ _ _ _ _ _ _ _) ?k1 ?k2 ?k3 ?k4 ?k5 ?kK ?kp ?kd ?ku ?_; walk_at "mine gotI"))))
  (k_with "call ref" => (k_here; k_dflt (first | (refine' ClI.use (c_ymd2ord _ _ _ _ _ _ _ _ _ _) ?k1 ?k2 ?k3 ?k4 ?k5 ?kK ?kp ?kd ?ku ?_; walk_at "mine gotI"))))
  (k_with "exec Assert" => refine wpAny_Assert_msg rfl ?_)
  (k_with "call ref" => (k_here; k_dflt (first | (refine' ClI.use (c_isoweek1monday _ _ _ _ _ _) ?k1 ?k2 ?k3 ?k4 ?k5 ?kK ?kp ?kd ?ku ?_; walk_at "mine gotI"))))
  (k_with "storeName" => (k_here; (first | (with_reducible show wpAny _ _ (storeName _ _ (Value.int _ (HAdd.hAdd _ _))) _ _ _) | (with_reducible show wpAny _ _ (storeName _ _ (Value.int _ (Shared.toks _))) _ _ _)); (with_reducible refine genTokS ?_); intro tq; (try dsimp only)))
  (k_with "ite" => (k_here; first | (with_reducible refine iteE (by with_reducible assumption) ?_) | (with_reducible refine iteNe (by with_reducible assumption) ?_) | (with_reducible refine iteB (by with_reducible assumption) ?_) | (with_reducible refine iteBn (by with_reducible assumption) ?_) | (with_reducible refine iteP (by with_reducible assumption) ?_) | (with_reducible refine iteN (by with_reducible assumption) ?_) | (with_reducible refine iteE (by omega) ?_) | (with_reducible refine iteNe (by omega) ?_) | (with_reducible refine iteB (by omega) ?_) | (with_reducible refine iteBn (by omega) ?_) | (with_reducible refine iteP (by omega) ?_) | (with_reducible refine iteN (by omega) ?_)))
  (k_with "eval Call" => (k_here; (with_reducible show wpAny _ _ (eval (Expr.Call (Expr.Name _ _) _ [] _) _) _ _ _); k_dflt (refine Call_ ?_)))
  (k_with "mine gotT" => ((case k1 => k_asm); (case k2 => k_asm); (case k3 => k_asm); (case k4 => k_asm); (case k5 => k_asm); (case kK => first | exact rfl | assumption); (case kp => walk_at "mine preT"); (case kd => ktr_room); (case ku => ktr_units); intro D9 t9 u9 v9 c9 h9 tk9 l9 F9 N9; (try dsimp only); (try k_fold)))
  (k_with "mine preT" => (refine' ⟨?p1, ?p2, ?p3⟩; (case p3 => assumption); (case p1 => assumption); (case p2 => assumption)))
  (k_with "call ref" => (k_here; k_dflt (first | (refine' ClT.use (c_ord' _ _ _ _ _ _ _ _ _) ?k1 ?k2 ?k3 ?k4 ?k5 ?kK ?kp ?kd ?ku ?_; walk_at "mine gotT"))))
  unfold ClT
  k_fill; intro news dp un gd cn cs a ccd cl outer A₀ base h₀ L m s Q E hB hF hX hN hT hK hp hdp hun hret
  obtain ⟨hy, hw, hv, hm, hd, he⟩ := hp
  refine wpAny_call ?_; k_dflt cell_enter; k_steps
  all_goals ((refine retT (Q := Q) (s := s) hret rfl (by k_asm) (by k_asm) (by k_mem) (by intro p hp; (repeat (first | exact hp | refine List.Mem.tail _ ?_))) (by first | assumption | ((with_reducible rename (_ ∧ _ ∧ _ ∧ _ ∧ AllLt _ _) => l9); exact allLt_mem l9.2.2.2.2)) ?_ ?_ ?_) <;> rfl)
theorem c_iso_B (w : World) (mean : ExcName → Option Value) (mg mb : Str → Option Value) (y wk wd Y M D : Int) (t0 t1 t2 : Tok) :
   ClT w mean mg mb 5 73 ((1 ≤ y ∧ y ≤ 9999) ∧ wk = 53 ∧ long y ∧ (1 ≤ wd ∧ wd ≤ 7) ∧ (1 ≤ M ∧ M ≤ 12) ∧ (1 ≤ D ∧ D ≤ dim Y M) ∧ isoMon y + ((wk - 1) * 7 + (wd - 1)) = ymd Y M D) [.int y t0, .int wk t1, .int wd t2] Y M D := by
  k_with_none
  (k_with "execs cons" => (k_here; (first | (with_reducible show wpAny _ _ _ _ _ (Shared.mk _ _ _ (HAdd.hAdd _ _) _)) | (with_reducible show wpAny _ _ _ _ _ (Shared.mk _ _ _ (Shared.toks _) _))); (with_reducible refine clean ?_); intro tk0; dsimp only))
  (k_with "mine asks" => ((case k1 => k_asm); (case k2 => k_asm); (case k3 => k_asm); (case k4 => k_asm); (case k5 => k_asm); (case kK => first | exact rfl | assumption); (case kp => first | trivial | assumption | ((try dsimp only); omega)); (case kd => ktr_room); (case ku => ktr_units)))
  (k_with "mine gotI" => (walk_at "mine asks"; intro t9 h9 tk9 F9 N9; (try dsimp only); (try k_fold)))
  (k_with "call ref" => (k_here; k_dflt (first | (refine' ClI.use (c_is_leap _ _ _ _ _ _) ?k1 ?k2 ?k3 ?k4 ?k5 ?kK ?kp ?kd ?ku ?_; walk_at "mine gotI") | (refine' ClI.use (c_days_before_year _ _ _ _ _ _) ?k1 ?k2 ?k3 ?k4 ?k5 ?kK ?kp ?kd ?ku ?_; walk_at "mine gotI"))))
  (k_with "subscriptTail" => (k_here; (with_reducible show wpAny _ _ (subscriptTail _ _ (Value.ref 15) (Value.int _ _)) _ _ _); (with_unfolding_all refine' tab_item (ns := [-1, 31, 28, 31, 30, 31, 30, 31, 31, 30, 31, 30, 31]) ?k1 ?k2 ?k3 ?k4 ?k5 ?k7 ?_ ?k6; (case k1 => k_asm); (case k2 => k_asm); (case k3 => kernel_rfl); (case k4 => omega); (case k5 => ((try simp only [List.length]); omega)); (case k7 => decide); (case k6 => with_unfolding_all rfl); k_whole); intro t'; (try dsimp only)))
  (k_with "subscriptTail" => (k_here; (with_reducible show wpAny _ _ (subscriptTail _ _ (Value.ref 16) (Value.int _ _)) _ _ _); (with_unfolding_all refine' tab_item (ns := [-1, 0, 31, 59, 90, 120, 151, 181, 212, 243, 273, 304, 334]) ?k1 ?k2 ?k3 ?k4 ?k5 ?k7 ?_ ?k6; (case k1 => k_asm); (case k2 => k_asm); (case k3 => kernel_rfl); (case k4 => omega); (case k5 => ((try simp only [List.length]); omega)); (case k7 => decide); (case k6 => with_unfolding_all rfl); k_whole); intro t'; (try dsimp only)))
  (k_with "mine asks" => ((case k1 => k_asm); (case k2 => k_asm); (case k3 => k_asm); (case k4 => k_asm); (case k5 => k_asm); (case kK => first | exact rfl | assumption); (case kp => first | trivial | assumption | ((try dsimp only); omega) | ((have hdm := dim_ge _ _); omega) | exact ⟨⟨by omega, by omega⟩, by omega, Int.le_trans (by omega) (dim_ge _ _)⟩); (case kd => ktr_room); (case ku => ktr_units)))
  (k_with "call ref" => (k_here; k_dflt (first | (refine' ClI.use (c_days_in_month _ _ _ _ _ _ _ _) ?k1 ?k2 ?k3 ?k4 ?k5 ?kK ?kp ?kd ?ku ?_; walk_at "mine gotI") | (refine' ClI.use (c_days_before_month _ _ _ _ _ _ _ _) ?k1 ?k2 ?k3 ?k4 ?k5 ?kK ?kp ?kd ?ku ?_; walk_at "mine gotI"))))
  (k_with "call ref" => (k_here; k_dflt (first | (refine' ClI.use (c_ymd2ord _ _ _ _ _ _ _ _ _ _) ?k1 ?k2 ?k3 ?k4 ?k5 ?kK ?kp ?kd ?ku ?_; walk_at "mine gotI"))))
  (k_with "exec Assert" => refine wpAny_Assert_msg rfl ?_)
  (k_with "call ref" => (k_here; k_dflt (first | (refine' ClI.use (c_isoweek1monday _ _ _ _ _ _) ?k1 ?k2 ?k3 ?k4 ?k5 ?kK ?kp ?kd ?ku ?_; walk_at "mine gotI"))))
  (k_with "storeName" => (k_here; (first | (with_reducible show wpAny _ _ (storeName _ _ (Value.int _ (HAdd.hAdd _ _))) _ _ _) | (with_reducible show wpAny _ _ (storeName _ _ (Value.int _ (Shared.toks _))) _ _ _)); (with_reducible refine genTokS ?_); intro tq; (try dsimp only)))
  (k_with "ite" => (k_here; first | (with_reducible refine iteE (by with_reducible assumption) ?_) | (with_reducible refine iteNe (by with_reducible assumption) ?_) | (with_reducible refine iteB (by with_reducible assumption) ?_) | (with_reducible refine iteBn (by with_reducible assumption) ?_) | (with_reducible refine iteP (by with_reducible assumption) ?_) | (with_reducible refine iteN (by with_reducible assumption) ?_) | (with_reducible refine iteE (by omega) ?_) | (with_reducible refine iteNe (by omega) ?_) | (with_reducible refine iteB (by omega) ?_) | (with_reducible refine iteBn (by omega) ?_) | (with_reducible refine iteP (by omega) ?_) | (with_reducible refine iteN (by omega) ?_)))
  (k_with "eval Call" => (k_here; (with_reducible show wpAny _ _ (eval (Expr.Call (Expr.Name _ _) _ [] _) _) _ _ _); k_dflt (refine Call_ ?_)))
  (k_with "mine gotT" => ((case k1 => k_asm); (case k2 => k_asm); (case k3 => k_asm); (case k4 => k_asm); (case k5 => k_asm); (case kK => first | exact rfl | assumption); (case kp => walk_at "mine preT"); (case kd => ktr_room); (case ku => ktr_units); intro D9 t9 u9 v9 c9 h9 tk9 l9 F9 N9; (try dsimp only); (try k_fold)))
  (k_with "mine preT" => (refine' ⟨?p1, ?p2, ?p3⟩; (case p3 => assumption); (case p1 => assumption); (case p2 => assumption)))
  (k_with "call ref" => (k_here; k_dflt (first | (refine' ClT.use (c_ord' _ _ _ _ _ _ _ _ _) ?k1 ?k2 ?k3 ?k4 ?k5 ?kK ?kp ?kd ?ku ?_; walk_at "mine gotT"))))
  unfold ClT
  k_fill; intro news dp un gd cn cs a ccd cl outer A₀ base h₀ L m s Q E hB hF hX hN hT hK hp hdp hun hret
  obtain ⟨hy, hw, hl, hv, hm, hd, he⟩ := hp
  unfold long at hl; rw [← fm (show (0:Int) ≤ 7 by decide)] at hl
  rcases hl with hl | ⟨hl, hl2⟩
  · refine wpAny_call ?_; k_dflt cell_enter; k_steps
    all_goals ((refine retT (Q := Q) (s := s) hret rfl (by k_asm) (by k_asm) (by k_mem) (by intro p hp; (repeat (first | exact hp | refine List.Mem.tail _ ?_))) (by first | assumption | ((with_reducible rename (_ ∧ _ ∧ _ ∧ _ ∧ AllLt _ _) => l9); exact allLt_mem l9.2.2.2.2)) ?_ ?_ ?_) <;> rfl)
  · refine wpAny_call ?_; k_dflt cell_enter; k_steps
    all_goals ((refine retT (Q := Q) (s := s) hret rfl (by k_asm) (by k_asm) (by k_mem) (by intro p hp; (repeat (first | exact hp | refine List.Mem.tail _ ?_))) (by first | assumption | ((with_reducible rename (_ ∧ _ ∧ _ ∧ _ ∧ AllLt _ _) => l9); exact allLt_mem l9.2.2.2.2)) ?_ ?_ ?_) <;> rfl)
theorem c_iso_xy (w : World) (mean : ExcName → Option Value) (mg mb : Str → Option Value) (y wk wd : Int) (t0 t1 t2 : Tok) :
   ClX w mean mg mb 5 73 ((y < 1 ∨ 9999 < y) ∧ y.natAbs < 10 ^ 13) [.int y t0, .int wk t1, .int wd t2] "ValueError" (Str.empty ++ Str.ofString "Year is out of range: " ++ Str.ofString (toString y)) := by
  k_with_none
  (k_with "execs cons" => (k_here; (first | (with_reducible show wpAny _ _ _ _ _ (Shared.mk _ _ _ (HAdd.hAdd _ _) _)) | (with_reducible show wpAny _ _ _ _ _ (Shared.mk _ _ _ (Shared.toks _) _))); (with_reducible refine clean ?_); intro tk0; dsimp only))
  (k_with "mine asks" => ((case k1 => k_asm); (case k2 => k_asm); (case k3 => k_asm); (case k4 => k_asm); (case k5 => k_asm); (case kK => first | exact rfl | assumption); (case kp => first | trivial | assumption | ((try dsimp only); omega)); (case kd => ktr_room); (case ku => ktr_units)))
  (k_with "mine gotI" => (walk_at "mine asks"; intro t9 h9 tk9 F9 N9; (try dsimp only); (try k_fold)))
  (k_with "call ref" => (k_here; k_dflt (first | (refine' ClI.use (c_is_leap _ _ _ _ _ _) ?k1 ?k2 ?k3 ?k4 ?k5 ?kK ?kp ?kd ?ku ?_; walk_at "mine gotI") | (refine' ClI.use (c_days_before_year _ _ _ _ _ _) ?k1 ?k2 ?k3 ?k4 ?k5 ?kK ?kp ?kd ?ku ?_; walk_at "mine gotI"))))
  (k_with "subscriptTail" => (k_here; (with_reducible show wpAny _ _ (subscriptTail _ _ (Value.ref 15) (Value.int _ _)) _ _ _); (with_unfolding_all refine' tab_item (ns := [-1, 31, 28, 31, 30, 31, 30, 31, 31, 30, 31, 30, 31]) ?k1 ?k2 ?k3 ?k4 ?k5 ?k7 ?_ ?k6; (case k1 => k_asm); (case k2 => k_asm); (case k3 => kernel_rfl); (case k4 => omega); (case k5 => ((try simp only [List.length]); omega)); (case k7 => decide); (case k6 => with_unfolding_all rfl); k_whole); intro t'; (try dsimp only)))
  (k_with "subscriptTail" => (k_here; (with_reducible show wpAny _ _ (subscriptTail _ _ (Value.ref 16) (Value.int _ _)) _ _ _); (with_unfolding_all refine' tab_item (ns := [-1, 0, 31, 59, 90, 120, 151, 181, 212, 243, 273, 304, 334]) ?k1 ?k2 ?k3 ?k4 ?k5 ?k7 ?_ ?k6; (case k1 => k_asm); (case k2 => k_asm); (case k3 => kernel_rfl); (case k4 => omega); (case k5 => ((try simp only [List.length]); omega)); (case k7 => decide); (case k6 => with_unfolding_all rfl); k_whole); intro t'; (try dsimp only)))
  (k_with "mine asks" => ((case k1 => k_asm); (case k2 => k_asm); (case k3 => k_asm); (case k4 => k_asm); (case k5 => k_asm); (case kK => first | exact rfl | assumption); (case kp => first | trivial | assumption | ((try dsimp only); omega) | ((have hdm := dim_ge _ _); omega) | exact ⟨⟨by omega, by omega⟩, by omega, Int.le_trans (by omega) (dim_ge _ _)⟩); (case kd => ktr_room); (case ku => ktr_units)))
  (k_with "call ref" => (k_here; k_dflt (first | (refine' ClI.use (c_days_in_month _ _ _ _ _ _ _ _) ?k1 ?k2 ?k3 ?k4 ?k5 ?kK ?kp ?kd ?ku ?_; walk_at "mine gotI") | (refine' ClI.use (c_days_before_month _ _ _ _ _ _ _ _) ?k1 ?k2 ?k3 ?k4 ?k5 ?kK ?kp ?kd ?ku ?_; walk_at "mine gotI"))))
  (k_with "call ref" => (k_here; k_dflt (first | (refine' ClI.use (c_ymd2ord _ _ _ _ _ _ _ _ _ _) ?k1 ?k2 ?k3 ?k4 ?k5 ?kK ?kp ?kd ?ku ?_; walk_at "mine gotI"))))
  (k_with "exec Assert" => refine wpAny_Assert_msg rfl ?_)
  (k_with "call ref" => (k_here; k_dflt (first | (refine' ClI.use (c_isoweek1monday _ _ _ _ _ _) ?k1 ?k2 ?k3 ?k4 ?k5 ?kK ?kp ?kd ?ku ?_; walk_at "mine gotI"))))
  (k_with "storeName" => (k_here; (first | (with_reducible show wpAny _ _ (storeName _ _ (Value.int _ (HAdd.hAdd _ _))) _ _ _) | (with_reducible show wpAny _ _ (storeName _ _ (Value.int _ (Shared.toks _))) _ _ _)); (with_reducible refine genTokS ?_); intro tq; (try dsimp only)))
  (k_with "ite" => (k_here; first | (with_reducible refine iteE (by with_reducible assumption) ?_) | (with_reducible refine iteNe (by with_reducible assumption) ?_) | (with_reducible refine iteB (by with_reducible assumption) ?_) | (with_reducible refine iteBn (by with_reducible assumption) ?_) | (with_reducible refine iteP (by with_reducible assumption) ?_) | (with_reducible refine iteN (by with_reducible assumption) ?_) | (with_reducible refine iteE (by omega) ?_) | (with_reducible refine iteNe (by omega) ?_) | (with_reducible refine iteB (by omega) ?_) | (with_reducible refine iteBn (by omega) ?_) | (with_reducible refine iteP (by omega) ?_) | (with_reducible refine iteN (by omega) ?_)))
  (k_with "eval Call" => (k_here; (with_reducible show wpAny _ _ (eval (Expr.Call (Expr.Name _ _) _ [] _) _) _ _ _); k_dflt (refine Call_ ?_)))
  (k_with "mine gotT" => ((case k1 => k_asm); (case k2 => k_asm); (case k3 => k_asm); (case k4 => k_asm); (case k5 => k_asm); (case kK => first | exact rfl | assumption); (case kp => walk_at "mine preT"); (case kd => ktr_room); (case ku => ktr_units); intro D9 t9 u9 v9 c9 h9 tk9 l9 F9 N9; (try dsimp only); (try k_fold)))
  (k_with "mine preT" => (refine' ⟨?p1, ?p2, ?p3⟩; (case p3 => assumption); (case p1 => assumption); (case p2 => assumption)))
  (k_with "call ref" => (k_here; k_dflt (first | (refine' ClT.use (c_ord' _ _ _ _ _ _ _ _ _) ?k1 ?k2 ?k3 ?k4 ?k5 ?kK ?kp ?kd ?ku ?_; walk_at "mine gotT"))))
  unfold ClX
  k_fill; intro news dp un gd cn cs a ccd outer A₀ base h₀ L m s Q E hB hF hX hN hT hK hXB hTB hD hp hdp hun hret
  refine wpAny_call ?_; k_dflt cell_enter; k_steps
  all_goals exact hret _ _ _ _ _ _ (by k_asm) (by assumption) (by assumption) (by assumption)
theorem c_iso_xw (w : World) (mean : ExcName → Option Value) (mg mb : Str → Option Value) (y wk wd : Int) (t0 t1 t2 : Tok) :
   ClX w mean mg mb 5 73 ((1 ≤ y ∧ y ≤ 9999) ∧ (wk = 53 ∧ ¬ long y ∨ wk = 54)) [.int y t0, .int wk t1, .int wd t2] "ValueError" (Str.empty ++ Str.ofString "Invalid week: " ++ Str.ofString (toString wk)) := by
  k_with_none
  (k_with "execs cons" => (k_here; (first | (with_reducible show wpAny _ _ _ _ _ (Shared.mk _ _ _ (HAdd.hAdd _ _) _)) | (with_reducible show wpAny _ _ _ _ _ (Shared.mk _ _ _ (Shared.toks _) _))); (with_reducible refine clean ?_); intro tk0; dsimp only))
  (k_with "mine asks" => ((case k1 => k_asm); (case k2 => k_asm); (case k3 => k_asm); (case k4 => k_asm); (case k5 => k_asm); (case kK => first | exact rfl | assumption); (case kp => first | trivial | assumption | ((try dsimp only); omega)); (case kd => ktr_room); (case ku => ktr_units)))
  (k_with "mine gotI" => (walk_at "mine asks"; intro t9 h9 tk9 F9 N9; (try dsimp only); (try k_fold)))
  (k_with "call ref" => (k_here; k_dflt (first | (refine' ClI.use (c_is_leap _ _ _ _ _ _) ?k1 ?k2 ?k3 ?k4 ?k5 ?kK ?kp ?kd ?ku ?_; walk_at "mine gotI") | (refine' ClI.use (c_days_before_year _ _ _ _ _ _) ?k1 ?k2 ?k3 ?k4 ?k5 ?kK ?kp ?kd ?ku ?_; walk_at "mine gotI"))))
  (k_with "subscriptTail" => (k_here; (with_reducible show wpAny _ _ (subscriptTail _ _ (Value.ref 15) (Value.int _ _)) _ _ _); (with_unfolding_all refine' tab_item (ns := [-1, 31, 28, 31, 30, 31, 30, 31, 31, 30, 31, 30, 31]) ?k1 ?k2 ?k3 ?k4 ?k5 ?k7 ?_ ?k6; (case k1 => k_asm); (case k2 => k_asm); (case k3 => kernel_rfl); (case k4 => omega); (case k5 => ((try simp only [List.length]); omega)); (case k7 => decide); (case k6 => with_unfolding_all rfl); k_whole); intro t'; (try dsimp only)))
  (k_with "subscriptTail" => (k_here; (with_reducible show wpAny _ _ (subscriptTail _ _ (Value.ref 16) (Value.int _ _)) _ _ _); (with_unfolding_all refine' tab_item (ns := [-1, 0, 31, 59, 90, 120, 151, 181, 212, 243, 273, 304, 334]) ?k1 ?k2 ?k3 ?k4 ?k5 ?k7 ?_ ?k6; (case k1 => k_asm); (case k2 => k_asm); (case k3 => kernel_rfl); (case k4 => omega); (case k5 => ((try simp only [List.length]); omega)); (case k7 => decide); (case k6 => with_unfolding_all rfl); k_whole); intro t'; (try dsimp only)))
  (k_with "mine asks" => ((case k1 => k_asm); (case k2 => k_asm); (case k3 => k_asm); (case k4 => k_asm); (case k5 => k_asm); (case kK => first | exact rfl | assumption); (case kp => first | trivial | assumption | ((try dsimp only); omega) | ((have hdm := dim_ge _ _); omega) | exact ⟨⟨by omega, by omega⟩, by omega, Int.le_trans (by omega) (dim_ge _ _)⟩); (case kd => ktr_room); (case ku => ktr_units)))
  (k_with "call ref" => (k_here; k_dflt (first | (refine' ClI.use (c_days_in_month _ _ _ _ _ _ _ _) ?k1 ?k2 ?k3 ?k4 ?k5 ?kK ?kp ?kd ?ku ?_; walk_at "mine gotI") | (refine' ClI.use (c_days_before_month _ _ _ _ _ _ _ _) ?k1 ?k2 ?k3 ?k4 ?k5 ?kK ?kp ?kd ?ku ?_; walk_at "mine gotI"))))
  (k_with "call ref" => (k_here; k_dflt (first | (refine' ClI.use (c_ymd2ord _ _ _ _ _ _ _ _ _ _) ?k1 ?k2 ?k3 ?k4 ?k5 ?kK ?kp ?kd ?ku ?_; walk_at "mine gotI"))))
  (k_with "exec Assert" => refine wpAny_Assert_msg rfl ?_)
  (k_with "call ref" => (k_here; k_dflt (first | (refine' ClI.use (c_isoweek1monday _ _ _ _ _ _) ?k1 ?k2 ?k3 ?k4 ?k5 ?kK ?kp ?kd ?ku ?_; walk_at "mine gotI"))))
  (k_with "storeName" => (k_here; (first | (with_reducible show wpAny _ _ (storeName _ _ (Value.int _ (HAdd.hAdd _ _))) _ _ _) | (with_reducible show wpAny _ _ (storeName _ _ (Value.int _ (Shared.toks _))) _ _ _)); (with_reducible refine genTokS ?_); intro tq; (try dsimp only)))
  (k_with "ite" => (k_here; first | (with_reducible refine iteE (by with_reducible assumption) ?_) | (with_reducible refine iteNe (by with_reducible assumption) ?_) | (with_reducible refine iteB (by with_reducible assumption) ?_) | (with_reducible refine iteBn (by with_reducible assumption) ?_) | (with_reducible refine iteP (by with_reducible assumption) ?_) | (with_reducible refine iteN (by with_reducible assumption) ?_) | (with_reducible refine iteE (by omega) ?_) | (with_reducible refine iteNe (by omega) ?_) | (with_reducible refine iteB (by omega) ?_) | (with_reducible refine iteBn (by omega) ?_) | (with_reducible refine iteP (by omega) ?_) | (with_reducible refine iteN (by omega) ?_)))
  (k_with "eval Call" => (k_here; (with_reducible show wpAny _ _ (eval (Expr.Call (Expr.Name _ _) _ [] _) _) _ _ _); k_dflt (refine Call_ ?_)))
  (k_with "mine gotT" => ((case k1 => k_asm); (case k2 => k_asm); (case k3 => k_asm); (case k4 => k_asm); (case k5 => k_asm); (case kK => first | exact rfl | assumption); (case kp => walk_at "mine preT"); (case kd => ktr_room); (case ku => ktr_units); intro D9 t9 u9 v9 c9 h9 tk9 l9 F9 N9; (try dsimp only); (try k_fold)))
  (k_with "mine preT" => (refine' ⟨?p1, ?p2, ?p3⟩; (case p3 => assumption); (case p1 => assumption); (case p2 => assumption)))
  (k_with "call ref" => (k_here; k_dflt (first | (refine' ClT.use (c_ord' _ _ _ _ _ _ _ _ _) ?k1 ?k2 ?k3 ?k4 ?k5 ?kK ?kp ?kd ?ku ?_; walk_at "mine gotT"))))
  unfold ClX
  k_fill; intro news dp un gd cn cs a ccd outer A₀ base h₀ L m s Q E hB hF hX hN hT hK hXB hTB hD hp hdp hun hret
  obtain ⟨hy, hw⟩ := hp
  have hw0 : 53 ≤ wk ∧ wk ≤ 54 := by omega
  unfold long at hw; rw [← fm (show (0:Int) ≤ 7 by decide)] at hw
  rcases hw with ⟨hw, hw2⟩ | hw
  · have hw3 : (ymd y 1 1).fmod 7 ≠ 4 := fun z => hw2 (.inl z)
    by_cases hw4 : (ymd y 1 1).fmod 7 = 3
    · have hw5 : isLeap y = false := by
        cases hl : isLeap y
        · rfl
        · exact absurd (.inr ⟨hw4, hl⟩) hw2
      clear hw2
      refine wpAny_call ?_; k_dflt cell_enter; k_steps
      all_goals exact hret _ _ _ _ _ _ (by k_asm) (by assumption) (by assumption) (by assumption)
    · clear hw2
      replace hw4 : (ymd y 1 1).fmod 7 ≠ 3 := hw4
      refine wpAny_call ?_; k_dflt cell_enter; k_steps
      all_goals exact hret _ _ _ _ _ _ (by k_asm) (by assumption) (by assumption) (by assumption)
  · refine wpAny_call ?_; k_dflt cell_enter; k_steps
    all_goals exact hret _ _ _ _ _ _ (by k_asm) (by assumption) (by assumption) (by assumption)
theorem c_iso_xd (w : World) (mean : ExcName → Option Value) (mg mb : Str → Option Value) (y wk wd : Int) (t0 t1 t2 : Tok) :
   ClX w mean mg mb 5 73 ((1 ≤ y ∧ y ≤ 9999) ∧ (1 ≤ wk ∧ wk ≤ 52 ∨ wk = 53 ∧ long y) ∧ (wd = 0 ∨ wd = 8)) [.int y t0, .int wk t1, .int wd t2] "ValueError" (Str.empty ++ Str.ofString "Invalid weekday: " ++ Str.ofString (toString wd) ++ Str.ofString " (range is [1, 7])") := by
  k_with_none
  (k_with "execs cons" => (k_here; (first | (with_reducible show wpAny _ _ _ _ _ (Shared.mk _ _ _ (HAdd.hAdd _ _) _)) | (with_reducible show wpAny _ _ _ _ _ (Shared.mk _ _ _ (Shared.toks _) _))); (with_reducible refine clean ?_); intro tk0; dsimp only))
  (k_with "mine asks" => ((case k1 => k_asm); (case k2 => k_asm); (case k3 => k_asm); (case k4 => k_asm); (case k5 => k_asm); (case kK => first | exact rfl | assumption); (case kp => first | trivial | assumption | ((try dsimp only); omega)); (case kd => ktr_room); (case ku => ktr_units)))
  (k_with "mine gotI" => (walk_at "mine asks"; intro t9 h9 tk9 F9 N9; (try dsimp only); (try k_fold)))
  (k_with "call ref" => (k_here; k_dflt (first | (refine' ClI.use (c_is_leap _ _ _ _ _ _) ?k1 ?k2 ?k3 ?k4 ?k5 ?kK ?kp ?kd ?ku ?_; walk_at "mine gotI") | (refine' ClI.use (c_days_before_year _ _ _ _ _ _) ?k1 ?k2 ?k3 ?k4 ?k5 ?kK ?kp ?kd ?ku ?_; walk_at "mine gotI"))))
  (k_with "subscriptTail" => (k_here; (with_reducible show wpAny _ _ (subscriptTail _ _ (Value.ref 15) (Value.int _ _)) _ _ _); (with_unfolding_all refine' tab_item (ns := [-1, 31, 28, 31, 30, 31, 30, 31, 31, 30, 31, 30, 31]) ?k1 ?k2 ?k3 ?k4 ?k5 ?k7 ?_ ?k6; (case k1 => k_asm); (case k2 => k_asm); (case k3 => kernel_rfl); (case k4 => omega); (case k5 => ((try simp only [List.length]); omega)); (case k7 => decide); (case k6 => with_unfolding_all rfl); k_whole); intro t'; (try dsimp only)))
  (k_with "subscriptTail" => (k_here; (with_reducible show wpAny _ _ (subscriptTail _ _ (Value.ref 16) (Value.int _ _)) _ _ _); (with_unfolding_all refine' tab_item (ns := [-1, 0, 31, 59, 90, 120, 151, 181, 212, 243, 273, 304, 334]) ?k1 ?k2 ?k3 ?k4 ?k5 ?k7 ?_ ?k6; (case k1 => k_asm); (case k2 => k_asm); (case k3 => kernel_rfl); (case k4 => omega); (case k5 => ((try simp only [List.length]); omega)); (case k7 => decide); (case k6 => with_unfolding_all rfl); k_whole); intro t'; (try dsimp only)))
  (k_with "mine asks" => ((case k1 => k_asm); (case k2 => k_asm); (case k3 => k_asm); (case k4 => k_asm); (case k5 => k_asm); (case kK => first | exact rfl | assumption); (case kp => first | trivial | assumption | ((try dsimp only); omega) | ((have hdm := dim_ge _ _); omega) | exact ⟨⟨by omega, by omega⟩, by omega, Int.le_trans (by omega) (dim_ge _ _)⟩); (case kd => ktr_room); (case ku => ktr_units)))
  (k_with "call ref" => (k_here; k_dflt (first | (refine' ClI.use (c_days_in_month _ _ _ _ _ _ _ _) ?k1 ?k2 ?k3 ?k4 ?k5 ?kK ?kp ?kd ?ku ?_; walk_at "mine gotI") | (refine' ClI.use (c_days_before_month _ _ _ _ _ _ _ _) ?k1 ?k2 ?k3 ?k4 ?k5 ?kK ?kp ?kd ?ku ?_; walk_at "mine gotI"))))
  (k_with "call ref" => (k_here; k_dflt (first | (refine' ClI.use (c_ymd2ord _ _ _ _ _ _ _ _ _ _) ?k1 ?k2 ?k3 ?k4 ?k5 ?kK ?kp ?kd ?ku ?_; walk_at "mine gotI"))))
  (k_with "exec Assert" => refine wpAny_Assert_msg rfl ?_)
  (k_with "call ref" => (k_here; k_dflt (first | (refine' ClI.use (c_isoweek1monday _ _ _ _ _ _) ?k1 ?k2 ?k3 ?k4 ?k5 ?kK ?kp ?kd ?ku ?_; walk_at "mine gotI"))))
  (k_with "storeName" => (k_here; (first | (with_reducible show wpAny _ _ (storeName _ _ (Value.int _ (HAdd.hAdd _ _))) _ _ _) | (with_reducible show wpAny _ _ (storeName _ _ (Value.int _ (Shared.toks _))) _ _ _)); (with_reducible refine genTokS ?_); intro tq; (try dsimp only)))
  (k_with "ite" => (k_here; first | (with_reducible refine iteE (by with_reducible assumption) ?_) | (with_reducible refine iteNe (by with_reducible assumption) ?_) | (with_reducible refine iteB (by with_reducible assumption) ?_) | (with_reducible refine iteBn (by with_reducible assumption) ?_) | (with_reducible refine iteP (by with_reducible assumption) ?_) | (with_reducible refine iteN (by with_reducible assumption) ?_) | (with_reducible refine iteE (by omega) ?_) | (with_reducible refine iteNe (by omega) ?_) | (with_reducible refine iteB (by omega) ?_) | (with_reducible refine iteBn (by omega) ?_) | (with_reducible refine iteP (by omega) ?_) | (with_reducible refine iteN (by omega) ?_)))
  (k_with "eval Call" => (k_here; (with_reducible show wpAny _ _ (eval (Expr.Call (Expr.Name _ _) _ [] _) _) _ _ _); k_dflt (refine Call_ ?_)))
  (k_with "mine gotT" => ((case k1 => k_asm); (case k2 => k_asm); (case k3 => k_asm); (case k4 => k_asm); (case k5 => k_asm); (case kK => first | exact rfl | assumption); (case kp => walk_at "mine preT"); (case kd => ktr_room); (case ku => ktr_units); intro D9 t9 u9 v9 c9 h9 tk9 l9 F9 N9; (try dsimp only); (try k_fold)))
  (k_with "mine preT" => (refine' ⟨?p1, ?p2, ?p3⟩; (case p3 => assumption); (case p1 => assumption); (case p2 => assumption)))
  (k_with "call ref" => (k_here; k_dflt (first | (refine' ClT.use (c_ord' _ _ _ _ _ _ _ _ _) ?k1 ?k2 ?k3 ?k4 ?k5 ?kK ?kp ?kd ?ku ?_; walk_at "mine gotT"))))
  unfold ClX
  k_fill; intro news dp un gd cn cs a ccd outer A₀ base h₀ L m s Q E hB hF hX hN hT hK hXB hTB hD hp hdp hun hret
  obtain ⟨hy, hw, hv⟩ := hp
  unfold long at hw; rw [← fm (show (0:Int) ≤ 7 by decide)] at hw
  rcases hw with hw | ⟨hw, hl | ⟨hl, hl2⟩⟩
  all_goals rcases hv with rfl | rfl
  all_goals (refine wpAny_call ?_; k_dflt cell_enter; k_steps)
  all_goals exact hret _ _ _ _ _ _ (by k_asm) (by assumption) (by assumption) (by assumption)
end isowalk

theorem lawLen_dim (y m : Int) : lawLen y m = dim y m := by
  have h : (y % 16 = 0 ∨ (y % 4 = 0 ∧ y % 25 ≠ 0)) ↔ isLeap y = true := by
    rw [leap_mod, ← Int.emod_emod_of_dvd y (show (4 : Int) ∣ 400 by decide), ← Int.emod_emod_of_dvd y (show (16 : Int) ∣ 400 by decide), ← Int.emod_emod_of_dvd y (show (25 : Int) ∣ 400 by decide)]
    obtain ⟨k, hk⟩ := mod400 y
    rw [hk]
    exact (by decide +kernel : ∀ k : Fin 400, ((k.val : Int) % 16 = 0 ∨ ((k.val : Int) % 4 = 0 ∧ (k.val : Int) % 25 ≠ 0)) ↔ isLeap (k.val : Int) = true) k
  unfold lawLen dim
  simp only [h]
theorem c_law_len (w : World) (mean : ExcName → Option Value) (mg mb : Str → Option Value) (y mo : Int) (t0 t1 : Tok) :
   ClI w mean mg mb 1 87 True [.int y t0, .int mo t1] (fun t => .int (dim y mo) t) := by
  have h := c_law_length w mean mg mb y mo t0 t1
  rw [lawLen_dim] at h
  exact h
theorem before_sum (y : Int) {mo : Int} (h : 1 ≤ mo ∧ mo ≤ 12) : (List.map (fun k => dim y k) (rangeKs 1 (mo - 1).toNat)).sum = dbm y mo :=
  allLM (P := fun L mo => (List.map (fun k => dimL L k) (rangeKs 1 (mo - 1).toNat)).sum = dbmL L mo) (by decide +kernel) (isLeap y) h
theorem c_law_before (w : World) (mean : ExcName → Option Value) (mg mb : Str → Option Value) (y mo : Int) (t0 t1 : Tok) :
   ClI w mean mg mb 2 92 (1 ≤ mo ∧ mo ≤ 12) [.int y t0, .int mo t1] (fun t => .int (dbm y mo) t) := by
  k_with_none
  (k_with "execs cons" => (k_here; (first | (with_reducible show wpAny _ _ _ _ _ (Shared.mk _ _ _ (HAdd.hAdd _ _) _)) | (with_reducible show wpAny _ _ _ _ _ (Shared.mk _ _ _ (Shared.toks _) _))); (with_reducible refine clean ?_); intro tk0; dsimp only))
  (k_with "mine asks" => ((case k1 => k_asm); (case k2 => k_asm); (case k3 => k_asm); (case k4 => k_asm); (case k5 => k_asm); (case kK => first | exact rfl | assumption); (case kp => first | trivial | assumption | ((try dsimp only); omega)); (case kd => ktr_room); (case ku => ktr_units)))
  (k_with "mine gotI" => (walk_at "mine asks"; intro t9 h9 tk9 F9 N9; (try dsimp only); (try k_fold)))
  (k_with "call ref" => (k_here; k_dflt (first | (refine' ClI.use (c_is_leap _ _ _ _ _ _) ?k1 ?k2 ?k3 ?k4 ?k5 ?kK ?kp ?kd ?ku ?_; walk_at "mine gotI") | (refine' ClI.use (c_days_before_year _ _ _ _ _ _) ?k1 ?k2 ?k3 ?k4 ?k5 ?kK ?kp ?kd ?ku ?_; walk_at "mine gotI"))))
  (k_with "subscriptTail" => (k_here; (with_reducible show wpAny _ _ (subscriptTail _ _ (Value.ref 15) (Value.int _ _)) _ _ _); (with_unfolding_all refine' tab_item (ns := [-1, 31, 28, 31, 30, 31, 30, 31, 31, 30, 31, 30, 31]) ?k1 ?k2 ?k3 ?k4 ?k5 ?k7 ?_ ?k6; (case k1 => k_asm); (case k2 => k_asm); (case k3 => kernel_rfl); (case k4 => omega); (case k5 => ((try simp only [List.length]); omega)); (case k7 => decide); (case k6 => with_unfolding_all rfl); k_whole); intro t'; (try dsimp only)))
  (k_with "subscriptTail" => (k_here; (with_reducible show wpAny _ _ (subscriptTail _ _ (Value.ref 16) (Value.int _ _)) _ _ _); (with_unfolding_all refine' tab_item (ns := [-1, 0, 31, 59, 90, 120, 151, 181, 212, 243, 273, 304, 334]) ?k1 ?k2 ?k3 ?k4 ?k5 ?k7 ?_ ?k6; (case k1 => k_asm); (case k2 => k_asm); (case k3 => kernel_rfl); (case k4 => omega); (case k5 => ((try simp only [List.length]); omega)); (case k7 => decide); (case k6 => with_unfolding_all rfl); k_whole); intro t'; (try dsimp only)))
  (k_with "mine asks" => ((case k1 => k_asm); (case k2 => k_asm); (case k3 => k_asm); (case k4 => k_asm); (case k5 => k_asm); (case kK => first | exact rfl | assumption); (case kp => first | trivial | assumption | ((try dsimp only); omega) | ((have hdm := dim_ge _ _); omega) | exact ⟨⟨by omega, by omega⟩, by omega, Int.le_trans (by omega) (dim_ge _ _)⟩); (case kd => ktr_room); (case ku => ktr_units)))
  (k_with "call ref" => (k_here; k_dflt (first | (refine' ClI.use (c_days_in_month _ _ _ _ _ _ _ _) ?k1 ?k2 ?k3 ?k4 ?k5 ?kK ?kp ?kd ?ku ?_; walk_at "mine gotI") | (refine' ClI.use (c_days_before_month _ _ _ _ _ _ _ _) ?k1 ?k2 ?k3 ?k4 ?k5 ?kK ?kp ?kd ?ku ?_; walk_at "mine gotI"))))
  (k_with "call ref" => (k_here; k_dflt (first | (refine' ClI.use (c_ymd2ord _ _ _ _ _ _ _ _ _ _) ?k1 ?k2 ?k3 ?k4 ?k5 ?kK ?kp ?kd ?ku ?_; walk_at "mine gotI"))))
  (k_with "exec Assert" => refine wpAny_Assert_msg rfl ?_)
  (k_with "call ref" => (k_here; k_dflt (first | (refine' ClI.use (c_isoweek1monday _ _ _ _ _ _) ?k1 ?k2 ?k3 ?k4 ?k5 ?kK ?kp ?kd ?ku ?_; walk_at "mine gotI"))))
  (k_with "storeName" => (k_here; (first | (with_reducible show wpAny _ _ (storeName _ _ (Value.int _ (HAdd.hAdd _ _))) _ _ _) | (with_reducible show wpAny _ _ (storeName _ _ (Value.int _ (Shared.toks _))) _ _ _)); (with_reducible refine genTokS ?_); intro tq; (try dsimp only)))
  (k_with "ite" => (k_here; first | (with_reducible refine iteE (by with_reducible assumption) ?_) | (with_reducible refine iteNe (by with_reducible assumption) ?_) | (with_reducible refine iteB (by with_reducible assumption) ?_) | (with_reducible refine iteBn (by with_reducible assumption) ?_) | (with_reducible refine iteP (by with_reducible assumption) ?_) | (with_reducible refine iteN (by with_reducible assumption) ?_) | (with_reducible refine iteE (by omega) ?_) | (with_reducible refine iteNe (by omega) ?_) | (with_reducible refine iteB (by omega) ?_) | (with_reducible refine iteBn (by omega) ?_) | (with_reducible refine iteP (by omega) ?_) | (with_reducible refine iteN (by omega) ?_)))
  (k_with "eval Call" => (k_here; (with_reducible show wpAny _ _ (eval (Expr.Call (Expr.Name _ _) _ [] _) _) _ _ _); k_dflt (refine Call_ ?_)))
  (k_with "mine gotT" => ((case k1 => k_asm); (case k2 => k_asm); (case k3 => k_asm); (case k4 => k_asm); (case k5 => k_asm); (case kK => first | exact rfl | assumption); (case kp => walk_at "mine preT"); (case kd => ktr_room); (case ku => ktr_units); intro D9 t9 u9 v9 c9 h9 tk9 l9 F9 N9; (try dsimp only); (try k_fold)))
  (k_with "mine preT" => (refine' ⟨?p1, ?p2, ?p3⟩; (case p3 => assumption); (case p1 => assumption); (case p2 => assumption)))
  (k_with "call ref" => (k_here; k_dflt (first | (refine' ClT.use (c_ord' _ _ _ _ _ _ _ _ _) ?k1 ?k2 ?k3 ?k4 ?k5 ?kK ?kp ?kd ?ku ?_; walk_at "mine gotT"))))
  (k_with "call ref" => (k_here; k_dflt (first | (refine' ClI.use (c_law_len _ _ _ _ _ _ _ _) ?k1 ?k2 ?k3 ?k4 ?k5 ?kK ?kp ?kd ?ku ?_; walk_at "mine gotI"))))
  unfold ClI
  k_fill; intro news dp un gd cn cs a ccd cl outer A₀ base h₀ L m s Q E hB hF hX hN hT hK hp hdp hun hret
  refine wpAny_call ?_; k_dflt (refine' code_defC ?k1 ?k2 ?k3 ?k4 ?k5 ?kA ?kF ?kK ?k6 ?k7 ?k8 ?k9 ?kB ?kD ?_ ?c2 ?c3 ?c4; (case kA => exact rfl); (case kF => exact rfl); (case kK => assumption); (case k1 => k_asm); (case k2 => k_asm); (case k3 => k_asm); (case k4 => k_asm); (case k5 => k_asm); (case k6 => k_is); (case k7 => k_is); (case k8 => ktr_room); (case k9 => exact BindsTo.of_eq rfl); (case kB => exact rfl); (case kD => decide +kernel); (case c2 => exact rfl); (case c3 => exact rfl); (case c4 => exact rfl); k_whole; intro g' L' h' tk' cells' FG' F' N' Y' B' X' T' l1; (try k_lt l1); k_cells Y'; (try simp only [List.cons_append, List.nil_append] at *); (try dsimp only); (try k_lift B'); (try k_fold)); k_steps
  all_goals (refine retN (Q := Q) (s := s) hret rfl (by k_asm) (by first | k_asm | (refine' cb_drop ?cbN ?cbS; (case cbN => assumption); (case cbS => kcj_all))) ?_; exact before_sum y hp)

section claimD
/-- a call that hands back a new tuple of three ints: the day whose number is n -/
def ClD (w : World) (mean : ExcName → Option Value) (mg mb : Str → Option Value) (k : Nat) (f : Addr) (pre : Prop) (vs : List Value) (n : Int) : Prop :=
  ∀ (news : List (Addr × Obj)) (dp un : Nat) (gd : Option (List Code)) (cn : Str) (cs : Scope) (a : Addr) (ccd : Value) (cl : List (Str × Addr)) (outer : List Env) (A₀ : Around) (base h₀ : Heap) (L : Addr) (m : Str → Option Value) (s : Shared) (Q E : Value → Shared → Prop),
    Below A₀ base outer h₀ → Fr h₀ L s.heap m → (hd.heap_39 w.params).In h₀ → News h₀ L s.heap news → Top hd.view_39 (looseW hd.view_39 [Str.ofString "_DAYS_IN_MONTH", Str.ofString "_DAYS_BEFORE_MONTH", Str.ofString "_DI400Y", Str.ofString "_DI100Y", Str.ofString "_DI4Y"]) mean mg mb h₀ → cs.kind = .function → pre → dp + k < recursionLimit → un + 8 * k < cLine →
    (∀ (y mo d : Int) (D : Addr) (t1 t2 t3 : Tok) (c : Nat) (h' : Heap) (tk' : Nat), (1 ≤ mo ∧ mo ≤ 12) → (1 ≤ d ∧ d ≤ dim y mo) → ymd y mo d = n → (∀ p ∈ news, p.1 < D) → Fr h₀ L h' m → News h₀ L h' ((D, { cls := .type "tuple", data := .seq #[.int y t1, .int mo t2, .int d t3] c }) :: news) → Q (.ref D) { s with heap := h', toks := tk' }) →
    wpAny (model Challenge.rw_mj0327_01.row.prog w) (ktrTop dp un gd cn cs L a ccd cl outer) (call (.ref f) vs) Q E s
variable {w : World} {mean : ExcName → Option Value} {mg mb : Str → Option Value} {k : Nat} {f : Addr} {pre : Prop} {vs : List Value} {n : Int} {news : List (Addr × Obj)} {dp un : Nat} {gd : Option (List Code)} {cn : Str} {cs : Scope} {a : Addr} {ccd : Value} {cl : List (Str × Addr)} {outer : List Env} {A₀ : Around} {base h₀ : Heap} {L : Addr} {m : Str → Option Value} {s : Shared} {Q E : Value → Shared → Prop}
theorem ClD.use (C : ClD w mean mg mb k f pre vs n) (B : Below A₀ base outer h₀) (F : Fr h₀ L s.heap m) (X : (hd.heap_39 w.params).In h₀) (N : News h₀ L s.heap news) (T : Top hd.view_39 (looseW hd.view_39 [Str.ofString "_DAYS_IN_MONTH", Str.ofString "_DAYS_BEFORE_MONTH", Str.ofString "_DI400Y", Str.ofString "_DI100Y", Str.ofString "_DI4Y"]) mean mg mb h₀) (hk : cs.kind = .function) (hp : pre) (hd : dp + k < recursionLimit) (hu : un + 8 * k < cLine)
    (hr : ∀ (y mo d : Int) (D : Addr) (t1 t2 t3 : Tok) (c : Nat) (h' : Heap) (tk' : Nat), (1 ≤ mo ∧ mo ≤ 12) → (1 ≤ d ∧ d ≤ dim y mo) → ymd y mo d = n → (∀ p ∈ news, p.1 < D) → Fr h₀ L h' m → News h₀ L h' ((D, { cls := .type "tuple", data := .seq #[.int y t1, .int mo t2, .int d t3] c }) :: news) → Q (.ref D) { s with heap := h', toks := tk' }) :
    wpAny (model Challenge.rw_mj0327_01.row.prog w) (ktrTop dp un gd cn cs L a ccd cl outer) (call (.ref f) vs) Q E s := C _ _ _ _ _ _ _ _ _ _ _ _ _ _ _ _ _ _ B F X N T hk hp hd hu hr
theorem retD {D : Addr} {t1 t2 t3 : Tok} {c : Nat} {h' : Heap} {tk' : Nat} {y mo d : Int} {s' : Shared} {news' : List (Addr × Obj)} (hr : ∀ (y mo d : Int) (D : Addr) (t1 t2 t3 : Tok) (c : Nat) (h' : Heap) (tk' : Nat), (1 ≤ mo ∧ mo ≤ 12) → (1 ≤ d ∧ d ≤ dim y mo) → ymd y mo d = n → (∀ p ∈ news, p.1 < D) → Fr h₀ L h' m → News h₀ L h' ((D, { cls := .type "tuple", data := .seq #[.int y t1, .int mo t2, .int d t3] c }) :: news) → Q (.ref D) { s with heap := h', toks := tk' })
    (hs : s' = { s with heap := h', toks := tk' }) (F : Fr h₀ L h' m) (N : News h₀ L h' news') (hm : (D, ({ cls := .type "tuple", data := .seq #[.int y t1, .int mo t2, .int d t3] c } : Obj)) ∈ news') (hn : ∀ p ∈ news, p ∈ news') (e1 : 1 ≤ mo ∧ mo ≤ 12) (e2 : 1 ≤ d ∧ d ≤ dim y mo) (e3 : ymd y mo d = n) (e4 : ∀ p ∈ news, p.1 < D) : Q (.ref D) s' := by
  subst hs
  refine hr y mo d D t1 t2 t3 c h' tk' e1 e2 e3 e4 F fun p hp => ?_
  rcases List.mem_cons.mp hp with rfl | hp
  · exact N _ hm
  · exact N _ (hn p hp)
end claimD
theorem lt_tail {D : Nat} {x : Addr × Obj} {l : List (Addr × Obj)} (h : ∀ p ∈ x :: l, @LT.lt Nat _ p.1 D) : ∀ p ∈ l, @LT.lt Nat _ p.1 D := fun p hp => h p (List.mem_cons_of_mem _ hp)
theorem days_end {X N c : Int} (h : X = N + step c (rangeKs 0 ((if c < 0 then -c else c) - 0).toNat).length) : X = N + c := by
  rw [h]; unfold step rangeKs; rw [List.length_map, List.length_range]
  split <;> split <;> lia
theorem c_law_days (w : World) (mean : ExcName → Option Value) (mg mb : Str → Option Value) (y mo d c : Int) (t0 t1 t2 t3 : Tok) :
   ClD w mean mg mb 2 99 ((1 ≤ mo ∧ mo ≤ 12) ∧ (1 ≤ d ∧ d ≤ dim y mo) ∧ (-100 ≤ c ∧ c ≤ 100)) [.int y t0, .int mo t1, .int d t2, .int c t3] (ymd y mo d + c) := by
  k_with_none
  (k_with "execs cons" => (k_here; (first | (with_reducible show wpAny _ _ _ _ _ (Shared.mk _ _ _ (HAdd.hAdd _ _) _)) | (with_reducible show wpAny _ _ _ _ _ (Shared.mk _ _ _ (Shared.toks _) _))); (with_reducible refine clean ?_); intro tk0; dsimp only))
  (k_with "mine asks" => ((case k1 => k_asm); (case k2 => k_asm); (case k3 => k_asm); (case k4 => k_asm); (case k5 => k_asm); (case kK => first | exact rfl | assumption); (case kp => first | trivial | assumption | ((try dsimp only); omega)); (case kd => ktr_room); (case ku => ktr_units)))
  (k_with "mine gotI" => (walk_at "mine asks"; intro t9 h9 tk9 F9 N9; (try dsimp only); (try k_fold)))
  (k_with "call ref" => (k_here; k_dflt (first | (refine' ClI.use (c_is_leap _ _ _ _ _ _) ?k1 ?k2 ?k3 ?k4 ?k5 ?kK ?kp ?kd ?ku ?_; walk_at "mine gotI") | (refine' ClI.use (c_days_before_year _ _ _ _ _ _) ?k1 ?k2 ?k3 ?k4 ?k5 ?kK ?kp ?kd ?ku ?_; walk_at "mine gotI"))))
  (k_with "subscriptTail" => (k_here; (with_reducible show wpAny _ _ (subscriptTail _ _ (Value.ref 15) (Value.int _ _)) _ _ _); (with_unfolding_all refine' tab_item (ns := [-1, 31, 28, 31, 30, 31, 30, 31, 31, 30, 31, 30, 31]) ?k1 ?k2 ?k3 ?k4 ?k5 ?k7 ?_ ?k6; (case k1 => k_asm); (case k2 => k_asm); (case k3 => kernel_rfl); (case k4 => omega); (case k5 => ((try simp only [List.length]); omega)); (case k7 => decide); (case k6 => with_unfolding_all rfl); k_whole); intro t'; (try dsimp only)))
  (k_with "subscriptTail" => (k_here; (with_reducible show wpAny _ _ (subscriptTail _ _ (Value.ref 16) (Value.int _ _)) _ _ _); (with_unfolding_all refine' tab_item (ns := [-1, 0, 31, 59, 90, 120, 151, 181, 212, 243, 273, 304, 334]) ?k1 ?k2 ?k3 ?k4 ?k5 ?k7 ?_ ?k6; (case k1 => k_asm); (case k2 => k_asm); (case k3 => kernel_rfl); (case k4 => omega); (case k5 => ((try simp only [List.length]); omega)); (case k7 => decide); (case k6 => with_unfolding_all rfl); k_whole); intro t'; (try dsimp only)))
  (k_with "mine asks" => ((case k1 => k_asm); (case k2 => k_asm); (case k3 => k_asm); (case k4 => k_asm); (case k5 => k_asm); (case kK => first | exact rfl | assumption); (case kp => first | trivial | assumption | ((try dsimp only); omega) | ((have hdm := dim_ge _ _); omega) | exact ⟨⟨by omega, by omega⟩, by omega, Int.le_trans (by omega) (dim_ge _ _)⟩); (case kd => ktr_room); (case ku => ktr_units)))
  (k_with "call ref" => (k_here; k_dflt (first | (refine' ClI.use (c_days_in_month _ _ _ _ _ _ _ _) ?k1 ?k2 ?k3 ?k4 ?k5 ?kK ?kp ?kd ?ku ?_; walk_at "mine gotI") | (refine' ClI.use (c_days_before_month _ _ _ _ _ _ _ _) ?k1 ?k2 ?k3 ?k4 ?k5 ?kK ?kp ?kd ?ku ?_; walk_at "mine gotI"))))
  (k_with "call ref" => (k_here; k_dflt (first | (refine' ClI.use (c_ymd2ord _ _ _ _ _ _ _ _ _ _) ?k1 ?k2 ?k3 ?k4 ?k5 ?kK ?kp ?kd ?ku ?_; walk_at "mine gotI"))))
  (k_with "exec Assert" => refine wpAny_Assert_msg rfl ?_)
  (k_with "call ref" => (k_here; k_dflt (first | (refine' ClI.use (c_isoweek1monday _ _ _ _ _ _) ?k1 ?k2 ?k3 ?k4 ?k5 ?kK ?kp ?kd ?ku ?_; walk_at "mine gotI"))))
  (k_with "storeName" => (k_here; (first | (with_reducible show wpAny _ _ (storeName _ _ (Value.int _ (HAdd.hAdd _ _))) _ _ _) | (with_reducible show wpAny _ _ (storeName _ _ (Value.int _ (Shared.toks _))) _ _ _)); (with_reducible refine genTokS ?_); intro tq; (try dsimp only)))
  (k_with "ite" => (k_here; first | (with_reducible refine iteE (by with_reducible assumption) ?_) | (with_reducible refine iteNe (by with_reducible assumption) ?_) | (with_reducible refine iteB (by with_reducible assumption) ?_) | (with_reducible refine iteBn (by with_reducible assumption) ?_) | (with_reducible refine iteP (by with_reducible assumption) ?_) | (with_reducible refine iteN (by with_reducible assumption) ?_) | (with_reducible refine iteE (by omega) ?_) | (with_reducible refine iteNe (by omega) ?_) | (with_reducible refine iteB (by omega) ?_) | (with_reducible refine iteBn (by omega) ?_) | (with_reducible refine iteP (by omega) ?_) | (with_reducible refine iteN (by omega) ?_)))
  (k_with "eval Call" => (k_here; (with_reducible show wpAny _ _ (eval (Expr.Call (Expr.Name _ _) _ [] _) _) _ _ _); k_dflt (refine Call_ ?_)))
  (k_with "mine gotT" => ((case k1 => k_asm); (case k2 => k_asm); (case k3 => k_asm); (case k4 => k_asm); (case k5 => k_asm); (case kK => first | exact rfl | assumption); (case kp => walk_at "mine preT"); (case kd => ktr_room); (case ku => ktr_units); intro D9 t9 u9 v9 c9 h9 tk9 l9 F9 N9; (try dsimp only); (try k_fold)))
  (k_with "mine preT" => (refine' ⟨?p1, ?p2, ?p3⟩; (case p3 => assumption); (case p1 => assumption); (case p2 => assumption)))
  (k_with "call ref" => (k_here; k_dflt (first | (refine' ClT.use (c_ord' _ _ _ _ _ _ _ _ _) ?k1 ?k2 ?k3 ?k4 ?k5 ?kK ?kp ?kd ?ku ?_; walk_at "mine gotT"))))
  (k_with "call ref" => (k_here; k_dflt (first | (refine' ClI.use (c_law_len _ _ _ _ _ _ _ _) ?k1 ?k2 ?k3 ?k4 ?k5 ?kK ?kp ?kd ?ku ?_; walk_at "mine gotI"))))
  (k_with "call ref" => (k_here; k_dflt (first | (refine' ClI.use (c_law_before _ _ _ _ _ _ _ _) ?k1 ?k2 ?k3 ?k4 ?k5 ?kK ?kp ?kd ?ku ?_; walk_at "mine gotI"))))
  (k_with "mine lt" => first | (with_reducible assumption) | exact lt_tail (by with_reducible assumption) | exact lt_tail (lt_tail (by with_reducible assumption)) | ((repeat (first | exact allLt_mem (by with_reducible assumption) | ((with_reducible rename (_ ∧ _) => hz9); obtain ⟨_, hz8⟩ := hz9)))))
  unfold ClD
  k_fill; intro news dp un gd cn cs a ccd cl outer A₀ base h₀ L m s Q E hB hF hX hN hT hK hp hdp hun hret
  obtain ⟨hm, hd, hc⟩ := hp
  (k_with "pyIter ref" => k_state_given ["count", "year!", "month!", "day!"] (fun c y0 m0 d0 pre y m d => (1 ≤ m ∧ m ≤ 12) ∧ (1 ≤ d ∧ d ≤ dim y m) ∧ ymd y m d = ymd y0 m0 d0 + step c pre.length) "year" "month" "day")
  (k_with "state" => (first | (refine ⟨by assumption, by assumption, ?_⟩; simp [step_zero]; done) | exact stU (by assumption) (by assumption) (by assumption) (by assumption) (by assumption) (by assumption) (by omega) | exact stD (by assumption) (by assumption) (by assumption) (by assumption) (by assumption) (by assumption) (by omega)))
  refine wpAny_call ?_; k_dflt cell_enter; k_steps
  all_goals (refine retD (Q := Q) (s := s) hret rfl (by k_asm) (by k_asm) (by k_mem) (by intro p hp; (repeat (first | exact hp | refine List.Mem.tail _ ?_))) ?_ ?_ ?_ ?_)
  all_goals first | exact ⟨by assumption, by assumption⟩ | exact days_end (by assumption) | walk_at "mine lt"

section claimM
abbrev tup3 (y mo d : Int) (t1 t2 t3 : Tok) (c : Nat) : Obj := { cls := .type "tuple", data := .seq #[.int y t1, .int mo t2, .int d t3] c }
abbrev RetM (news : List (Addr × Obj)) (h₀ : Heap) (L : Addr) (m : Str → Option Value) (s : Shared) (n : Int) (Q : Value → Shared → Prop) : Prop :=
  ∀ (y mo d n' : Int) (P D : Addr) (t1 t2 t3 t4 : Tok) (c c' : Nat) (h' : Heap) (tk' : Nat), (1 ≤ mo ∧ mo ≤ 12) → (1 ≤ d ∧ d ≤ dim y mo) → n' = ymd y mo d → (n - 1000 ≤ n' ∧ n' ≤ n + 1000) → (∀ p ∈ news, p.1 < P) → (∀ p ∈ news, p.1 < D) → Fr h₀ L h' m →
    News h₀ L h' ((P, { cls := .type "tuple", data := .seq #[.ref D, .int n' t4] c }) :: (D, { cls := .type "tuple", data := .seq #[.int y t1, .int mo t2, .int d t3] c' }) :: news) → Q (.ref P) { s with heap := h', toks := tk' }
/-- _law_moved hands back a new pair: a day and its number -/
def ClM (w : World) (mean : ExcName → Option Value) (mg mb : Str → Option Value) (k : Nat) (f : Addr) (pre : Prop) (D : Addr) (o : Obj) (n : Int) (vs : List Value) : Prop :=
  ∀ (news : List (Addr × Obj)) (dp un : Nat) (gd : Option (List Code)) (cn : Str) (cs : Scope) (a : Addr) (ccd : Value) (cl : List (Str × Addr)) (outer : List Env) (A₀ : Around) (base h₀ : Heap) (L : Addr) (m : Str → Option Value) (s : Shared) (Q E : Value → Shared → Prop),
    Below A₀ base outer h₀ → Fr h₀ L s.heap m → (hd.heap_39 w.params).In h₀ → News h₀ L s.heap news → Top hd.view_39 (looseW hd.view_39 [Str.ofString "_DAYS_IN_MONTH", Str.ofString "_DAYS_BEFORE_MONTH", Str.ofString "_DI400Y", Str.ofString "_DI100Y", Str.ofString "_DI4Y"]) mean mg mb h₀ → cs.kind = .function → pre → dp + k < recursionLimit → un + 8 * k < cLine → (D, o) ∈ news → RetM news h₀ L m s n Q →
    wpAny (model Challenge.rw_mj0327_01.row.prog w) (ktrTop dp un gd cn cs L a ccd cl outer) (call (.ref f) vs) Q E s
variable {w : World} {mean : ExcName → Option Value} {mg mb : Str → Option Value} {k : Nat} {f : Addr} {pre : Prop} {vs : List Value} {n : Int} {D₀ : Addr} {o : Obj} {news : List (Addr × Obj)} {dp un : Nat} {gd : Option (List Code)} {cn : Str} {cs : Scope} {a : Addr} {ccd : Value} {cl : List (Str × Addr)} {outer : List Env} {A₀ : Around} {base h₀ : Heap} {L : Addr} {m : Str → Option Value} {s : Shared} {Q E : Value → Shared → Prop}
theorem ClM.use (C : ClM w mean mg mb k f pre D₀ o n vs) (B : Below A₀ base outer h₀) (F : Fr h₀ L s.heap m) (X : (hd.heap_39 w.params).In h₀) (N : News h₀ L s.heap news) (T : Top hd.view_39 (looseW hd.view_39 [Str.ofString "_DAYS_IN_MONTH", Str.ofString "_DAYS_BEFORE_MONTH", Str.ofString "_DI400Y", Str.ofString "_DI100Y", Str.ofString "_DI4Y"]) mean mg mb h₀) (hk : cs.kind = .function) (hp : pre) (hd : dp + k < recursionLimit) (hu : un + 8 * k < cLine) (hD : (D₀, o) ∈ news)
    (hr : RetM news h₀ L m s n Q) :
    wpAny (model Challenge.rw_mj0327_01.row.prog w) (ktrTop dp un gd cn cs L a ccd cl outer) (call (.ref f) vs) Q E s := C _ _ _ _ _ _ _ _ _ _ _ _ _ _ _ _ _ _ B F X N T hk hp hd hu hD hr
theorem retM {P D : Addr} {t1 t2 t3 t4 : Tok} {c c' : Nat} {h' : Heap} {tk' : Nat} {y mo d n' : Int} {s' : Shared} {news' : List (Addr × Obj)} (hr : RetM news h₀ L m s n Q)
    (hs : s' = { s with heap := h', toks := tk' }) (F : Fr h₀ L h' m) (N : News h₀ L h' news') (hm : (P, ({ cls := .type "tuple", data := .seq #[.ref D, .int n' t4] c } : Obj)) ∈ news') (hm2 : (D, ({ cls := .type "tuple", data := .seq #[.int y t1, .int mo t2, .int d t3] c' } : Obj)) ∈ news') (hn : ∀ p ∈ news, p ∈ news')
    (e1 : 1 ≤ mo ∧ mo ≤ 12) (e2 : 1 ≤ d ∧ d ≤ dim y mo) (e3 : n' = ymd y mo d) (e4 : n - 1000 ≤ n' ∧ n' ≤ n + 1000) (e5 : ∀ p ∈ news, p.1 < P) (e6 : ∀ p ∈ news, p.1 < D) : Q (.ref P) s' := by
  subst hs
  refine hr y mo d n' P D t1 t2 t3 t4 c c' h' tk' e1 e2 e3 e4 e5 e6 F fun p hp => ?_
  rcases List.mem_cons.mp hp with rfl | hp
  · exact N _ hm
  · rcases List.mem_cons.mp hp with rfl | hp
    · exact N _ hm2
    · exact N _ (hn p hp)
end claimM
theorem cnt_ex (x n : Int) : ∃ C, [(x.fdiv 5).fmod 41, 0 - (x.fdiv 5).fmod 41, 0, 0, (4 - n).fmod 7].getD (x.fmod 5).toNat 0 = C ∧ (-100 ≤ C ∧ C ≤ 100) := by
  refine ⟨_, rfl, ?_⟩
  rw [fm (show (0:Int) ≤ 41 by decide), fm (show (0:Int) ≤ 7 by decide), fm (show (0:Int) ≤ 5 by decide)]
  have h : x % 5 = 0 ∨ x % 5 = 1 ∨ x % 5 = 2 ∨ x % 5 = 3 ∨ x % 5 = 4 := by lia
  rcases h with h | h | h | h | h <;> rw [h] <;> simp <;> lia
theorem ymd_zero (y m d : Int) : ymd y m d = ymd y m 0 + d := by unfold ymd; lia
theorem mv0 {y mo d n : Int} (hm : 1 ≤ mo ∧ mo ≤ 12) (hn : n = ymd y mo d) : (1 ≤ mo ∧ mo ≤ 12) ∧ n - d = ymd y mo 0 ∧ n - d ≤ n - d ∧ n - d ≤ n - d + 31 * (([] : List Int).length : Int) :=
  ⟨hm, by rw [ymd_zero] at hn; lia, by lia, by simp⟩
theorem mvU {num n0 y m y' m' k : Int} {p : List Int} (h0 : num = ymd y m 0) (h1 : n0 ≤ num) (h2 : num ≤ n0 + 31 * (p.length : Int)) (h3 : 1 ≤ m) (h4 : m ≤ 12)
    (h : (y' = y ∧ m' = m + 1 ∧ m < 12) ∨ (y' = y + 1 ∧ m' = 1 ∧ ¬ m < 12)) :
    (1 ≤ m' ∧ m' ≤ 12) ∧ num + dim y m = ymd y' m' 0 ∧ n0 ≤ num + dim y m ∧ num + dim y m ≤ n0 + 31 * ((p ++ [k]).length : Int) := by
  have g1 := dim_ge y m
  have g2 := dim_le y m
  rw [List.length_append, List.length_singleton]
  rcases h with ⟨rfl, rfl, h⟩ | ⟨rfl, rfl, h⟩
  · have := ymd_month y' (m := m) ⟨h3, by lia⟩
    rw [ymd_zero y' (m + 1) 1, ymd_zero y' m (dim y' m)] at this
    exact ⟨by lia, by lia, by lia, by lia⟩
  · have : m = 12 := by lia
    subst this
    have := ymd_year y
    have hd := dim_last y
    rw [ymd_zero (y + 1) 1 1, ymd_zero y 12 31] at this
    exact ⟨by lia, by lia, by lia, by lia⟩
theorem mv_last {y mo d n : Int} (hm : 1 ≤ mo ∧ mo ≤ 12) (hd : 1 ≤ d ∧ d ≤ dim y mo) (hn : n = ymd y mo d) : n + 337 + dim y 2 - dbm y mo - d = ymd y 12 31 := by
  unfold ymd at hn ⊢; rw [dbm_last]; unfold dim; simp; cases isLeap y <;> simp <;> lia
theorem mv_last2 {y mo d n : Int} (hm : 1 ≤ mo ∧ mo ≤ 12) (hd : 1 ≤ d ∧ d ≤ dim y mo) (hn : n = ymd y mo d) : n - 1000 ≤ n + 337 + dim y 2 - dbm y mo - d ∧ n + 337 + dim y 2 - dbm y mo - d ≤ n + 1000 := by
  have h1 := doy_ge (y := y) hm hd.1
  have h2 := doy_lt hm hd.2
  unfold doy at h1 h2
  have h3 : 28 ≤ dim y 2 := dim_ge y 2
  have h4 := dim_le y 2
  split at h2 <;> lia
theorem rng_len (x : Int) : 0 ≤ ((rangeKs 0 ((x.fdiv 5).fmod 25 - 0).toNat).length : Int) ∧ ((rangeKs 0 ((x.fdiv 5).fmod 25 - 0).toNat).length : Int) ≤ 24 := by
  unfold rangeKs; rw [List.length_map, List.length_range, fm (show (0:Int) ≤ 25 by decide)]; lia
theorem mn1 {Y M d : Int} (hd : 1 ≤ d) : (1 ≤ if dim Y M < d then dim Y M else d) ∧ (if dim Y M < d then dim Y M else d) ≤ dim Y M := by
  have := dim_ge Y M
  split <;> lia
theorem mn2 {num Y M e : Int} (h : num = ymd Y M 0) : num + e = ymd Y M e := by rw [ymd_zero Y M e]; lia
theorem mn3 {n d num Y M x y mo : Int} (hd : 1 ≤ d ∧ d ≤ dim y mo) (h1 : n - d ≤ num) (h2 : num ≤ n - d + 31 * ((rangeKs 0 ((x.fdiv 5).fmod 25 - 0).toNat).length : Int)) : (n - 1000 ≤ num + if dim Y M < d then dim Y M else d) ∧ (num + if dim Y M < d then dim Y M else d) ≤ n + 1000 := by
  have g1 := rng_len x
  have g2 := dim_le y mo
  have g3 := dim_ge Y M
  split <;> lia
theorem cnt_item {prog : Program} {w : World} {A : Around} {E : Value → Shared → Prop} {s : Shared} {value slice : PySem.Expr} {h₀ : Heap} {L : Addr} {news : List (Addr × Obj)} {l : Addr} {v0 v1 v2 v3 v4 : Int} {t0 t1 t2 t3 t4 : Tok} {n : Nat} {k : Int} {u : Tok} {Q : Value → Shared → Prop}
    (N : News h₀ L s.heap news) (hm : (l, listOf #[.int v0 t0, .int v1 t1, .int v2 t2, .int v3 t3, .int v4 t4] n) ∈ news) (hk : k = k.fmod 5) (h : ∀ t, Q (.int ([v0, v1, v2, v3, v4].getD k.toNat 0) t) s)
    (hs : subscripted slice false (.ref l) (.int k u) = operate [.ref l, .int k u] (getItem (.ref l) (.int k u))) :
    wpAny (model prog w) A (subscriptTail value slice (.ref l) (.int k u)) Q E s := by
  have hl : s.heap.IsList l #[.int v0 t0, .int v1 t1, .int v2 t2, .int v3 t3, .int v4 t4] := ⟨_, (N _ hm).1, rfl, n, rfl⟩
  rw [fm (by decide)] at hk
  have hk5 : k = 0 ∨ k = 1 ∨ k = 2 ∨ k = 3 ∨ k = 4 := by lia
  rcases hk5 with rfl | rfl | rfl | rfl | rfl
  · exact tail_any hl.typeIs slot_list_getitem.lookup (wpAny_getItem_list hl (by decide) (by decide) rfl (h t0)) hs
  · exact tail_any hl.typeIs slot_list_getitem.lookup (wpAny_getItem_list hl (by decide) (by decide) rfl (h t1)) hs
  · exact tail_any hl.typeIs slot_list_getitem.lookup (wpAny_getItem_list hl (by decide) (by decide) rfl (h t2)) hs
  · exact tail_any hl.typeIs slot_list_getitem.lookup (wpAny_getItem_list hl (by decide) (by decide) rfl (h t3)) hs
  · exact tail_any hl.typeIs slot_list_getitem.lookup (wpAny_getItem_list hl (by decide) (by decide) rfl (h t4)) hs
theorem fm55 (a : Int) : a.fmod 5 = (a.fmod 5).fmod 5 := by rw [fm (by decide), fm (by decide)]; lia
section movedwalk
theorem c_law_moved (w : World) (mean : ExcName → Option Value) (mg mb : Str → Option Value) (y mo d n x : Int) (D₀ : Addr) (c0 : Nat) (s1 s2 s3 t1 t2 : Tok) :
   ClM w mean mg mb 3 106 ((1 ≤ mo ∧ mo ≤ 12) ∧ (1 ≤ d ∧ d ≤ dim y mo) ∧ n = ymd y mo d) D₀ { cls := .type "tuple", data := .seq #[.int y s1, .int mo s2, .int d s3] c0 } n [.ref D₀, .int n t1, .int x t2] := by
  k_with_none
  (k_with "execs cons" => (k_here; (first | (with_reducible show wpAny _ _ _ _ _ (Shared.mk _ _ _ (HAdd.hAdd _ _) _)) | (with_reducible show wpAny _ _ _ _ _ (Shared.mk _ _ _ (Shared.toks _) _))); (with_reducible refine clean ?_); intro tk0; dsimp only))
  (k_with "mine asks" => ((case k1 => k_asm); (case k2 => k_asm); (case k3 => k_asm); (case k4 => k_asm); (case k5 => k_asm); (case kK => first | exact rfl | assumption); (case kp => first | trivial | assumption | ((try dsimp only); omega)); (case kd => ktr_room); (case ku => ktr_units)))
  (k_with "mine gotI" => (walk_at "mine asks"; intro t9 h9 tk9 F9 N9; (try dsimp only); (try k_fold)))
  (k_with "call ref" => (k_here; k_dflt (first | (refine' ClI.use (c_is_leap _ _ _ _ _ _) ?k1 ?k2 ?k3 ?k4 ?k5 ?kK ?kp ?kd ?ku ?_; walk_at "mine gotI") | (refine' ClI.use (c_days_before_year _ _ _ _ _ _) ?k1 ?k2 ?k3 ?k4 ?k5 ?kK ?kp ?kd ?ku ?_; walk_at "mine gotI"))))
  (k_with "subscriptTail" => (k_here; (with_reducible show wpAny _ _ (subscriptTail _ _ (Value.ref 15) (Value.int _ _)) _ _ _); (with_unfolding_all refine' tab_item (ns := [-1, 31, 28, 31, 30, 31, 30, 31, 31, 30, 31, 30, 31]) ?k1 ?k2 ?k3 ?k4 ?k5 ?k7 ?_ ?k6; (case k1 => k_asm); (case k2 => k_asm); (case k3 => kernel_rfl); (case k4 => omega); (case k5 => ((try simp only [List.length]); omega)); (case k7 => decide); (case k6 => with_unfolding_all rfl); k_whole); intro t'; (try dsimp only)))
  (k_with "subscriptTail" => (k_here; (with_reducible show wpAny _ _ (subscriptTail _ _ (Value.ref 16) (Value.int _ _)) _ _ _); (with_unfolding_all refine' tab_item (ns := [-1, 0, 31, 59, 90, 120, 151, 181, 212, 243, 273, 304, 334]) ?k1 ?k2 ?k3 ?k4 ?k5 ?k7 ?_ ?k6; (case k1 => k_asm); (case k2 => k_asm); (case k3 => kernel_rfl); (case k4 => omega); (case k5 => ((try simp only [List.length]); omega)); (case k7 => decide); (case k6 => with_unfolding_all rfl); k_whole); intro t'; (try dsimp only)))
  (k_with "mine asks" => ((case k1 => k_asm); (case k2 => k_asm); (case k3 => k_asm); (case k4 => k_asm); (case k5 => k_asm); (case kK => first | exact rfl | assumption); (case kp => first | trivial | assumption | ((try dsimp only); omega) | ((have hdm := dim_ge _ _); omega) | exact ⟨⟨by omega, by omega⟩, by omega, Int.le_trans (by omega) (dim_ge _ _)⟩); (case kd => ktr_room); (case ku => ktr_units)))
  (k_with "call ref" => (k_here; k_dflt (first | (refine' ClI.use (c_days_in_month _ _ _ _ _ _ _ _) ?k1 ?k2 ?k3 ?k4 ?k5 ?kK ?kp ?kd ?ku ?_; walk_at "mine gotI") | (refine' ClI.use (c_days_before_month _ _ _ _ _ _ _ _) ?k1 ?k2 ?k3 ?k4 ?k5 ?kK ?kp ?kd ?ku ?_; walk_at "mine gotI"))))
  (k_with "call ref" => (k_here; k_dflt (first | (refine' ClI.use (c_ymd2ord _ _ _ _ _ _ _ _ _ _) ?k1 ?k2 ?k3 ?k4 ?k5 ?kK ?kp ?kd ?ku ?_; walk_at "mine gotI"))))
  (k_with "exec Assert" => refine wpAny_Assert_msg rfl ?_)
  (k_with "call ref" => (k_here; k_dflt (first | (refine' ClI.use (c_isoweek1monday _ _ _ _ _ _) ?k1 ?k2 ?k3 ?k4 ?k5 ?kK ?kp ?kd ?ku ?_; walk_at "mine gotI"))))
  (k_with "storeName" => (k_here; (first | (with_reducible show wpAny _ _ (storeName _ _ (Value.int _ (HAdd.hAdd _ _))) _ _ _) | (with_reducible show wpAny _ _ (storeName _ _ (Value.int _ (Shared.toks _))) _ _ _)); (with_reducible refine genTokS ?_); intro tq; (try dsimp only)))
  (k_with "ite" => (k_here; first | (with_reducible refine iteE (by with_reducible assumption) ?_) | (with_reducible refine iteNe (by with_reducible assumption) ?_) | (with_reducible refine iteB (by with_reducible assumption) ?_) | (with_reducible refine iteBn (by with_reducible assumption) ?_) | (with_reducible refine iteP (by with_reducible assumption) ?_) | (with_reducible refine iteN (by with_reducible assumption) ?_) | (with_reducible refine iteE (by omega) ?_) | (with_reducible refine iteNe (by omega) ?_) | (with_reducible refine iteB (by omega) ?_) | (with_reducible refine iteBn (by omega) ?_) | (with_reducible refine iteP (by omega) ?_) | (with_reducible refine iteN (by omega) ?_)))
  (k_with "eval Call" => (k_here; (with_reducible show wpAny _ _ (eval (Expr.Call (Expr.Name _ _) _ [] _) _) _ _ _); k_dflt (refine Call_ ?_)))
  (k_with "mine gotT" => ((case k1 => k_asm); (case k2 => k_asm); (case k3 => k_asm); (case k4 => k_asm); (case k5 => k_asm); (case kK => first | exact rfl | assumption); (case kp => walk_at "mine preT"); (case kd => ktr_room); (case ku => ktr_units); intro D9 t9 u9 v9 c9 h9 tk9 l9 F9 N9; (try dsimp only); (try k_fold)))
  (k_with "mine preT" => (refine' ⟨?p1, ?p2, ?p3⟩; (case p3 => assumption); (case p1 => assumption); (case p2 => assumption)))
  (k_with "call ref" => (k_here; k_dflt (first | (refine' ClT.use (c_ord' _ _ _ _ _ _ _ _ _) ?k1 ?k2 ?k3 ?k4 ?k5 ?kK ?kp ?kd ?ku ?_; walk_at "mine gotT"))))
  (k_with "call ref" => (k_here; k_dflt (first | (refine' ClI.use (c_law_len _ _ _ _ _ _ _ _) ?k1 ?k2 ?k3 ?k4 ?k5 ?kK ?kp ?kd ?ku ?_; walk_at "mine gotI"))))
  (k_with "call ref" => (k_here; k_dflt (first | (refine' ClI.use (c_law_before _ _ _ _ _ _ _ _) ?k1 ?k2 ?k3 ?k4 ?k5 ?kK ?kp ?kd ?ku ?_; walk_at "mine gotI"))))
  (k_with "mine lt" => first | (with_reducible assumption) | exact lt_tail (by with_reducible assumption) | exact lt_tail (lt_tail (by with_reducible assumption)) | ((repeat (first | exact allLt_mem (by with_reducible assumption) | ((with_reducible rename (_ ∧ _) => hz9); obtain ⟨_, hz8⟩ := hz9)))))
  (k_with "mine gotD" => ((case k1 => k_asm); (case k2 => k_asm); (case k3 => k_asm); (case k4 => k_asm); (case k5 => k_asm); (case kK => first | exact rfl | assumption); (case kp => walk_at "mine preD"); (case kd => ktr_room); (case ku => ktr_units); intro y9 m9 d9 D9 t9 u9 v9 c9 h9 tk9 hm9 hd9 he9 l9 F9 N9; (try dsimp only); (try k_fold)))
  (k_with "mine preD" => (refine' ⟨?p1, ?p2, ?p3⟩; (case p1 => first | assumption | omega); (case p2 => assumption); (case p3 => omega)))
  (k_with "call ref" => (k_here; k_dflt (first | (refine' ClD.use (c_law_days _ _ _ _ _ _ _ _ _ _ _ _) ?k1 ?k2 ?k3 ?k4 ?k5 ?kK ?kp ?kd ?ku ?_; walk_at "mine gotD"))))
  (k_with "subscriptTail List" => (k_here; (with_reducible show wpAny _ _ (subscriptTail _ _ (Value.ref _) (Value.int (Int.fmod _ 5) _)) _ _ _); (with_unfolding_all refine' cnt_item ?k1 ?k2 ?k3 ?_ ?k6; (case k1 => k_asm); (case k2 => k_mem); (case k3 => exact fm55 _); (case k6 => with_unfolding_all rfl); k_whole); intro t9; (try dsimp only)))
  (k_with "storeName" => (k_here; (with_reducible show wpAny _ _ (storeName _ _ (Value.int (List.getD _ _ _) _)) _ _ _); (obtain ⟨C9, hC9, hD9⟩ := cnt_ex _ _); rw [hC9]; clear hC9))
  unfold ClM
  k_fill; intro news dp un gd cn cs a ccd cl outer A₀ base h₀ L m s Q E hB hF hX hN hT hK hp hdp hun hD hret
  obtain ⟨hm, hd, hn⟩ := hp
  (k_with "pyIter ref" => k_state_given ["number!"] (fun n0 pre num y m => (1 ≤ m ∧ m ≤ 12) ∧ num = ymd y m 0 ∧ n0 ≤ num ∧ num ≤ n0 + 31 * (pre.length : Int)) "number" "year" "month")
  (k_with "state" => (first | exact mvU (by assumption) (by assumption) (by assumption) (by assumption) (by assumption) (by omega) | (refine ⟨by assumption, ?_, Int.le_refl _, by simp⟩; exact (mv0 (by assumption) (by assumption)).2.1)))
  refine wpAny_call ?_; k_dflt cell_enter; k_steps
  all_goals (refine retM (Q := Q) (s := s) hret rfl (by k_asm) (by k_asm) (by k_mem) (by k_mem) (by intro p hp; (repeat (first | exact hp | refine List.Mem.tail _ ?_))) ?_ ?_ ?_ ?_ ?_ ?_)
  all_goals first
    | (walk_at "mine lt"; done)
    | decide
    | exact ⟨by decide, by rw [dim_last]; decide⟩
    | exact mv_last hm hd hn
    | exact mv_last2 hm hd hn
    | omega
    | exact ⟨by assumption, by assumption⟩
    | exact mn1 hd.1
    | exact mn2 (by assumption)
    | exact mn3 hd (by assumption) (by assumption)
end movedwalk

section claimS
abbrev RetS (news : List (Addr × Obj)) (outer : List Env) (A₀ : Around) (base : Heap) (w : World) (mean : ExcName → Option Value) (mg mb : Str → Option Value) (h₀ : Heap) (L : Addr) (m : Str → Option Value) (s : Shared) (Q : Value → Shared → Prop) (R : Tok → Value) : Prop :=
  ∀ (t : Tok) (h' : Heap) (tk' : Nat) (g : Heap), KtsTurn (outer.filterMap (·.frame)) h₀ g → Fr g L h' m → News g L h' news → Below A₀ base outer g → (hd.heap_39 w.params).In g → Top hd.view_39 (looseW hd.view_39 [Str.ofString "_DAYS_IN_MONTH", Str.ofString "_DAYS_BEFORE_MONTH", Str.ofString "_DI400Y", Str.ofString "_DI100Y", Str.ofString "_DI4Y"]) mean mg mb g → KtsDicts (outer.filterMap (·.frame)) g → Q (R t) { s with heap := h', toks := tk' }
/-- a call that may turn the frames below: it hands back a plain value -/
def ClS (w : World) (mean : ExcName → Option Value) (mg mb : Str → Option Value) (k : Nat) (f : Addr) (pre : Prop) (D : Addr) (o : Obj) (vs : List Value) (R : Tok → Value) : Prop :=
  ∀ (news : List (Addr × Obj)) (dp un : Nat) (gd : Option (List Code)) (cn : Str) (cs : Scope) (a : Addr) (ccd : Value) (outer : List Env) (A₀ : Around) (base h₀ : Heap) (L : Addr) (m : Str → Option Value) (s : Shared) (Q E : Value → Shared → Prop),
    Below A₀ base outer h₀ → Fr h₀ L s.heap m → (hd.heap_39 w.params).In h₀ → News h₀ L s.heap news → Top hd.view_39 (looseW hd.view_39 [Str.ofString "_DAYS_IN_MONTH", Str.ofString "_DAYS_BEFORE_MONTH", Str.ofString "_DI400Y", Str.ofString "_DI100Y", Str.ofString "_DI4Y"]) mean mg mb h₀ → cs.kind = .function →
    (hd.heap_39 w.params).In base → Top hd.view_39 (looseW hd.view_39 [Str.ofString "_DAYS_IN_MONTH", Str.ofString "_DAYS_BEFORE_MONTH", Str.ofString "_DI400Y", Str.ofString "_DI100Y", Str.ofString "_DI4Y"]) mean mg mb base → KtsDicts (outer.filterMap (·.frame)) h₀ → pre → dp + k < recursionLimit → un + 8 * k < cLine → (D, o) ∈ news → RetS news outer A₀ base w mean mg mb h₀ L m s Q R →
    wpAny (model Challenge.rw_mj0327_01.row.prog w) (ktrTop dp un gd cn cs L a ccd [] outer) (call (.ref f) vs) Q E s
variable {w : World} {mean : ExcName → Option Value} {mg mb : Str → Option Value} {k : Nat} {f : Addr} {pre : Prop} {vs : List Value} {R : Tok → Value} {D₀ : Addr} {o : Obj} {news : List (Addr × Obj)} {dp un : Nat} {gd : Option (List Code)} {cn : Str} {cs : Scope} {a : Addr} {ccd : Value} {outer : List Env} {A₀ : Around} {base h₀ : Heap} {L : Addr} {m : Str → Option Value} {s : Shared} {Q E : Value → Shared → Prop}
theorem ClS.use (C : ClS w mean mg mb k f pre D₀ o vs R) (B : Below A₀ base outer h₀) (F : Fr h₀ L s.heap m) (X : (hd.heap_39 w.params).In h₀) (N : News h₀ L s.heap news) (T : Top hd.view_39 (looseW hd.view_39 [Str.ofString "_DAYS_IN_MONTH", Str.ofString "_DAYS_BEFORE_MONTH", Str.ofString "_DI400Y", Str.ofString "_DI100Y", Str.ofString "_DI4Y"]) mean mg mb h₀) (hk : cs.kind = .function) (XB : (hd.heap_39 w.params).In base) (TB : Top hd.view_39 (looseW hd.view_39 [Str.ofString "_DAYS_IN_MONTH", Str.ofString "_DAYS_BEFORE_MONTH", Str.ofString "_DI400Y", Str.ofString "_DI100Y", Str.ofString "_DI4Y"]) mean mg mb base) (D : KtsDicts (outer.filterMap (·.frame)) h₀) (hp : pre) (hd : dp + k < recursionLimit) (hu : un + 8 * k < cLine) (hM : (D₀, o) ∈ news)
    (hr : RetS news outer A₀ base w mean mg mb h₀ L m s Q R) :
    wpAny (model Challenge.rw_mj0327_01.row.prog w) (ktrTop dp un gd cn cs L a ccd [] outer) (call (.ref f) vs) Q E s := C _ _ _ _ _ _ _ _ _ _ _ _ _ _ _ _ _ B F X N T hk XB TB D hp hd hu hM hr
abbrev RetST (news : List (Addr × Obj)) (outer : List Env) (A₀ : Around) (base : Heap) (w : World) (mean : ExcName → Option Value) (mg mb : Str → Option Value) (h₀ : Heap) (L : Addr) (m : Str → Option Value) (s : Shared) (Q : Value → Shared → Prop) (y mo d : Int) : Prop :=
  ∀ (D : Addr) (t1 t2 t3 : Tok) (c : Nat) (h' : Heap) (tk' : Nat) (g : Heap), (∀ p ∈ news, p.1 < D) → KtsTurn (outer.filterMap (·.frame)) h₀ g → Fr g L h' m → News g L h' ((D, { cls := .type "tuple", data := .seq #[.int y t1, .int mo t2, .int d t3] c }) :: news) → Below A₀ base outer g → (hd.heap_39 w.params).In g → Top hd.view_39 (looseW hd.view_39 [Str.ofString "_DAYS_IN_MONTH", Str.ofString "_DAYS_BEFORE_MONTH", Str.ofString "_DI400Y", Str.ofString "_DI100Y", Str.ofString "_DI4Y"]) mean mg mb g → KtsDicts (outer.filterMap (·.frame)) g → Q (.ref D) { s with heap := h', toks := tk' }
/-- the same, and it hands back a new tuple of three ints -/
def ClST (w : World) (mean : ExcName → Option Value) (mg mb : Str → Option Value) (k : Nat) (f : Addr) (pre : Prop) (D : Addr) (o : Obj) (vs : List Value) (y mo d : Int) : Prop :=
  ∀ (news : List (Addr × Obj)) (dp un : Nat) (gd : Option (List Code)) (cn : Str) (cs : Scope) (a : Addr) (ccd : Value) (outer : List Env) (A₀ : Around) (base h₀ : Heap) (L : Addr) (m : Str → Option Value) (s : Shared) (Q E : Value → Shared → Prop),
    Below A₀ base outer h₀ → Fr h₀ L s.heap m → (hd.heap_39 w.params).In h₀ → News h₀ L s.heap news → Top hd.view_39 (looseW hd.view_39 [Str.ofString "_DAYS_IN_MONTH", Str.ofString "_DAYS_BEFORE_MONTH", Str.ofString "_DI400Y", Str.ofString "_DI100Y", Str.ofString "_DI4Y"]) mean mg mb h₀ → cs.kind = .function →
    (hd.heap_39 w.params).In base → Top hd.view_39 (looseW hd.view_39 [Str.ofString "_DAYS_IN_MONTH", Str.ofString "_DAYS_BEFORE_MONTH", Str.ofString "_DI400Y", Str.ofString "_DI100Y", Str.ofString "_DI4Y"]) mean mg mb base → KtsDicts (outer.filterMap (·.frame)) h₀ → pre → dp + k < recursionLimit → un + 8 * k < cLine → (D, o) ∈ news → RetST news outer A₀ base w mean mg mb h₀ L m s Q y mo d →
    wpAny (model Challenge.rw_mj0327_01.row.prog w) (ktrTop dp un gd cn cs L a ccd [] outer) (call (.ref f) vs) Q E s
theorem ClST.use {y mo d : Int} (C : ClST w mean mg mb k f pre D₀ o vs y mo d) (B : Below A₀ base outer h₀) (F : Fr h₀ L s.heap m) (X : (hd.heap_39 w.params).In h₀) (N : News h₀ L s.heap news) (T : Top hd.view_39 (looseW hd.view_39 [Str.ofString "_DAYS_IN_MONTH", Str.ofString "_DAYS_BEFORE_MONTH", Str.ofString "_DI400Y", Str.ofString "_DI100Y", Str.ofString "_DI4Y"]) mean mg mb h₀) (hk : cs.kind = .function) (XB : (hd.heap_39 w.params).In base) (TB : Top hd.view_39 (looseW hd.view_39 [Str.ofString "_DAYS_IN_MONTH", Str.ofString "_DAYS_BEFORE_MONTH", Str.ofString "_DI400Y", Str.ofString "_DI100Y", Str.ofString "_DI4Y"]) mean mg mb base) (D : KtsDicts (outer.filterMap (·.frame)) h₀) (hp : pre) (hd : dp + k < recursionLimit) (hu : un + 8 * k < cLine) (hM : (D₀, o) ∈ news)
    (hr : RetST news outer A₀ base w mean mg mb h₀ L m s Q y mo d) :
    wpAny (model Challenge.rw_mj0327_01.row.prog w) (ktrTop dp un gd cn cs L a ccd [] outer) (call (.ref f) vs) Q E s := C _ _ _ _ _ _ _ _ _ _ _ _ _ _ _ _ _ B F X N T hk XB TB D hp hd hu hM hr
theorem ClX.as {cls : String} {msg msg' : Str} (C : ClX w mean mg mb k f pre vs cls msg) (e : msg = msg') : ClX w mean mg mb k f pre vs cls msg' := by subst e; exact C
end claimS
theorem emp3 (a b c : Str) : Str.empty ++ a ++ b ++ c = a ++ b ++ c := by rw [Str.empty_append]
theorem emp2 (a b : Str) : Str.empty ++ a ++ b = a ++ b := by rw [Str.empty_append]
section toldwalk
theorem c_told_ymd (w : World) (mean : ExcName → Option Value) (mg mb : Str → Option Value) (y mo d : Int) (D₀ : Addr) (c0 : Nat) (s1 s2 s3 : Tok) :
   ClS w mean mg mb 7 113 ((1 ≤ mo ∧ mo ≤ 12) ∧ 1 ≤ d ∧ d ≤ dim y mo) D₀ { cls := .type "tuple", data := .seq #[.int y s1, .int mo s2, .int d s3] c0 } [.ref 56, .ref D₀] (fun t => .int (ymd y mo d) t) := by
  k_with_none
  (k_with "execs cons" => (k_here; (first | (with_reducible show wpAny _ _ _ _ _ (Shared.mk _ _ _ (HAdd.hAdd _ _) _)) | (with_reducible show wpAny _ _ _ _ _ (Shared.mk _ _ _ (Shared.toks _) _))); (with_reducible refine clean ?_); intro tk0; dsimp only))
  (k_with "mine asks" => ((case k1 => k_asm); (case k2 => k_asm); (case k3 => k_asm); (case k4 => k_asm); (case k5 => k_asm); (case kK => first | exact rfl | assumption); (case kp => first | trivial | assumption | ((try dsimp only); omega)); (case kd => ktr_room); (case ku => ktr_units)))
  (k_with "mine gotI" => (walk_at "mine asks"; intro t9 h9 tk9 F9 N9; (try dsimp only); (try k_fold)))
  (k_with "call ref" => (k_here; k_dflt (first | (refine' ClI.use (c_is_leap _ _ _ _ _ _) ?k1 ?k2 ?k3 ?k4 ?k5 ?kK ?kp ?kd ?ku ?_; walk_at "mine gotI") | (refine' ClI.use (c_days_before_year _ _ _ _ _ _) ?k1 ?k2 ?k3 ?k4 ?k5 ?kK ?kp ?kd ?ku ?_; walk_at "mine gotI"))))
  (k_with "subscriptTail" => (k_here; (with_reducible show wpAny _ _ (subscriptTail _ _ (Value.ref 15) (Value.int _ _)) _ _ _); (with_unfolding_all refine' tab_item (ns := [-1, 31, 28, 31, 30, 31, 30, 31, 31, 30, 31, 30, 31]) ?k1 ?k2 ?k3 ?k4 ?k5 ?k7 ?_ ?k6; (case k1 => k_asm); (case k2 => k_asm); (case k3 => kernel_rfl); (case k4 => omega); (case k5 => ((try simp only [List.length]); omega)); (case k7 => decide); (case k6 => with_unfolding_all rfl); k_whole); intro t'; (try dsimp only)))
  (k_with "subscriptTail" => (k_here; (with_reducible show wpAny _ _ (subscriptTail _ _ (Value.ref 16) (Value.int _ _)) _ _ _); (with_unfolding_all refine' tab_item (ns := [-1, 0, 31, 59, 90, 120, 151, 181, 212, 243, 273, 304, 334]) ?k1 ?k2 ?k3 ?k4 ?k5 ?k7 ?_ ?k6; (case k1 => k_asm); (case k2 => k_asm); (case k3 => kernel_rfl); (case k4 => omega); (case k5 => ((try simp only [List.length]); omega)); (case k7 => decide); (case k6 => with_unfolding_all rfl); k_whole); intro t'; (try dsimp only)))
  (k_with "mine asks" => ((case k1 => k_asm); (case k2 => k_asm); (case k3 => k_asm); (case k4 => k_asm); (case k5 => k_asm); (case kK => first | exact rfl | assumption); (case kp => first | trivial | assumption | ((try dsimp only); omega) | ((have hdm := dim_ge _ _); omega) | exact ⟨⟨by omega, by omega⟩, by omega, Int.le_trans (by omega) (dim_ge _ _)⟩); (case kd => ktr_room); (case ku => ktr_units)))
  (k_with "call ref" => (k_here; k_dflt (first | (refine' ClI.use (c_days_in_month _ _ _ _ _ _ _ _) ?k1 ?k2 ?k3 ?k4 ?k5 ?kK ?kp ?kd ?ku ?_; walk_at "mine gotI") | (refine' ClI.use (c_days_before_month _ _ _ _ _ _ _ _) ?k1 ?k2 ?k3 ?k4 ?k5 ?kK ?kp ?kd ?ku ?_; walk_at "mine gotI"))))
  (k_with "call ref" => (k_here; k_dflt (first | (refine' ClI.use (c_ymd2ord _ _ _ _ _ _ _ _ _ _) ?k1 ?k2 ?k3 ?k4 ?k5 ?kK ?kp ?kd ?ku ?_; walk_at "mine gotI"))))
  (k_with "exec Assert" => refine wpAny_Assert_msg rfl ?_)
  (k_with "call ref" => (k_here; k_dflt (first | (refine' ClI.use (c_isoweek1monday _ _ _ _ _ _) ?k1 ?k2 ?k3 ?k4 ?k5 ?kK ?kp ?kd ?ku ?_; walk_at "mine gotI"))))
  (k_with "storeName" => (k_here; (first | (with_reducible show wpAny _ _ (storeName _ _ (Value.int _ (HAdd.hAdd _ _))) _ _ _) | (with_reducible show wpAny _ _ (storeName _ _ (Value.int _ (Shared.toks _))) _ _ _)); (with_reducible refine genTokS ?_); intro tq; (try dsimp only)))
  (k_with "ite" => (k_here; first | (with_reducible refine iteE (by with_reducible assumption) ?_) | (with_reducible refine iteNe (by with_reducible assumption) ?_) | (with_reducible refine iteB (by with_reducible assumption) ?_) | (with_reducible refine iteBn (by with_reducible assumption) ?_) | (with_reducible refine iteP (by with_reducible assumption) ?_) | (with_reducible refine iteN (by with_reducible assumption) ?_) | (with_reducible refine iteE (by omega) ?_) | (with_reducible refine iteNe (by omega) ?_) | (with_reducible refine iteB (by omega) ?_) | (with_reducible refine iteBn (by omega) ?_) | (with_reducible refine iteP (by omega) ?_) | (with_reducible refine iteN (by omega) ?_)))
  (k_with "eval Call" => (k_here; (with_reducible show wpAny _ _ (eval (Expr.Call (Expr.Name _ _) _ [] _) _) _ _ _); k_dflt (refine Call_ ?_)))
  (k_with "mine gotT" => ((case k1 => k_asm); (case k2 => k_asm); (case k3 => k_asm); (case k4 => k_asm); (case k5 => k_asm); (case kK => first | exact rfl | assumption); (case kp => walk_at "mine preT"); (case kd => ktr_room); (case ku => ktr_units); intro D9 t9 u9 v9 c9 h9 tk9 l9 F9 N9; (try dsimp only); (try k_fold)))
  (k_with "mine preT" => (refine' ⟨?p1, ?p2, ?p3⟩; (case p3 => assumption); (case p1 => assumption); (case p2 => assumption)))
  (k_with "call ref" => (k_here; k_dflt (first | (refine' ClT.use (c_ord' _ _ _ _ _ _ _ _ _) ?k1 ?k2 ?k3 ?k4 ?k5 ?kK ?kp ?kd ?ku ?_; walk_at "mine gotT"))))
  (k_with "call ref" => (k_here; k_dflt (first | (refine' ClI.use (c_law_len _ _ _ _ _ _ _ _) ?k1 ?k2 ?k3 ?k4 ?k5 ?kK ?kp ?kd ?ku ?_; walk_at "mine gotI"))))
  (k_with "call ref" => (k_here; k_dflt (first | (refine' ClI.use (c_law_before _ _ _ _ _ _ _ _) ?k1 ?k2 ?k3 ?k4 ?k5 ?kK ?kp ?kd ?ku ?_; walk_at "mine gotI"))))
  (k_with "mine lt" => first | (with_reducible assumption) | exact lt_tail (by with_reducible assumption) | exact lt_tail (lt_tail (by with_reducible assumption)) | ((repeat (first | exact allLt_mem (by with_reducible assumption) | ((with_reducible rename (_ ∧ _) => hz9); obtain ⟨_, hz8⟩ := hz9)))))
  (k_with "mine gotD" => ((case k1 => k_asm); (case k2 => k_asm); (case k3 => k_asm); (case k4 => k_asm); (case k5 => k_asm); (case kK => first | exact rfl | assumption); (case kp => walk_at "mine preD"); (case kd => ktr_room); (case ku => ktr_units); intro y9 m9 d9 D9 t9 u9 v9 c9 h9 tk9 hm9 hd9 he9 l9 F9 N9; (try dsimp only); (try k_fold)))
  (k_with "mine preD" => (refine' ⟨?p1, ?p2, ?p3⟩; (case p1 => first | assumption | omega); (case p2 => assumption); (case p3 => omega)))
  (k_with "call ref" => (k_here; k_dflt (first | (refine' ClD.use (c_law_days _ _ _ _ _ _ _ _ _ _ _ _) ?k1 ?k2 ?k3 ?k4 ?k5 ?kK ?kp ?kd ?ku ?_; walk_at "mine gotD"))))
  (k_with "mine gotX" => ((case k1 => k_asm); (case k2 => k_asm); (case k3 => k_asm); (case k4 => k_asm); (case k5 => k_asm); (case kK => first | exact rfl | assumption); (case k6 => assumption); (case k7 => assumption); (case k8 => assumption); (case kp => first | assumption | omega); (case kd => ktr_room); (case ku => ktr_units); intro e9 t9 G9 h9 k9 tk9 F9 S9 R9 U9; (try dsimp only); (try k_fold)))
  (k_with "mine preT" => assumption)
  (k_with "call ref" => (k_here; k_dflt (first | (refine' ClX.use (c_ymd2ord_xm _ _ _ _ _ _ _ _ _ _) ?k1 ?k2 ?k3 ?k4 ?k5 ?kK ?k6 ?k7 ?k8 ?kp ?kd ?ku ?_; walk_at "mine gotX") | (refine' ClX.use (c_ymd2ord_xd _ _ _ _ _ _ _ _ _ _) ?k1 ?k2 ?k3 ?k4 ?k5 ?kK ?k6 ?k7 ?k8 ?kp ?kd ?ku ?_; walk_at "mine gotX") | (refine' ClX.use ((c_iso_xy _ _ _ _ _ _ _ _ _ _).as (emp2 _ _)) ?k1 ?k2 ?k3 ?k4 ?k5 ?kK ?k6 ?k7 ?k8 ?kp ?kd ?ku ?_; walk_at "mine gotX") | (refine' ClX.use ((c_iso_xw _ _ _ _ _ _ _ _ _ _).as (emp2 _ _)) ?k1 ?k2 ?k3 ?k4 ?k5 ?kK ?k6 ?k7 ?k8 ?kp ?kd ?ku ?_; walk_at "mine gotX") | (refine' ClX.use ((c_iso_xd _ _ _ _ _ _ _ _ _ _).as (emp3 _ _ _)) ?k1 ?k2 ?k3 ?k4 ?k5 ?kK ?k6 ?k7 ?k8 ?kp ?kd ?ku ?_; walk_at "mine gotX") | (refine' ClT.use (c_iso_A _ _ _ _ _ _ _ _ _ _ _ _ _) ?k1 ?k2 ?k3 ?k4 ?k5 ?kK ?kp ?kd ?ku ?_; walk_at "mine gotT") | (refine' ClT.use (c_iso_B _ _ _ _ _ _ _ _ _ _ _ _ _) ?k1 ?k2 ?k3 ?k4 ?k5 ?kK ?kp ?kd ?ku ?_; walk_at "mine gotT"))))
  unfold ClS
  k_fill; intro news dp un gd cn cs a ccd outer A₀ base h₀ L m s Q E hB hF hX hN hT hK hXB hTB hD hp hdp hun hM hret
  refine wpAny_call ?_; k_dflt (refine' code_defS ?k1 ?k2 ?k3 ?k4 ?k5 ?XB ?TB ?D ?T0 ?kA ?k6 ?k7 ?k8 ?k9 ?kB ?_ ?cK ?c2 ?c3 ?c4 ?c5; (case kA => exact rfl); (case k2 => k_asm); (case k1 => k_asm); (case XB => assumption); (case TB => assumption); (case D => assumption); (case T0 => exact KtsTurn.refl); (case k3 => k_asm); (case k4 => k_asm); (case k5 => k_asm); (case k6 => k_is); (case k7 => k_is); (case k8 => ktr_room); (case k9 => exact BindsTo.of_eq rfl); (case kB => exact locs rfl); (case cK => assumption); (case c2 => exact rfl); (case c3 => exact rfl); (case c4 => exact rfl); (case c5 => decide); k_whole; intro g' L' h' FG' F' N' B' X' T' D'; (try dsimp only); (try k_lift B'); (try k_fold)); k_steps
  all_goals first
    | exact hret _ _ _ _ KtsTurn.refl (by k_asm) (by k_asm) hB hX hT hD
    | exact hret _ _ _ _ (by assumption) (by k_asm) (by first | k_asm | (refine' cb_drop ?cbN ?cbS; (case cbN => assumption); (case cbS => kcj_all))) (by assumption) (by assumption) (by assumption) (by assumption)
theorem c_told_ymd_xm (w : World) (mean : ExcName → Option Value) (mg mb : Str → Option Value) (y mo d : Int) (D₀ : Addr) (c0 : Nat) (s1 s2 s3 : Tok) :
   ClS w mean mg mb 7 113 (mo < 1 ∨ 12 < mo) D₀ { cls := .type "tuple", data := .seq #[.int y s1, .int mo s2, .int d s3] c0 } [.ref 56, .ref D₀] (fun t => .str (Str.ofString "month must be in 1..12") t) := by
  k_with_none
  (k_with "execs cons" => (k_here; (first | (with_reducible show wpAny _ _ _ _ _ (Shared.mk _ _ _ (HAdd.hAdd _ _) _)) | (with_reducible show wpAny _ _ _ _ _ (Shared.mk _ _ _ (Shared.toks _) _))); (with_reducible refine clean ?_); intro tk0; dsimp only))
  (k_with "mine asks" => ((case k1 => k_asm); (case k2 => k_asm); (case k3 => k_asm); (case k4 => k_asm); (case k5 => k_asm); (case kK => first | exact rfl | assumption); (case kp => first | trivial | assumption | ((try dsimp only); omega)); (case kd => ktr_room); (case ku => ktr_units)))
  (k_with "mine gotI" => (walk_at "mine asks"; intro t9 h9 tk9 F9 N9; (try dsimp only); (try k_fold)))
  (k_with "call ref" => (k_here; k_dflt (first | (refine' ClI.use (c_is_leap _ _ _ _ _ _) ?k1 ?k2 ?k3 ?k4 ?k5 ?kK ?kp ?kd ?ku ?_; walk_at "mine gotI") | (refine' ClI.use (c_days_before_year _ _ _ _ _ _) ?k1 ?k2 ?k3 ?k4 ?k5 ?kK ?kp ?kd ?ku ?_; walk_at "mine gotI"))))
  (k_with "subscriptTail" => (k_here; (with_reducible show wpAny _ _ (subscriptTail _ _ (Value.ref 15) (Value.int _ _)) _ _ _); (with_unfolding_all refine' tab_item (ns := [-1, 31, 28, 31, 30, 31, 30, 31, 31, 30, 31, 30, 31]) ?k1 ?k2 ?k3 ?k4 ?k5 ?k7 ?_ ?k6; (case k1 => k_asm); (case k2 => k_asm); (case k3 => kernel_rfl); (case k4 => omega); (case k5 => ((try simp only [List.length]); omega)); (case k7 => decide); (case k6 => with_unfolding_all rfl); k_whole); intro t'; (try dsimp only)))
  (k_with "subscriptTail" => (k_here; (with_reducible show wpAny _ _ (subscriptTail _ _ (Value.ref 16) (Value.int _ _)) _ _ _); (with_unfolding_all refine' tab_item (ns := [-1, 0, 31, 59, 90, 120, 151, 181, 212, 243, 273, 304, 334]) ?k1 ?k2 ?k3 ?k4 ?k5 ?k7 ?_ ?k6; (case k1 => k_asm); (case k2 => k_asm); (case k3 => kernel_rfl); (case k4 => omega); (case k5 => ((try simp only [List.length]); omega)); (case k7 => decide); (case k6 => with_unfolding_all rfl); k_whole); intro t'; (try dsimp only)))
  (k_with "mine asks" => ((case k1 => k_asm); (case k2 => k_asm); (case k3 => k_asm); (case k4 => k_asm); (case k5 => k_asm); (case kK => first | exact rfl | assumption); (case kp => first | trivial | assumption | ((try dsimp only); omega) | ((have hdm := dim_ge _ _); omega) | exact ⟨⟨by omega, by omega⟩, by omega, Int.le_trans (by omega) (dim_ge _ _)⟩); (case kd => ktr_room); (case ku => ktr_units)))
  (k_with "call ref" => (k_here; k_dflt (first | (refine' ClI.use (c_days_in_month _ _ _ _ _ _ _ _) ?k1 ?k2 ?k3 ?k4 ?k5 ?kK ?kp ?kd ?ku ?_; walk_at "mine gotI") | (refine' ClI.use (c_days_before_month _ _ _ _ _ _ _ _) ?k1 ?k2 ?k3 ?k4 ?k5 ?kK ?kp ?kd ?ku ?_; walk_at "mine gotI"))))
  (k_with "call ref" => (k_here; k_dflt (first | (refine' ClI.use (c_ymd2ord _ _ _ _ _ _ _ _ _ _) ?k1 ?k2 ?k3 ?k4 ?k5 ?kK ?kp ?kd ?ku ?_; walk_at "mine gotI"))))
  (k_with "exec Assert" => refine wpAny_Assert_msg rfl ?_)
  (k_with "call ref" => (k_here; k_dflt (first | (refine' ClI.use (c_isoweek1monday _ _ _ _ _ _) ?k1 ?k2 ?k3 ?k4 ?k5 ?kK ?kp ?kd ?ku ?_; walk_at "mine gotI"))))
  (k_with "storeName" => (k_here; (first | (with_reducible show wpAny _ _ (storeName _ _ (Value.int _ (HAdd.hAdd _ _))) _ _ _) | (with_reducible show wpAny _ _ (storeName _ _ (Value.int _ (Shared.toks _))) _ _ _)); (with_reducible refine genTokS ?_); intro tq; (try dsimp only)))
  (k_with "ite" => (k_here; first | (with_reducible refine iteE (by with_reducible assumption) ?_) | (with_reducible refine iteNe (by with_reducible assumption) ?_) | (with_reducible refine iteB (by with_reducible assumption) ?_) | (with_reducible refine iteBn (by with_reducible assumption) ?_) | (with_reducible refine iteP (by with_reducible assumption) ?_) | (with_reducible refine iteN (by with_reducible assumption) ?_) | (with_reducible refine iteE (by omega) ?_) | (with_reducible refine iteNe (by omega) ?_) | (with_reducible refine iteB (by omega) ?_) | (with_reducible refine iteBn (by omega) ?_) | (with_reducible refine iteP (by omega) ?_) | (with_reducible refine iteN (by omega) ?_)))
  (k_with "eval Call" => (k_here; (with_reducible show wpAny _ _ (eval (Expr.Call (Expr.Name _ _) _ [] _) _) _ _ _); k_dflt (refine Call_ ?_)))
  (k_with "mine gotT" => ((case k1 => k_asm); (case k2 => k_asm); (case k3 => k_asm); (case k4 => k_asm); (case k5 => k_asm); (case kK => first | exact rfl | assumption); (case kp => walk_at "mine preT"); (case kd => ktr_room); (case ku => ktr_units); intro D9 t9 u9 v9 c9 h9 tk9 l9 F9 N9; (try dsimp only); (try k_fold)))
  (k_with "mine preT" => (refine' ⟨?p1, ?p2, ?p3⟩; (case p3 => assumption); (case p1 => assumption); (case p2 => assumption)))
  (k_with "call ref" => (k_here; k_dflt (first | (refine' ClT.use (c_ord' _ _ _ _ _ _ _ _ _) ?k1 ?k2 ?k3 ?k4 ?k5 ?kK ?kp ?kd ?ku ?_; walk_at "mine gotT"))))
  (k_with "call ref" => (k_here; k_dflt (first | (refine' ClI.use (c_law_len _ _ _ _ _ _ _ _) ?k1 ?k2 ?k3 ?k4 ?k5 ?kK ?kp ?kd ?ku ?_; walk_at "mine gotI"))))
  (k_with "call ref" => (k_here; k_dflt (first | (refine' ClI.use (c_law_before _ _ _ _ _ _ _ _) ?k1 ?k2 ?k3 ?k4 ?k5 ?kK ?kp ?kd ?ku ?_; walk_at "mine gotI"))))
  (k_with "mine lt" => first | (with_reducible assumption) | exact lt_tail (by with_reducible assumption) | exact lt_tail (lt_tail (by with_reducible assumption)) | ((repeat (first | exact allLt_mem (by with_reducible assumption) | ((with_reducible rename (_ ∧ _) => hz9); obtain ⟨_, hz8⟩ := hz9)))))
  (k_with "mine gotD" => ((case k1 => k_asm); (case k2 => k_asm); (case k3 => k_asm); (case k4 => k_asm); (case k5 => k_asm); (case kK => first | exact rfl | assumption); (case kp => walk_at "mine preD"); (case kd => ktr_room); (case ku => ktr_units); intro y9 m9 d9 D9 t9 u9 v9 c9 h9 tk9 hm9 hd9 he9 l9 F9 N9; (try dsimp only); (try k_fold)))
  (k_with "mine preD" => (refine' ⟨?p1, ?p2, ?p3⟩; (case p1 => first | assumption | omega); (case p2 => assumption); (case p3 => omega)))
  (k_with "call ref" => (k_here; k_dflt (first | (refine' ClD.use (c_law_days _ _ _ _ _ _ _ _ _ _ _ _) ?k1 ?k2 ?k3 ?k4 ?k5 ?kK ?kp ?kd ?ku ?_; walk_at "mine gotD"))))
  (k_with "mine gotX" => ((case k1 => k_asm); (case k2 => k_asm); (case k3 => k_asm); (case k4 => k_asm); (case k5 => k_asm); (case kK => first | exact rfl | assumption); (case k6 => assumption); (case k7 => assumption); (case k8 => assumption); (case kp => first | assumption | omega); (case kd => ktr_room); (case ku => ktr_units); intro e9 t9 G9 h9 k9 tk9 F9 S9 R9 U9; (try dsimp only); (try k_fold)))
  (k_with "mine preT" => assumption)
  (k_with "call ref" => (k_here; k_dflt (first | (refine' ClX.use (c_ymd2ord_xm _ _ _ _ _ _ _ _ _ _) ?k1 ?k2 ?k3 ?k4 ?k5 ?kK ?k6 ?k7 ?k8 ?kp ?kd ?ku ?_; walk_at "mine gotX") | (refine' ClX.use (c_ymd2ord_xd _ _ _ _ _ _ _ _ _ _) ?k1 ?k2 ?k3 ?k4 ?k5 ?kK ?k6 ?k7 ?k8 ?kp ?kd ?ku ?_; walk_at "mine gotX") | (refine' ClX.use ((c_iso_xy _ _ _ _ _ _ _ _ _ _).as (emp2 _ _)) ?k1 ?k2 ?k3 ?k4 ?k5 ?kK ?k6 ?k7 ?k8 ?kp ?kd ?ku ?_; walk_at "mine gotX") | (refine' ClX.use ((c_iso_xw _ _ _ _ _ _ _ _ _ _).as (emp2 _ _)) ?k1 ?k2 ?k3 ?k4 ?k5 ?kK ?k6 ?k7 ?k8 ?kp ?kd ?ku ?_; walk_at "mine gotX") | (refine' ClX.use ((c_iso_xd _ _ _ _ _ _ _ _ _ _).as (emp3 _ _ _)) ?k1 ?k2 ?k3 ?k4 ?k5 ?kK ?k6 ?k7 ?k8 ?kp ?kd ?ku ?_; walk_at "mine gotX") | (refine' ClT.use (c_iso_A _ _ _ _ _ _ _ _ _ _ _ _ _) ?k1 ?k2 ?k3 ?k4 ?k5 ?kK ?kp ?kd ?ku ?_; walk_at "mine gotT") | (refine' ClT.use (c_iso_B _ _ _ _ _ _ _ _ _ _ _ _ _) ?k1 ?k2 ?k3 ?k4 ?k5 ?kK ?kp ?kd ?ku ?_; walk_at "mine gotT"))))
  unfold ClS
  k_fill; intro news dp un gd cn cs a ccd outer A₀ base h₀ L m s Q E hB hF hX hN hT hK hXB hTB hD hp hdp hun hM hret
  refine wpAny_call ?_; k_dflt (refine' code_defS ?k1 ?k2 ?k3 ?k4 ?k5 ?XB ?TB ?D ?T0 ?kA ?k6 ?k7 ?k8 ?k9 ?kB ?_ ?cK ?c2 ?c3 ?c4 ?c5; (case kA => exact rfl); (case k2 => k_asm); (case k1 => k_asm); (case XB => assumption); (case TB => assumption); (case D => assumption); (case T0 => exact KtsTurn.refl); (case k3 => k_asm); (case k4 => k_asm); (case k5 => k_asm); (case k6 => k_is); (case k7 => k_is); (case k8 => ktr_room); (case k9 => exact BindsTo.of_eq rfl); (case kB => exact locs rfl); (case cK => assumption); (case c2 => exact rfl); (case c3 => exact rfl); (case c4 => exact rfl); (case c5 => decide); k_whole; intro g' L' h' FG' F' N' B' X' T' D'; (try dsimp only); (try k_lift B'); (try k_fold)); k_steps
  all_goals first
    | exact hret _ _ _ _ KtsTurn.refl (by k_asm) (by k_asm) hB hX hT hD
    | exact hret _ _ _ _ (by assumption) (by k_asm) (by first | k_asm | (refine' cb_drop ?cbN ?cbS; (case cbN => assumption); (case cbS => kcj_all))) (by assumption) (by assumption) (by assumption) (by assumption)
theorem c_told_ymd_xd (w : World) (mean : ExcName → Option Value) (mg mb : Str → Option Value) (y mo d : Int) (D₀ : Addr) (c0 : Nat) (s1 s2 s3 : Tok) :
   ClS w mean mg mb 7 113 ((1 ≤ mo ∧ mo ≤ 12) ∧ (d < 1 ∨ dim y mo < d)) D₀ { cls := .type "tuple", data := .seq #[.int y s1, .int mo s2, .int d s3] c0 } [.ref 56, .ref D₀] (fun t => .str (Str.ofString "day must be in 1.." ++ Str.ofString (toString (dim y mo))) t) := by
  k_with_none
  (k_with "execs cons" => (k_here; (first | (with_reducible show wpAny _ _ _ _ _ (Shared.mk _ _ _ (HAdd.hAdd _ _) _)) | (with_reducible show wpAny _ _ _ _ _ (Shared.mk _ _ _ (Shared.toks _) _))); (with_reducible refine clean ?_); intro tk0; dsimp only))
  (k_with "mine asks" => ((case k1 => k_asm); (case k2 => k_asm); (case k3 => k_asm); (case k4 => k_asm); (case k5 => k_asm); (case kK => first | exact rfl | assumption); (case kp => first | trivial | assumption | ((try dsimp only); omega)); (case kd => ktr_room); (case ku => ktr_units)))
  (k_with "mine gotI" => (walk_at "mine asks"; intro t9 h9 tk9 F9 N9; (try dsimp only); (try k_fold)))
  (k_with "call ref" => (k_here; k_dflt (first | (refine' ClI.use (c_is_leap _ _ _ _ _ _) ?k1 ?k2 ?k3 ?k4 ?k5 ?kK ?kp ?kd ?ku ?_; walk_at "mine gotI") | (refine' ClI.use (c_days_before_year _ _ _ _ _ _) ?k1 ?k2 ?k3 ?k4 ?k5 ?kK ?kp ?kd ?ku ?_; walk_at "mine gotI"))))
  (k_with "subscriptTail" => (k_here; (with_reducible show wpAny _ _ (subscriptTail _ _ (Value.ref 15) (Value.int _ _)) _ _ _); (with_unfolding_all refine' tab_item (ns := [-1, 31, 28, 31, 30, 31, 30, 31, 31, 30, 31, 30, 31]) ?k1 ?k2 ?k3 ?k4 ?k5 ?k7 ?_ ?k6; (case k1 => k_asm); (case k2 => k_asm); (case k3 => kernel_rfl); (case k4 => omega); (case k5 => ((try simp only [List.length]); omega)); (case k7 => decide); (case k6 => with_unfolding_all rfl); k_whole); intro t'; (try dsimp only)))
  (k_with "subscriptTail" => (k_here; (with_reducible show wpAny _ _ (subscriptTail _ _ (Value.ref 16) (Value.int _ _)) _ _ _); (with_unfolding_all refine' tab_item (ns := [-1, 0, 31, 59, 90, 120, 151, 181, 212, 243, 273, 304, 334]) ?k1 ?k2 ?k3 ?k4 ?k5 ?k7 ?_ ?k6; (case k1 => k_asm); (case k2 => k_asm); (case k3 => kernel_rfl); (case k4 => omega); (case k5 => ((try simp only [List.length]); omega)); (case k7 => decide); (case k6 => with_unfolding_all rfl); k_whole); intro t'; (try dsimp only)))
  (k_with "mine asks" => ((case k1 => k_asm); (case k2 => k_asm); (case k3 => k_asm); (case k4 => k_asm); (case k5 => k_asm); (case kK => first | exact rfl | assumption); (case kp => first | trivial | assumption | ((try dsimp only); omega) | ((have hdm := dim_ge _ _); omega) | exact ⟨⟨by omega, by omega⟩, by omega, Int.le_trans (by omega) (dim_ge _ _)⟩); (case kd => ktr_room); (case ku => ktr_units)))
  (k_with "call ref" => (k_here; k_dflt (first | (refine' ClI.use (c_days_in_month _ _ _ _ _ _ _ _) ?k1 ?k2 ?k3 ?k4 ?k5 ?kK ?kp ?kd ?ku ?_; walk_at "mine gotI") | (refine' ClI.use (c_days_before_month _ _ _ _ _ _ _ _) ?k1 ?k2 ?k3 ?k4 ?k5 ?kK ?kp ?kd ?ku ?_; walk_at "mine gotI"))))
  (k_with "call ref" => (k_here; k_dflt (first | (refine' ClI.use (c_ymd2ord _ _ _ _ _ _ _ _ _ _) ?k1 ?k2 ?k3 ?k4 ?k5 ?kK ?kp ?kd ?ku ?_; walk_at "mine gotI"))))
  (k_with "exec Assert" => refine wpAny_Assert_msg rfl ?_)
  (k_with "call ref" => (k_here; k_dflt (first | (refine' ClI.use (c_isoweek1monday _ _ _ _ _ _) ?k1 ?k2 ?k3 ?k4 ?k5 ?kK ?kp ?kd ?ku ?_; walk_at "mine gotI"))))
  (k_with "storeName" => (k_here; (first | (with_reducible show wpAny _ _ (storeName _ _ (Value.int _ (HAdd.hAdd _ _))) _ _ _) | (with_reducible show wpAny _ _ (storeName _ _ (Value.int _ (Shared.toks _))) _ _ _)); (with_reducible refine genTokS ?_); intro tq; (try dsimp only)))
  (k_with "ite" => (k_here; first | (with_reducible refine iteE (by with_reducible assumption) ?_) | (with_reducible refine iteNe (by with_reducible assumption) ?_) | (with_reducible refine iteB (by with_reducible assumption) ?_) | (with_reducible refine iteBn (by with_reducible assumption) ?_) | (with_reducible refine iteP (by with_reducible assumption) ?_) | (with_reducible refine iteN (by with_reducible assumption) ?_) | (with_reducible refine iteE (by omega) ?_) | (with_reducible refine iteNe (by omega) ?_) | (with_reducible refine iteB (by omega) ?_) | (with_reducible refine iteBn (by omega) ?_) | (with_reducible refine iteP (by omega) ?_) | (with_reducible refine iteN (by omega) ?_)))
  (k_with "eval Call" => (k_here; (with_reducible show wpAny _ _ (eval (Expr.Call (Expr.Name _ _) _ [] _) _) _ _ _); k_dflt (refine Call_ ?_)))
  (k_with "mine gotT" => ((case k1 => k_asm); (case k2 => k_asm); (case k3 => k_asm); (case k4 => k_asm); (case k5 => k_asm); (case kK => first | exact rfl | assumption); (case kp => walk_at "mine preT"); (case kd => ktr_room); (case ku => ktr_units); intro D9 t9 u9 v9 c9 h9 tk9 l9 F9 N9; (try dsimp only); (try k_fold)))
  (k_with "mine preT" => (refine' ⟨?p1, ?p2, ?p3⟩; (case p3 => assumption); (case p1 => assumption); (case p2 => assumption)))
  (k_with "call ref" => (k_here; k_dflt (first | (refine' ClT.use (c_ord' _ _ _ _ _ _ _ _ _) ?k1 ?k2 ?k3 ?k4 ?k5 ?kK ?kp ?kd ?ku ?_; walk_at "mine gotT"))))
  (k_with "call ref" => (k_here; k_dflt (first | (refine' ClI.use (c_law_len _ _ _ _ _ _ _ _) ?k1 ?k2 ?k3 ?k4 ?k5 ?kK ?kp ?kd ?ku ?_; walk_at "mine gotI"))))
  (k_with "call ref" => (k_here; k_dflt (first | (refine' ClI.use (c_law_before _ _ _ _ _ _ _ _) ?k1 ?k2 ?k3 ?k4 ?k5 ?kK ?kp ?kd ?ku ?_; walk_at "mine gotI"))))
  (k_with "mine lt" => first | (with_reducible assumption) | exact lt_tail (by with_reducible assumption) | exact lt_tail (lt_tail (by with_reducible assumption)) | ((repeat (first | exact allLt_mem (by with_reducible assumption) | ((with_reducible rename (_ ∧ _) => hz9); obtain ⟨_, hz8⟩ := hz9)))))
  (k_with "mine gotD" => ((case k1 => k_asm); (case k2 => k_asm); (case k3 => k_asm); (case k4 => k_asm); (case k5 => k_asm); (case kK => first | exact rfl | assumption); (case kp => walk_at "mine preD"); (case kd => ktr_room); (case ku => ktr_units); intro y9 m9 d9 D9 t9 u9 v9 c9 h9 tk9 hm9 hd9 he9 l9 F9 N9; (try dsimp only); (try k_fold)))
  (k_with "mine preD" => (refine' ⟨?p1, ?p2, ?p3⟩; (case p1 => first | assumption | omega); (case p2 => assumption); (case p3 => omega)))
  (k_with "call ref" => (k_here; k_dflt (first | (refine' ClD.use (c_law_days _ _ _ _ _ _ _ _ _ _ _ _) ?k1 ?k2 ?k3 ?k4 ?k5 ?kK ?kp ?kd ?ku ?_; walk_at "mine gotD"))))
  (k_with "mine gotX" => ((case k1 => k_asm); (case k2 => k_asm); (case k3 => k_asm); (case k4 => k_asm); (case k5 => k_asm); (case kK => first | exact rfl | assumption); (case k6 => assumption); (case k7 => assumption); (case k8 => assumption); (case kp => first | assumption | omega); (case kd => ktr_room); (case ku => ktr_units); intro e9 t9 G9 h9 k9 tk9 F9 S9 R9 U9; (try dsimp only); (try k_fold)))
  (k_with "mine preT" => assumption)
  (k_with "call ref" => (k_here; k_dflt (first | (refine' ClX.use (c_ymd2ord_xm _ _ _ _ _ _ _ _ _ _) ?k1 ?k2 ?k3 ?k4 ?k5 ?kK ?k6 ?k7 ?k8 ?kp ?kd ?ku ?_; walk_at "mine gotX") | (refine' ClX.use (c_ymd2ord_xd _ _ _ _ _ _ _ _ _ _) ?k1 ?k2 ?k3 ?k4 ?k5 ?kK ?k6 ?k7 ?k8 ?kp ?kd ?ku ?_; walk_at "mine gotX") | (refine' ClX.use ((c_iso_xy _ _ _ _ _ _ _ _ _ _).as (emp2 _ _)) ?k1 ?k2 ?k3 ?k4 ?k5 ?kK ?k6 ?k7 ?k8 ?kp ?kd ?ku ?_; walk_at "mine gotX") | (refine' ClX.use ((c_iso_xw _ _ _ _ _ _ _ _ _ _).as (emp2 _ _)) ?k1 ?k2 ?k3 ?k4 ?k5 ?kK ?k6 ?k7 ?k8 ?kp ?kd ?ku ?_; walk_at "mine gotX") | (refine' ClX.use ((c_iso_xd _ _ _ _ _ _ _ _ _ _).as (emp3 _ _ _)) ?k1 ?k2 ?k3 ?k4 ?k5 ?kK ?k6 ?k7 ?k8 ?kp ?kd ?ku ?_; walk_at "mine gotX") | (refine' ClT.use (c_iso_A _ _ _ _ _ _ _ _ _ _ _ _ _) ?k1 ?k2 ?k3 ?k4 ?k5 ?kK ?kp ?kd ?ku ?_; walk_at "mine gotT") | (refine' ClT.use (c_iso_B _ _ _ _ _ _ _ _ _ _ _ _ _) ?k1 ?k2 ?k3 ?k4 ?k5 ?kK ?kp ?kd ?ku ?_; walk_at "mine gotT"))))
  unfold ClS
  k_fill; intro news dp un gd cn cs a ccd outer A₀ base h₀ L m s Q E hB hF hX hN hT hK hXB hTB hD hp hdp hun hM hret
  refine wpAny_call ?_; k_dflt (refine' code_defS ?k1 ?k2 ?k3 ?k4 ?k5 ?XB ?TB ?D ?T0 ?kA ?k6 ?k7 ?k8 ?k9 ?kB ?_ ?cK ?c2 ?c3 ?c4 ?c5; (case kA => exact rfl); (case k2 => k_asm); (case k1 => k_asm); (case XB => assumption); (case TB => assumption); (case D => assumption); (case T0 => exact KtsTurn.refl); (case k3 => k_asm); (case k4 => k_asm); (case k5 => k_asm); (case k6 => k_is); (case k7 => k_is); (case k8 => ktr_room); (case k9 => exact BindsTo.of_eq rfl); (case kB => exact locs rfl); (case cK => assumption); (case c2 => exact rfl); (case c3 => exact rfl); (case c4 => exact rfl); (case c5 => decide); k_whole; intro g' L' h' FG' F' N' B' X' T' D'; (try dsimp only); (try k_lift B'); (try k_fold)); k_steps
  all_goals first
    | exact hret _ _ _ _ KtsTurn.refl (by k_asm) (by k_asm) hB hX hT hD
    | exact hret _ _ _ _ (by assumption) (by k_asm) (by first | k_asm | (refine' cb_drop ?cbN ?cbS; (case cbN => assumption); (case cbS => kcj_all))) (by assumption) (by assumption) (by assumption) (by assumption)
theorem c_told_iso_xy (w : World) (mean : ExcName → Option Value) (mg mb : Str → Option Value) (y wk wd : Int) (D₀ : Addr) (c0 : Nat) (s1 s2 s3 : Tok) :
   ClS w mean mg mb 7 113 ((y < 1 ∨ 9999 < y) ∧ y.natAbs < 10 ^ 13) D₀ { cls := .type "tuple", data := .seq #[.int y s1, .int wk s2, .int wd s3] c0 } [.ref 73, .ref D₀] (fun t => .str (Str.ofString "Year is out of range: " ++ Str.ofString (toString y)) t) := by
  k_with_none
  (k_with "execs cons" => (k_here; (first | (with_reducible show wpAny _ _ _ _ _ (Shared.mk _ _ _ (HAdd.hAdd _ _) _)) | (with_reducible show wpAny _ _ _ _ _ (Shared.mk _ _ _ (Shared.toks _) _))); (with_reducible refine clean ?_); intro tk0; dsimp only))
  (k_with "mine asks" => ((case k1 => k_asm); (case k2 => k_asm); (case k3 => k_asm); (case k4 => k_asm); (case k5 => k_asm); (case kK => first | exact rfl | assumption); (case kp => first | trivial | assumption | ((try dsimp only); omega)); (case kd => ktr_room); (case ku => ktr_units)))
  (k_with "mine gotI" => (walk_at "mine asks"; intro t9 h9 tk9 F9 N9; (try dsimp only); (try k_fold)))
  (k_with "call ref" => (k_here; k_dflt (first | (refine' ClI.use (c_is_leap _ _ _ _ _ _) ?k1 ?k2 ?k3 ?k4 ?k5 ?kK ?kp ?kd ?ku ?_; walk_at "mine gotI") | (refine' ClI.use (c_days_before_year _ _ _ _ _ _) ?k1 ?k2 ?k3 ?k4 ?k5 ?kK ?kp ?kd ?ku ?_; walk_at "mine gotI"))))
  (k_with "subscriptTail" => (k_here; (with_reducible show wpAny _ _ (subscriptTail _ _ (Value.ref 15) (Value.int _ _)) _ _ _); (with_unfolding_all refine' tab_item (ns := [-1, 31, 28, 31, 30, 31, 30, 31, 31, 30, 31, 30, 31]) ?k1 ?k2 ?k3 ?k4 ?k5 ?k7 ?_ ?k6; (case k1 => k_asm); (case k2 => k_asm); (case k3 => kernel_rfl); (case k4 => omega); (case k5 => ((try simp only [List.length]); omega)); (case k7 => decide); (case k6 => with_unfolding_all rfl); k_whole); intro t'; (try dsimp only)))
  (k_with "subscriptTail" => (k_here; (with_reducible show wpAny _ _ (subscriptTail _ _ (Value.ref 16) (Value.int _ _)) _ _ _); (with_unfolding_all refine' tab_item (ns := [-1, 0, 31, 59, 90, 120, 151, 181, 212, 243, 273, 304, 334]) ?k1 ?k2 ?k3 ?k4 ?k5 ?k7 ?_ ?k6; (case k1 => k_asm); (case k2 => k_asm); (case k3 => kernel_rfl); (case k4 => omega); (case k5 => ((try simp only [List.length]); omega)); (case k7 => decide); (case k6 => with_unfolding_all rfl); k_whole); intro t'; (try dsimp only)))
  (k_with "mine asks" => ((case k1 => k_asm); (case k2 => k_asm); (case k3 => k_asm); (case k4 => k_asm); (case k5 => k_asm); (case kK => first | exact rfl | assumption); (case kp => first | trivial | assumption | ((try dsimp only); omega) | ((have hdm := dim_ge _ _); omega) | exact ⟨⟨by omega, by omega⟩, by omega, Int.le_trans (by omega) (dim_ge _ _)⟩); (case kd => ktr_room); (case ku => ktr_units)))
  (k_with "call ref" => (k_here; k_dflt (first | (refine' ClI.use (c_days_in_month _ _ _ _ _ _ _ _) ?k1 ?k2 ?k3 ?k4 ?k5 ?kK ?kp ?kd ?ku ?_; walk_at "mine gotI") | (refine' ClI.use (c_days_before_month _ _ _ _ _ _ _ _) ?k1 ?k2 ?k3 ?k4 ?k5 ?kK ?kp ?kd ?ku ?_; walk_at "mine gotI"))))
  (k_with "call ref" => (k_here; k_dflt (first | (refine' ClI.use (c_ymd2ord _ _ _ _ _ _ _ _ _ _) ?k1 ?k2 ?k3 ?k4 ?k5 ?kK ?kp ?kd ?ku ?_; walk_at "mine gotI"))))
  (k_with "exec Assert" => refine wpAny_Assert_msg rfl ?_)
  (k_with "call ref" => (k_here; k_dflt (first | (refine' ClI.use (c_isoweek1monday _ _ _ _ _ _) ?k1 ?k2 ?k3 ?k4 ?k5 ?kK ?kp ?kd ?ku ?_; walk_at "mine gotI"))))
  (k_with "storeName" => (k_here; (first | (with_reducible show wpAny _ _ (storeName _ _ (Value.int _ (HAdd.hAdd _ _))) _ _ _) | (with_reducible show wpAny _ _ (storeName _ _ (Value.int _ (Shared.toks _))) _ _ _)); (with_reducible refine genTokS ?_); intro tq; (try dsimp only)))
  (k_with "ite" => (k_here; first | (with_reducible refine iteE (by with_reducible assumption) ?_) | (with_reducible refine iteNe (by with_reducible assumption) ?_) | (with_reducible refine iteB (by with_reducible assumption) ?_) | (with_reducible refine iteBn (by with_reducible assumption) ?_) | (with_reducible refine iteP (by with_reducible assumption) ?_) | (with_reducible refine iteN (by with_reducible assumption) ?_) | (with_reducible refine iteE (by omega) ?_) | (with_reducible refine iteNe (by omega) ?_) | (with_reducible refine iteB (by omega) ?_) | (with_reducible refine iteBn (by omega) ?_) | (with_reducible refine iteP (by omega) ?_) | (with_reducible refine iteN (by omega) ?_)))
  (k_with "eval Call" => (k_here; (with_reducible show wpAny _ _ (eval (Expr.Call (Expr.Name _ _) _ [] _) _) _ _ _); k_dflt (refine Call_ ?_)))
  (k_with "mine gotT" => ((case k1 => k_asm); (case k2 => k_asm); (case k3 => k_asm); (case k4 => k_asm); (case k5 => k_asm); (case kK => first | exact rfl | assumption); (case kp => walk_at "mine preT"); (case kd => ktr_room); (case ku => ktr_units); intro D9 t9 u9 v9 c9 h9 tk9 l9 F9 N9; (try dsimp only); (try k_fold)))
  (k_with "mine preT" => (refine' ⟨?p1, ?p2, ?p3⟩; (case p3 => assumption); (case p1 => assumption); (case p2 => assumption)))
  (k_with "call ref" => (k_here; k_dflt (first | (refine' ClT.use (c_ord' _ _ _ _ _ _ _ _ _) ?k1 ?k2 ?k3 ?k4 ?k5 ?kK ?kp ?kd ?ku ?_; walk_at "mine gotT"))))
  (k_with "call ref" => (k_here; k_dflt (first | (refine' ClI.use (c_law_len _ _ _ _ _ _ _ _) ?k1 ?k2 ?k3 ?k4 ?k5 ?kK ?kp ?kd ?ku ?_; walk_at "mine gotI"))))
  (k_with "call ref" => (k_here; k_dflt (first | (refine' ClI.use (c_law_before _ _ _ _ _ _ _ _) ?k1 ?k2 ?k3 ?k4 ?k5 ?kK ?kp ?kd ?ku ?_; walk_at "mine gotI"))))
  (k_with "mine lt" => first | (with_reducible assumption) | exact lt_tail (by with_reducible assumption) | exact lt_tail (lt_tail (by with_reducible assumption)) | ((repeat (first | exact allLt_mem (by with_reducible assumption) | ((with_reducible rename (_ ∧ _) => hz9); obtain ⟨_, hz8⟩ := hz9)))))
  (k_with "mine gotD" => ((case k1 => k_asm); (case k2 => k_asm); (case k3 => k_asm); (case k4 => k_asm); (case k5 => k_asm); (case kK => first | exact rfl | assumption); (case kp => walk_at "mine preD"); (case kd => ktr_room); (case ku => ktr_units); intro y9 m9 d9 D9 t9 u9 v9 c9 h9 tk9 hm9 hd9 he9 l9 F9 N9; (try dsimp only); (try k_fold)))
  (k_with "mine preD" => (refine' ⟨?p1, ?p2, ?p3⟩; (case p1 => first | assumption | omega); (case p2 => assumption); (case p3 => omega)))
  (k_with "call ref" => (k_here; k_dflt (first | (refine' ClD.use (c_law_days _ _ _ _ _ _ _ _ _ _ _ _) ?k1 ?k2 ?k3 ?k4 ?k5 ?kK ?kp ?kd ?ku ?_; walk_at "mine gotD"))))
  (k_with "mine gotX" => ((case k1 => k_asm); (case k2 => k_asm); (case k3 => k_asm); (case k4 => k_asm); (case k5 => k_asm); (case kK => first | exact rfl | assumption); (case k6 => assumption); (case k7 => assumption); (case k8 => assumption); (case kp => first | assumption | omega); (case kd => ktr_room); (case ku => ktr_units); intro e9 t9 G9 h9 k9 tk9 F9 S9 R9 U9; (try dsimp only); (try k_fold)))
  (k_with "mine preT" => assumption)
  (k_with "call ref" => (k_here; k_dflt (first | (refine' ClX.use (c_ymd2ord_xm _ _ _ _ _ _ _ _ _ _) ?k1 ?k2 ?k3 ?k4 ?k5 ?kK ?k6 ?k7 ?k8 ?kp ?kd ?ku ?_; walk_at "mine gotX") | (refine' ClX.use (c_ymd2ord_xd _ _ _ _ _ _ _ _ _ _) ?k1 ?k2 ?k3 ?k4 ?k5 ?kK ?k6 ?k7 ?k8 ?kp ?kd ?ku ?_; walk_at "mine gotX") | (refine' ClX.use ((c_iso_xy _ _ _ _ _ _ _ _ _ _).as (emp2 _ _)) ?k1 ?k2 ?k3 ?k4 ?k5 ?kK ?k6 ?k7 ?k8 ?kp ?kd ?ku ?_; walk_at "mine gotX") | (refine' ClX.use ((c_iso_xw _ _ _ _ _ _ _ _ _ _).as (emp2 _ _)) ?k1 ?k2 ?k3 ?k4 ?k5 ?kK ?k6 ?k7 ?k8 ?kp ?kd ?ku ?_; walk_at "mine gotX") | (refine' ClX.use ((c_iso_xd _ _ _ _ _ _ _ _ _ _).as (emp3 _ _ _)) ?k1 ?k2 ?k3 ?k4 ?k5 ?kK ?k6 ?k7 ?k8 ?kp ?kd ?ku ?_; walk_at "mine gotX") | (refine' ClT.use (c_iso_A _ _ _ _ _ _ _ _ _ _ _ _ _) ?k1 ?k2 ?k3 ?k4 ?k5 ?kK ?kp ?kd ?ku ?_; walk_at "mine gotT") | (refine' ClT.use (c_iso_B _ _ _ _ _ _ _ _ _ _ _ _ _) ?k1 ?k2 ?k3 ?k4 ?k5 ?kK ?kp ?kd ?ku ?_; walk_at "mine gotT"))))
  unfold ClS
  k_fill; intro news dp un gd cn cs a ccd outer A₀ base h₀ L m s Q E hB hF hX hN hT hK hXB hTB hD hp hdp hun hM hret
  refine wpAny_call ?_; k_dflt (refine' code_defS ?k1 ?k2 ?k3 ?k4 ?k5 ?XB ?TB ?D ?T0 ?kA ?k6 ?k7 ?k8 ?k9 ?kB ?_ ?cK ?c2 ?c3 ?c4 ?c5; (case kA => exact rfl); (case k2 => k_asm); (case k1 => k_asm); (case XB => assumption); (case TB => assumption); (case D => assumption); (case T0 => exact KtsTurn.refl); (case k3 => k_asm); (case k4 => k_asm); (case k5 => k_asm); (case k6 => k_is); (case k7 => k_is); (case k8 => ktr_room); (case k9 => exact BindsTo.of_eq rfl); (case kB => exact locs rfl); (case cK => assumption); (case c2 => exact rfl); (case c3 => exact rfl); (case c4 => exact rfl); (case c5 => decide); k_whole; intro g' L' h' FG' F' N' B' X' T' D'; (try dsimp only); (try k_lift B'); (try k_fold)); k_steps
  all_goals first
    | exact hret _ _ _ _ KtsTurn.refl (by k_asm) (by k_asm) hB hX hT hD
    | exact hret _ _ _ _ (by assumption) (by k_asm) (by first | k_asm | (refine' cb_drop ?cbN ?cbS; (case cbN => assumption); (case cbS => kcj_all))) (by assumption) (by assumption) (by assumption) (by assumption)
theorem c_told_iso_xw (w : World) (mean : ExcName → Option Value) (mg mb : Str → Option Value) (y wk wd : Int) (D₀ : Addr) (c0 : Nat) (s1 s2 s3 : Tok) :
   ClS w mean mg mb 7 113 ((1 ≤ y ∧ y ≤ 9999) ∧ (wk = 53 ∧ ¬ long y ∨ wk = 54)) D₀ { cls := .type "tuple", data := .seq #[.int y s1, .int wk s2, .int wd s3] c0 } [.ref 73, .ref D₀] (fun t => .str (Str.ofString "Invalid week: " ++ Str.ofString (toString wk)) t) := by
  k_with_none
  (k_with "execs cons" => (k_here; (first | (with_reducible show wpAny _ _ _ _ _ (Shared.mk _ _ _ (HAdd.hAdd _ _) _)) | (with_reducible show wpAny _ _ _ _ _ (Shared.mk _ _ _ (Shared.toks _) _))); (with_reducible refine clean ?_); intro tk0; dsimp only))
  (k_with "mine asks" => ((case k1 => k_asm); (case k2 => k_asm); (case k3 => k_asm); (case k4 => k_asm); (case k5 => k_asm); (case kK => first | exact rfl | assumption); (case kp => first | trivial | assumption | ((try dsimp only); omega)); (case kd => ktr_room); (case ku => ktr_units)))
  (k_with "mine gotI" => (walk_at "mine asks"; intro t9 h9 tk9 F9 N9; (try dsimp only); (try k_fold)))
  (k_with "call ref" => (k_here; k_dflt (first | (refine' ClI.use (c_is_leap _ _ _ _ _ _) ?k1 ?k2 ?k3 ?k4 ?k5 ?kK ?kp ?kd ?ku ?_; walk_at "mine gotI") | (refine' ClI.use (c_days_before_year _ _ _ _ _ _) ?k1 ?k2 ?k3 ?k4 ?k5 ?kK ?kp ?kd ?ku ?_; walk_at "mine gotI"))))
  (k_with "subscriptTail" => (k_here; (with_reducible show wpAny _ _ (subscriptTail _ _ (Value.ref 15) (Value.int _ _)) _ _ _); (with_unfolding_all refine' tab_item (ns := [-1, 31, 28, 31, 30, 31, 30, 31, 31, 30, 31, 30, 31]) ?k1 ?k2 ?k3 ?k4 ?k5 ?k7 ?_ ?k6; (case k1 => k_asm); (case k2 => k_asm); (case k3 => kernel_rfl); (case k4 => omega); (case k5 => ((try simp only [List.length]); omega)); (case k7 => decide); (case k6 => with_unfolding_all rfl); k_whole); intro t'; (try dsimp only)))
  (k_with "subscriptTail" => (k_here; (with_reducible show wpAny _ _ (subscriptTail _ _ (Value.ref 16) (Value.int _ _)) _ _ _); (with_unfolding_all refine' tab_item (ns := [-1, 0, 31, 59, 90, 120, 151, 181, 212, 243, 273, 304, 334]) ?k1 ?k2 ?k3 ?k4 ?k5 ?k7 ?_ ?k6; (case k1 => k_asm); (case k2 => k_asm); (case k3 => kernel_rfl); (case k4 => omega); (case k5 => ((try simp only [List.length]); omega)); (case k7 => decide); (case k6 => with_unfolding_all rfl); k_whole); intro t'; (try dsimp only)))
  (k_with "mine asks" => ((case k1 => k_asm); (case k2 => k_asm); (case k3 => k_asm); (case k4 => k_asm); (case k5 => k_asm); (case kK => first | exact rfl | assumption); (case kp => first | trivial | assumption | ((try dsimp only); omega) | ((have hdm := dim_ge _ _); omega) | exact ⟨⟨by omega, by omega⟩, by omega, Int.le_trans (by omega) (dim_ge _ _)⟩); (case kd => ktr_room); (case ku => ktr_units)))
  (k_with "call ref" => (k_here; k_dflt (first | (refine' ClI.use (c_days_in_month _ _ _ _ _ _ _ _) ?k1 ?k2 ?k3 ?k4 ?k5 ?kK ?kp ?kd ?ku ?_; walk_at "mine gotI") | (refine' ClI.use (c_days_before_month _ _ _ _ _ _ _ _) ?k1 ?k2 ?k3 ?k4 ?k5 ?kK ?kp ?kd ?ku ?_; walk_at "mine gotI"))))
  (k_with "call ref" => (k_here; k_dflt (first | (refine' ClI.use (c_ymd2ord _ _ _ _ _ _ _ _ _ _) ?k1 ?k2 ?k3 ?k4 ?k5 ?kK ?kp ?kd ?ku ?_; walk_at "mine gotI"))))
  (k_with "exec Assert" => refine wpAny_Assert_msg rfl ?_)
  (k_with "call ref" => (k_here; k_dflt (first | (refine' ClI.use (c_isoweek1monday _ _ _ _ _ _) ?k1 ?k2 ?k3 ?k4 ?k5 ?kK ?kp ?kd ?ku ?_; walk_at "mine gotI"))))
  (k_with "storeName" => (k_here; (first | (with_reducible show wpAny _ _ (storeName _ _ (Value.int _ (HAdd.hAdd _ _))) _ _ _) | (with_reducible show wpAny _ _ (storeName _ _ (Value.int _ (Shared.toks _))) _ _ _)); (with_reducible refine genTokS ?_); intro tq; (try dsimp only)))
  (k_with "ite" => (k_here; first | (with_reducible refine iteE (by with_reducible assumption) ?_) | (with_reducible refine iteNe (by with_reducible assumption) ?_) | (with_reducible refine iteB (by with_reducible assumption) ?_) | (with_reducible refine iteBn (by with_reducible assumption) ?_) | (with_reducible refine iteP (by with_reducible assumption) ?_) | (with_reducible refine iteN (by with_reducible assumption) ?_) | (with_reducible refine iteE (by omega) ?_) | (with_reducible refine iteNe (by omega) ?_) | (with_reducible refine iteB (by omega) ?_) | (with_reducible refine iteBn (by omega) ?_) | (with_reducible refine iteP (by omega) ?_) | (with_reducible refine iteN (by omega) ?_)))
  (k_with "eval Call" => (k_here; (with_reducible show wpAny _ _ (eval (Expr.Call (Expr.Name _ _) _ [] _) _) _ _ _); k_dflt (refine Call_ ?_)))
  (k_with "mine gotT" => ((case k1 => k_asm); (case k2 => k_asm); (case k3 => k_asm); (case k4 => k_asm); (case k5 => k_asm); (case kK => first | exact rfl | assumption); (case kp => walk_at "mine preT"); (case kd => ktr_room); (case ku => ktr_units); intro D9 t9 u9 v9 c9 h9 tk9 l9 F9 N9; (try dsimp only); (try k_fold)))
  (k_with "mine preT" => (refine' ⟨?p1, ?p2, ?p3⟩; (case p3 => assumption); (case p1 => assumption); (case p2 => assumption)))
  (k_with "call ref" => (k_here; k_dflt (first | (refine' ClT.use (c_ord' _ _ _ _ _ _ _ _ _) ?k1 ?k2 ?k3 ?k4 ?k5 ?kK ?kp ?kd ?ku ?_; walk_at "mine gotT"))))
  (k_with "call ref" => (k_here; k_dflt (first | (refine' ClI.use (c_law_len _ _ _ _ _ _ _ _) ?k1 ?k2 ?k3 ?k4 ?k5 ?kK ?kp ?kd ?ku ?_; walk_at "mine gotI"))))
  (k_with "call ref" => (k_here; k_dflt (first | (refine' ClI.use (c_law_before _ _ _ _ _ _ _ _) ?k1 ?k2 ?k3 ?k4 ?k5 ?kK ?kp ?kd ?ku ?_; walk_at "mine gotI"))))
  (k_with "mine lt" => first | (with_reducible assumption) | exact lt_tail (by with_reducible assumption) | exact lt_tail (lt_tail (by with_reducible assumption)) | ((repeat (first | exact allLt_mem (by with_reducible assumption) | ((with_reducible rename (_ ∧ _) => hz9); obtain ⟨_, hz8⟩ := hz9)))))
  (k_with "mine gotD" => ((case k1 => k_asm); (case k2 => k_asm); (case k3 => k_asm); (case k4 => k_asm); (case k5 => k_asm); (case kK => first | exact rfl | assumption); (case kp => walk_at "mine preD"); (case kd => ktr_room); (case ku => ktr_units); intro y9 m9 d9 D9 t9 u9 v9 c9 h9 tk9 hm9 hd9 he9 l9 F9 N9; (try dsimp only); (try k_fold)))
  (k_with "mine preD" => (refine' ⟨?p1, ?p2, ?p3⟩; (case p1 => first | assumption | omega); (case p2 => assumption); (case p3 => omega)))
  (k_with "call ref" => (k_here; k_dflt (first | (refine' ClD.use (c_law_days _ _ _ _ _ _ _ _ _ _ _ _) ?k1 ?k2 ?k3 ?k4 ?k5 ?kK ?kp ?kd ?ku ?_; walk_at "mine gotD"))))
  (k_with "mine gotX" => ((case k1 => k_asm); (case k2 => k_asm); (case k3 => k_asm); (case k4 => k_asm); (case k5 => k_asm); (case kK => first | exact rfl | assumption); (case k6 => assumption); (case k7 => assumption); (case k8 => assumption); (case kp => first | assumption | omega); (case kd => ktr_room); (case ku => ktr_units); intro e9 t9 G9 h9 k9 tk9 F9 S9 R9 U9; (try dsimp only); (try k_fold)))
  (k_with "mine preT" => assumption)
  (k_with "call ref" => (k_here; k_dflt (first | (refine' ClX.use (c_ymd2ord_xm _ _ _ _ _ _ _ _ _ _) ?k1 ?k2 ?k3 ?k4 ?k5 ?kK ?k6 ?k7 ?k8 ?kp ?kd ?ku ?_; walk_at "mine gotX") | (refine' ClX.use (c_ymd2ord_xd _ _ _ _ _ _ _ _ _ _) ?k1 ?k2 ?k3 ?k4 ?k5 ?kK ?k6 ?k7 ?k8 ?kp ?kd ?ku ?_; walk_at "mine gotX") | (refine' ClX.use ((c_iso_xy _ _ _ _ _ _ _ _ _ _).as (emp2 _ _)) ?k1 ?k2 ?k3 ?k4 ?k5 ?kK ?k6 ?k7 ?k8 ?kp ?kd ?ku ?_; walk_at "mine gotX") | (refine' ClX.use ((c_iso_xw _ _ _ _ _ _ _ _ _ _).as (emp2 _ _)) ?k1 ?k2 ?k3 ?k4 ?k5 ?kK ?k6 ?k7 ?k8 ?kp ?kd ?ku ?_; walk_at "mine gotX") | (refine' ClX.use ((c_iso_xd _ _ _ _ _ _ _ _ _ _).as (emp3 _ _ _)) ?k1 ?k2 ?k3 ?k4 ?k5 ?kK ?k6 ?k7 ?k8 ?kp ?kd ?ku ?_; walk_at "mine gotX") | (refine' ClT.use (c_iso_A _ _ _ _ _ _ _ _ _ _ _ _ _) ?k1 ?k2 ?k3 ?k4 ?k5 ?kK ?kp ?kd ?ku ?_; walk_at "mine gotT") | (refine' ClT.use (c_iso_B _ _ _ _ _ _ _ _ _ _ _ _ _) ?k1 ?k2 ?k3 ?k4 ?k5 ?kK ?kp ?kd ?ku ?_; walk_at "mine gotT"))))
  unfold ClS
  k_fill; intro news dp un gd cn cs a ccd outer A₀ base h₀ L m s Q E hB hF hX hN hT hK hXB hTB hD hp hdp hun hM hret
  refine wpAny_call ?_; k_dflt (refine' code_defS ?k1 ?k2 ?k3 ?k4 ?k5 ?XB ?TB ?D ?T0 ?kA ?k6 ?k7 ?k8 ?k9 ?kB ?_ ?cK ?c2 ?c3 ?c4 ?c5; (case kA => exact rfl); (case k2 => k_asm); (case k1 => k_asm); (case XB => assumption); (case TB => assumption); (case D => assumption); (case T0 => exact KtsTurn.refl); (case k3 => k_asm); (case k4 => k_asm); (case k5 => k_asm); (case k6 => k_is); (case k7 => k_is); (case k8 => ktr_room); (case k9 => exact BindsTo.of_eq rfl); (case kB => exact locs rfl); (case cK => assumption); (case c2 => exact rfl); (case c3 => exact rfl); (case c4 => exact rfl); (case c5 => decide); k_whole; intro g' L' h' FG' F' N' B' X' T' D'; (try dsimp only); (try k_lift B'); (try k_fold)); k_steps
  all_goals first
    | exact hret _ _ _ _ KtsTurn.refl (by k_asm) (by k_asm) hB hX hT hD
    | exact hret _ _ _ _ (by assumption) (by k_asm) (by first | k_asm | (refine' cb_drop ?cbN ?cbS; (case cbN => assumption); (case cbS => kcj_all))) (by assumption) (by assumption) (by assumption) (by assumption)
theorem c_told_iso_xd (w : World) (mean : ExcName → Option Value) (mg mb : Str → Option Value) (y wk wd : Int) (D₀ : Addr) (c0 : Nat) (s1 s2 s3 : Tok) :
   ClS w mean mg mb 7 113 ((1 ≤ y ∧ y ≤ 9999) ∧ (1 ≤ wk ∧ wk ≤ 52 ∨ wk = 53 ∧ long y) ∧ (wd = 0 ∨ wd = 8)) D₀ { cls := .type "tuple", data := .seq #[.int y s1, .int wk s2, .int wd s3] c0 } [.ref 73, .ref D₀] (fun t => .str (Str.ofString "Invalid weekday: " ++ Str.ofString (toString wd) ++ Str.ofString " (range is [1, 7])") t) := by
  k_with_none
  (k_with "execs cons" => (k_here; (first | (with_reducible show wpAny _ _ _ _ _ (Shared.mk _ _ _ (HAdd.hAdd _ _) _)) | (with_reducible show wpAny _ _ _ _ _ (Shared.mk _ _ _ (Shared.toks _) _))); (with_reducible refine clean ?_); intro tk0; dsimp only))
  (k_with "mine asks" => ((case k1 => k_asm); (case k2 => k_asm); (case k3 => k_asm); (case k4 => k_asm); (case k5 => k_asm); (case kK => first | exact rfl | assumption); (case kp => first | trivial | assumption | ((try dsimp only); omega)); (case kd => ktr_room); (case ku => ktr_units)))
  (k_with "mine gotI" => (walk_at "mine asks"; intro t9 h9 tk9 F9 N9; (try dsimp only); (try k_fold)))
  (k_with "call ref" => (k_here; k_dflt (first | (refine' ClI.use (c_is_leap _ _ _ _ _ _) ?k1 ?k2 ?k3 ?k4 ?k5 ?kK ?kp ?kd ?ku ?_; walk_at "mine gotI") | (refine' ClI.use (c_days_before_year _ _ _ _ _ _) ?k1 ?k2 ?k3 ?k4 ?k5 ?kK ?kp ?kd ?ku ?_; walk_at "mine gotI"))))
  (k_with "subscriptTail" => (k_here; (with_reducible show wpAny _ _ (subscriptTail _ _ (Value.ref 15) (Value.int _ _)) _ _ _); (with_unfolding_all refine' tab_item (ns := [-1, 31, 28, 31, 30, 31, 30, 31, 31, 30, 31, 30, 31]) ?k1 ?k2 ?k3 ?k4 ?k5 ?k7 ?_ ?k6; (case k1 => k_asm); (case k2 => k_asm); (case k3 => kernel_rfl); (case k4 => omega); (case k5 => ((try simp only [List.length]); omega)); (case k7 => decide); (case k6 => with_unfolding_all rfl); k_whole); intro t'; (try dsimp only)))
  (k_with "subscriptTail" => (k_here; (with_reducible show wpAny _ _ (subscriptTail _ _ (Value.ref 16) (Value.int _ _)) _ _ _); (with_unfolding_all refine' tab_item (ns := [-1, 0, 31, 59, 90, 120, 151, 181, 212, 243, 273, 304, 334]) ?k1 ?k2 ?k3 ?k4 ?k5 ?k7 ?_ ?k6; (case k1 => k_asm); (case k2 => k_asm); (case k3 => kernel_rfl); (case k4 => omega); (case k5 => ((try simp only [List.length]); omega)); (case k7 => decide); (case k6 => with_unfolding_all rfl); k_whole); intro t'; (try dsimp only)))
  (k_with "mine asks" => ((case k1 => k_asm); (case k2 => k_asm); (case k3 => k_asm); (case k4 => k_asm); (case k5 => k_asm); (case kK => first | exact rfl | assumption); (case kp => first | trivial | assumption | ((try dsimp only); omega) | ((have hdm := dim_ge _ _); omega) | exact ⟨⟨by omega, by omega⟩, by omega, Int.le_trans (by omega) (dim_ge _ _)⟩); (case kd => ktr_room); (case ku => ktr_units)))
  (k_with "call ref" => (k_here; k_dflt (first | (refine' ClI.use (c_days_in_month _ _ _ _ _ _ _ _) ?k1 ?k2 ?k3 ?k4 ?k5 ?kK ?kp ?kd ?ku ?_; walk_at "mine gotI") | (refine' ClI.use (c_days_before_month _ _ _ _ _ _ _ _) ?k1 ?k2 ?k3 ?k4 ?k5 ?kK ?kp ?kd ?ku ?_; walk_at "mine gotI"))))
  (k_with "call ref" => (k_here; k_dflt (first | (refine' ClI.use (c_ymd2ord _ _ _ _ _ _ _ _ _ _) ?k1 ?k2 ?k3 ?k4 ?k5 ?kK ?kp ?kd ?ku ?_; walk_at "mine gotI"))))
  (k_with "exec Assert" => refine wpAny_Assert_msg rfl ?_)
  (k_with "call ref" => (k_here; k_dflt (first | (refine' ClI.use (c_isoweek1monday _ _ _ _ _ _) ?k1 ?k2 ?k3 ?k4 ?k5 ?kK ?kp ?kd ?ku ?_; walk_at "mine gotI"))))
  (k_with "storeName" => (k_here; (first | (with_reducible show wpAny _ _ (storeName _ _ (Value.int _ (HAdd.hAdd _ _))) _ _ _) | (with_reducible show wpAny _ _ (storeName _ _ (Value.int _ (Shared.toks _))) _ _ _)); (with_reducible refine genTokS ?_); intro tq; (try dsimp only)))
  (k_with "ite" => (k_here; first | (with_reducible refine iteE (by with_reducible assumption) ?_) | (with_reducible refine iteNe (by with_reducible assumption) ?_) | (with_reducible refine iteB (by with_reducible assumption) ?_) | (with_reducible refine iteBn (by with_reducible assumption) ?_) | (with_reducible refine iteP (by with_reducible assumption) ?_) | (with_reducible refine iteN (by with_reducible assumption) ?_) | (with_reducible refine iteE (by omega) ?_) | (with_reducible refine iteNe (by omega) ?_) | (with_reducible refine iteB (by omega) ?_) | (with_reducible refine iteBn (by omega) ?_) | (with_reducible refine iteP (by omega) ?_) | (with_reducible refine iteN (by omega) ?_)))
  (k_with "eval Call" => (k_here; (with_reducible show wpAny _ _ (eval (Expr.Call (Expr.Name _ _) _ [] _) _) _ _ _); k_dflt (refine Call_ ?_)))
  (k_with "mine gotT" => ((case k1 => k_asm); (case k2 => k_asm); (case k3 => k_asm); (case k4 => k_asm); (case k5 => k_asm); (case kK => first | exact rfl | assumption); (case kp => walk_at "mine preT"); (case kd => ktr_room); (case ku => ktr_units); intro D9 t9 u9 v9 c9 h9 tk9 l9 F9 N9; (try dsimp only); (try k_fold)))
  (k_with "mine preT" => (refine' ⟨?p1, ?p2, ?p3⟩; (case p3 => assumption); (case p1 => assumption); (case p2 => assumption)))
  (k_with "call ref" => (k_here; k_dflt (first | (refine' ClT.use (c_ord' _ _ _ _ _ _ _ _ _) ?k1 ?k2 ?k3 ?k4 ?k5 ?kK ?kp ?kd ?ku ?_; walk_at "mine gotT"))))
  (k_with "call ref" => (k_here; k_dflt (first | (refine' ClI.use (c_law_len _ _ _ _ _ _ _ _) ?k1 ?k2 ?k3 ?k4 ?k5 ?kK ?kp ?kd ?ku ?_; walk_at "mine gotI"))))
  (k_with "call ref" => (k_here; k_dflt (first | (refine' ClI.use (c_law_before _ _ _ _ _ _ _ _) ?k1 ?k2 ?k3 ?k4 ?k5 ?kK ?kp ?kd ?ku ?_; walk_at "mine gotI"))))
  (k_with "mine lt" => first | (with_reducible assumption) | exact lt_tail (by with_reducible assumption) | exact lt_tail (lt_tail (by with_reducible assumption)) | ((repeat (first | exact allLt_mem (by with_reducible assumption) | ((with_reducible rename (_ ∧ _) => hz9); obtain ⟨_, hz8⟩ := hz9)))))
  (k_with "mine gotD" => ((case k1 => k_asm); (case k2 => k_asm); (case k3 => k_asm); (case k4 => k_asm); (case k5 => k_asm); (case kK => first | exact rfl | assumption); (case kp => walk_at "mine preD"); (case kd => ktr_room); (case ku => ktr_units); intro y9 m9 d9 D9 t9 u9 v9 c9 h9 tk9 hm9 hd9 he9 l9 F9 N9; (try dsimp only); (try k_fold)))
  (k_with "mine preD" => (refine' ⟨?p1, ?p2, ?p3⟩; (case p1 => first | assumption | omega); (case p2 => assumption); (case p3 => omega)))
  (k_with "call ref" => (k_here; k_dflt (first | (refine' ClD.use (c_law_days _ _ _ _ _ _ _ _ _ _ _ _) ?k1 ?k2 ?k3 ?k4 ?k5 ?kK ?kp ?kd ?ku ?_; walk_at "mine gotD"))))
  (k_with "mine gotX" => ((case k1 => k_asm); (case k2 => k_asm); (case k3 => k_asm); (case k4 => k_asm); (case k5 => k_asm); (case kK => first | exact rfl | assumption); (case k6 => assumption); (case k7 => assumption); (case k8 => assumption); (case kp => first | assumption | omega); (case kd => ktr_room); (case ku => ktr_units); intro e9 t9 G9 h9 k9 tk9 F9 S9 R9 U9; (try dsimp only); (try k_fold)))
  (k_with "mine preT" => assumption)
  (k_with "call ref" => (k_here; k_dflt (first | (refine' ClX.use (c_ymd2ord_xm _ _ _ _ _ _ _ _ _ _) ?k1 ?k2 ?k3 ?k4 ?k5 ?kK ?k6 ?k7 ?k8 ?kp ?kd ?ku ?_; walk_at "mine gotX") | (refine' ClX.use (c_ymd2ord_xd _ _ _ _ _ _ _ _ _ _) ?k1 ?k2 ?k3 ?k4 ?k5 ?kK ?k6 ?k7 ?k8 ?kp ?kd ?ku ?_; walk_at "mine gotX") | (refine' ClX.use ((c_iso_xy _ _ _ _ _ _ _ _ _ _).as (emp2 _ _)) ?k1 ?k2 ?k3 ?k4 ?k5 ?kK ?k6 ?k7 ?k8 ?kp ?kd ?ku ?_; walk_at "mine gotX") | (refine' ClX.use ((c_iso_xw _ _ _ _ _ _ _ _ _ _).as (emp2 _ _)) ?k1 ?k2 ?k3 ?k4 ?k5 ?kK ?k6 ?k7 ?k8 ?kp ?kd ?ku ?_; walk_at "mine gotX") | (refine' ClX.use ((c_iso_xd _ _ _ _ _ _ _ _ _ _).as (emp3 _ _ _)) ?k1 ?k2 ?k3 ?k4 ?k5 ?kK ?k6 ?k7 ?k8 ?kp ?kd ?ku ?_; walk_at "mine gotX") | (refine' ClT.use (c_iso_A _ _ _ _ _ _ _ _ _ _ _ _ _) ?k1 ?k2 ?k3 ?k4 ?k5 ?kK ?kp ?kd ?ku ?_; walk_at "mine gotT") | (refine' ClT.use (c_iso_B _ _ _ _ _ _ _ _ _ _ _ _ _) ?k1 ?k2 ?k3 ?k4 ?k5 ?kK ?kp ?kd ?ku ?_; walk_at "mine gotT"))))
  unfold ClS
  k_fill; intro news dp un gd cn cs a ccd outer A₀ base h₀ L m s Q E hB hF hX hN hT hK hXB hTB hD hp hdp hun hM hret
  refine wpAny_call ?_; k_dflt (refine' code_defS ?k1 ?k2 ?k3 ?k4 ?k5 ?XB ?TB ?D ?T0 ?kA ?k6 ?k7 ?k8 ?k9 ?kB ?_ ?cK ?c2 ?c3 ?c4 ?c5; (case kA => exact rfl); (case k2 => k_asm); (case k1 => k_asm); (case XB => assumption); (case TB => assumption); (case D => assumption); (case T0 => exact KtsTurn.refl); (case k3 => k_asm); (case k4 => k_asm); (case k5 => k_asm); (case k6 => k_is); (case k7 => k_is); (case k8 => ktr_room); (case k9 => exact BindsTo.of_eq rfl); (case kB => exact locs rfl); (case cK => assumption); (case c2 => exact rfl); (case c3 => exact rfl); (case c4 => exact rfl); (case c5 => decide); k_whole; intro g' L' h' FG' F' N' B' X' T' D'; (try dsimp only); (try k_lift B'); (try k_fold)); k_steps
  all_goals first
    | exact hret _ _ _ _ KtsTurn.refl (by k_asm) (by k_asm) hB hX hT hD
    | exact hret _ _ _ _ (by assumption) (by k_asm) (by first | k_asm | (refine' cb_drop ?cbN ?cbS; (case cbN => assumption); (case cbS => kcj_all))) (by assumption) (by assumption) (by assumption) (by assumption)
theorem c_told_iso (w : World) (mean : ExcName → Option Value) (mg mb : Str → Option Value) (y wk wd Y M D : Int) (D₀ : Addr) (c0 : Nat) (s1 s2 s3 : Tok) :
   ClST w mean mg mb 7 113 ((1 ≤ y ∧ y ≤ 9999) ∧ (1 ≤ wk ∧ wk ≤ 52 ∨ wk = 53 ∧ long y) ∧ (1 ≤ wd ∧ wd ≤ 7) ∧ (1 ≤ M ∧ M ≤ 12) ∧ (1 ≤ D ∧ D ≤ dim Y M) ∧ isoMon y + ((wk - 1) * 7 + (wd - 1)) = ymd Y M D) D₀ { cls := .type "tuple", data := .seq #[.int y s1, .int wk s2, .int wd s3] c0 } [.ref 73, .ref D₀] Y M D := by
  k_with_none
  (k_with "execs cons" => (k_here; (first | (with_reducible show wpAny _ _ _ _ _ (Shared.mk _ _ _ (HAdd.hAdd _ _) _)) | (with_reducible show wpAny _ _ _ _ _ (Shared.mk _ _ _ (Shared.toks _) _))); (with_reducible refine clean ?_); intro tk0; dsimp only))
  (k_with "mine asks" => ((case k1 => k_asm); (case k2 => k_asm); (case k3 => k_asm); (case k4 => k_asm); (case k5 => k_asm); (case kK => first | exact rfl | assumption); (case kp => first | trivial | assumption | ((try dsimp only); omega)); (case kd => ktr_room); (case ku => ktr_units)))
  (k_with "mine gotI" => (walk_at "mine asks"; intro t9 h9 tk9 F9 N9; (try dsimp only); (try k_fold)))
  (k_with "call ref" => (k_here; k_dflt (first | (refine' ClI.use (c_is_leap _ _ _ _ _ _) ?k1 ?k2 ?k3 ?k4 ?k5 ?kK ?kp ?kd ?ku ?_; walk_at "mine gotI") | (refine' ClI.use (c_days_before_year _ _ _ _ _ _) ?k1 ?k2 ?k3 ?k4 ?k5 ?kK ?kp ?kd ?ku ?_; walk_at "mine gotI"))))
  (k_with "subscriptTail" => (k_here; (with_reducible show wpAny _ _ (subscriptTail _ _ (Value.ref 15) (Value.int _ _)) _ _ _); (with_unfolding_all refine' tab_item (ns := [-1, 31, 28, 31, 30, 31, 30, 31, 31, 30, 31, 30, 31]) ?k1 ?k2 ?k3 ?k4 ?k5 ?k7 ?_ ?k6; (case k1 => k_asm); (case k2 => k_asm); (case k3 => kernel_rfl); (case k4 => omega); (case k5 => ((try simp only [List.length]); omega)); (case k7 => decide); (case k6 => with_unfolding_all rfl); k_whole); intro t'; (try dsimp only)))
  (k_with "subscriptTail" => (k_here; (with_reducible show wpAny _ _ (subscriptTail _ _ (Value.ref 16) (Value.int _ _)) _ _ _); (with_unfolding_all refine' tab_item (ns := [-1, 0, 31, 59, 90, 120, 151, 181, 212, 243, 273, 304, 334]) ?k1 ?k2 ?k3 ?k4 ?k5 ?k7 ?_ ?k6; (case k1 => k_asm); (case k2 => k_asm); (case k3 => kernel_rfl); (case k4 => omega); (case k5 => ((try simp only [List.length]); omega)); (case k7 => decide); (case k6 => with_unfolding_all rfl); k_whole); intro t'; (try dsimp only)))
  (k_with "mine asks" => ((case k1 => k_asm); (case k2 => k_asm); (case k3 => k_asm); (case k4 => k_asm); (case k5 => k_asm); (case kK => first | exact rfl | assumption); (case kp => first | trivial | assumption | ((try dsimp only); omega) | ((have hdm := dim_ge _ _); omega) | exact ⟨⟨by omega, by omega⟩, by omega, Int.le_trans (by omega) (dim_ge _ _)⟩); (case kd => ktr_room); (case ku => ktr_units)))
  (k_with "call ref" => (k_here; k_dflt (first | (refine' ClI.use (c_days_in_month _ _ _ _ _ _ _ _) ?k1 ?k2 ?k3 ?k4 ?k5 ?kK ?kp ?kd ?ku ?_; walk_at "mine gotI") | (refine' ClI.use (c_days_before_month _ _ _ _ _ _ _ _) ?k1 ?k2 ?k3 ?k4 ?k5 ?kK ?kp ?kd ?ku ?_; walk_at "mine gotI"))))
  (k_with "call ref" => (k_here; k_dflt (first | (refine' ClI.use (c_ymd2ord _ _ _ _ _ _ _ _ _ _) ?k1 ?k2 ?k3 ?k4 ?k5 ?kK ?kp ?kd ?ku ?_; walk_at "mine gotI"))))
  (k_with "exec Assert" => refine wpAny_Assert_msg rfl ?_)
  (k_with "call ref" => (k_here; k_dflt (first | (refine' ClI.use (c_isoweek1monday _ _ _ _ _ _) ?k1 ?k2 ?k3 ?k4 ?k5 ?kK ?kp ?kd ?ku ?_; walk_at "mine gotI"))))
  (k_with "storeName" => (k_here; (first | (with_reducible show wpAny _ _ (storeName _ _ (Value.int _ (HAdd.hAdd _ _))) _ _ _) | (with_reducible show wpAny _ _ (storeName _ _ (Value.int _ (Shared.toks _))) _ _ _)); (with_reducible refine genTokS ?_); intro tq; (try dsimp only)))
  (k_with "ite" => (k_here; first | (with_reducible refine iteE (by with_reducible assumption) ?_) | (with_reducible refine iteNe (by with_reducible assumption) ?_) | (with_reducible refine iteB (by with_reducible assumption) ?_) | (with_reducible refine iteBn (by with_reducible assumption) ?_) | (with_reducible refine iteP (by with_reducible assumption) ?_) | (with_reducible refine iteN (by with_reducible assumption) ?_) | (with_reducible refine iteE (by omega) ?_) | (with_reducible refine iteNe (by omega) ?_) | (with_reducible refine iteB (by omega) ?_) | (with_reducible refine iteBn (by omega) ?_) | (with_reducible refine iteP (by omega) ?_) | (with_reducible refine iteN (by omega) ?_)))
  (k_with "eval Call" => (k_here; (with_reducible show wpAny _ _ (eval (Expr.Call (Expr.Name _ _) _ [] _) _) _ _ _); k_dflt (refine Call_ ?_)))
  (k_with "mine gotT" => ((case k1 => k_asm); (case k2 => k_asm); (case k3 => k_asm); (case k4 => k_asm); (case k5 => k_asm); (case kK => first | exact rfl | assumption); (case kp => walk_at "mine preT"); (case kd => ktr_room); (case ku => ktr_units); intro D9 t9 u9 v9 c9 h9 tk9 l9 F9 N9; (try dsimp only); (try k_fold)))
  (k_with "mine preT" => (refine' ⟨?p1, ?p2, ?p3⟩; (case p3 => assumption); (case p1 => assumption); (case p2 => assumption)))
  (k_with "call ref" => (k_here; k_dflt (first | (refine' ClT.use (c_ord' _ _ _ _ _ _ _ _ _) ?k1 ?k2 ?k3 ?k4 ?k5 ?kK ?kp ?kd ?ku ?_; walk_at "mine gotT"))))
  (k_with "call ref" => (k_here; k_dflt (first | (refine' ClI.use (c_law_len _ _ _ _ _ _ _ _) ?k1 ?k2 ?k3 ?k4 ?k5 ?kK ?kp ?kd ?ku ?_; walk_at "mine gotI"))))
  (k_with "call ref" => (k_here; k_dflt (first | (refine' ClI.use (c_law_before _ _ _ _ _ _ _ _) ?k1 ?k2 ?k3 ?k4 ?k5 ?kK ?kp ?kd ?ku ?_; walk_at "mine gotI"))))
  (k_with "mine lt" => first | (with_reducible assumption) | exact lt_tail (by with_reducible assumption) | exact lt_tail (lt_tail (by with_reducible assumption)) | ((repeat (first | exact allLt_mem (by with_reducible assumption) | ((with_reducible rename (_ ∧ _) => hz9); obtain ⟨_, hz8⟩ := hz9)))))
  (k_with "mine gotD" => ((case k1 => k_asm); (case k2 => k_asm); (case k3 => k_asm); (case k4 => k_asm); (case k5 => k_asm); (case kK => first | exact rfl | assumption); (case kp => walk_at "mine preD"); (case kd => ktr_room); (case ku => ktr_units); intro y9 m9 d9 D9 t9 u9 v9 c9 h9 tk9 hm9 hd9 he9 l9 F9 N9; (try dsimp only); (try k_fold)))
  (k_with "mine preD" => (refine' ⟨?p1, ?p2, ?p3⟩; (case p1 => first | assumption | omega); (case p2 => assumption); (case p3 => omega)))
  (k_with "call ref" => (k_here; k_dflt (first | (refine' ClD.use (c_law_days _ _ _ _ _ _ _ _ _ _ _ _) ?k1 ?k2 ?k3 ?k4 ?k5 ?kK ?kp ?kd ?ku ?_; walk_at "mine gotD"))))
  (k_with "mine gotX" => ((case k1 => k_asm); (case k2 => k_asm); (case k3 => k_asm); (case k4 => k_asm); (case k5 => k_asm); (case kK => first | exact rfl | assumption); (case k6 => assumption); (case k7 => assumption); (case k8 => assumption); (case kp => first | assumption | omega); (case kd => ktr_room); (case ku => ktr_units); intro e9 t9 G9 h9 k9 tk9 F9 S9 R9 U9; (try dsimp only); (try k_fold)))
  (k_with "mine preT" => assumption)
  (k_with "call ref" => (k_here; k_dflt (first | (refine' ClX.use (c_ymd2ord_xm _ _ _ _ _ _ _ _ _ _) ?k1 ?k2 ?k3 ?k4 ?k5 ?kK ?k6 ?k7 ?k8 ?kp ?kd ?ku ?_; walk_at "mine gotX") | (refine' ClX.use (c_ymd2ord_xd _ _ _ _ _ _ _ _ _ _) ?k1 ?k2 ?k3 ?k4 ?k5 ?kK ?k6 ?k7 ?k8 ?kp ?kd ?ku ?_; walk_at "mine gotX") | (refine' ClX.use ((c_iso_xy _ _ _ _ _ _ _ _ _ _).as (emp2 _ _)) ?k1 ?k2 ?k3 ?k4 ?k5 ?kK ?k6 ?k7 ?k8 ?kp ?kd ?ku ?_; walk_at "mine gotX") | (refine' ClX.use ((c_iso_xw _ _ _ _ _ _ _ _ _ _).as (emp2 _ _)) ?k1 ?k2 ?k3 ?k4 ?k5 ?kK ?k6 ?k7 ?k8 ?kp ?kd ?ku ?_; walk_at "mine gotX") | (refine' ClX.use ((c_iso_xd _ _ _ _ _ _ _ _ _ _).as (emp3 _ _ _)) ?k1 ?k2 ?k3 ?k4 ?k5 ?kK ?k6 ?k7 ?k8 ?kp ?kd ?ku ?_; walk_at "mine gotX") | (refine' ClT.use (c_iso_A _ _ _ _ _ _ _ _ _ _ _ _ _) ?k1 ?k2 ?k3 ?k4 ?k5 ?kK ?kp ?kd ?ku ?_; walk_at "mine gotT") | (refine' ClT.use (c_iso_B _ _ _ _ _ _ _ _ _ _ _ _ _) ?k1 ?k2 ?k3 ?k4 ?k5 ?kK ?kp ?kd ?ku ?_; walk_at "mine gotT"))))
  unfold ClST
  k_fill; intro news dp un gd cn cs a ccd outer A₀ base h₀ L m s Q E hB hF hX hN hT hK hXB hTB hD hp hdp hun hM hret
  obtain ⟨h1, h2 | ⟨h2, h3⟩, h4, h5, h6, h7⟩ := hp
  · have hp : (1 ≤ y ∧ y ≤ 9999) ∧ (1 ≤ wk ∧ wk ≤ 52) ∧ (1 ≤ wd ∧ wd ≤ 7) ∧ (1 ≤ M ∧ M ≤ 12) ∧ (1 ≤ D ∧ D ≤ dim Y M) ∧ isoMon y + ((wk - 1) * 7 + (wd - 1)) = ymd Y M D := ⟨h1, h2, h4, h5, h6, h7⟩
    refine wpAny_call ?_; k_dflt (refine' code_defS ?k1 ?k2 ?k3 ?k4 ?k5 ?XB ?TB ?D ?T0 ?kA ?k6 ?k7 ?k8 ?k9 ?kB ?_ ?cK ?c2 ?c3 ?c4 ?c5; (case kA => exact rfl); (case k2 => k_asm); (case k1 => k_asm); (case XB => assumption); (case TB => assumption); (case D => assumption); (case T0 => exact KtsTurn.refl); (case k3 => k_asm); (case k4 => k_asm); (case k5 => k_asm); (case k6 => k_is); (case k7 => k_is); (case k8 => ktr_room); (case k9 => exact BindsTo.of_eq rfl); (case kB => exact locs rfl); (case cK => assumption); (case c2 => exact rfl); (case c3 => exact rfl); (case c4 => exact rfl); (case c5 => decide); k_whole; intro g' L' h' FG' F' N' B' X' T' D'; (try dsimp only); (try k_lift B'); (try k_fold)); k_steps
    all_goals exact hret _ _ _ _ _ _ _ _ (by assumption) KtsTurn.refl (by k_asm) (by k_asm) hB hX hT hD
  · have hp : (1 ≤ y ∧ y ≤ 9999) ∧ wk = 53 ∧ long y ∧ (1 ≤ wd ∧ wd ≤ 7) ∧ (1 ≤ M ∧ M ≤ 12) ∧ (1 ≤ D ∧ D ≤ dim Y M) ∧ isoMon y + ((wk - 1) * 7 + (wd - 1)) = ymd Y M D := ⟨h1, h2, h3, h4, h5, h6, h7⟩
    refine wpAny_call ?_; k_dflt (refine' code_defS ?k1 ?k2 ?k3 ?k4 ?k5 ?XB ?TB ?D ?T0 ?kA ?k6 ?k7 ?k8 ?k9 ?kB ?_ ?cK ?c2 ?c3 ?c4 ?c5; (case kA => exact rfl); (case k2 => k_asm); (case k1 => k_asm); (case XB => assumption); (case TB => assumption); (case D => assumption); (case T0 => exact KtsTurn.refl); (case k3 => k_asm); (case k4 => k_asm); (case k5 => k_asm); (case k6 => k_is); (case k7 => k_is); (case k8 => ktr_room); (case k9 => exact BindsTo.of_eq rfl); (case kB => exact locs rfl); (case cK => assumption); (case c2 => exact rfl); (case c3 => exact rfl); (case c4 => exact rfl); (case c5 => decide); k_whole; intro g' L' h' FG' F' N' B' X' T' D'; (try dsimp only); (try k_lift B'); (try k_fold)); k_steps
    all_goals exact hret _ _ _ _ _ _ _ _ (by assumption) KtsTurn.refl (by k_asm) (by k_asm) hB hX hT hD
end toldwalk

section compS
open PyProof.Rows.LCg
/-- what a turned ground keeps -/
structure GG (K : Frag) (p : Program) (loose : List Str) (mean : ExcName → Option Value) (mg mb : Str → Option Value) (A₀ : Around) (base : Heap) (outer : List Env) (h₀ g : Heap) : Prop where
  T : KtsTurn (outer.filterMap (·.frame)) h₀ g
  B : Below A₀ base outer g
  X : K.In g
  P : Top p loose mean mg mb g
  D : KtsDicts (outer.filterMap (·.frame)) g
variable {K : Frag} {p : Program} {loose : List Str} {mean : ExcName → Option Value} {mg mb : Str → Option Value} {A₀ : Around} {base : Heap} {outer : List Env} {h₀ : Heap}
theorem GG.rebuild (Z : GG K p loose mean mg mb A₀ base outer h₀ h₀) (XB : K.In base) (TB : Top p loose mean mg mb base) {h : Heap} (k1 : ∀ b o, h₀.get? b = some o → b ∉ outer.filterMap (·.frame) → h.get? b = some o)
    (k2 : ∀ b o, h₀.get? b = some o → b ∈ outer.filterMap (·.frame) → ∃ sl, h.get? b = some { o with slots := sl }) : ∃ g, GG K p loose mean mg mb A₀ base outer h₀ g ∧ ∀ b o, g.get? b = some o → h.get? b = some o := by
  obtain ⟨T₁, S₁⟩ := kts_turn_at (h := h) (fs := outer.filterMap (·.frame)) (g := h₀) (fun b hb => by
    obtain ⟨_, o, ho, _⟩ := Z.B.frames.mem hb
    exact ⟨o, ho⟩) k1 k2
  have B₃ : Below A₀ base outer (ktsHeap h (outer.filterMap (·.frame)) h₀) := ⟨Z.B.stack, fun b o e => T₁.other b o (Z.B.stays b o e) (fun hm => by
    rw [(Z.B.frames.mem hm).1] at e
    cases e), Z.B.frames.of_keeps fun b o e _ => by
    obtain ⟨sl', hs'⟩ := T₁.up e
    exact ⟨_, hs', rfl⟩⟩
  exact ⟨_, ⟨T₁, B₃, XB.keeps B₃.stays, TB.keeps B₃.stays, Z.D.turn T₁⟩, S₁⟩

/-- an element's end, upon a turned ground -/
def EndS (G : Heap → Prop) (L : Addr) (m : Str → Option Value) (s₁ : Shared) (I : Addr) (oI : Obj) (C : Addr) (oC : Obj) (D : Addr) (oD : Obj) (S : List (Addr × Obj) → Prop) (rest : Value → List (Addr × Obj) → Prop) (y : Value) (s₂ : Shared) : Prop :=
  ∃ g h' tk news', s₂ = { s₁ with heap := h', toks := tk } ∧ G g ∧ Fr g L h' m ∧ News g L h' ((I, oI) :: (C, oC) :: (D, oD) :: news') ∧ Off3 I C D news' ∧ S news' ∧ rest y news'
def RestS (prog : Program) (w : World) (A : Around) (G : Heap → Prop) (L : Addr) (m : Str → Option Value) (env : Env) (elt : PySem.Expr) (x : Str) (scope : Scope) (cl : List (Str × Addr)) (s : Shared) (S : List (Addr × Obj) → Prop) (P : Nat → Value → Prop) (Q : Value → Shared → Prop) :
    Nat → Nat → List Value → List (Addr × Obj) → Prop
  | 0, _, ys, news => ∀ g, G g → FinE g L m s Q ys news
  | k + 1, i, ys, news => ∀ g v I oI C oC D m₂ h tk (E' : Value → Shared → Prop), G g → P i v → NsObj oC m₂ → m₂ x = some v → Fr g L h m → News g L h ((I, oI) :: (C, oC) :: (D, lst ys) :: news) → Off3 I C D news → ((@Ne Nat I C) ∧ (@Ne Nat I D) ∧ (@Ne Nat C D)) →
      wpAny (model prog w) A (eval elt (compEnvC scope cl C env)) (EndS G L m { s with heap := h, toks := tk } I oI C oC D (lst ys) S (fun y news' => RestS prog w A G L m env elt x scope cl s S P Q k (i + 1) (ys ++ [y]) news')) E' { s with heap := h, toks := tk }

def FrsOk (h₀ : Heap) (fs : List Addr) (frs : List (Addr × Obj)) : Prop := ∀ b o, h₀.get? b = some o → b ∈ fs → ∃ sl, (b, ({ o with slots := sl } : Obj)) ∈ frs
def frsOf (h : Heap) (fs : List Addr) : List (Addr × Obj) := fs.filterMap fun b => (h.get? b).map fun o => (b, o)
theorem mem_frsOf {h : Heap} {fs : List Addr} {q : Addr × Obj} (hq : q ∈ frsOf h fs) : q.1 ∈ fs ∧ h.get? q.1 = some q.2 := by
  obtain ⟨b, hb, e⟩ := List.mem_filterMap.mp hq
  cases hg : h.get? b with
  | none => rw [hg] at e; cases e
  | some o => rw [hg] at e; cases e; exact ⟨hb, hg⟩
theorem in_frsOf {h : Heap} {fs : List Addr} {b : Addr} {o : Obj} (hb : b ∈ fs) (e : h.get? b = some o) : (b, o) ∈ frsOf h fs :=
  List.mem_filterMap.mpr ⟨b, hb, by rw [e]; rfl⟩

theorem off3_right {I C D : Addr} {a b : List (Addr × Obj)} (h : Off3 I C D (a ++ b)) : Off3 I C D b := Off3.of fun q hq => h.mem q (List.mem_append_right _ hq)
theorem off1_mem {D : Addr} : ∀ {l : List (Addr × Obj)}, Off1 D l → ∀ q ∈ l, q.1 ≠ D
  | [], _, _, h => nomatch h
  | _ :: _, x, q, h => by
    rcases List.mem_cons.mp h with rfl | h
    · exact x.1
    · exact off1_mem x.2 q h
theorem off1_of {D : Addr} : ∀ {l : List (Addr × Obj)}, (∀ q ∈ l, q.1 ≠ D) → Off1 D l
  | [], _ => trivial
  | _ :: _, h => ⟨h _ List.mem_cons_self, off1_of fun q hq => h q (List.mem_cons_of_mem _ hq)⟩

variable {prog : Program} {w : World} {A : Around} {E : Value → Shared → Prop} {L : Addr} {m : Str → Option Value} {env : Env}
/-- from the small ground to a turned one -/
theorem small_up (Z : GG K p loose mean mg mb A₀ base outer h₀ h₀) (XB : K.In base) (TB : Top p loose mean mg mb base) {h : Heap} {frs pre nw : List (Addr × Obj)} (hf : FrsOk h₀ (outer.filterMap (·.frame)) frs)
    (F : Fr (hideAll h₀ (outer.filterMap (·.frame))) L h m) (N : News (hideAll h₀ (outer.filterMap (·.frame))) L h (pre ++ (frs ++ nw))) (off : ∀ q ∈ pre ++ nw, q.1 ∉ outer.filterMap (·.frame)) :
    ∃ g, GG K p loose mean mg mb A₀ base outer h₀ g ∧ Fr g L h m ∧ News g L h (pre ++ nw) := by
  obtain ⟨g, hg, hk⟩ := Z.rebuild XB TB (h := h) (fun b o e nm => F.keep b o (hideAll_get _ e nm)) (fun b o e hm => by
    obtain ⟨sl, hs⟩ := hf b o e hm
    exact ⟨sl, (N _ (List.mem_append_right _ (List.mem_append_left _ hs))).1⟩)
  refine ⟨g, hg, ⟨F.ns, hk, by rw [hg.T.size, ← hideAll_size (outer.filterMap (·.frame))]; exact F.above⟩, fun q hq => ?_⟩
  have hq' : q ∈ pre ++ (frs ++ nw) := by
    rcases List.mem_append.mp hq with z | z
    · exact List.mem_append_left _ z
    · exact List.mem_append_right _ (List.mem_append_right _ z)
  have z := N q hq'
  refine ⟨z.1, z.2.1, ?_⟩
  cases e : h₀.get? q.1 with
  | none => exact hg.T.none_ _ e
  | some o => have := hideAll_get (outer.filterMap (·.frame)) e (off q hq); rw [z.2.2] at this; cases this
/-- from a turned ground to the small one -/
theorem small_down (Z : GG K p loose mean mg mb A₀ base outer h₀ h₀) {g h : Heap} {nw : List (Addr × Obj)} (hg : GG K p loose mean mg mb A₀ base outer h₀ g) (F : Fr g L h m) (N : News g L h nw) :
    Fr (hideAll h₀ (outer.filterMap (·.frame))) L h m ∧ News (hideAll h₀ (outer.filterMap (·.frame))) L h nw ∧ News (hideAll h₀ (outer.filterMap (·.frame))) L h (frsOf h (outer.filterMap (·.frame))) ∧
      FrsOk h₀ (outer.filterMap (·.frame)) (frsOf h (outer.filterMap (·.frame))) ∧ ∀ q ∈ nw, q.1 ∉ outer.filterMap (·.frame) := by
  have up : ∀ b o, (hideAll h₀ (outer.filterMap (·.frame))).get? b = some o → g.get? b = some o := fun b o e => hg.T.other b o (of_hideAll _ e) fun hm => by
    rw [hideAll_none _ hm] at e; cases e
  have fr : ∀ b, b ∈ outer.filterMap (·.frame) → ∃ o, g.get? b = some o := fun b hb => by
    obtain ⟨_, o, ho, _⟩ := hg.B.frames.mem hb
    exact ⟨o, ho⟩
  refine ⟨⟨F.ns, fun b o e => F.keep b o (up b o e), by rw [hideAll_size, ← hg.T.size]; exact F.above⟩, fun q hq => ⟨(N q hq).1, (N q hq).2.1, ?_⟩, fun q hq => ?_, fun b o e hb => ?_, fun q hq hm => ?_⟩
  · cases e : (hideAll h₀ (outer.filterMap (·.frame))).get? q.1 with
    | none => rfl
    | some o => have := up _ _ e; rw [(N q hq).2.2] at this; cases this
  · obtain ⟨hb, e⟩ := mem_frsOf hq
    refine ⟨e, fun z => ?_, hideAll_none _ hb⟩
    obtain ⟨o, ho⟩ := fr _ hb
    rw [z, kts_self F] at ho
    cases ho
  · obtain ⟨sl, hs⟩ := hg.T.frame b o e hb
    exact ⟨sl, in_frsOf hb (F.keep _ _ hs)⟩
  · obtain ⟨o, ho⟩ := fr _ hm
    rw [(N q hq).2.2] at ho
    cases ho

theorem rest_small {elt : PySem.Expr} {x : Str} {scope : Scope} {cl : List (Str × Addr)} {s : Shared} {S S' : List (Addr × Obj) → Prop} {P : Nat → Value → Prop} {Q : Value → Shared → Prop}
    (Z : GG K p loose mean mg mb A₀ base outer h₀ h₀) (XB : K.In base) (TB : Top p loose mean mg mb base) (hS : ∀ a b, S b → S' (a ++ b)) :
    ∀ (k i : Nat) (ys : List Value) (news frs : List (Addr × Obj)), FrsOk h₀ (outer.filterMap (·.frame)) frs → (∀ q ∈ news, q.1 ∉ outer.filterMap (·.frame)) →
      RestS prog w A (GG K p loose mean mg mb A₀ base outer h₀) L m env elt x scope cl s S P Q k i ys news →
      CompRest prog w A (hideAll h₀ (outer.filterMap (·.frame))) L m env elt x scope cl s S' P (FinE (hideAll h₀ (outer.filterMap (·.frame))) L m s Q) k i ys (frs ++ news) := by
  have far : ∀ {frs : List (Addr × Obj)} {X : Addr}, FrsOk h₀ (outer.filterMap (·.frame)) frs → (∀ q ∈ frs, q.1 ≠ X) → X ∉ outer.filterMap (·.frame) := fun {frs X} hf ho hm => by
    obtain ⟨_, o, e, _⟩ := Z.B.frames.mem hm
    obtain ⟨sl, hs⟩ := hf _ _ e hm
    exact ho _ hs rfl
  intro k
  induction k with
  | zero =>
    intro i ys news frs hf off R D h tk F N o1
    have o1' := off1_mem o1
    obtain ⟨g, hg, F', N'⟩ := small_up (pre := [(D, lst ys)]) Z XB TB hf F N (fun q hq => by
      rcases List.mem_cons.mp hq with rfl | hq
      · exact far hf fun q hq => o1' q (List.mem_append_left _ hq)
      · exact off q hq)
    exact R g hg D h tk F' N' (off1_of fun q hq => o1' q (List.mem_append_right _ hq))
  | succ k ih =>
    intro i ys news frs hf off R v I oI C oC D m₂ h tk E' hP hC hx F N o3 ne
    have o3' := o3.mem
    obtain ⟨g, hg, F', N'⟩ := small_up (pre := [(I, oI), (C, oC), (D, lst ys)]) Z XB TB hf F N (fun q hq => by
      rcases List.mem_cons.mp hq with rfl | hq
      · exact far hf fun q hq => (o3' q (List.mem_append_left _ hq)).1
      rcases List.mem_cons.mp hq with rfl | hq
      · exact far hf fun q hq => (o3' q (List.mem_append_left _ hq)).2.1
      rcases List.mem_cons.mp hq with rfl | hq
      · exact far hf fun q hq => (o3' q (List.mem_append_left _ hq)).2.2
      · exact off q hq)
    refine wpAny_mono (R g v I oI C oC D m₂ h tk E' hg hP hC hx F' N' (off3_right o3) ne) (fun y s₂ hy => ?_) fun _ _ e => e
    obtain ⟨g', h', tk', news', rfl, hg', F₂, N₂, off₂, hS₂, R₂⟩ := hy
    obtain ⟨F₃, N₃, N₄, hf₃, off₃⟩ := small_down Z hg' F₂ N₂
    have fr : ∀ b, b ∈ outer.filterMap (·.frame) → ∃ o, g'.get? b = some o := fun b hb => by
      obtain ⟨_, o, ho, _⟩ := hg'.B.frames.mem hb
      exact ⟨o, ho⟩
    have ne' : ∀ X oX, (X, oX) ∈ ((I, oI) :: (C, oC) :: (D, lst ys) :: news') → ∀ q ∈ frsOf h' (outer.filterMap (·.frame)), q.1 ≠ X := fun X oX hX q hq z => by
      obtain ⟨o, ho⟩ := fr _ (mem_frsOf hq).1
      rw [z, (N₂ _ hX).2.2] at ho
      cases ho
    refine ⟨h', tk', frsOf h' (outer.filterMap (·.frame)) ++ news', rfl, F₃, fun q hq => ?_, Off3.of fun q hq => ?_, hS _ _ hS₂, ih _ _ _ _ hf₃ (fun q hq => off₃ q (.tail _ (.tail _ (.tail _ hq)))) R₂⟩
    · rcases List.mem_cons.mp hq with rfl | hq
      · exact N₃ _ (.head _)
      rcases List.mem_cons.mp hq with rfl | hq
      · exact N₃ _ (.tail _ (.head _))
      rcases List.mem_cons.mp hq with rfl | hq
      · exact N₃ _ (.tail _ (.tail _ (.head _)))
      rcases List.mem_append.mp hq with hq | hq
      · exact N₄ q hq
      · exact N₃ _ (.tail _ (.tail _ (.tail _ hq)))
    · rcases List.mem_append.mp hq with hq | hq
      · exact ⟨ne' _ _ (.head _) q hq, ne' _ _ (.tail _ (.head _)) q hq, ne' _ _ (.tail _ (.tail _ (.head _))) q hq⟩
      · exact off₂.mem q hq
/-- the source: a list of the ledger's -/
def SrcS (prog : Program) (w : World) (A : Around) (G : Heap → Prop) (L : Addr) (m : Str → Option Value) (env : Env) (elt : PySem.Expr) (x : Str) (scope : Scope) (cl : List (Str × Addr)) (Q : Value → Shared → Prop) (xv : Value) (s₁ : Shared) : Prop :=
  ∃ ax its k news g, xv = .ref ax ∧ A.handled = none ∧ G g ∧ Fr g L s₁.heap m ∧ News g L s₁.heap news ∧ (ax, ({ cls := .type "list", data := .seq its k } : Obj)) ∈ news ∧ its.size ≤ sizeLine ∧
    ∀ h, RestS prog w A G L m env elt x scope cl { s₁ with heap := h } (fun nw => (ax, ({ cls := .type "list", data := .seq its k } : Obj)) ∈ nw) (fun i v => its[i]? = some v) Q its.size 0 [] news
theorem SrcS.intro {G : Heap → Prop} {elt : PySem.Expr} {x : Str} {scope : Scope} {cl : List (Str × Addr)} {Q : Value → Shared → Prop} {ax : Addr} {its : Array Value} {k : Nat} {news : List (Addr × Obj)} {g : Heap} {s₁ : Shared}
    (hh : A.handled = none) (F : Fr g L s₁.heap m) (N : News g L s₁.heap news) (hg : G g) (hm : (ax, ({ cls := .type "list", data := .seq its k } : Obj)) ∈ news) (hsz : its.size ≤ sizeLine)
    (h : ∀ h, RestS prog w A G L m env elt x scope cl { s₁ with heap := h } (fun nw => (ax, ({ cls := .type "list", data := .seq its k } : Obj)) ∈ nw) (fun i v => its[i]? = some v) Q its.size 0 [] news) :
    SrcS prog w A G L m env elt x scope cl Q (.ref ax) s₁ := ⟨ax, its, k, news, g, rfl, hh, hg, F, N, hm, hsz, h⟩
theorem ListComp_S {elt iter : PySem.Expr} {x : Str} {px : Pos} {scope : Scope} {cl : List (Str × Addr)} {pos : Pos} {Q : Value → Shared → Prop} {s : Shared}
    (F₀ : Fr h₀ L s.heap m) (Z : GG K p loose mean mg mb A₀ base outer h₀ h₀) (XB : K.In base) (TB : Top p loose mean mg mb base)
    (hclos : closureFor scope env = pure cl) (hcell : ∀ y ∈ scope.names, y.2 ≠ .cell) (hkind : scope.kind = .function)
    (hnames : ∀ y ∈ scope.names, y.2 = .local → scope.names.lookup y.1 = some .local) (hx : scope.names.lookup x = some .local)
    (h : wpAny (model prog w) A (eval iter env) (SrcS prog w A (GG K p loose mean mg mb A₀ base outer h₀) L m env elt x scope cl Q) E s)
    (hs : ∀ x, foldedSetIterable iter env x = pure x := by intro _; rfl) :
    wpAny (model prog w) A (eval (.ListComp elt [⟨.Name x px, iter, [], 0⟩] scope pos) env) Q E s := by
  refine ListComp_U (h₀ := hideAll h₀ (outer.filterMap (·.frame))) (L := L) (m := m) (small_down Z Z F₀ News.nil).1 hclos hcell hkind hnames hx (wpAny_mono h (fun xv s₁ hq => ?_) fun _ _ e => e) hs
  obtain ⟨ax, its, k, news, g, rfl, hh, hg, F, N, hm, hsz, R⟩ := hq
  obtain ⟨F₃, N₃, N₄, hf₃, off₃⟩ := small_down Z hg F N
  refine CompSrc.ledger hh F₃ (news := frsOf s₁.heap (outer.filterMap (·.frame)) ++ news) (fun q hq => ?_) (List.mem_append_right _ hm) hsz fun h => ?_
  · rcases List.mem_append.mp hq with hq | hq
    · exact N₄ q hq
    · exact N₃ q hq
  · exact rest_small Z XB TB (fun a b hb => .inr ⟨_, List.mem_append_right _ hb, rfl, _, rfl⟩) _ _ _ _ _ hf₃ off₃ (R h)
end compS

/-- a fact kept out of the arithmetic's sight -/
def Hd (p : Prop) : Prop := p
theorem Hd.o {p : Prop} (h : Hd p) : p := h
theorem year_bound {Y M Dd N wd : Int} (hT : ymd Y M Dd = N + (4 - wd)) (hm : 1 ≤ M ∧ M ≤ 12) (hd : 1 ≤ Dd ∧ Dd ≤ dim Y M) (hw : 1 ≤ wd ∧ wd ≤ 7) (hb : Hd (N.natAbs ≤ 10 ^ 15)) : -10000000000000 < Y ∧ Y < 10000000000000 := by
  replace hb := hb.o
  have h1 := doy_ge (y := Y) hm hd.1
  have h2 := doy_lt hm hd.2
  have e : (10 : Nat) ^ 15 = 1000000000000000 := by decide
  rw [e] at hb
  unfold doy at h1 h2
  unfold ymd dby at hT
  split at h2 <;> lia
theorem wk_core : ∀ i : Fin 7, ∀ lp : Bool, (4 ≤ (i.val : Int) + 7 * (if (i.val : Int) > 3 then 0 else 1) ∧ (i.val : Int) + 7 * (if (i.val : Int) > 3 then 0 else 1) ≤ 10) ∧
    (0 ≤ 4 + (if lp then 1 else 0) + (i.val : Int) - 7 * ((4 + (if lp then 1 else 0) + (i.val : Int)) / 7) ∧ 4 + (if lp then 1 else 0) + (i.val : Int) - 7 * ((4 + (if lp then 1 else 0) + (i.val : Int)) / 7) < 7) ∧
    (((if (i.val : Int) > 3 then (0 : Int) else 1) + (4 + (if lp then 1 else 0) + (i.val : Int)) / 7 = 1 ∧ ¬ (((i.val : Int) + 1) % 7 = 4 ∨ (((i.val : Int) + 1) % 7 = 3 ∧ lp = true))) ∨
     ((if (i.val : Int) > 3 then (0 : Int) else 1) + (4 + (if lp then 1 else 0) + (i.val : Int)) / 7 = 2 ∧ (((i.val : Int) + 1) % 7 = 4 ∨ (((i.val : Int) + 1) % 7 = 3 ∧ lp = true)))) := by decide +kernel
/-- the year's first day and its monday, by the day before it: 7 k + b -/
theorem wk_year (Y : Int) : ∃ k b j x l : Int, dby Y = 7 * k + b ∧ isoMon Y = 7 * k + 8 - 7 * j ∧ 28 + l = dim Y 2 ∧ dbm Y 12 = 334 + l ∧ (4 ≤ b + 7 * j ∧ b + 7 * j ≤ 10) ∧ (0 ≤ 4 + l + b - 7 * x ∧ 4 + l + b - 7 * x < 7) ∧ ((j + x = 1 ∧ ¬ long Y) ∨ (j + x = 2 ∧ long Y)) := by
  obtain ⟨i, hi⟩ := fin0 (k := 6) ⟨Int.emod_nonneg (dby Y) (show (6 + 1 : Int) ≠ 0 by decide), Int.le_of_lt_add_one (Int.emod_lt_of_pos (dby Y) (show (0 : Int) < 6 + 1 by decide))⟩
  have hJ : ymd Y 1 1 = dby Y + 1 := by unfold ymd; rw [dbm_one, Int.add_zero]
  have hB := Int.mul_ediv_add_emod (dby Y) (6 + 1)
  obtain ⟨c1, c2, c3⟩ := wk_core i (isLeap Y)
  refine ⟨dby Y / 7, i.val, _, _, _, by rw [← hi]; exact hB.symm, ?_, ?_, dbm_last Y, c1, c2, ?_⟩
  · have e : (dby Y + 1 + 6) % 7 = (i.val : Int) := by rw [Int.add_assoc]; exact (Int.add_emod_right _ _).trans hi
    unfold isoMon; rw [hJ, e]; rw [hi] at hB
    change 7 * (dby Y / 7) + (i.val : Int) = dby Y at hB
    generalize dby Y / 7 = q at hB ⊢
    rw [← hB]; clear hB hJ hi e c1 c2 c3
    split <;> lia
  · unfold dim; rw [if_pos rfl]; cases isLeap Y <;> rfl
  · have e : (dby Y + 1) % 7 = ((i.val : Int) + 1) % 7 := by rw [← Int.emod_add_emod (dby Y)]; exact congrArg (fun z => (z + 1) % 7) hi
    unfold long; rw [hJ, e]; exact c3
theorem wk_week {b j v pl : Int} (h : 4 ≤ b + 7 * j ∧ b + 7 * j ≤ 10) (hp : pl = 7 * v + 4 - b) : pl + 6 = 7 * (v + j) + (10 - b - 7 * j) ∧ 0 ≤ 10 - b - 7 * j ∧ 10 - b - 7 * j < 7 := by lia
theorem wk_last {b x v pl l : Int} (hp : pl = 7 * v + 4 - b) : 337 + (28 + l) - pl = 7 * (51 + x - v) + (4 + l + b - 7 * x) := by lia
theorem wk_one {b j v : Int} (h : 4 ≤ b + 7 * j) (hp : 1 ≤ 7 * v + 4 - b) : 1 ≤ v + j := by lia
theorem wk_end {b x v l : Int} (h : 4 + l + b - 7 * x < 7) (hp : 7 * v + 4 - b ≤ 365 + l) : 0 ≤ 51 + x - v := by lia
theorem wk_sun {b x v l : Int} (h : 0 ≤ 4 + l + b - 7 * x ∧ 4 + l + b - 7 * x < 7) : 1 ≤ 7 * v + 4 - b + 7 * (51 + x - v) - (337 + (28 + l)) + 31 ∧ 7 * v + 4 - b + 7 * (51 + x - v) - (337 + (28 + l)) + 31 ≤ 31 := by lia
theorem wk_sum {j x v : Int} (h : j + x = 1) : v + j + (51 + x - v) = 52 := by lia
theorem wk_sum2 {j x v : Int} (h : j + x = 2) : v + j + (51 + x - v) = 53 := by lia
theorem wk_le {w l S : Int} (h : w + l = S) (hl : 0 ≤ l) : w ≤ S := h ▸ Int.le_add_of_nonneg_right hl
theorem wk_or {w : Int} {p : Prop} (h1 : 1 ≤ w) (h : w ≤ 53) (hp : p) : 1 ≤ w ∧ w ≤ 52 ∨ w = 53 ∧ p := by
  by_cases e : w = 53
  · exact .inr ⟨e, hp⟩
  · exact .inl ⟨h1, Int.le_of_lt_add_one (Int.lt_iff_le_and_ne.mpr ⟨h, e⟩)⟩
theorem wk_mon {k v j wd n : Int} (h : n - wd = 7 * (k + v)) : 7 * k + 8 - 7 * j = n - wd + 1 - 7 * (v + j - 1) := by lia
theorem wk_day {m n wd w : Int} (h : m = n - wd + 1 - 7 * (w - 1)) : m + ((w - 1) * 7 + (wd - 1)) = n := by lia
theorem wk_next {k b j v x l : Int} : 7 * k + 8 - 7 * j + ((v + j + (51 + x - v) - 1) * 7 + (7 - 1)) = 7 * k + b + (334 + l) + (7 * v + 4 - b + 7 * (51 + x - v) - (337 + (28 + l)) + 31) + 3 := by lia
theorem wk_pl {n wd u k b B pl : Int} (e : 7 * u + (wd - 1) = n - 1) (hB : B = 7 * k + b) (hT : B + pl = n + (4 - wd)) : pl = 7 * (u - k) + 4 - b ∧ n - wd = 7 * (k + (u - k)) := by lia
theorem weeks_facts {n N wd Y M Dd week last : Int} (hwd : wd = (n - 1) % 7 + 1) (hT : ymd Y M Dd = N + (4 - wd)) (hn : n = N) (hm : 1 ≤ M ∧ M ≤ 12) (hd : 1 ≤ Dd ∧ Dd ≤ dim Y M)
    (hw : week = (dbm Y M + Dd + 6) / 7) (hl : last = (337 + dim Y 2 - (dbm Y M + Dd)) / 7) :
    isoMon Y = n - wd + 1 - 7 * (week - 1) ∧ Hd (1 ≤ week ∧ week ≤ 52 ∨ week = 53 ∧ long Y) ∧ Hd (1 ≤ week + last ∧ week + last ≤ 52 ∨ week + last = 53 ∧ long Y) ∧ Hd (week + last + 1 = 53 ∧ ¬ long Y ∨ week + last + 1 = 54) ∧
    Hd (1 ≤ dbm Y M + Dd + 7 * last - (337 + dim Y 2) + 31 ∧ dbm Y M + Dd + 7 * last - (337 + dim Y 2) + 31 ≤ dim Y 12) ∧
    Hd (isoMon Y + ((week - 1) * 7 + (wd - 1)) = N) ∧
    (∀ y' m' d', ymd y' m' d' = ymd Y 12 (dbm Y M + Dd + 7 * last - (337 + dim Y 2) + 31) + 3 → isoMon Y + ((week + last - 1) * 7 + (7 - 1)) = ymd y' m' d') ∧ (1 ≤ week ∧ week ≤ 53 ∧ 0 ≤ last ∧ week + last ≤ 53) := by
  obtain ⟨k, b, j, x, l, hB, hM, hL, h12, c1, c2, c3⟩ := wk_year Y
  have p0 : 1 ≤ dbm Y M + Dd := Int.le_trans hd.1 (Int.le_add_of_nonneg_left (dbm_nonneg Y hm))
  have p1 : dbm Y M + Dd ≤ 365 + l := by
    have := doy_lt hm hd.2
    have h2 := dbm_last Y
    rw [h12] at h2; rw [← Int.add_left_cancel h2] at this
    exact Int.le_trans (Int.le_add_of_sub_right_le this) (Int.le_of_eq (by rw [Int.add_right_comm]; rfl))
  rw [ymd, Int.add_assoc] at hT
  have hu : 7 * ((n - 1) / 7) + (wd - 1) = n - 1 := by rw [hwd, Int.add_sub_cancel]; exact Int.mul_ediv_add_emod _ _
  subst hn
  obtain ⟨hp, hq⟩ := wk_pl hu hB hT
  clear hu hwd hT
  generalize (n - 1) / 7 - k = v at hp hq
  obtain ⟨w1, w2, w3⟩ := wk_week c1 hp
  rw [ediv_of w1 w2 w3] at hw
  rw [← hL, ediv_of (wk_last (x := x) (l := l) hp) c2.1 c2.2] at hl
  have hS : ∀ e, ymd Y 12 e = 7 * k + b + (334 + l) + e := fun e => by rw [ymd, hB, h12]
  simp only [hS, hM, dim_last, ← hL]
  clear w1 w2 w3 hS hd hB h12 hL
  rw [hp] at p0 p1
  generalize dbm Y M + Dd = pl at *
  subst hp hw hl
  have o1 := wk_one c1.1 p0
  have o2 := wk_end c2.2 p1
  have o3 := wk_mon (j := j) hq
  have o4 : 1 ≤ v + j + (51 + x - v) := Int.le_trans o1 (Int.le_add_of_nonneg_right o2)
  have o5 : v + j + (51 + x - v) ≤ 53 := by rcases c3 with ⟨h, _⟩ | ⟨h, _⟩ <;> first | rw [wk_sum h]; decide | rw [wk_sum2 h]; decide
  refine ⟨o3, ?_, ?_, ?_, wk_sun c2, wk_day o3, fun y' m' d' h => by rw [h]; exact wk_next, o1, wk_le rfl o2 |> (Int.le_trans · o5), o2, o5⟩
  · rcases c3 with ⟨h, _⟩ | ⟨_, h⟩
    · exact .inl ⟨o1, wk_le (wk_sum h) o2⟩
    · exact wk_or o1 (Int.le_trans (wk_le rfl o2) o5) h
  · rcases c3 with ⟨h, _⟩ | ⟨_, h⟩
    · exact .inl ⟨o4, by rw [wk_sum h]; decide⟩
    · exact wk_or o4 o5 h
  · rcases c3 with ⟨h, g⟩ | ⟨h, _⟩
    · exact .inl ⟨by rw [wk_sum h]; rfl, g⟩
    · exact .inr (by rw [wk_sum2 h]; rfl)
theorem wd_ex (n : Int) : ∃ wd, (n - 1).fmod 7 + 1 = wd ∧ wd = (n - 1) % 7 + 1 ∧ (1 ≤ wd ∧ wd ≤ 7) := ⟨_, rfl, by rw [fm (by decide)], by rw [fm (by decide)]; lia⟩
theorem fd7_ex (a : Int) : ∃ W, a.fdiv 7 = W ∧ W = a / 7 := ⟨_, rfl, fd (by decide)⟩
theorem nat_of {Y : Int} (h : -10000000000000 < Y ∧ Y < 10000000000000) : Y.natAbs < 10 ^ 13 := by
  have e2 : (10 : Nat) ^ 13 = 10000000000000 := by decide
  rw [e2]; lia

section eqs
open PyProof
theorem ok_of (x : String) : PyData.strOk (Str.ofString x) = true := by
  rw [Str.ofString_eq_toList]
  unfold PyData.strOk
  rw [Array.all_eq_true_iff_forall_mem]
  intro n hn
  simp only [List.mem_toArray, List.mem_map] at hn
  obtain ⟨c, _, rfl⟩ := hn
  rw [decide_eq_true_eq]
  rcases c.valid with h | h
  · exact Nat.lt_trans h (by decide)
  · exact h.2
theorem ok_app {a b : Str} (ha : PyData.strOk a = true) (hb : PyData.strOk b = true) : PyData.strOk (a ++ b) = true := by
  show (a.cps ++ b.cps).all _ = true
  unfold PyData.strOk at ha hb
  rw [Array.all_append, ha, hb]; rfl
theorem ok_2 (a b : String) : PyData.strOk (Str.ofString a ++ Str.ofString b) = true := ok_app (ok_of _) (ok_of _)
theorem ok_3 (a b c : String) : PyData.strOk (Str.ofString a ++ Str.ofString b ++ Str.ofString c) = true := ok_app (ok_2 _ _) (ok_of _)
variable {prog : Program} {w : World} {A : Around} {E : Value → Shared → Prop} {s : Shared} {h₀ : Heap} {L : Addr} {news : List (Addr × Obj)} {a b : Addr} {k k' : Nat} {vs us : Array Value} {ds : List PyData} {as bs : List Addr} {Q : Value → Shared → Prop}
theorem eq_lists (N : News h₀ L s.heap news) (ha : (a, listOf vs k) ∈ news) (hb : (b, listOf us k') ∈ news) (ra : ReadsAll s.heap vs.toList ds as) (rb : ReadsAll s.heap us.toList ds bs) (sh : SeqAt.shaped (.list ds) = true) (hu : A.units + 64 < cLine) (h : Q (.bool true) s) :
    wpAny (model prog w) A (compareOp .Eq (.ref a) (.ref b)) Q E s :=
  eq_dataH (reads_list_at (N.get ha) rfl rfl ra) (reads_list_at (N.get hb) rfl rfl rb) sh sh hu (by rw [SeqAt.eqv_refl _ (SeqAt.canLay_of_shaped sh)]; exact h)
theorem ne_lists (N : News h₀ L s.heap news) (ha : (a, listOf vs k) ∈ news) (hb : (b, listOf us k') ∈ news) (ra : ReadsAll s.heap vs.toList ds as) (rb : ReadsAll s.heap us.toList ds bs) (sh : SeqAt.shaped (.list ds) = true) (hu : A.units + 64 < cLine) (h : Q (.bool false) s) :
    wpAny (model prog w) A (compareOp .NotEq (.ref a) (.ref b)) Q E s :=
  ne_dataH (reads_list_at (N.get ha) rfl rfl ra) (reads_list_at (N.get hb) rfl rfl rb) sh sh hu (by rw [SeqAt.eqv_refl _ (SeqAt.canLay_of_shaped sh)]; exact h)
theorem eq_tups (N : News h₀ L s.heap news) (ha : (a, ({ cls := .type "tuple", data := .seq vs k } : Obj)) ∈ news) (hb : (b, ({ cls := .type "tuple", data := .seq us k' } : Obj)) ∈ news) (ra : ReadsAll s.heap vs.toList ds as) (rb : ReadsAll s.heap us.toList ds bs) (sh : SeqAt.shaped (.tuple ds) = true) (hu : A.units + 64 < cLine) (h : Q (.bool true) s) :
    wpAny (model prog w) A (compareOp .Eq (.ref a) (.ref b)) Q E s :=
  eq_dataH (reads_tuple_at (N.get ha) rfl rfl ra) (reads_tuple_at (N.get hb) rfl rfl rb) sh sh hu (by rw [SeqAt.eqv_refl _ (SeqAt.canLay_of_shaped sh)]; exact h)
theorem rd_tup {h : Heap} {D : Addr} {y mo d : Int} {t1 t2 t3 : Tok} {c : Nat} (N : News h₀ L h news) (hm : (D, ({ cls := .type "tuple", data := .seq #[.int y t1, .int mo t2, .int d t3] c } : Obj)) ∈ news) : Reads h (.ref D) (.tuple [.int y, .int mo, .int d]) [] :=
  reads_tuple_at (N.get hm) rfl rfl (ReadsAll.cons (Reads.int _ _) (ReadsAll.cons (Reads.int _ _) (ReadsAll.cons (Reads.int _ _) ReadsAll.nil)))
theorem sh_week (y mo d y' mo' d' : Int) {x1 x2 x3 : Str} (h1 : PyData.strOk x1 = true) (h2 : PyData.strOk x2 = true) (h3 : PyData.strOk x3 = true) : SeqAt.shaped (.list [.tuple [.int y, .int mo, .int d], .tuple [.int y', .int mo', .int d'], .str x1, .str x2, .str x3]) = true := by
  simp [SeqAt.shaped, PyData.canLay0, PyData.canLayAll0, PyData.depth, PyData.depthAll, h1, h2, h3]
theorem sh_five {x : Str} (h : PyData.strOk x = true) : SeqAt.shaped (.list [.str x, .str x, .str x, .str x, .str x]) = true := by
  simp [SeqAt.shaped, PyData.canLay0, PyData.canLayAll0, PyData.depth, PyData.depthAll, h]
theorem sh_told (n : Int) {x1 x2 x3 x4 : Str} (h1 : PyData.strOk x1 = true) (h2 : PyData.strOk x2 = true) (h3 : PyData.strOk x3 = true) (h4 : PyData.strOk x4 = true) : SeqAt.shaped (.list [.int n, .str x1, .str x2, .str x3, .str x4]) = true := by
  simp [SeqAt.shaped, PyData.canLay0, PyData.canLayAll0, PyData.depth, PyData.depthAll, h1, h2, h3, h4]
theorem sh_four (b : Bool) (i j l : Int) : SeqAt.shaped (.list [.bool b, .int i, .int j, .int l]) = true := by
  simp [SeqAt.shaped, PyData.canLay0, PyData.canLayAll0, PyData.depth, PyData.depthAll]
theorem sh_tup (i j l : Int) : SeqAt.shaped (.tuple [.int i, .int j, .int l]) = true := by
  simp [SeqAt.shaped, PyData.canLay0, PyData.canLayAll0, PyData.depth, PyData.depthAll]
end eqs

section restintro
open PyProof.Rows.LCg
variable {prog : Program} {w : World} {A : Around} {G : Heap → Prop} {L : Addr} {m : Str → Option Value} {env : Env} {elt : PySem.Expr} {x : Str} {scope : Scope} {cl : List (Str × Addr)} {s : Shared} {S : List (Addr × Obj) → Prop} {P : Nat → Value → Prop} {Q : Value → Shared → Prop}
theorem RestS.succ {k i : Nat} {ys : List Value} {news : List (Addr × Obj)}
    (h : ∀ g v I oI C oC D m₂ h tk (E' : Value → Shared → Prop), G g → P i v → NsObj oC m₂ → m₂ x = some v → Fr g L h m → News g L h ((I, oI) :: (C, oC) :: (D, lst ys) :: news) → Off3 I C D news → ((@Ne Nat I C) ∧ (@Ne Nat I D) ∧ (@Ne Nat C D)) →
      wpAny (model prog w) A (eval elt (compEnvC scope cl C env)) (EndS G L m { s with heap := h, toks := tk } I oI C oC D (lst ys) S (fun y news' => RestS prog w A G L m env elt x scope cl s S P Q k (i + 1) (ys ++ [y]) news')) E' { s with heap := h, toks := tk }) :
    RestS prog w A G L m env elt x scope cl s S P Q (k + 1) i ys news := h
theorem RestS.zero {i : Nat} {ys : List Value} {news : List (Addr × Obj)} (h : ∀ g, G g → FinE g L m s Q ys news) : RestS prog w A G L m env elt x scope cl s S P Q 0 i ys news := h
theorem EndS.plain {s₁ : Shared} {I C D : Addr} {oI oC oD : Obj} {rest : Value → List (Addr × Obj) → Prop} {y : Value} {h' : Heap} {tk : Nat} {news g} (F : Fr g L h' m) (N : News g L h' ((I, oI) :: (C, oC) :: (D, oD) :: news)) (hg : G g) (off : Off3 I C D news) (hS : S news) (r : rest y news) :
    EndS G L m s₁ I oI C oC D oD S rest y { s₁ with heap := h', toks := tk } := ⟨g, h', tk, news, rfl, hg, F, N, off, hS, r⟩
theorem EndS.made {s₁ : Shared} {I C D X : Addr} {oI oC oD oX : Obj} {rest : Value → List (Addr × Obj) → Prop} {y : Value} {h' : Heap} {tk : Nat} {news g} (F : Fr g L h' m) (N : News g L h' ((X, oX) :: (I, oI) :: (C, oC) :: (D, oD) :: news)) (hg : G g)
    (lt : ∀ q ∈ (I, oI) :: (C, oC) :: (D, oD) :: news, q.1 < X) (off : Off3 I C D news) (hS : S ((X, oX) :: news)) (r : rest y ((X, oX) :: news)) :
    EndS G L m s₁ I oI C oC D oD S rest y { s₁ with heap := h', toks := tk } := by
  refine ⟨g, h', tk, (X, oX) :: news, rfl, hg, F, fun q hq => N q ?_, ⟨⟨Nat.ne_of_gt (lt _ (.head _)), Nat.ne_of_gt (lt _ (.tail _ (.head _))), Nat.ne_of_gt (lt _ (.tail _ (.tail _ (.head _))))⟩, off⟩, hS, r⟩
  rcases List.mem_cons.mp hq with rfl | hq
  · exact .tail _ (.head _)
  rcases List.mem_cons.mp hq with rfl | hq
  · exact .tail _ (.tail _ (.head _))
  rcases List.mem_cons.mp hq with rfl | hq
  · exact .tail _ (.tail _ (.tail _ (.head _)))
  rcases List.mem_cons.mp hq with rfl | hq
  · exact .head _
  · exact .tail _ (.tail _ (.tail _ (.tail _ hq)))
end restintro
/-- a local's value, kept by name -/
def LK (m : Str → Option Value) (x : Str) (v : Value) : Prop := m x = some v
theorem LK.get {m m' : Str → Option Value} {x : Str} {v : Value} (h : LK m' x v) (e : m x = m' x) : m x = some v := e.trans h
/-- from here on the locals and the ledger are known by what is asked of them alone -/
theorem cutW {G : Prop} {g h : Heap} {L : Addr} {m : Str → Option Value} {news : List (Addr × Obj)} (F : Fr g L h m) (N : News g L h news) (k : ∀ m' nw, Fr g L h m' → News g L h nw → (∀ x v, m x = some v → LK m' x v) → (∀ p, p ∈ news → p ∈ nw) → G) : G := k m news F N (fun _ _ h => h) (fun _ h => h)
theorem memI {α : Type} {a : α} {l : List α} (h : a ∈ l) : List.Mem a l := h
theorem subI {α : Type} {a : α} {k l : List α} (h : ∀ p, p ∈ k → p ∈ l) (g : a ∈ k) : List.Mem a l := h a g
theorem memL {m : Str → Option Value} {x : Str} {a : Addr} {o : Obj} {news nw : List (Addr × Obj)} (_ : LK m x (.ref a)) (h : ∀ p, p ∈ news → p ∈ nw) (g : (a, o) ∈ news) : (a, o) ∈ nw := h _ g
theorem mem5 {l a1 a2 a3 a4 a5 : Addr} {k : Nat} {o1 o2 o3 o4 o5 : Obj} {news nw : List (Addr × Obj)} (_ : (l, listOf #[.ref a1, .ref a2, .ref a3, .ref a4, .ref a5] k) ∈ nw) (h : ∀ p, p ∈ news → p ∈ nw) (g1 : (a1, o1) ∈ news) (g2 : (a2, o2) ∈ news) (g3 : (a3, o3) ∈ news) (g4 : (a4, o4) ∈ news) (g5 : (a5, o5) ∈ news) :
    (a1, o1) ∈ nw ∧ (a2, o2) ∈ nw ∧ (a3, o3) ∈ nw ∧ (a4, o4) ∈ nw ∧ (a5, o5) ∈ nw := ⟨h _ g1, h _ g2, h _ g3, h _ g4, h _ g5⟩
theorem mem2 {l a1 a2 : Addr} {v3 v4 v5 : Value} {k : Nat} {o1 o2 : Obj} {news nw : List (Addr × Obj)} (_ : (l, listOf #[.ref a1, .ref a2, v3, v4, v5] k) ∈ nw) (h : ∀ p, p ∈ news → p ∈ nw) (g1 : (a1, o1) ∈ news) (g2 : (a2, o2) ∈ news) : (a1, o1) ∈ nw ∧ (a2, o2) ∈ nw := ⟨h _ g1, h _ g2⟩
local macro_rules | `(tactic| k_mem) => `(tactic| exact memI (by with_reducible assumption))

theorem cutYr {M : Model} {A : Around} {E : Value → Shared → Prop} {m : Str → Option Value} {t : Sem Bool} {Y : Int} {u : Tok} {s : Shared} {Q : Bool → Shared → Prop} (_ : LK m (Str.ofString "year") (.int Y u)) (h1 : wpAny M A t (BT (decide (Y < 1) || decide (9999 < Y)) s) E s)
    (hA : ∀ tk, (Y < 1 ∨ 9999 < Y) → Q true { s with toks := tk }) (hB : ∀ tk, ¬ Y < 1 → ¬ 9999 < Y → Q false { s with toks := tk }) : wpAny M A t Q E s := by
  refine wpAny_mono h1 (fun v s' ⟨tk, e1, e2⟩ => ?_) (fun _ _ h => h)
  subst e1; subst e2
  by_cases a : Y < 1
  · rw [decide_eq_true a]; exact hA tk (.inl a)
  · by_cases b : 9999 < Y
    · rw [decide_eq_true b, Bool.or_true]; exact hA tk (.inr b)
    · rw [decide_eq_false a, decide_eq_false b]; exact hB tk a b
theorem BT.y1 {p q : Prop} {i : Decidable p} {j : Decidable q} {s : Shared} {tk : Nat} (h : p) : BT (decide p || decide q) s true { s with toks := tk } := ⟨tk, by simp [h], rfl⟩
theorem BT.y2 {p q : Prop} {i : Decidable p} {j : Decidable q} {s : Shared} {tk : Nat} (h : q) : BT (decide p || decide q) s true { s with toks := tk } := ⟨tk, by simp [h], rfl⟩
theorem BT.yf {p q : Prop} {i : Decidable p} {j : Decidable q} {s : Shared} {tk : Nat} (h : ¬ p) (g : ¬ q) : BT (decide p || decide q) s false { s with toks := tk } := ⟨tk, by simp [h, g], rfl⟩
theorem mul5 {prog : Program} {w : World} {A : Around} {E : Value → Shared → Prop} {s : Shared} {h₀ : Heap} {L : Addr} {m : Str → Option Value} {news : List (Addr × Obj)} {l : Addr} {v : Value} {k : Nat} {u : Tok} {Q : Value → Shared → Prop} (Fm : Fr h₀ L s.heap m) (N : News h₀ L s.heap news)
    (hm : (l, listOf #[v] k) ∈ news) (h : ∀ D h', Fr h₀ L h' m → News h₀ L h' ((D, listOf #[v, v, v, v, v] 0) :: news) → (∀ p ∈ news, p.1 < D) → Q (.ref D) { s with heap := h' }) : wpAny (model prog w) A (binaryOp .Mult (.ref l) (.int 5 u)) Q E s :=
  KMa.mul (vs := [v]) (ws := [v, v, v, v, v]) Fm N ⟨_, (N _ hm).1, rfl, k, rfl⟩ (by decide) (by decide) (Nat.le_of_ble_eq_true rfl) rfl h
theorem iteS {p : Prop} [Decidable p] {a b : Prop} (ha : p → a) (hb : ¬ p → b) : if decide p = true then a else b := by
  by_cases h : p
  · exact iteP h (ha h)
  · exact iteN h (hb h)
section weekswalk
set_option maxHeartbeats 4000000 in
theorem c_weeks (w : World) (mean : ExcName → Option Value) (mg mb : Str → Option Value) (y mo d n : Int) (D₀ : Addr) (c0 : Nat) (s1 s2 s3 t1 : Tok) :
   ClS w mean mg mb 9 118 ((1 ≤ mo ∧ mo ≤ 12) ∧ (1 ≤ d ∧ d ≤ dim y mo) ∧ n = ymd y mo d ∧ Hd (n.natAbs ≤ 10 ^ 15)) D₀ { cls := .type "tuple", data := .seq #[.int y s1, .int mo s2, .int d s3] c0 } [.ref D₀, .int n t1] (fun _ => .bool true) := by
  k_with_none
  (k_with "execs cons" => (k_here; (first | (with_reducible show wpAny _ _ _ _ _ (Shared.mk _ _ _ (HAdd.hAdd _ _) _)) | (with_reducible show wpAny _ _ _ _ _ (Shared.mk _ _ _ (Shared.toks _) _))); (with_reducible refine clean ?_); intro tk0; dsimp only))
  (k_with "mine asks" => ((case k1 => k_asm); (case k2 => k_asm); (case k3 => k_asm); (case k4 => k_asm); (case k5 => k_asm); (case kK => first | exact rfl | assumption); (case kp => first | trivial | assumption | ((try dsimp only); omega)); (case kd => ktr_room); (case ku => ktr_units)))
  (k_with "mine gotI" => (walk_at "mine asks"; intro t9 h9 tk9 F9 N9; (try dsimp only); (try k_fold)))
  (k_with "call ref" => (k_here; k_dflt (first | (refine' ClI.use (c_is_leap _ _ _ _ _ _) ?k1 ?k2 ?k3 ?k4 ?k5 ?kK ?kp ?kd ?ku ?_; walk_at "mine gotI") | (refine' ClI.use (c_days_before_year _ _ _ _ _ _) ?k1 ?k2 ?k3 ?k4 ?k5 ?kK ?kp ?kd ?ku ?_; walk_at "mine gotI"))))
  (k_with "subscriptTail" => (k_here; (with_reducible show wpAny _ _ (subscriptTail _ _ (Value.ref 15) (Value.int _ _)) _ _ _); (with_unfolding_all refine' tab_item (ns := [-1, 31, 28, 31, 30, 31, 30, 31, 31, 30, 31, 30, 31]) ?k1 ?k2 ?k3 ?k4 ?k5 ?k7 ?_ ?k6; (case k1 => k_asm); (case k2 => k_asm); (case k3 => kernel_rfl); (case k4 => omega); (case k5 => ((try simp only [List.length]); omega)); (case k7 => decide); (case k6 => with_unfolding_all rfl); k_whole); intro t'; (try dsimp only)))
  (k_with "subscriptTail" => (k_here; (with_reducible show wpAny _ _ (subscriptTail _ _ (Value.ref 16) (Value.int _ _)) _ _ _); (with_unfolding_all refine' tab_item (ns := [-1, 0, 31, 59, 90, 120, 151, 181, 212, 243, 273, 304, 334]) ?k1 ?k2 ?k3 ?k4 ?k5 ?k7 ?_ ?k6; (case k1 => k_asm); (case k2 => k_asm); (case k3 => kernel_rfl); (case k4 => omega); (case k5 => ((try simp only [List.length]); omega)); (case k7 => decide); (case k6 => with_unfolding_all rfl); k_whole); intro t'; (try dsimp only)))
  (k_with "mine asks" => ((case k1 => k_asm); (case k2 => k_asm); (case k3 => k_asm); (case k4 => k_asm); (case k5 => k_asm); (case kK => first | exact rfl | assumption); (case kp => first | trivial | assumption | ((try dsimp only); omega) | ((have hdm := dim_ge _ _); omega) | exact ⟨⟨by omega, by omega⟩, by omega, Int.le_trans (by omega) (dim_ge _ _)⟩); (case kd => ktr_room); (case ku => ktr_units)))
  (k_with "call ref" => (k_here; k_dflt (first | (refine' ClI.use (c_days_in_month _ _ _ _ _ _ _ _) ?k1 ?k2 ?k3 ?k4 ?k5 ?kK ?kp ?kd ?ku ?_; walk_at "mine gotI") | (refine' ClI.use (c_days_before_month _ _ _ _ _ _ _ _) ?k1 ?k2 ?k3 ?k4 ?k5 ?kK ?kp ?kd ?ku ?_; walk_at "mine gotI"))))
  (k_with "call ref" => (k_here; k_dflt (first | (refine' ClI.use (c_ymd2ord _ _ _ _ _ _ _ _ _ _) ?k1 ?k2 ?k3 ?k4 ?k5 ?kK ?kp ?kd ?ku ?_; walk_at "mine gotI"))))
  (k_with "exec Assert" => refine wpAny_Assert_msg rfl ?_)
  (k_with "call ref" => (k_here; k_dflt (first | (refine' ClI.use (c_isoweek1monday _ _ _ _ _ _) ?k1 ?k2 ?k3 ?k4 ?k5 ?kK ?kp ?kd ?ku ?_; walk_at "mine gotI"))))
  (k_with "storeName" => (k_here; (first | (with_reducible show wpAny _ _ (storeName _ _ (Value.int _ (HAdd.hAdd _ _))) _ _ _) | (with_reducible show wpAny _ _ (storeName _ _ (Value.int _ (Shared.toks _))) _ _ _)); (with_reducible refine genTokS ?_); intro tq; (try dsimp only)))
  (k_with "ite" => (k_here; first | (with_reducible refine iteE (by with_reducible assumption) ?_) | (with_reducible refine iteNe (by with_reducible assumption) ?_) | (with_reducible refine iteB (by with_reducible assumption) ?_) | (with_reducible refine iteBn (by with_reducible assumption) ?_) | (with_reducible refine iteP (by with_reducible assumption) ?_) | (with_reducible refine iteN (by with_reducible assumption) ?_) | (with_reducible refine iteE (by omega) ?_) | (with_reducible refine iteNe (by omega) ?_) | (with_reducible refine iteB (by omega) ?_) | (with_reducible refine iteBn (by omega) ?_) | (with_reducible refine iteP (by omega) ?_) | (with_reducible refine iteN (by omega) ?_)))
  (k_with "eval Call" => (k_here; (with_reducible show wpAny _ _ (eval (Expr.Call (Expr.Name _ _) _ [] _) _) _ _ _); k_dflt (refine Call_ ?_)))
  (k_with "mine gotT" => ((case k1 => k_asm); (case k2 => k_asm); (case k3 => k_asm); (case k4 => k_asm); (case k5 => k_asm); (case kK => first | exact rfl | assumption); (case kp => walk_at "mine preT"); (case kd => ktr_room); (case ku => ktr_units); intro D9 t9 u9 v9 c9 h9 tk9 l9 F9 N9; (try dsimp only); (try k_fold)))
  (k_with "mine preT" => (refine' ⟨?p1, ?p2, ?p3⟩; (case p3 => assumption); (case p1 => assumption); (case p2 => assumption)))
  (k_with "call ref" => (k_here; k_dflt (first | (refine' ClT.use (c_ord' _ _ _ _ _ _ _ _ _) ?k1 ?k2 ?k3 ?k4 ?k5 ?kK ?kp ?kd ?ku ?_; walk_at "mine gotT"))))
  (k_with "call ref" => (k_here; k_dflt (first | (refine' ClI.use (c_law_len _ _ _ _ _ _ _ _) ?k1 ?k2 ?k3 ?k4 ?k5 ?kK ?kp ?kd ?ku ?_; walk_at "mine gotI"))))
  (k_with "call ref" => (k_here; k_dflt (first | (refine' ClI.use (c_law_before _ _ _ _ _ _ _ _) ?k1 ?k2 ?k3 ?k4 ?k5 ?kK ?kp ?kd ?ku ?_; walk_at "mine gotI"))))
  (k_with "mine lt" => first | (with_reducible assumption) | exact lt_tail (by with_reducible assumption) | exact lt_tail (lt_tail (by with_reducible assumption)) | ((repeat (first | exact allLt_mem (by with_reducible assumption) | ((with_reducible rename (_ ∧ _) => hz9); obtain ⟨_, hz8⟩ := hz9)))))
  (k_with "mine gotD" => ((case k1 => k_asm); (case k2 => k_asm); (case k3 => k_asm); (case k4 => k_asm); (case k5 => k_asm); (case kK => first | exact rfl | assumption); (case kp => walk_at "mine preD"); (case kd => ktr_room); (case ku => ktr_units); intro y9 m9 d9 D9 t9 u9 v9 c9 h9 tk9 hm9 hd9 he9 l9 F9 N9; (try dsimp only); (try k_fold)))
  (k_with "mine preD" => (refine' ⟨?p1, ?p2, ?p3⟩; (case p1 => first | assumption | omega); (case p2 => assumption); (case p3 => omega)))
  (k_with "call ref" => (k_here; k_dflt (first | (refine' ClD.use (c_law_days _ _ _ _ _ _ _ _ _ _ _ _) ?k1 ?k2 ?k3 ?k4 ?k5 ?kK ?kp ?kd ?ku ?_; walk_at "mine gotD"))))
  (k_with "mine gotX" => ((case k1 => k_asm); (case k2 => k_asm); (case k3 => k_asm); (case k4 => k_asm); (case k5 => k_asm); (case kK => first | exact rfl | assumption); (case k6 => assumption); (case k7 => assumption); (case k8 => assumption); (case kp => first | assumption | omega); (case kd => ktr_room); (case ku => ktr_units); intro e9 t9 G9 h9 k9 tk9 F9 S9 R9 U9; (try dsimp only); (try k_fold)))
  (k_with "mine mem" => ((repeat (first | exact List.Mem.head _ | refine List.Mem.tail _ ?_)); try assumption))
  (k_with "mine read" => first | with_reducible refine Reads.int _ _ | with_reducible refine Reads.str _ _ | with_reducible refine Reads.bool _ | (refine' rd_tup ?rN ?rm; (case rN => k_asm); (case rm => walk_at "mine mem")))
  (k_with "mine reads" => first | refine ReadsAll.nil | (refine' ReadsAll.cons ?r1 ?r2; (case r1 => walk_at "mine read"); (case r2 => walk_at "mine reads")))
  (k_with "mine ok" => first | with_reducible refine ok_of _ | with_reducible refine ok_2 _ _ | with_reducible refine ok_3 _ _ _)
  (k_with "mine sh" => first | ((with_reducible refine sh_week _ _ _ _ _ _ ?_ ?_ ?_) <;> walk_at "mine ok") | ((with_reducible refine sh_told _ ?_ ?_ ?_ ?_) <;> walk_at "mine ok") | ((with_reducible refine sh_five ?_) <;> walk_at "mine ok") | with_reducible refine sh_four _ _ _ _ | with_reducible refine sh_tup _ _ _)
  (k_with "compareOp Eq ref ref" => (k_here; (with_reducible show wpAny _ _ (compareOp CmpOp.Eq (Value.ref _) (Value.ref _)) _ _ _); k_dflt (first | (refine' eq_lists ?N ?a ?b ?ra ?rb ?sh ?u ?_; (case N => k_asm); (case a => k_mem); (case b => k_mem); (case ra => walk_at "mine reads"); (case rb => walk_at "mine reads"); (case sh => walk_at "mine sh"); (case u => ktr_units)) | (refine' eq_tups ?N ?a ?b ?ra ?rb ?sh ?u ?_; (case N => k_asm); (case a => walk_at "mine mem"); (case b => walk_at "mine mem"); (case ra => walk_at "mine reads"); (case rb => walk_at "mine reads"); (case sh => walk_at "mine sh"); (case u => ktr_units)))))
  (k_with "compareOp NotEq ref ref" => (k_here; (with_reducible show wpAny _ _ (compareOp CmpOp.NotEq (Value.ref _) (Value.ref _)) _ _ _); k_dflt ( (refine' ne_lists ?N ?a ?b ?ra ?rb ?sh ?u ?_; (case N => k_asm); (case a => k_mem); (case b => k_mem); (case ra => walk_at "mine reads"); (case rb => walk_at "mine reads"); (case sh => walk_at "mine sh"); (case u => ktr_units)))))
  (k_with "mine gotS" => ((case k2 => k_asm); (case k1 => k_asm); (case k4 => k_asm); (case kM => first | k_mem | walk_at "mine mem"); (case kp => walk_at "mine preS"); (case k3 => k_asm); (case k5 => k_asm); (case kK => first | exact rfl | assumption); (case k6 => assumption); (case k7 => assumption); (case k8 => assumption); (case kd => ktr_room); (case ku => ktr_units)))
  (k_with "eval ListComp" => (k_here; (with_reducible show wpAny _ _ (eval (Expr.ListComp (Expr.Call _ [_, Expr.Name _ _] [] _) _ _ _) _) _ _ _); k_dflt (refine ListComp_S (F₀ := by k_asm) ⟨KtsTurn.refl, by k_asm, by k_asm, by k_asm, by assumption⟩ (by assumption) (by assumption) (by rfl) (by decide) (by rfl) (by decide) (by rfl) ?_)))
  (k_with "SrcS" => (k_here; k_dflt (refine SrcS.intro (by rfl) (by k_asm) (by k_asm) ⟨KtsTurn.refl, by k_asm, by k_asm, by k_asm, by assumption⟩ (by k_mem) (by first | size_fits | exact Nat.le_of_ble_eq_true rfl) ?_); intro g'))
  (k_with "RestS" => (with_unfolding_all first | (refine RestS.succ ?_; intro g' v' I' oI' C' oC' D' m' h' tk' E' hG' hv' hC' hx' F' N' off' ne'; (obtain ⟨T', B', X', P', D''⟩ := hG'); lcg_open hv') | (refine RestS.zero ?_; intro g' hG'; (obtain ⟨T', B', X', P', D''⟩ := hG'))))
  (k_with "EndS" => (k_dflt (first | refine EndS.plain (by k_asm) (by k_asm) ⟨by first | assumption | exact KtsTurn.trans (by assumption) (by assumption), by k_asm, by k_asm, by k_asm, by assumption⟩ (by assumption) (by k_mem) ?_ | refine EndS.made (by k_asm) (by k_asm) ⟨by first | assumption | exact KtsTurn.trans (by assumption) (by assumption), by k_asm, by k_asm, by k_asm, by assumption⟩ (by assumption) (by assumption) (by k_mem) ?_)))
  (k_with "call ref" => (k_here; k_dflt (first | (refine' ClS.use (c_told_ymd _ _ _ _ _ _ _ _ _ _ _ _) ?k1 ?k2 ?k3 ?k4 ?k5 ?kK ?k6 ?k7 ?k8 ?kp ?kd ?ku ?kM ?_; walk_at "mine gotS"; intro t9 h9 tk9 g9 T9 F9 N9 B9 X9 P9 D9; (try (have T8 := KtsTurn.trans (by assumption) T9)); (try dsimp only); (try k_fold)) | (refine' ClS.use (c_told_ymd_xm _ _ _ _ _ _ _ _ _ _ _ _) ?k1 ?k2 ?k3 ?k4 ?k5 ?kK ?k6 ?k7 ?k8 ?kp ?kd ?ku ?kM ?_; walk_at "mine gotS"; intro t9 h9 tk9 g9 T9 F9 N9 B9 X9 P9 D9; (try (have T8 := KtsTurn.trans (by assumption) T9)); (try dsimp only); (try k_fold)) | (refine' ClS.use (c_told_ymd_xd _ _ _ _ _ _ _ _ _ _ _ _) ?k1 ?k2 ?k3 ?k4 ?k5 ?kK ?k6 ?k7 ?k8 ?kp ?kd ?ku ?kM ?_; walk_at "mine gotS"; intro t9 h9 tk9 g9 T9 F9 N9 B9 X9 P9 D9; (try (have T8 := KtsTurn.trans (by assumption) T9)); (try dsimp only); (try k_fold)) | (refine' ClS.use (c_told_iso_xy _ _ _ _ _ _ _ _ _ _ _ _) ?k1 ?k2 ?k3 ?k4 ?k5 ?kK ?k6 ?k7 ?k8 ?kp ?kd ?ku ?kM ?_; walk_at "mine gotS"; intro t9 h9 tk9 g9 T9 F9 N9 B9 X9 P9 D9; (try (have T8 := KtsTurn.trans (by assumption) T9)); (try dsimp only); (try k_fold)) | (refine' ClS.use (c_told_iso_xw _ _ _ _ _ _ _ _ _ _ _ _) ?k1 ?k2 ?k3 ?k4 ?k5 ?kK ?k6 ?k7 ?k8 ?kp ?kd ?ku ?kM ?_; walk_at "mine gotS"; intro t9 h9 tk9 g9 T9 F9 N9 B9 X9 P9 D9; (try (have T8 := KtsTurn.trans (by assumption) T9)); (try dsimp only); (try k_fold)) | (refine' ClS.use (c_told_iso_xd _ _ _ _ _ _ _ _ _ _ _ _) ?k1 ?k2 ?k3 ?k4 ?k5 ?kK ?k6 ?k7 ?k8 ?kp ?kd ?ku ?kM ?_; walk_at "mine gotS"; intro t9 h9 tk9 g9 T9 F9 N9 B9 X9 P9 D9; (try (have T8 := KtsTurn.trans (by assumption) T9)); (try dsimp only); (try k_fold)) | (refine' ClST.use (c_told_iso _ _ _ _ _ _ _ _ _ _ _ _ _ _ _) ?k1 ?k2 ?k3 ?k4 ?k5 ?kK ?k6 ?k7 ?k8 ?kp ?kd ?ku ?kM ?_; walk_at "mine gotS"; intro D9 t9 u9 v9 c9 h9 tk9 g9 l9 T9 F9 N9 B9 X9 P9 K9; (try dsimp only); (try k_fold)))))
  (k_with "mine preS" => first | assumption | exact ⟨by assumption, by assumption⟩ | exact .inl (by decide) | exact .inr (by decide) | exact ⟨by assumption, .inl (by decide)⟩ | exact ⟨by assumption, .inr (Int.lt_add_one_of_le (Int.le_refl _))⟩ | exact ⟨.inl (by assumption), nat_of (by assumption)⟩ | exact ⟨.inr (by assumption), nat_of (by assumption)⟩ | exact ⟨⟨Int.not_lt.mp (by assumption), Int.not_lt.mp (by assumption)⟩, Hd.o (by assumption)⟩ | exact ⟨⟨Int.not_lt.mp (by assumption), Int.not_lt.mp (by assumption)⟩, Hd.o (by assumption), .inl rfl⟩ | exact ⟨⟨Int.not_lt.mp (by assumption), Int.not_lt.mp (by assumption)⟩, Hd.o (by assumption), .inr rfl⟩ | (refine' ⟨?p1, ?p2, ?p3, ?p4, ?p5, ?p6⟩; (case p6 => (rename (∀ y' m' d', ymd y' m' d' = _ → _) => hsun9; exact hsun9 _ _ _ (by assumption))); (case p1 => exact ⟨Int.not_lt.mp (by assumption), Int.not_lt.mp (by assumption)⟩); (case p2 => exact Hd.o (by assumption)); (case p3 => exact ⟨by decide, by decide⟩); (case p4 => assumption); (case p5 => assumption)) | (refine' ⟨?p1, ?p2, ?p3, ?p4, ?p5, ?p6⟩; (case p6 => exact Hd.o (by assumption)); (case p1 => exact ⟨Int.not_lt.mp (by assumption), Int.not_lt.mp (by assumption)⟩); (case p2 => exact Hd.o (by assumption)); (case p3 => assumption); (case p4 => assumption); (case p5 => assumption)))
  (k_with "CompEnd" => (k_here; k_dflt (refine PyProof.Rows.LCg.CompEnd.intro (by k_asm) (by k_asm) _ (fun _ h => h) (by first | assumption | (simp only [PyProof.Rows.LCg.Off3, and_true]; assumption)) (by lcg_src) ?_)))
  (k_with "eval Name" => (k_here; (with_reducible show wpAny _ _ (eval (Expr.Name _ _) (envOf _ _ _ _ _)) _ _ _); k_dflt (refine' nameX_L ?F ?v ?_ ?a ?b; (case F => k_asm); (case a => rfl); (case b => rfl); (case v => exact LK.get (by with_reducible assumption) (by rfl)); k_whole)))
  (k_with "mine name" => first | rfl | exact LK.get (by with_reducible assumption) (by rfl))
  (k_with "mine preD" => (refine' ⟨?p1, ?p2, ?p3⟩; (case p1 => first | assumption | omega); (case p2 => first | assumption | exact Hd.o (by assumption)); (case p3 => omega)))
  (k_with "storeName" => (k_here; (with_reducible show wpAny _ _ (storeName _ _ (Value.int (HAdd.hAdd (Int.fmod _ _) _) _)) _ _ _); (obtain ⟨W9, hW9, hV9, hU9⟩ := wd_ex _); rw [hW9]; clear hW9))
  (k_with "storeName" => (k_here; (with_reducible show wpAny _ _ (storeName _ _ (Value.int (Int.fdiv (HSub.hSub _ _) _) _)) _ _ _); (obtain ⟨W9, hW9, hV9⟩ := fd7_ex _); rw [hW9]; clear hW9))
  (k_with "storeName" => (k_here; (with_reducible show wpAny _ _ (storeName _ _ (Value.int (Int.fdiv (HAdd.hAdd _ _) _) _)) _ _ _); k_dflt ((obtain ⟨W9, hW9, hV9⟩ := fd7_ex _); rw [hW9]; clear hW9; (have y9 := year_bound (by with_reducible assumption) (by with_reducible assumption) (by with_reducible assumption) (by with_reducible assumption) (by with_reducible assumption)); (obtain ⟨a1, a2, a3, a4, a5, a6, a7, a8⟩ := weeks_facts (by with_reducible assumption) (by with_reducible assumption) (by with_reducible assumption) (by with_reducible assumption) (by with_reducible assumption) hV9 (by with_reducible assumption)); clear hV9; (repeat ((with_reducible rename (_ = _ / 7) => hz9); clear hz9)); (repeat ((with_reducible rename (_ = _ % 7 + 1) => hz9); clear hz9)))))
  (k_with "binaryOp Mult ref int" => (k_here; (with_reducible show wpAny _ _ (binaryOp Operator.Mult (Value.ref _) (Value.int 5 _)) _ _ _); k_dflt (refine mul5 (by k_asm) (by k_asm) (by k_mem) ?_); intro D' h' F' N' l1; (try k_lt l1); (try k_sweep)))
  (k_with "ite" => (k_here; first | (with_reducible refine iteTT ?_) | (with_reducible refine iteFT ?_) | (with_reducible refine iteP (by with_reducible assumption) ?_) | (with_reducible refine iteN (by with_reducible assumption) ?_) | ((with_reducible refine iteS ?_ ?_) <;> intro hyy)))
  (k_with "isTrue BoolOp" => (k_here; (fail_if_success (with_reducible show wpAny _ _ _ (BT _ _) _ _)); (refine cutYr (by with_reducible assumption) ?_ ?_ ?_); rotate_left 1; intro tk9 o1; (try dsimp only); rotate_left 1; intro tk9 o1 o2; (try dsimp only)))
  (k_with "BT" => first | exact BT.y1 (by with_reducible assumption) | exact BT.y2 (by with_reducible assumption) | exact BT.yf (by with_reducible assumption) (by with_reducible assumption))
  (k_with "execs cons Assign" => (k_here; (with_reducible show wpAny _ _ (execs (Stmt.Assign [PySem.Expr.Name (Str.ofString "asks") _] _ _ :: _) _) _ _ _); (fail_if_success (with_reducible rename (LK _ _ _) => hz)); k_dflt ((rename Fr _ _ _ _ => cF); (rename News _ _ _ _ => cN); (refine cutW cF cN ?_); intro m9 w9 F9 N9 hm9 hn9; (have l1 := hm9 (Str.ofString "year") _ (by rfl)); (have l2 := hm9 (Str.ofString "number") _ (by rfl)); (have l3 := hm9 (Str.ofString "weekday") _ (by rfl)); (have l4 := hm9 (Str.ofString "week") _ (by rfl)); (have l5 := hm9 (Str.ofString "last") _ (by rfl)); (have l6 := hm9 (Str.ofString "date") _ (by rfl)); (have l7 := hm9 (Str.ofString "sunday") _ (by rfl)); (have n1 := memL l6 hn9 (by walk_at "mine mem")); (have n2 := memL l7 hn9 (by k_mem)))))
  (k_with "execs cons If" => (k_here; (fail_if_success (with_reducible rename (LK _ (Str.ofString "due") _) => hz)); k_dflt ((rename Fr _ _ _ _ => cF); (rename News _ _ _ _ => cN); (refine cutW cF cN ?_); intro m9 w9 F9 N9 hm9 hn9; (have l1 := hm9 (Str.ofString "year") _ (by walk_at "mine name")); (have l2 := hm9 (Str.ofString "number") _ (by walk_at "mine name")); (have l3 := hm9 (Str.ofString "weekday") _ (by walk_at "mine name")); (have l4 := hm9 (Str.ofString "week") _ (by walk_at "mine name")); (have l5 := hm9 (Str.ofString "asks") _ (by rfl)); (have l6 := hm9 (Str.ofString "due") _ (by rfl)); (have n1 := memL l5 hn9 (by k_mem)); (have n2 := memL l6 hn9 (by k_mem)); (have n3 := mem5 n1 hn9 (by k_mem) (by k_mem) (by k_mem) (by k_mem) (by k_mem)); (obtain ⟨n3, n4, n5, n6, n7⟩ := n3); (have n8 := mem2 n2 hn9 (by k_mem) (by k_mem)); (obtain ⟨n8, n9⟩ := n8))))
  (k_with "mine preS" => exact ⟨by with_reducible assumption, nat_of (by assumption)⟩)
  unfold ClS
  k_fill; intro news dp un gd cn cs a ccd outer A₀ base h₀ L m s Q E hB hF hX hN hT hK hXB hTB hD hp hdp hun hM hret
  obtain ⟨hm, hd, hn, hb⟩ := hp
  have hb' : Hd ((ymd y mo d).natAbs ≤ 10 ^ 15) := hn ▸ hb
  refine wpAny_call ?_; k_dflt (refine' code_defS ?k1 ?k2 ?k3 ?k4 ?k5 ?XB ?TB ?D ?T0 ?kA ?k6 ?k7 ?k8 ?k9 ?kB ?_ ?cK ?c2 ?c3 ?c4 ?c5; (case kA => exact rfl); (case k2 => k_asm); (case k1 => k_asm); (case XB => assumption); (case TB => assumption); (case D => assumption); (case T0 => exact KtsTurn.refl); (case k3 => k_asm); (case k4 => k_asm); (case k5 => k_asm); (case k6 => k_is); (case k7 => k_is); (case k8 => ktr_room); (case k9 => exact BindsTo.of_eq rfl); (case kB => exact locs rfl); (case cK => assumption); (case c2 => exact rfl); (case c3 => exact rfl); (case c4 => exact rfl); (case c5 => decide); k_whole; intro g' L' h' FG' F' N' B' X' T' D'; (try dsimp only); (try k_lift B'); (try k_fold)); k_steps
  all_goals ((refine' hret 0 _ _ _ ?e1 ?e2 ?e3 ?e4 ?e5 ?e6 ?e7); (case e1 => assumption); (case e2 => k_asm); (case e3 => (refine' cb_drop ?cbN ?cbS; (case cbN => with_reducible assumption); (case cbS => (intro p hp; (repeat (first | exact hp | refine List.Mem.tail _ ?_ | refine subI (by with_reducible assumption) ?_)))))); (case e4 => assumption); (case e5 => assumption); (case e6 => assumption); (case e7 => assumption))
end weekswalk

theorem leap29 (y : Int) : (dim y 2 == 29) = isLeap y := by
  unfold dim; simp; cases isLeap y <;> rfl
theorem dby_of (y mo d : Int) : ymd y mo d - dbm y mo - d = dby y := by unfold ymd; lia
theorem ne_four {prog : Program} {w : World} {A : Around} {E : Value → Shared → Prop} {s : Shared} {h₀ : Heap} {L : Addr} {news : List (Addr × Obj)} {a b : Addr} {k k' : Nat} {Q : Value → Shared → Prop} {x1 y1 : Bool} {x2 x3 x4 y2 y3 y4 : Int} {t2 t3 t4 u2 u3 u4 : Tok} (N : News h₀ L s.heap news) (ha : (a, listOf #[.bool x1, .int x2 t2, .int x3 t3, .int x4 t4] k) ∈ news) (hb : (b, listOf #[.bool y1, .int y2 u2, .int y3 u3, .int y4 u4] k') ∈ news)
    (e1 : x1 = y1) (e2 : x2 = y2) (e3 : x3 = y3) (e4 : x4 = y4) (hu : A.units + 64 < cLine) (h : Q (.bool false) s) : wpAny (model prog w) A (compareOp .NotEq (.ref a) (.ref b)) Q E s := by
  subst e1; subst e2; subst e3; subst e4
  exact ne_lists N ha hb (ReadsAll.cons (Reads.bool _) (ReadsAll.cons (Reads.int _ _) (ReadsAll.cons (Reads.int _ _) (ReadsAll.cons (Reads.int _ _) ReadsAll.nil)))) (ReadsAll.cons (Reads.bool _) (ReadsAll.cons (Reads.int _ _) (ReadsAll.cons (Reads.int _ _) (ReadsAll.cons (Reads.int _ _) ReadsAll.nil)))) (sh_four _ _ _ _) hu h
section rightwalk
theorem c_right (w : World) (mean : ExcName → Option Value) (mg mb : Str → Option Value) (y mo d n : Int) (D₀ : Addr) (c0 : Nat) (s1 s2 s3 t1 : Tok) :
   ClS w mean mg mb 11 123 ((1 ≤ mo ∧ mo ≤ 12) ∧ (1 ≤ d ∧ d ≤ dim y mo) ∧ n = ymd y mo d ∧ Hd (n.natAbs ≤ 10 ^ 15)) D₀ { cls := .type "tuple", data := .seq #[.int y s1, .int mo s2, .int d s3] c0 } [.ref D₀, .int n t1] (fun _ => .bool true) := by
  k_with_none
  (k_with "execs cons" => (k_here; (first | (with_reducible show wpAny _ _ _ _ _ (Shared.mk _ _ _ (HAdd.hAdd _ _) _)) | (with_reducible show wpAny _ _ _ _ _ (Shared.mk _ _ _ (Shared.toks _) _))); (with_reducible refine clean ?_); intro tk0; dsimp only))
  (k_with "mine asks" => ((case k1 => k_asm); (case k2 => k_asm); (case k3 => k_asm); (case k4 => k_asm); (case k5 => k_asm); (case kK => first | exact rfl | assumption); (case kp => first | trivial | assumption | ((try dsimp only); omega)); (case kd => ktr_room); (case ku => ktr_units)))
  (k_with "mine gotI" => (walk_at "mine asks"; intro t9 h9 tk9 F9 N9; (try dsimp only); (try k_fold)))
  (k_with "call ref" => (k_here; k_dflt (first | (refine' ClI.use (c_is_leap _ _ _ _ _ _) ?k1 ?k2 ?k3 ?k4 ?k5 ?kK ?kp ?kd ?ku ?_; walk_at "mine gotI") | (refine' ClI.use (c_days_before_year _ _ _ _ _ _) ?k1 ?k2 ?k3 ?k4 ?k5 ?kK ?kp ?kd ?ku ?_; walk_at "mine gotI"))))
  (k_with "subscriptTail" => (k_here; (with_reducible show wpAny _ _ (subscriptTail _ _ (Value.ref 15) (Value.int _ _)) _ _ _); (with_unfolding_all refine' tab_item (ns := [-1, 31, 28, 31, 30, 31, 30, 31, 31, 30, 31, 30, 31]) ?k1 ?k2 ?k3 ?k4 ?k5 ?k7 ?_ ?k6; (case k1 => k_asm); (case k2 => k_asm); (case k3 => kernel_rfl); (case k4 => omega); (case k5 => ((try simp only [List.length]); omega)); (case k7 => decide); (case k6 => with_unfolding_all rfl); k_whole); intro t'; (try dsimp only)))
  (k_with "subscriptTail" => (k_here; (with_reducible show wpAny _ _ (subscriptTail _ _ (Value.ref 16) (Value.int _ _)) _ _ _); (with_unfolding_all refine' tab_item (ns := [-1, 0, 31, 59, 90, 120, 151, 181, 212, 243, 273, 304, 334]) ?k1 ?k2 ?k3 ?k4 ?k5 ?k7 ?_ ?k6; (case k1 => k_asm); (case k2 => k_asm); (case k3 => kernel_rfl); (case k4 => omega); (case k5 => ((try simp only [List.length]); omega)); (case k7 => decide); (case k6 => with_unfolding_all rfl); k_whole); intro t'; (try dsimp only)))
  (k_with "mine asks" => ((case k1 => k_asm); (case k2 => k_asm); (case k3 => k_asm); (case k4 => k_asm); (case k5 => k_asm); (case kK => first | exact rfl | assumption); (case kp => first | trivial | assumption | ((try dsimp only); omega) | ((have hdm := dim_ge _ _); omega) | exact ⟨⟨by omega, by omega⟩, by omega, Int.le_trans (by omega) (dim_ge _ _)⟩); (case kd => ktr_room); (case ku => ktr_units)))
  (k_with "call ref" => (k_here; k_dflt (first | (refine' ClI.use (c_days_in_month _ _ _ _ _ _ _ _) ?k1 ?k2 ?k3 ?k4 ?k5 ?kK ?kp ?kd ?ku ?_; walk_at "mine gotI") | (refine' ClI.use (c_days_before_month _ _ _ _ _ _ _ _) ?k1 ?k2 ?k3 ?k4 ?k5 ?kK ?kp ?kd ?ku ?_; walk_at "mine gotI"))))
  (k_with "call ref" => (k_here; k_dflt (first | (refine' ClI.use (c_ymd2ord _ _ _ _ _ _ _ _ _ _) ?k1 ?k2 ?k3 ?k4 ?k5 ?kK ?kp ?kd ?ku ?_; walk_at "mine gotI"))))
  (k_with "exec Assert" => refine wpAny_Assert_msg rfl ?_)
  (k_with "call ref" => (k_here; k_dflt (first | (refine' ClI.use (c_isoweek1monday _ _ _ _ _ _) ?k1 ?k2 ?k3 ?k4 ?k5 ?kK ?kp ?kd ?ku ?_; walk_at "mine gotI"))))
  (k_with "storeName" => (k_here; (first | (with_reducible show wpAny _ _ (storeName _ _ (Value.int _ (HAdd.hAdd _ _))) _ _ _) | (with_reducible show wpAny _ _ (storeName _ _ (Value.int _ (Shared.toks _))) _ _ _)); (with_reducible refine genTokS ?_); intro tq; (try dsimp only)))
  (k_with "ite" => (k_here; first | (with_reducible refine iteE (by with_reducible assumption) ?_) | (with_reducible refine iteNe (by with_reducible assumption) ?_) | (with_reducible refine iteB (by with_reducible assumption) ?_) | (with_reducible refine iteBn (by with_reducible assumption) ?_) | (with_reducible refine iteP (by with_reducible assumption) ?_) | (with_reducible refine iteN (by with_reducible assumption) ?_) | (with_reducible refine iteE (by omega) ?_) | (with_reducible refine iteNe (by omega) ?_) | (with_reducible refine iteB (by omega) ?_) | (with_reducible refine iteBn (by omega) ?_) | (with_reducible refine iteP (by omega) ?_) | (with_reducible refine iteN (by omega) ?_)))
  (k_with "eval Call" => (k_here; (with_reducible show wpAny _ _ (eval (Expr.Call (Expr.Name _ _) _ [] _) _) _ _ _); k_dflt (refine Call_ ?_)))
  (k_with "mine gotT" => ((case k1 => k_asm); (case k2 => k_asm); (case k3 => k_asm); (case k4 => k_asm); (case k5 => k_asm); (case kK => first | exact rfl | assumption); (case kp => walk_at "mine preT"); (case kd => ktr_room); (case ku => ktr_units); intro D9 t9 u9 v9 c9 h9 tk9 l9 F9 N9; (try dsimp only); (try k_fold)))
  (k_with "mine preT" => (refine' ⟨?p1, ?p2, ?p3⟩; (case p3 => assumption); (case p1 => assumption); (case p2 => assumption)))
  (k_with "call ref" => (k_here; k_dflt (first | (refine' ClT.use (c_ord' _ _ _ _ _ _ _ _ _) ?k1 ?k2 ?k3 ?k4 ?k5 ?kK ?kp ?kd ?ku ?_; walk_at "mine gotT"))))
  (k_with "call ref" => (k_here; k_dflt (first | (refine' ClI.use (c_law_len _ _ _ _ _ _ _ _) ?k1 ?k2 ?k3 ?k4 ?k5 ?kK ?kp ?kd ?ku ?_; walk_at "mine gotI"))))
  (k_with "call ref" => (k_here; k_dflt (first | (refine' ClI.use (c_law_before _ _ _ _ _ _ _ _) ?k1 ?k2 ?k3 ?k4 ?k5 ?kK ?kp ?kd ?ku ?_; walk_at "mine gotI"))))
  (k_with "mine lt" => first | (with_reducible assumption) | exact lt_tail (by with_reducible assumption) | exact lt_tail (lt_tail (by with_reducible assumption)) | ((repeat (first | exact allLt_mem (by with_reducible assumption) | ((with_reducible rename (_ ∧ _) => hz9); obtain ⟨_, hz8⟩ := hz9)))))
  (k_with "mine gotD" => ((case k1 => k_asm); (case k2 => k_asm); (case k3 => k_asm); (case k4 => k_asm); (case k5 => k_asm); (case kK => first | exact rfl | assumption); (case kp => walk_at "mine preD"); (case kd => ktr_room); (case ku => ktr_units); intro y9 m9 d9 D9 t9 u9 v9 c9 h9 tk9 hm9 hd9 he9 l9 F9 N9; (try dsimp only); (try k_fold)))
  (k_with "mine preD" => (refine' ⟨?p1, ?p2, ?p3⟩; (case p1 => first | assumption | omega); (case p2 => assumption); (case p3 => omega)))
  (k_with "call ref" => (k_here; k_dflt (first | (refine' ClD.use (c_law_days _ _ _ _ _ _ _ _ _ _ _ _) ?k1 ?k2 ?k3 ?k4 ?k5 ?kK ?kp ?kd ?ku ?_; walk_at "mine gotD"))))
  (k_with "mine gotX" => ((case k1 => k_asm); (case k2 => k_asm); (case k3 => k_asm); (case k4 => k_asm); (case k5 => k_asm); (case kK => first | exact rfl | assumption); (case k6 => assumption); (case k7 => assumption); (case k8 => assumption); (case kp => first | assumption | omega); (case kd => ktr_room); (case ku => ktr_units); intro e9 t9 G9 h9 k9 tk9 F9 S9 R9 U9; (try dsimp only); (try k_fold)))
  (k_with "mine mem" => ((repeat (first | exact List.Mem.head _ | refine List.Mem.tail _ ?_)); try assumption))
  (k_with "mine read" => first | with_reducible refine Reads.int _ _ | with_reducible refine Reads.str _ _ | with_reducible refine Reads.bool _ | (refine' rd_tup ?rN ?rm; (case rN => k_asm); (case rm => walk_at "mine mem")))
  (k_with "mine reads" => first | refine ReadsAll.nil | (refine' ReadsAll.cons ?r1 ?r2; (case r1 => walk_at "mine read"); (case r2 => walk_at "mine reads")))
  (k_with "mine ok" => first | with_reducible refine ok_of _ | with_reducible refine ok_2 _ _ | with_reducible refine ok_3 _ _ _)
  (k_with "mine sh" => first | ((with_reducible refine sh_week _ _ _ _ _ _ ?_ ?_ ?_) <;> walk_at "mine ok") | ((with_reducible refine sh_told _ ?_ ?_ ?_ ?_) <;> walk_at "mine ok") | ((with_reducible refine sh_five ?_) <;> walk_at "mine ok") | with_reducible refine sh_four _ _ _ _ | with_reducible refine sh_tup _ _ _)
  (k_with "compareOp Eq ref ref" => (k_here; (with_reducible show wpAny _ _ (compareOp CmpOp.Eq (Value.ref _) (Value.ref _)) _ _ _); k_dflt (first | (refine' eq_lists ?N ?a ?b ?ra ?rb ?sh ?u ?_; (case N => k_asm); (case a => k_mem); (case b => k_mem); (case ra => walk_at "mine reads"); (case rb => walk_at "mine reads"); (case sh => walk_at "mine sh"); (case u => ktr_units)) | (refine' eq_tups ?N ?a ?b ?ra ?rb ?sh ?u ?_; (case N => k_asm); (case a => walk_at "mine mem"); (case b => walk_at "mine mem"); (case ra => walk_at "mine reads"); (case rb => walk_at "mine reads"); (case sh => walk_at "mine sh"); (case u => ktr_units)))))
  (k_with "compareOp NotEq ref ref" => (k_here; (with_reducible show wpAny _ _ (compareOp CmpOp.NotEq (Value.ref _) (Value.ref _)) _ _ _); k_dflt ( (refine' ne_lists ?N ?a ?b ?ra ?rb ?sh ?u ?_; (case N => k_asm); (case a => k_mem); (case b => k_mem); (case ra => walk_at "mine reads"); (case rb => walk_at "mine reads"); (case sh => walk_at "mine sh"); (case u => ktr_units)))))
  (k_with "mine gotS" => ((case k2 => k_asm); (case k1 => k_asm); (case k4 => k_asm); (case kM => first | k_mem | walk_at "mine mem"); (case kp => walk_at "mine preS"); (case k3 => k_asm); (case k5 => k_asm); (case kK => first | exact rfl | assumption); (case k6 => assumption); (case k7 => assumption); (case k8 => assumption); (case kd => ktr_room); (case ku => ktr_units)))
  (k_with "eval ListComp" => (k_here; (with_reducible show wpAny _ _ (eval (Expr.ListComp (Expr.Call _ [_, Expr.Name _ _] [] _) _ _ _) _) _ _ _); k_dflt (refine ListComp_S (F₀ := by k_asm) ⟨KtsTurn.refl, by k_asm, by k_asm, by k_asm, by assumption⟩ (by assumption) (by assumption) (by rfl) (by decide) (by rfl) (by decide) (by rfl) ?_)))
  (k_with "SrcS" => (k_here; k_dflt (refine SrcS.intro (by rfl) (by k_asm) (by k_asm) ⟨KtsTurn.refl, by k_asm, by k_asm, by k_asm, by assumption⟩ (by k_mem) (by first | size_fits | exact Nat.le_of_ble_eq_true rfl) ?_); intro g'))
  (k_with "RestS" => (with_unfolding_all first | (refine RestS.succ ?_; intro g' v' I' oI' C' oC' D' m' h' tk' E' hG' hv' hC' hx' F' N' off' ne'; (obtain ⟨T', B', X', P', D''⟩ := hG'); lcg_open hv') | (refine RestS.zero ?_; intro g' hG'; (obtain ⟨T', B', X', P', D''⟩ := hG'))))
  (k_with "EndS" => (k_dflt (first | refine EndS.plain (by k_asm) (by k_asm) ⟨by first | assumption | exact KtsTurn.trans (by assumption) (by assumption), by k_asm, by k_asm, by k_asm, by assumption⟩ (by assumption) (by k_mem) ?_ | refine EndS.made (by k_asm) (by k_asm) ⟨by first | assumption | exact KtsTurn.trans (by assumption) (by assumption), by k_asm, by k_asm, by k_asm, by assumption⟩ (by assumption) (by assumption) (by k_mem) ?_)))
  (k_with "call ref" => (k_here; k_dflt (first | (refine' ClS.use (c_told_ymd _ _ _ _ _ _ _ _ _ _ _ _) ?k1 ?k2 ?k3 ?k4 ?k5 ?kK ?k6 ?k7 ?k8 ?kp ?kd ?ku ?kM ?_; walk_at "mine gotS"; intro t9 h9 tk9 g9 T9 F9 N9 B9 X9 P9 D9; (try (have T8 := KtsTurn.trans (by assumption) T9)); (try dsimp only); (try k_fold)) | (refine' ClS.use (c_told_ymd_xm _ _ _ _ _ _ _ _ _ _ _ _) ?k1 ?k2 ?k3 ?k4 ?k5 ?kK ?k6 ?k7 ?k8 ?kp ?kd ?ku ?kM ?_; walk_at "mine gotS"; intro t9 h9 tk9 g9 T9 F9 N9 B9 X9 P9 D9; (try (have T8 := KtsTurn.trans (by assumption) T9)); (try dsimp only); (try k_fold)) | (refine' ClS.use (c_told_ymd_xd _ _ _ _ _ _ _ _ _ _ _ _) ?k1 ?k2 ?k3 ?k4 ?k5 ?kK ?k6 ?k7 ?k8 ?kp ?kd ?ku ?kM ?_; walk_at "mine gotS"; intro t9 h9 tk9 g9 T9 F9 N9 B9 X9 P9 D9; (try (have T8 := KtsTurn.trans (by assumption) T9)); (try dsimp only); (try k_fold)) | (refine' ClS.use (c_told_iso_xy _ _ _ _ _ _ _ _ _ _ _ _) ?k1 ?k2 ?k3 ?k4 ?k5 ?kK ?k6 ?k7 ?k8 ?kp ?kd ?ku ?kM ?_; walk_at "mine gotS"; intro t9 h9 tk9 g9 T9 F9 N9 B9 X9 P9 D9; (try (have T8 := KtsTurn.trans (by assumption) T9)); (try dsimp only); (try k_fold)) | (refine' ClS.use (c_told_iso_xw _ _ _ _ _ _ _ _ _ _ _ _) ?k1 ?k2 ?k3 ?k4 ?k5 ?kK ?k6 ?k7 ?k8 ?kp ?kd ?ku ?kM ?_; walk_at "mine gotS"; intro t9 h9 tk9 g9 T9 F9 N9 B9 X9 P9 D9; (try (have T8 := KtsTurn.trans (by assumption) T9)); (try dsimp only); (try k_fold)) | (refine' ClS.use (c_told_iso_xd _ _ _ _ _ _ _ _ _ _ _ _) ?k1 ?k2 ?k3 ?k4 ?k5 ?kK ?k6 ?k7 ?k8 ?kp ?kd ?ku ?kM ?_; walk_at "mine gotS"; intro t9 h9 tk9 g9 T9 F9 N9 B9 X9 P9 D9; (try (have T8 := KtsTurn.trans (by assumption) T9)); (try dsimp only); (try k_fold)) | (refine' ClST.use (c_told_iso _ _ _ _ _ _ _ _ _ _ _ _ _ _ _) ?k1 ?k2 ?k3 ?k4 ?k5 ?kK ?k6 ?k7 ?k8 ?kp ?kd ?ku ?kM ?_; walk_at "mine gotS"; intro D9 t9 u9 v9 c9 h9 tk9 g9 l9 T9 F9 N9 B9 X9 P9 K9; (try dsimp only); (try k_fold)))))
  (k_with "mine preS" => first | assumption | exact ⟨by assumption, by assumption⟩ | exact .inl (by decide) | exact .inr (by decide) | exact ⟨by assumption, .inl (by decide)⟩ | exact ⟨by assumption, .inr (Int.lt_add_one_of_le (Int.le_refl _))⟩ | exact ⟨.inl (by assumption), nat_of (by assumption)⟩ | exact ⟨.inr (by assumption), nat_of (by assumption)⟩ | exact ⟨⟨Int.not_lt.mp (by assumption), Int.not_lt.mp (by assumption)⟩, Hd.o (by assumption)⟩ | exact ⟨⟨Int.not_lt.mp (by assumption), Int.not_lt.mp (by assumption)⟩, Hd.o (by assumption), .inl rfl⟩ | exact ⟨⟨Int.not_lt.mp (by assumption), Int.not_lt.mp (by assumption)⟩, Hd.o (by assumption), .inr rfl⟩ | (refine' ⟨?p1, ?p2, ?p3, ?p4, ?p5, ?p6⟩; (case p6 => (rename (∀ y' m' d', ymd y' m' d' = _ → _) => hsun9; exact hsun9 _ _ _ (by assumption))); (case p1 => exact ⟨Int.not_lt.mp (by assumption), Int.not_lt.mp (by assumption)⟩); (case p2 => exact Hd.o (by assumption)); (case p3 => exact ⟨by decide, by decide⟩); (case p4 => assumption); (case p5 => assumption)) | (refine' ⟨?p1, ?p2, ?p3, ?p4, ?p5, ?p6⟩; (case p6 => exact Hd.o (by assumption)); (case p1 => exact ⟨Int.not_lt.mp (by assumption), Int.not_lt.mp (by assumption)⟩); (case p2 => exact Hd.o (by assumption)); (case p3 => assumption); (case p4 => assumption); (case p5 => assumption)))
  (k_with "CompEnd" => (k_here; k_dflt (refine PyProof.Rows.LCg.CompEnd.intro (by k_asm) (by k_asm) _ (fun _ h => h) (by first | assumption | (simp only [PyProof.Rows.LCg.Off3, and_true]; assumption)) (by lcg_src) ?_)))
  (k_with "eval Name" => (k_here; (with_reducible show wpAny _ _ (eval (Expr.Name _ _) (envOf _ _ _ _ _)) _ _ _); k_dflt (refine' nameX_L ?F ?v ?_ ?a ?b; (case F => k_asm); (case a => rfl); (case b => rfl); (case v => exact LK.get (by with_reducible assumption) (by rfl)); k_whole)))
  (k_with "mine name" => first | rfl | exact LK.get (by with_reducible assumption) (by rfl))
  (k_with "mine preS" => exact ⟨by with_reducible assumption, by with_reducible assumption, by with_reducible rfl, by with_reducible assumption⟩)
  (k_with "call ref" => (k_here; k_dflt (refine' ClS.use (c_weeks _ _ _ _ _ _ _ _ _ _ _ _ _ _) ?k1 ?k2 ?k3 ?k4 ?k5 ?kK ?k6 ?k7 ?k8 ?kp ?kd ?ku ?kM ?_; walk_at "mine gotS"; intro t9 h9 tk9 g9 T9 F9 N9 B9 X9 P9 D9; (try (have T8 := KtsTurn.trans (by assumption) T9)); (try dsimp only); (try k_fold))))
  (k_with "mine gotT" => ((case k2 => k_asm); (case k1 => k_asm); (case k3 => k_asm); (case k4 => k_asm); (case k5 => k_asm); (case kK => first | exact rfl | assumption); (case kp => walk_at "mine preT"); (case kd => ktr_room); (case ku => ktr_units); intro D9 t9 u9 v9 c9 h9 tk9 l9 F9 N9; (try dsimp only); (try k_fold)))
  (k_with "mine preT" => exact ⟨by with_reducible assumption, by with_reducible assumption, by with_reducible rfl⟩)
  (k_with "compareOp NotEq ref ref" => (k_here; (with_reducible show wpAny _ _ (compareOp CmpOp.NotEq (Value.ref _) (Value.ref _)) _ _ _); k_dflt ( (refine' ne_four ?N ?a ?b ?e1 ?e2 ?e3 ?e4 ?u ?_; (case N => k_asm); (case a => k_mem); (case b => k_mem); (case e2 => rfl); (case e3 => rfl); (case e1 => exact (leap29 _).symm); (case e4 => exact (dby_of _ _ _).symm); (case u => ktr_units)))))
  (k_with "ite" => (k_here; first | (with_reducible refine iteTT ?_) | (with_reducible refine iteFT ?_)))
  (k_with "execs cons If" => (k_here; (fail_if_success (with_reducible rename (LK _ _ _) => hz)); k_dflt ((rename Fr _ _ _ _ => cF); (rename News _ _ _ _ => cN); (refine cutW cF cN ?_); intro m9 w9 F9 N9 hm9 hn9; (have l1 := hm9 (Str.ofString "rows") _ (by rfl)); (have l2 := hm9 (Str.ofString "number") _ (by rfl)); (have l3 := hm9 (Str.ofString "day_words") _ (by rfl)); (have l4 := hm9 (Str.ofString "month_words") _ (by rfl)); (have l5 := hm9 (Str.ofString "date") _ (by rfl)); (have n1 := memL l1 hn9 (by k_mem)); (have n3 := mem5 n1 hn9 (by walk_at "mine mem") (by k_mem) (by k_mem) (by k_mem) (by k_mem)); (obtain ⟨n3, n4, n5, n6, n7⟩ := n3))))
  unfold ClS
  k_fill; intro news dp un gd cn cs a ccd outer A₀ base h₀ L m s Q E hB hF hX hN hT hK hXB hTB hD hp hdp hun hM hret
  obtain ⟨hm, hd, rfl, hb⟩ := hp
  have hg := dim_ge y mo
  have hl := dim_le y mo
  refine wpAny_call ?_; k_dflt (refine' code_defS ?k1 ?k2 ?k3 ?k4 ?k5 ?XB ?TB ?D ?T0 ?kA ?k6 ?k7 ?k8 ?k9 ?kB ?_ ?cK ?c2 ?c3 ?c4 ?c5; (case kA => exact rfl); (case k2 => k_asm); (case k1 => k_asm); (case XB => assumption); (case TB => assumption); (case D => assumption); (case T0 => exact KtsTurn.refl); (case k3 => k_asm); (case k4 => k_asm); (case k5 => k_asm); (case k6 => k_is); (case k7 => k_is); (case k8 => ktr_room); (case k9 => exact BindsTo.of_eq rfl); (case kB => exact locs rfl); (case cK => assumption); (case c2 => exact rfl); (case c3 => exact rfl); (case c4 => exact rfl); (case c5 => decide); k_whole; intro g' L' h' FG' F' N' B' X' T' D'; (try dsimp only); (try k_lift B'); (try k_fold)); k_steps
  all_goals ((refine' hret 0 _ _ _ ?e1 ?e2 ?e3 ?e4 ?e5 ?e6 ?e7); (case e1 => assumption); (case e2 => k_asm); (case e3 => (refine' cb_drop ?cbN ?cbS; (case cbN => with_reducible assumption); (case cbS => (intro p hp; (repeat (first | exact hp | refine List.Mem.tail _ ?_ | refine subI (by with_reducible assumption) ?_)))))); (case e4 => assumption); (case e5 => assumption); (case e6 => assumption); (case e7 => assumption))
end rightwalk

theorem len_year (k : Int) : 337 + dim k 2 = dby (k + 1) - dby k := by
  rw [dby_succ]; unfold dim; simp; cases isLeap k <;> simp <;> lia
theorem sum_years (a : Int) (n : Nat) : (List.map (fun k' => 337 + dim k' 2) (rangeKs a n)).sum = dby (a + n) - dby a := by
  induction n with
  | zero => simp [rangeKs]
  | succ n ih =>
    have e : rangeKs a (n + 1) = rangeKs a n ++ [a + n] := by
      unfold rangeKs; rw [List.range_succ, List.map_append]; rfl
    rw [e, List.map_append, List.sum_append, ih]
    simp only [List.map_cons, List.map_nil, List.sum_cons, List.sum_nil]
    rw [len_year]
    have : a + ((n + 1 : Nat) : Int) = a + n + 1 := by lia
    rw [this]; lia
theorem cent_dby {Y c : Int} (hc : c = 36524 * (Y.fdiv 100).fmod 4 + (if (Y.fdiv 100).fmod 4 = 0 then 0 else 1)) : Y.fdiv 400 * 146097 - 365 + c = dby (Y - Y % 100) + 1 := by
  rw [fd (show (0:Int) ≤ 100 by decide), fm (show (0:Int) ≤ 4 by decide)] at hc
  rw [fd (show (0:Int) ≤ 400 by decide)]
  have h4 : Y / 100 % 4 = 0 ∨ Y / 100 % 4 = 1 ∨ Y / 100 % 4 = 2 ∨ Y / 100 % 4 = 3 := by lia
  unfold dby
  rcases h4 with h | h | h | h <;> rw [h] at hc <;> simp at hc <;> lia
theorem num_ex {Y c : Int} {n : Nat} (hn : (n : Int) = Y % 100) (hc : c = 36524 * (Y.fdiv 100).fmod 4 + (if (Y.fdiv 100).fmod 4 = 0 then 0 else 1)) :
    Y.fdiv 400 * 146097 - 365 + c + (List.map (fun k' => 337 + dim k' 2) (rangeKs (Y - Y % 100) n)).sum + 57 = ymd Y 2 27 := by
  rw [sum_years, cent_dby hc, hn]
  have : Y - Y % 100 + Y % 100 = Y := by lia
  rw [this]; unfold ymd dbm; simp; lia
theorem ymd_bound {Y : Int} (h : -1000000000000 ≤ Y ∧ Y < 1000000000000) : -400000000000000 ≤ ymd Y 2 27 ∧ ymd Y 2 27 ≤ 400000000000000 := by
  unfold ymd dby dbm; simp; lia
theorem yr_ex (x : Int) : ∃ Y, (x + 1000000000000).fmod (2 * 1000000000000) - 1000000000000 = Y ∧ (-1000000000000 ≤ Y ∧ Y < 1000000000000) := by
  refine ⟨_, rfl, ?_⟩
  rw [fm (by decide)]; lia
theorem hd_bound {n : Int} {k : Nat} (hk : k ≤ 20) (h : -400000000000000 - 1000 * (k : Int) ≤ n ∧ n ≤ 400000000000000 + 1000 * (k : Int)) : Hd (n.natAbs ≤ 10 ^ 15) := by
  have e : (10 : Nat) ^ 15 = 1000000000000000 := by decide
  unfold Hd; rw [e]; lia

section lawloop
/-- what holds of the day between two turns of the law's loop -/
structure DayOk (y mo d n : Int) : Prop where
  hm : 1 ≤ mo ∧ mo ≤ 12
  hd : 1 ≤ d ∧ d ≤ dim y mo
  hn : n = ymd y mo d
/-- a turn's end -/
def TurnP (h₀ : Heap) (L : Addr) (n : Int) (rest : List (Addr × Obj)) (s : Shared) (Q : Flow → Shared → Prop) (f : Flow) (s₂ : Shared) : Prop :=
  match f with
  | .ret v => Q (.ret v) s₂
  | .brk => Q .next s₂
  | _ => ∃ h' tk' m' y' mo' d' n' D' t1 t2 t3 c u, s₂ = { s with heap := h', toks := tk' } ∧ DayOk y' mo' d' n' ∧ (n - 1000 ≤ n' ∧ n' ≤ n + 1000) ∧ (∀ p ∈ rest, p.1 < D') ∧ Fr h₀ L h' m' ∧ m' (Str.ofString "date") = some (.ref D') ∧ m' (Str.ofString "number") = some (.int n' u) ∧ News h₀ L h' ((D', tup3 y' mo' d' t1 t2 t3 c) :: rest)
variable {prog : Program} {w : World} {A : Around} {E : Value → Shared → Prop} {s : Shared} {env : Env} {h₀ : Heap} {body : List Stmt} {Q : Flow → Shared → Prop}
theorem TurnP.intro {L : Addr} {n : Int} {rest : List (Addr × Obj)} {h' : Heap} {tk' : Nat} {m' : Str → Option Value} {y' mo' d' n' : Int} {D' : Addr} {t1 t2 t3 u : Tok} {c : Nat} {news' : List (Addr × Obj)} (F : Fr h₀ L h' m') (N : News h₀ L h' news') (hd : m' (Str.ofString "date") = some (.ref D')) (hn : m' (Str.ofString "number") = some (.int n' u)) (hM : (D', tup3 y' mo' d' t1 t2 t3 c) ∈ news') (hs : ∀ p ∈ rest, p ∈ news')
    (o1 : 1 ≤ mo' ∧ mo' ≤ 12) (o2 : 1 ≤ d' ∧ d' ≤ dim y' mo') (o3 : n' = ymd y' mo' d') (hb : n - 1000 ≤ n' ∧ n' ≤ n + 1000) (hl : ∀ p ∈ rest, p.1 < D') : TurnP h₀ L n rest s Q .next { s with heap := h', toks := tk' } :=
  ⟨h', tk', m', y', mo', d', n', D', t1, t2, t3, c, u, rfl, ⟨o1, o2, o3⟩, hb, hl, F, hd, hn, fun p hp => by
    rcases List.mem_cons.mp hp with rfl | hp
    · exact N _ hM
    · exact N _ (hs p hp)⟩
theorem law_loop {l D : Addr} {vs : List Value} {ns : List Int} {nn c : Nat} {y mo d n : Int} {t1 t2 t3 u : Tok} {m₀ : Str → Option Value} {news : List (Addr × Obj)}
    (hh : A.handled = none) (F : Fr h₀ env.locals s.heap m₀) (N : News h₀ env.locals s.heap news) (hl : (l, listOf vs.toArray nn) ∈ news) (hi : IntsAre vs ns) (hlen : ns.length ≤ 20)
    (hd : m₀ (Str.ofString "date") = some (.ref D)) (hD : (D, tup3 y mo d t1 t2 t3 c) ∈ news) (hn : m₀ (Str.ofString "number") = some (.int n u)) (ok : DayOk y mo d n) (hb : -400000000000000 ≤ n ∧ n ≤ 400000000000000)
    (turn : ∀ (x : Int) (t : Tok) (y mo d n : Int) (D : Addr) (t1 t2 t3 u : Tok) (c : Nat) (m₁ : Str → Option Value) (rest : List (Addr × Obj)) (h : Heap) (tk : Nat), (1 ≤ mo ∧ mo ≤ 12) → (1 ≤ d ∧ d ≤ dim y mo) → n = ymd y mo d → Hd (n.natAbs ≤ 10 ^ 15) →
      Fr h₀ env.locals h (fun z => if z = Str.ofString "x" then some (.int x t) else if z = Str.ofString "date" then some (.ref D) else if z = Str.ofString "number" then some (.int n u) else m₁ z) → News h₀ env.locals h ((D, tup3 y mo d t1 t2 t3 c) :: rest) →
      wpAny (model prog w) A (execs body env) (TurnP h₀ env.locals n ((D, tup3 y mo d t1 t2 t3 c) :: rest) { s with heap := h, toks := tk } Q) E { s with heap := h, toks := tk })
    (done : ∀ (y mo d n : Int) (D : Addr) (t1 t2 t3 u : Tok) (c : Nat) (m₁ : Str → Option Value) (h : Heap) (tk : Nat), (1 ≤ mo ∧ mo ≤ 12) → (1 ≤ d ∧ d ≤ dim y mo) → n = ymd y mo d → Hd (n.natAbs ≤ 10 ^ 15) →
      Fr h₀ env.locals h (fun z => if z = Str.ofString "date" then some (.ref D) else if z = Str.ofString "number" then some (.int n u) else m₁ z) → News h₀ env.locals h [(D, tup3 y mo d t1 t2 t3 c)] → Q .next { s with heap := h, toks := tk }) :
    wpAny (model prog w) A (pyIter (.ref l)) (fun it s₂ => LoopAtV prog w A h₀ env (Str.ofString "x") body Q E it s₂) E s := by
  have hvl : vs.length = ns.length := hi.length
  refine kdl_iter (nn := nn) (fun i m nx => ∃ y mo d n D t1 t2 t3 c u, (D, tup3 y mo d t1 t2 t3 c) ∈ nx ∧ m (Str.ofString "date") = some (.ref D) ∧ m (Str.ofString "number") = some (.int n u) ∧ DayOk y mo d n ∧ (-400000000000000 - 1000 * (i : Int) ≤ n ∧ n ≤ 400000000000000 + 1000 * (i : Int))) hh hl F N ⟨y, mo, d, n, D, t1, t2, t3, c, u, hD, hd, hn, ok, by lia⟩ ?_ ?_
  · rintro i v m₁ nx h tk own hv hoff hlx ⟨y, mo, d, n, D, t1, t2, t3, c, u, hD, hd, hn, ok, hb⟩ F₁ N₁
    have hi' : i < ns.length := by rw [← hvl]; exact (List.getElem?_eq_some_iff.mp hv).1
    obtain ⟨t, hx⟩ := hi.get i (ns[i]'hi') (List.getElem?_eq_getElem hi')
    have ev : v = .int (ns[i]'hi') t := by rw [hx] at hv; exact (Option.some.inj hv).symm
    subst ev
    have em : (fun z => if z = Str.ofString "x" then some (Value.int (ns[i]'hi') t) else m₁ z) = (fun z => if z = Str.ofString "x" then some (Value.int (ns[i]'hi') t) else if z = Str.ofString "date" then some (.ref D) else if z = Str.ofString "number" then some (.int n u) else m₁ z) := by
      funext z
      by_cases h1 : z = Str.ofString "x"
      · rw [if_pos h1, if_pos h1]
      · rw [if_neg h1, if_neg h1]
        by_cases h2 : z = Str.ofString "date"
        · rw [if_pos h2, h2, hd]
        · rw [if_neg h2]
          by_cases h3 : z = Str.ofString "number"
          · rw [if_pos h3, h3, hn]
          · rw [if_neg h3]
    rw [em] at F₁
    have N₂ : News h₀ env.locals h ((D, tup3 y mo d t1 t2 t3 c) :: (nx ++ own)) := fun p hp => by
      rcases List.mem_cons.mp hp with rfl | hp
      · exact N₁ _ (List.mem_append_left _ hD)
      · exact N₁ p hp
    refine wpAny_mono (turn _ t y mo d n D t1 t2 t3 u c m₁ (nx ++ own) h tk ok.hm ok.hd ok.hn (hd_bound (k := i) (by lia) hb) F₁ N₂) (fun f s₂ p => ?_) fun _ _ e => e
    have fin : TurnP h₀ env.locals n ((D, tup3 y mo d t1 t2 t3 c) :: (nx ++ own)) { s with heap := h, toks := tk } Q .next s₂ → InvEndG h₀ env.locals (fun m' nx => (l, listOf vs.toArray nn) ∈ nx ∧ ∃ y mo d n D t1 t2 t3 c u, (D, tup3 y mo d t1 t2 t3 c) ∈ nx ∧ m' (Str.ofString "date") = some (.ref D) ∧ m' (Str.ofString "number") = some (.int n u) ∧ DayOk y mo d n ∧ (-400000000000000 - 1000 * ((i + 1 : Nat) : Int) ≤ n ∧ n ≤ 400000000000000 + 1000 * ((i + 1 : Nat) : Int))) own { s with heap := h, toks := tk } s₂ := by
      rintro ⟨h', tk', m', y', mo', d', n', D', t1', t2', t3', c', u', e, ok', hb', hlt, F', hd', hn', N'⟩
      refine ⟨h', tk', m', _, [(l, listOf vs.toArray nn), (D', tup3 y' mo' d' t1' t2' t3' c')], e, F', N', fun p hp => ?_, fun p hp => .tail _ (.tail _ (List.mem_append_right _ hp)), fun p hp b hb2 e2 => ?_, .head _, y', mo', d', n', D', t1', t2', t3', c', u', .tail _ (.head _), hd', hn', ok', by lia⟩
      · rcases List.mem_cons.mp hp with rfl | hp
        · exact .tail _ (.tail _ (List.mem_append_left _ hlx))
        · rw [List.mem_singleton.mp hp]; exact .head _
      · rcases List.mem_cons.mp hb2 with h1 | h1
        · exact hoff p hp b (h1 ▸ List.mem_map.mpr ⟨_, hlx, rfl⟩) e2
        · have h2 : b = D' := List.mem_singleton.mp h1
          have h3 : p.1 < D' := hlt p (.tail _ (List.mem_append_right _ hp))
          have h4 : (p.1 : Nat) = D' := by first | exact e2.trans h2 | exact (h2.symm.trans e2).symm
          exact absurd h3 (by rw [h4]; exact Nat.lt_irrefl _)
    cases f with
    | ret v => exact p
    | brk => exact p
    | next => exact fin p
    | cont => exact fin p
  · rintro m₁ nx h tk ⟨y, mo, d, n, D, t1, t2, t3, c, u, hD, hd, hn, ok, hb⟩ F₁ N₁
    have em : m₁ = (fun z => if z = Str.ofString "date" then some (.ref D) else if z = Str.ofString "number" then some (.int n u) else m₁ z) := by
      funext z
      by_cases h2 : z = Str.ofString "date"
      · rw [if_pos h2, h2, hd]
      · rw [if_neg h2]
        by_cases h3 : z = Str.ofString "number"
        · rw [if_pos h3, h3, hn]
        · rw [if_neg h3]
    rw [em] at F₁
    refine done y mo d n D t1 t2 t3 u c m₁ h tk ok.hm ok.hd ok.hn (hd_bound (k := vs.length) (by lia) hb) F₁ fun p hp => ?_
    rw [List.mem_singleton.mp hp]; exact N₁ _ hD
end lawloop

section law0
theorem fr_turn {h₀ g h : Heap} {L : Addr} {m : Str → Option Value} (T : KtsTurn [] h₀ g) (F : Fr g L h m) : Fr h₀ L h m :=
  ⟨F.ns, fun b o e => F.keep b o (T.other b o e (fun x => nomatch x)), by rw [← T.size]; exact F.above⟩
theorem news_turn {h₀ g h : Heap} {L : Addr} {news : List (Addr × Obj)} (T : KtsTurn [] h₀ g) (N : News g L h news) : News h₀ L h news :=
  fun p hp => ⟨(N p hp).1, (N p hp).2.1, kts_none (fun b o e => T.other b o e (fun x => nomatch x)) (N p hp).2.2⟩
variable {w : World} {mean : ExcName → Option Value} {mg mb : Str → Option Value} {k : Nat} {f : Addr} {pre : Prop} {vs : List Value} {R : Tok → Value} {D₀ : Addr} {o : Obj} {news : List (Addr × Obj)} {dp un : Nat} {gd : Option (List Code)} {cn : Str} {cs : Scope} {a : Addr} {ccd : Value} {A₀ : Around} {base h₀ : Heap} {L : Addr} {m : Str → Option Value} {s : Shared} {Q E : Value → Shared → Prop}
theorem ClS.use0 (C : ClS w mean mg mb k f pre D₀ o vs R) (B : Below A₀ base [] h₀) (F : Fr h₀ L s.heap m) (X : (hd.heap_39 w.params).In h₀) (N : News h₀ L s.heap news) (T : Top hd.view_39 (looseW hd.view_39 [Str.ofString "_DAYS_IN_MONTH", Str.ofString "_DAYS_BEFORE_MONTH", Str.ofString "_DI400Y", Str.ofString "_DI100Y", Str.ofString "_DI4Y"]) mean mg mb h₀) (hk : cs.kind = .function) (XB : (hd.heap_39 w.params).In base) (TB : Top hd.view_39 (looseW hd.view_39 [Str.ofString "_DAYS_IN_MONTH", Str.ofString "_DAYS_BEFORE_MONTH", Str.ofString "_DI400Y", Str.ofString "_DI100Y", Str.ofString "_DI4Y"]) mean mg mb base) (hp : pre) (hd : dp + k < recursionLimit) (hu : un + 8 * k < cLine) (hM : (D₀, o) ∈ news)
    (hr : ∀ (t : Tok) (h' : Heap) (tk' : Nat), Fr h₀ L h' m → News h₀ L h' news → Q (R t) { s with heap := h', toks := tk' }) :
    wpAny (model Challenge.rw_mj0327_01.row.prog w) (ktrTop dp un gd cn cs L a ccd [] []) (call (.ref f) vs) Q E s :=
  C _ _ _ _ _ _ _ _ _ _ _ _ _ _ _ _ _ B F X N T hk XB TB ktsDicts_nil hp hd hu hM fun t h' tk' g T' F' N' _ _ _ _ => hr t h' tk' (fr_turn T' F') (news_turn T' N')
end law0
theorem pow12 {prog : Program} {w : World} {A : Around} {E : Value → Shared → Prop} {s : Shared} {t u : Tok} {Q : Value → Shared → Prop} (h : Q (.int 1000000000000 s.toks) { s with toks := s.toks + 1 }) : wpAny (model prog w) A (binaryOp .Pow (.int 10 t) (.int 12 u)) Q E s :=
  pow_int_small (by decide) (by decide) (by decide) (by rw [show ((10 : Int) ^ Int.toNat 12) = 1000000000000 from rfl]; exact h)
theorem cent_item {prog : Program} {w : World} {A : Around} {E : Value → Shared → Prop} {s : Shared} {value slice : PySem.Expr} {h₀ : Heap} {L : Addr} {news : List (Addr × Obj)} {l : Addr} {t0 t1 t2 t3 : Tok} {n : Nat} {k : Int} {u : Tok} {Q : Value → Shared → Prop}
    (N : News h₀ L s.heap news) (hm : (l, listOf #[.int 0 t0, .int 36525 t1, .int 73049 t2, .int 109573 t3] n) ∈ news) (hk : k = k.fmod 4) (h : ∀ c t, c = 36524 * k + (if k = 0 then 0 else 1) → Q (.int c t) s)
    (hs : subscripted slice false (.ref l) (.int k u) = operate [.ref l, .int k u] (getItem (.ref l) (.int k u))) :
    wpAny (model prog w) A (subscriptTail value slice (.ref l) (.int k u)) Q E s := by
  have hl : s.heap.IsList l #[.int 0 t0, .int 36525 t1, .int 73049 t2, .int 109573 t3] := ⟨_, (N _ hm).1, rfl, n, rfl⟩
  rw [fm (by decide)] at hk
  have hk4 : k = 0 ∨ k = 1 ∨ k = 2 ∨ k = 3 := by lia
  rcases hk4 with rfl | rfl | rfl | rfl
  · exact tail_any hl.typeIs slot_list_getitem.lookup (wpAny_getItem_list hl (by decide) (by decide) rfl (h 0 t0 rfl)) hs
  · exact tail_any hl.typeIs slot_list_getitem.lookup (wpAny_getItem_list hl (by decide) (by decide) rfl (h 36525 t1 rfl)) hs
  · exact tail_any hl.typeIs slot_list_getitem.lookup (wpAny_getItem_list hl (by decide) (by decide) rfl (h 73049 t2 rfl)) hs
  · exact tail_any hl.typeIs slot_list_getitem.lookup (wpAny_getItem_list hl (by decide) (by decide) rfl (h 109573 t3 rfl)) hs
theorem fm44 (a : Int) : a.fmod 4 = (a.fmod 4).fmod 4 := by rw [fm (by decide), fm (by decide)]; lia
section stores
variable {prog : Program} {w : World} {A : Around} {E : Value → Shared → Prop} {s : Shared} {env : Env} {nm : Str} {t : Tok} {Q : PUnit → Shared → Prop}
theorem store_year {x : Int} (h : ∀ Y, (-1000000000000 ≤ Y ∧ Y < 1000000000000) → wpAny (model prog w) A (storeName env nm (.int Y t)) Q E s) : wpAny (model prog w) A (storeName env nm (.int ((x + 1000000000000).fmod (2 * 1000000000000) - 1000000000000) t)) Q E s := by
  obtain ⟨Y, e, hY⟩ := yr_ex x
  rw [e]; exact h Y hY
theorem store_number {Y c : Int} {n : Nat} (hn : (n : Int) = Y % 100) (hc : c = 36524 * (Y.fdiv 100).fmod 4 + (if (Y.fdiv 100).fmod 4 = 0 then 0 else 1)) (hY : -1000000000000 ≤ Y ∧ Y < 1000000000000)
    (h : ∀ N, N = ymd Y 2 27 → (-400000000000000 ≤ N ∧ N ≤ 400000000000000) → wpAny (model prog w) A (storeName env nm (.int N t)) Q E s) :
    wpAny (model prog w) A (storeName env nm (.int (Y.fdiv 400 * 146097 - 365 + c + (List.map (fun k' => 337 + dim k' 2) (rangeKs (Y - Y.fmod 100) n)).sum + 57) t)) Q E s := by
  rw [fm (a := Y) (show (0:Int) ≤ 100 by decide), num_ex hn hc]
  exact h _ rfl (ymd_bound hY)
end stores
section lawwalk
theorem law_holds : PySem.Challenge.rw_mj0327_01.Holds := hd (by
  k_with_none
  (k_with "execs cons" => (k_here; (first | (with_reducible show wpAny _ _ _ _ _ (Shared.mk _ _ _ (HAdd.hAdd _ _) _)) | (with_reducible show wpAny _ _ _ _ _ (Shared.mk _ _ _ (Shared.toks _) _))); (with_reducible refine clean ?_); intro tk0; dsimp only))
  (k_with "mine asks" => ((case k1 => k_asm); (case k2 => k_asm); (case k3 => k_asm); (case k4 => k_asm); (case k5 => k_asm); (case kK => first | exact rfl | assumption); (case kp => first | trivial | assumption | ((try dsimp only); omega)); (case kd => ktr_room); (case ku => ktr_units)))
  (k_with "mine gotI" => (walk_at "mine asks"; intro t9 h9 tk9 F9 N9; (try dsimp only); (try k_fold)))
  (k_with "call ref" => (k_here; k_dflt (first | (refine' ClI.use (c_is_leap _ _ _ _ _ _) ?k1 ?k2 ?k3 ?k4 ?k5 ?kK ?kp ?kd ?ku ?_; walk_at "mine gotI") | (refine' ClI.use (c_days_before_year _ _ _ _ _ _) ?k1 ?k2 ?k3 ?k4 ?k5 ?kK ?kp ?kd ?ku ?_; walk_at "mine gotI"))))
  (k_with "subscriptTail" => (k_here; (with_reducible show wpAny _ _ (subscriptTail _ _ (Value.ref 15) (Value.int _ _)) _ _ _); (with_unfolding_all refine' tab_item (ns := [-1, 31, 28, 31, 30, 31, 30, 31, 31, 30, 31, 30, 31]) ?k1 ?k2 ?k3 ?k4 ?k5 ?k7 ?_ ?k6; (case k1 => k_asm); (case k2 => k_asm); (case k3 => kernel_rfl); (case k4 => omega); (case k5 => ((try simp only [List.length]); omega)); (case k7 => decide); (case k6 => with_unfolding_all rfl); k_whole); intro t'; (try dsimp only)))
  (k_with "subscriptTail" => (k_here; (with_reducible show wpAny _ _ (subscriptTail _ _ (Value.ref 16) (Value.int _ _)) _ _ _); (with_unfolding_all refine' tab_item (ns := [-1, 0, 31, 59, 90, 120, 151, 181, 212, 243, 273, 304, 334]) ?k1 ?k2 ?k3 ?k4 ?k5 ?k7 ?_ ?k6; (case k1 => k_asm); (case k2 => k_asm); (case k3 => kernel_rfl); (case k4 => omega); (case k5 => ((try simp only [List.length]); omega)); (case k7 => decide); (case k6 => with_unfolding_all rfl); k_whole); intro t'; (try dsimp only)))
  (k_with "mine asks" => ((case k1 => k_asm); (case k2 => k_asm); (case k3 => k_asm); (case k4 => k_asm); (case k5 => k_asm); (case kK => first | exact rfl | assumption); (case kp => first | trivial | assumption | ((try dsimp only); omega) | ((have hdm := dim_ge _ _); omega) | exact ⟨⟨by omega, by omega⟩, by omega, Int.le_trans (by omega) (dim_ge _ _)⟩); (case kd => ktr_room); (case ku => ktr_units)))
  (k_with "call ref" => (k_here; k_dflt (first | (refine' ClI.use (c_days_in_month _ _ _ _ _ _ _ _) ?k1 ?k2 ?k3 ?k4 ?k5 ?kK ?kp ?kd ?ku ?_; walk_at "mine gotI") | (refine' ClI.use (c_days_before_month _ _ _ _ _ _ _ _) ?k1 ?k2 ?k3 ?k4 ?k5 ?kK ?kp ?kd ?ku ?_; walk_at "mine gotI"))))
  (k_with "call ref" => (k_here; k_dflt (first | (refine' ClI.use (c_ymd2ord _ _ _ _ _ _ _ _ _ _) ?k1 ?k2 ?k3 ?k4 ?k5 ?kK ?kp ?kd ?ku ?_; walk_at "mine gotI"))))
  (k_with "exec Assert" => refine wpAny_Assert_msg rfl ?_)
  (k_with "call ref" => (k_here; k_dflt (first | (refine' ClI.use (c_isoweek1monday _ _ _ _ _ _) ?k1 ?k2 ?k3 ?k4 ?k5 ?kK ?kp ?kd ?ku ?_; walk_at "mine gotI"))))
  (k_with "storeName" => (k_here; (first | (with_reducible show wpAny _ _ (storeName _ _ (Value.int _ (HAdd.hAdd _ _))) _ _ _) | (with_reducible show wpAny _ _ (storeName _ _ (Value.int _ (Shared.toks _))) _ _ _)); (with_reducible refine genTokS ?_); intro tq; (try dsimp only)))
  (k_with "ite" => (k_here; first | (with_reducible refine iteE (by with_reducible assumption) ?_) | (with_reducible refine iteNe (by with_reducible assumption) ?_) | (with_reducible refine iteB (by with_reducible assumption) ?_) | (with_reducible refine iteBn (by with_reducible assumption) ?_) | (with_reducible refine iteP (by with_reducible assumption) ?_) | (with_reducible refine iteN (by with_reducible assumption) ?_) | (with_reducible refine iteE (by omega) ?_) | (with_reducible refine iteNe (by omega) ?_) | (with_reducible refine iteB (by omega) ?_) | (with_reducible refine iteBn (by omega) ?_) | (with_reducible refine iteP (by omega) ?_) | (with_reducible refine iteN (by omega) ?_)))
  (k_with "eval Call" => (k_here; (with_reducible show wpAny _ _ (eval (Expr.Call (Expr.Name _ _) _ [] _) _) _ _ _); k_dflt (refine Call_ ?_)))
  (k_with "mine gotT" => ((case k1 => k_asm); (case k2 => k_asm); (case k3 => k_asm); (case k4 => k_asm); (case k5 => k_asm); (case kK => first | exact rfl | assumption); (case kp => walk_at "mine preT"); (case kd => ktr_room); (case ku => ktr_units); intro D9 t9 u9 v9 c9 h9 tk9 l9 F9 N9; (try dsimp only); (try k_fold)))
  (k_with "mine preT" => (refine' ⟨?p1, ?p2, ?p3⟩; (case p3 => assumption); (case p1 => assumption); (case p2 => assumption)))
  (k_with "call ref" => (k_here; k_dflt (first | (refine' ClT.use (c_ord' _ _ _ _ _ _ _ _ _) ?k1 ?k2 ?k3 ?k4 ?k5 ?kK ?kp ?kd ?ku ?_; walk_at "mine gotT"))))
  (k_with "call ref" => (k_here; k_dflt (first | (refine' ClI.use (c_law_len _ _ _ _ _ _ _ _) ?k1 ?k2 ?k3 ?k4 ?k5 ?kK ?kp ?kd ?ku ?_; walk_at "mine gotI"))))
  (k_with "call ref" => (k_here; k_dflt (first | (refine' ClI.use (c_law_before _ _ _ _ _ _ _ _) ?k1 ?k2 ?k3 ?k4 ?k5 ?kK ?kp ?kd ?ku ?_; walk_at "mine gotI"))))
  (k_with "mine lt" => first | (with_reducible assumption) | exact lt_tail (by with_reducible assumption) | exact lt_tail (lt_tail (by with_reducible assumption)) | ((repeat (first | exact allLt_mem (by with_reducible assumption) | ((with_reducible rename (_ ∧ _) => hz9); obtain ⟨_, hz8⟩ := hz9)))))
  (k_with "mine gotD" => ((case k1 => k_asm); (case k2 => k_asm); (case k3 => k_asm); (case k4 => k_asm); (case k5 => k_asm); (case kK => first | exact rfl | assumption); (case kp => walk_at "mine preD"); (case kd => ktr_room); (case ku => ktr_units); intro y9 m9 d9 D9 t9 u9 v9 c9 h9 tk9 hm9 hd9 he9 l9 F9 N9; (try dsimp only); (try k_fold)))
  (k_with "mine preD" => (refine' ⟨?p1, ?p2, ?p3⟩; (case p1 => first | assumption | omega); (case p2 => assumption); (case p3 => omega)))
  (k_with "call ref" => (k_here; k_dflt (first | (refine' ClD.use (c_law_days _ _ _ _ _ _ _ _ _ _ _ _) ?k1 ?k2 ?k3 ?k4 ?k5 ?kK ?kp ?kd ?ku ?_; walk_at "mine gotD"))))
  (k_with "mine gotX" => ((case k1 => k_asm); (case k2 => k_asm); (case k3 => k_asm); (case k4 => k_asm); (case k5 => k_asm); (case kK => first | exact rfl | assumption); (case k6 => assumption); (case k7 => assumption); (case k8 => assumption); (case kp => first | assumption | omega); (case kd => ktr_room); (case ku => ktr_units); intro e9 t9 G9 h9 k9 tk9 F9 S9 R9 U9; (try dsimp only); (try k_fold)))
  (k_with "mine mem" => ((repeat (first | exact List.Mem.head _ | refine List.Mem.tail _ ?_)); try assumption))
  (k_with "mine read" => first | with_reducible refine Reads.int _ _ | with_reducible refine Reads.str _ _ | with_reducible refine Reads.bool _ | (refine' rd_tup ?rN ?rm; (case rN => k_asm); (case rm => walk_at "mine mem")))
  (k_with "mine reads" => first | refine ReadsAll.nil | (refine' ReadsAll.cons ?r1 ?r2; (case r1 => walk_at "mine read"); (case r2 => walk_at "mine reads")))
  (k_with "mine ok" => first | with_reducible refine ok_of _ | with_reducible refine ok_2 _ _ | with_reducible refine ok_3 _ _ _)
  (k_with "mine sh" => first | ((with_reducible refine sh_week _ _ _ _ _ _ ?_ ?_ ?_) <;> walk_at "mine ok") | ((with_reducible refine sh_told _ ?_ ?_ ?_ ?_) <;> walk_at "mine ok") | ((with_reducible refine sh_five ?_) <;> walk_at "mine ok") | with_reducible refine sh_four _ _ _ _ | with_reducible refine sh_tup _ _ _)
  (k_with "compareOp Eq ref ref" => (k_here; (with_reducible show wpAny _ _ (compareOp CmpOp.Eq (Value.ref _) (Value.ref _)) _ _ _); k_dflt (first | (refine' eq_lists ?N ?a ?b ?ra ?rb ?sh ?u ?_; (case N => k_asm); (case a => k_mem); (case b => k_mem); (case ra => walk_at "mine reads"); (case rb => walk_at "mine reads"); (case sh => walk_at "mine sh"); (case u => ktr_units)) | (refine' eq_tups ?N ?a ?b ?ra ?rb ?sh ?u ?_; (case N => k_asm); (case a => walk_at "mine mem"); (case b => walk_at "mine mem"); (case ra => walk_at "mine reads"); (case rb => walk_at "mine reads"); (case sh => walk_at "mine sh"); (case u => ktr_units)))))
  (k_with "compareOp NotEq ref ref" => (k_here; (with_reducible show wpAny _ _ (compareOp CmpOp.NotEq (Value.ref _) (Value.ref _)) _ _ _); k_dflt ( (refine' ne_lists ?N ?a ?b ?ra ?rb ?sh ?u ?_; (case N => k_asm); (case a => k_mem); (case b => k_mem); (case ra => walk_at "mine reads"); (case rb => walk_at "mine reads"); (case sh => walk_at "mine sh"); (case u => ktr_units)))))
  (k_with "mine gotS" => ((case k2 => k_asm); (case k1 => k_asm); (case k4 => k_asm); (case kM => first | k_mem | walk_at "mine mem"); (case kp => walk_at "mine preS"); (case k3 => k_asm); (case k5 => k_asm); (case kK => first | exact rfl | assumption); (case k6 => assumption); (case k7 => assumption); (case k8 => assumption); (case kd => ktr_room); (case ku => ktr_units)))
  (k_with "eval ListComp" => (k_here; (with_reducible show wpAny _ _ (eval (Expr.ListComp (Expr.Call _ [_, Expr.Name _ _] [] _) _ _ _) _) _ _ _); k_dflt (refine ListComp_S (F₀ := by k_asm) ⟨KtsTurn.refl, by k_asm, by k_asm, by k_asm, by assumption⟩ (by assumption) (by assumption) (by rfl) (by decide) (by rfl) (by decide) (by rfl) ?_)))
  (k_with "SrcS" => (k_here; k_dflt (refine SrcS.intro (by rfl) (by k_asm) (by k_asm) ⟨KtsTurn.refl, by k_asm, by k_asm, by k_asm, by assumption⟩ (by k_mem) (by first | size_fits | exact Nat.le_of_ble_eq_true rfl) ?_); intro g'))
  (k_with "RestS" => (with_unfolding_all first | (refine RestS.succ ?_; intro g' v' I' oI' C' oC' D' m' h' tk' E' hG' hv' hC' hx' F' N' off' ne'; (obtain ⟨T', B', X', P', D''⟩ := hG'); lcg_open hv') | (refine RestS.zero ?_; intro g' hG'; (obtain ⟨T', B', X', P', D''⟩ := hG'))))
  (k_with "EndS" => (k_dflt (first | refine EndS.plain (by k_asm) (by k_asm) ⟨by first | assumption | exact KtsTurn.trans (by assumption) (by assumption), by k_asm, by k_asm, by k_asm, by assumption⟩ (by assumption) (by k_mem) ?_ | refine EndS.made (by k_asm) (by k_asm) ⟨by first | assumption | exact KtsTurn.trans (by assumption) (by assumption), by k_asm, by k_asm, by k_asm, by assumption⟩ (by assumption) (by assumption) (by k_mem) ?_)))
  (k_with "call ref" => (k_here; k_dflt (first | (refine' ClS.use (c_told_ymd _ _ _ _ _ _ _ _ _ _ _ _) ?k1 ?k2 ?k3 ?k4 ?k5 ?kK ?k6 ?k7 ?k8 ?kp ?kd ?ku ?kM ?_; walk_at "mine gotS"; intro t9 h9 tk9 g9 T9 F9 N9 B9 X9 P9 D9; (try (have T8 := KtsTurn.trans (by assumption) T9)); (try dsimp only); (try k_fold)) | (refine' ClS.use (c_told_ymd_xm _ _ _ _ _ _ _ _ _ _ _ _) ?k1 ?k2 ?k3 ?k4 ?k5 ?kK ?k6 ?k7 ?k8 ?kp ?kd ?ku ?kM ?_; walk_at "mine gotS"; intro t9 h9 tk9 g9 T9 F9 N9 B9 X9 P9 D9; (try (have T8 := KtsTurn.trans (by assumption) T9)); (try dsimp only); (try k_fold)) | (refine' ClS.use (c_told_ymd_xd _ _ _ _ _ _ _ _ _ _ _ _) ?k1 ?k2 ?k3 ?k4 ?k5 ?kK ?k6 ?k7 ?k8 ?kp ?kd ?ku ?kM ?_; walk_at "mine gotS"; intro t9 h9 tk9 g9 T9 F9 N9 B9 X9 P9 D9; (try (have T8 := KtsTurn.trans (by assumption) T9)); (try dsimp only); (try k_fold)) | (refine' ClS.use (c_told_iso_xy _ _ _ _ _ _ _ _ _ _ _ _) ?k1 ?k2 ?k3 ?k4 ?k5 ?kK ?k6 ?k7 ?k8 ?kp ?kd ?ku ?kM ?_; walk_at "mine gotS"; intro t9 h9 tk9 g9 T9 F9 N9 B9 X9 P9 D9; (try (have T8 := KtsTurn.trans (by assumption) T9)); (try dsimp only); (try k_fold)) | (refine' ClS.use (c_told_iso_xw _ _ _ _ _ _ _ _ _ _ _ _) ?k1 ?k2 ?k3 ?k4 ?k5 ?kK ?k6 ?k7 ?k8 ?kp ?kd ?ku ?kM ?_; walk_at "mine gotS"; intro t9 h9 tk9 g9 T9 F9 N9 B9 X9 P9 D9; (try (have T8 := KtsTurn.trans (by assumption) T9)); (try dsimp only); (try k_fold)) | (refine' ClS.use (c_told_iso_xd _ _ _ _ _ _ _ _ _ _ _ _) ?k1 ?k2 ?k3 ?k4 ?k5 ?kK ?k6 ?k7 ?k8 ?kp ?kd ?ku ?kM ?_; walk_at "mine gotS"; intro t9 h9 tk9 g9 T9 F9 N9 B9 X9 P9 D9; (try (have T8 := KtsTurn.trans (by assumption) T9)); (try dsimp only); (try k_fold)) | (refine' ClST.use (c_told_iso _ _ _ _ _ _ _ _ _ _ _ _ _ _ _) ?k1 ?k2 ?k3 ?k4 ?k5 ?kK ?k6 ?k7 ?k8 ?kp ?kd ?ku ?kM ?_; walk_at "mine gotS"; intro D9 t9 u9 v9 c9 h9 tk9 g9 l9 T9 F9 N9 B9 X9 P9 K9; (try dsimp only); (try k_fold)))))
  (k_with "mine preS" => first | assumption | exact ⟨by assumption, by assumption⟩ | exact .inl (by decide) | exact .inr (by decide) | exact ⟨by assumption, .inl (by decide)⟩ | exact ⟨by assumption, .inr (Int.lt_add_one_of_le (Int.le_refl _))⟩ | exact ⟨.inl (by assumption), nat_of (by assumption)⟩ | exact ⟨.inr (by assumption), nat_of (by assumption)⟩ | exact ⟨⟨Int.not_lt.mp (by assumption), Int.not_lt.mp (by assumption)⟩, Hd.o (by assumption)⟩ | exact ⟨⟨Int.not_lt.mp (by assumption), Int.not_lt.mp (by assumption)⟩, Hd.o (by assumption), .inl rfl⟩ | exact ⟨⟨Int.not_lt.mp (by assumption), Int.not_lt.mp (by assumption)⟩, Hd.o (by assumption), .inr rfl⟩ | (refine' ⟨?p1, ?p2, ?p3, ?p4, ?p5, ?p6⟩; (case p6 => (rename (∀ y' m' d', ymd y' m' d' = _ → _) => hsun9; exact hsun9 _ _ _ (by assumption))); (case p1 => exact ⟨Int.not_lt.mp (by assumption), Int.not_lt.mp (by assumption)⟩); (case p2 => exact Hd.o (by assumption)); (case p3 => exact ⟨by decide, by decide⟩); (case p4 => assumption); (case p5 => assumption)) | (refine' ⟨?p1, ?p2, ?p3, ?p4, ?p5, ?p6⟩; (case p6 => exact Hd.o (by assumption)); (case p1 => exact ⟨Int.not_lt.mp (by assumption), Int.not_lt.mp (by assumption)⟩); (case p2 => exact Hd.o (by assumption)); (case p3 => assumption); (case p4 => assumption); (case p5 => assumption)))
  (k_with "CompEnd" => (k_here; k_dflt (refine PyProof.Rows.LCg.CompEnd.intro (by k_asm) (by k_asm) _ (fun _ h => h) (by first | assumption | (simp only [PyProof.Rows.LCg.Off3, and_true]; assumption)) (by lcg_src) ?_)))
  (k_with "eval Name" => (k_here; (with_reducible show wpAny _ _ (eval (Expr.Name _ _) (envOf _ _ _ _ _)) _ _ _); k_dflt (refine' nameX_L ?F ?v ?_ ?a ?b; (case F => k_asm); (case a => rfl); (case b => rfl); (case v => exact LK.get (by with_reducible assumption) (by rfl)); k_whole)))
  (k_with "mine name" => first | rfl | exact LK.get (by with_reducible assumption) (by rfl))
  (k_with "mine preS" => exact ⟨by with_reducible assumption, by with_reducible assumption, by with_reducible rfl, by with_reducible assumption⟩)
  (k_with "call ref" => (k_here; k_dflt (refine' ClS.use (c_weeks _ _ _ _ _ _ _ _ _ _ _ _ _ _) ?k1 ?k2 ?k3 ?k4 ?k5 ?kK ?k6 ?k7 ?k8 ?kp ?kd ?ku ?kM ?_; walk_at "mine gotS"; intro t9 h9 tk9 g9 T9 F9 N9 B9 X9 P9 D9; (try (have T8 := KtsTurn.trans (by assumption) T9)); (try dsimp only); (try k_fold))))
  (k_with "binaryOp Pow int int" => (k_here; (with_reducible refine pow12 ?_)))
  (k_with "storeName" => (k_here; (with_reducible refine store_year ?_); intro Y9 hB9; (try dsimp only)))
  (k_with "storeName" => (k_here; (with_reducible refine store_number ?sn ?sc ?sy ?_); (case sn => (rw [fm (show (0:Int) ≤ 100 by decide)]; omega)); (case sc => assumption); (case sy => assumption); intro N9 hN9 hM9; (try dsimp only)))
  (k_with "subscriptTail List" => (k_here; (with_reducible show wpAny _ _ (subscriptTail _ _ (Value.ref _) (Value.int (Int.fmod _ 4) _)) _ _ _); (with_unfolding_all refine' cent_item ?k1 ?k2 ?k3 ?_ ?k6; (case k1 => k_asm); (case k2 => k_mem); (case k3 => exact fm44 _); (case k6 => with_unfolding_all rfl); k_whole); intro c9 t9 hc9; (try dsimp only)))
  (k_with "pyIter ref" => (k_here; (with_reducible show wpAny _ _ (pyIter (Value.ref _)) (fun it s₂ => LoopAtV _ _ _ _ _ _ _ _ _ it s₂) _ _); k_dflt (refine' law_loop ?hh ?F ?N ?hl ?hi ?hlen ?hd ?hD ?hn ?ok ?hb ?turn ?done; (case hh => exact rfl); (case F => k_asm); (case N => k_asm); (case hl => k_mem); (case hi => l_ints); (case hlen => (simp only [List.length_append, List.length_take, List.length_drop, List.length_cons, List.length_nil]; omega)); (case hd => exact if_pos rfl); (case hD => k_mem); (case hn => exact (if_neg (by decide +kernel)).trans (if_pos rfl)); (case ok => exact ⟨by decide, ⟨by decide, Int.le_trans (by decide) (dim_ge _ _)⟩, by with_reducible assumption⟩); (case hb => with_reducible assumption)); (case' turn => (intro x9 t9 y9 m9 d9 n9 D9 t91 t92 t93 u9 c9 M9 rest9 h9 tk9 hm9 hd9 hn9 hb9 F9 N9; (try dsimp only); (try k_fold))); (case' done => (intro y9 m9 d9 n9 D9 t91 t92 t93 u9 c9 M9 h9 tk9 hm9 hd9 hn9 hb9 F9 N9; (try dsimp only)))))
  (k_with "call ref" => (k_here; k_dflt (refine' ClM.use (c_law_moved _ _ _ _ _ _ _ _ _ _ _ _ _ _ _ _) ?k1 ?k2 ?k3 ?k4 ?k5 ?kK ?kp ?kd ?ku ?kD ?_; (case k2 => k_asm); (case k1 => k_asm); (case k4 => k_asm); (case kD => k_mem); (case k3 => k_asm); (case k5 => k_asm); (case kK => exact rfl); (case kp => exact ⟨by with_reducible assumption, by with_reducible assumption, by with_reducible assumption⟩); (case kd => ktr_room); (case ku => ktr_units); intro y9 m9 d9 n9 P9 D9 t91 t92 t93 t94 c91 c92 h9 tk9 hm9 hd9 hn9 hb9 lP9 lD9 F9 N9; (try dsimp only); (try k_fold))))
  (k_with "call ref" => (k_here; k_dflt (refine' ClS.use0 (c_right _ _ _ _ _ _ _ _ _ _ _ _ _ _) ?k1 ?k2 ?k3 ?k4 ?k5 ?kK ?k6 ?k7 ?kp ?kd ?ku ?kM ?_; (case k2 => k_asm); (case k1 => k_asm); (case k4 => k_asm); (case kM => k_mem); (case k3 => k_asm); (case k5 => k_asm); (case kK => exact rfl); (case k6 => k_asm); (case k7 => k_asm); (case kp => exact ⟨by with_reducible assumption, by with_reducible assumption, by with_reducible assumption, by with_reducible assumption⟩); (case kd => ktr_room); (case ku => ktr_units); intro t9 h9 tk9 F9 N9; (try dsimp only); (try k_fold))))
  (k_with "TurnP" => (k_dflt (refine' TurnP.intro ?F ?N ?hd ?hn ?hM ?hs ?o1 ?o2 ?o3 ?hb ?hl; (case F => k_asm); (case N => k_asm); (case hd => first | exact if_pos rfl | exact (if_neg (by decide +kernel)).trans (if_pos rfl)); (case hn => first | exact if_pos rfl | exact (if_neg (by decide +kernel)).trans (if_pos rfl)); (case hM => k_mem); (case hs => (intro p hp; (repeat (first | exact hp | refine List.Mem.tail _ ?_)))); (case o1 => with_reducible assumption); (case o2 => with_reducible assumption); (case o3 => with_reducible assumption); (case hb => with_reducible assumption); (case hl => with_reducible assumption))))
  (k_with "exec For Name BinOp" => (k_here; (rename Fr _ _ _ _ => lF'); (with_unfolding_all refine' For_invVF lF' ?k1 ?k2 ?_; (case k1 => exact rfl); (case k2 => exact rfl); k_whole)))
  k_go0
  all_goals (try k_fold)
  k_steps)
end lawwalk

end Mine

theorem PySem.Challenge.cw_mj0327_01_holds : PySem.Challenge.rw_mj0327_01.Holds := by
  exact Mine.law_holds
