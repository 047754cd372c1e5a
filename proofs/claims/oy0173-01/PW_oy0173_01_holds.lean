import PyProof.Rows.All
import Wide.All
import OpenK.AllK
import Wide.FinOn
import PySem.Challenge.RW_oy0173_01
set_option Elab.async false
set_option maxRecDepth 100000
set_option maxHeartbeats 8000000
namespace Mine
section
open PySem PySem.W PyProof.Rows
/-- the program without the three statements at its top that bind what nothing reads -/
def lawView : Program := { PySem.Challenge.pw_oy0173_01 with main := { PySem.Challenge.pw_oy0173_01.main with body := ((PySem.Challenge.pw_oy0173_01.main.body.eraseIdx 32).eraseIdx 24).eraseIdx 0 } }
def lawRead : List (Str × WData) := [(Str.ofString "_filemode_table", .tuple [.tuple [.tuple [.int 40960, .str ⟨#[108]⟩], .tuple [.int 49152, .str ⟨#[115]⟩], .tuple [.int 32768, .str ⟨#[45]⟩], .tuple [.int 24576, .str ⟨#[98]⟩], .tuple [.int 16384, .str ⟨#[100]⟩], .tuple [.int 8192, .str ⟨#[99]⟩], .tuple [.int 4096, .str ⟨#[112]⟩]], .tuple [.tuple [.int 256, .str ⟨#[114]⟩]], .tuple [.tuple [.int 128, .str ⟨#[119]⟩]], .tuple [.tuple [.int 2112, .str ⟨#[115]⟩], .tuple [.int 2048, .str ⟨#[83]⟩], .tuple [.int 64, .str ⟨#[120]⟩]], .tuple [.tuple [.int 32, .str ⟨#[114]⟩]], .tuple [.tuple [.int 16, .str ⟨#[119]⟩]], .tuple [.tuple [.int 1032, .str ⟨#[115]⟩], .tuple [.int 1024, .str ⟨#[83]⟩], .tuple [.int 8, .str ⟨#[120]⟩]], .tuple [.tuple [.int 4, .str ⟨#[114]⟩]], .tuple [.tuple [.int 2, .str ⟨#[119]⟩]], .tuple [.tuple [.int 513, .str ⟨#[116]⟩], .tuple [.int 512, .str ⟨#[84]⟩], .tuple [.int 1, .str ⟨#[120]⟩]]])]

local macro_rules | `(tactic| o_head $H) => `(tactic| (refine holds_open (q := lawView) (loose := [Str.ofString "_filemode_table"]) (Xt := fun s => xlAt lawView lawRead s && recOk (RowW.records (OpenRow.toRowW (OpenLaw.row PySem.Challenge.rw_oy0173_01))) s) (XP := XL lawView lawRead) (Yf := Hook.obs $H) (Ya := Hook.val $H) (YP := Hook.says $H) (N := 1796) ?hl (Hook.of $H) (Hook.keeps $H) (fun s e => xl_of s (Bool.and_eq_true_iff.mp e).1) XL.keeps (by rfl) (by rfl) (by rfl) (fun s e => recFacts_of (Bool.and_eq_true_iff.mp e).2) (by rfl) (by first | assumption | decide +kernel) (by decide +kernel) ⟨rfl, rfl, rfl, rfl, rfl, by decide +kernel⟩ ?hw ?hc; (case hl => intro w; kernel_rfl)))
open_top hd for PySem.Challenge.rw_oy0173_01

end
/-! part B0 -/
section
open PySem PySem.W PyProof.Rows
theorem flushB0 {prog : Program} {w : World} {A : Around} {E : Value → Shared → Prop} {s : Shared} {t u : Tok} {Q : Value → Shared → Prop} (h : wpAny (model prog w) A (binaryOp .Mult (.int 1 t) (.int 1 u)) Q E s) : wpAny (model prog w) A (binaryOp .Mult (.int 1 t) (.int 1 u)) Q E s := by
  first
  | (walk1; fail)
  | exact h
end
section
open PySem PySem.W PySem.Spec PySem.Calls PyProof.Rows
theorem room_0 {a b c : Nat} (h : a + b < c) : a < c := Nat.lt_of_le_of_lt (Nat.le_add_right a b) h
theorem room_d {a b c k : Nat} (h : a + b < c) (e : 1 + k ≤ b) : a + 1 + k < c := Nat.lt_of_le_of_lt (by rw [Nat.add_assoc]; exact Nat.add_le_add_left e a) h
theorem room_u {a b c k n : Nat} (h : a + 8 * b < c) (e : n + k ≤ 8 * b) : a + n + k < c := Nat.lt_of_le_of_lt (by rw [Nat.add_assoc]; exact Nat.add_le_add_left e a) h
theorem room_dk {a c k : Nat} (h : a + (k + 1) < c) : a + 1 + k < c := room_d h (Nat.le_of_eq (Nat.add_comm 1 k))
theorem room_uk {a c k : Nat} (h : a + 8 * (k + 1) < c) : a + 3 + 8 * k < c := room_u h (by omega)
theorem sz3 {a l d : Nat} (h : a ≤ l) (k : l + 1 + 1 + 1 < d) : a ≤ d := Nat.le_trans h (Nat.le_of_lt (Nat.lt_of_succ_lt (Nat.lt_of_succ_lt (Nat.lt_of_succ_lt k))))
theorem sz4 {a l d e : Nat} (h : a ≤ l) (k : l + 1 + 1 + 1 < d) (j : d < e) : a ≤ e := Nat.le_trans (sz3 h k) (Nat.le_of_lt j)
theorem allLt_hd {d a : Addr} {o : Obj} {r : List (Addr × Obj)} (h : AllLt d ((a, o) :: r)) : @LT.lt Nat _ a d := h.1
theorem allLt_tl {d a : Addr} {o : Obj} {r : List (Addr × Obj)} (h : AllLt d ((a, o) :: r)) : AllLt d r := h.2

section
variable {prog : Program} {w : World} {A A₀ : Around} {s : Shared} {K : Frag} {L : Addr} {h₀ base : Heap} {m mg mb : Str → Option Value} {mu : List (Addr × Obj)} {p : Program} {loose : List Str} {mean : ExcName → Option Value}

/-- a def of the text is entered: everything but mu is laid into the new ground -/
theorem enterH {env : Env} {outer : List Env} {R : Result → Shared → Prop} {name qual : Str} {params : Arguments} {body : List Stmt} {scope : Scope} {dV kV doc pm cdv ct oc : Value} {an od : Option Addr} {osl : Array (Option Value)} {f : Addr} {args : Args} {binds : List (Str × Value)}
    (B : Below A₀ base outer h₀) (F : Fr h₀ L s.heap m) (X₀ : K.In h₀) (N : News h₀ L s.heap mu) (T : Top p loose mean mg mb h₀) (hA : A.frames = some (env :: outer)) (hf : env.frame = some L) (hke : env.scope.kind = .function)
    (ho : K.lookup f = some ⟨oc, od, .func (fnOf name qual params body scope dV kV doc pm an cdv ct), osl⟩) (hcd : codeIn K cdv qual = true) (hroom : A.depth < recursionLimit)
    (hbind : BindsTo s (fnOf name qual params body scope dV kV doc pm an cdv ct) args binds) (hloc : ∀ y ∈ binds, scope.names.lookup y.1 = some .local)
    (h : ∀ g L' h₁, g = hideAll s.heap (mu.map (·.1)) → Fr g L' h₁ (fun y => binds.reverse.lookup y) → News g L' h₁ mu → Below A base (env :: outer) g → K.In g → Top p loose mean mg mb g → (∀ q ∈ mu, q.1 < L') →
      wpAny (model prog w) (A.deeper (envOf qual scope L' f cdv)) (execs body (envOf qual scope L' f cdv))
        (fun fl s' => R (.ok (.ret (match fl with | .ret v => v | _ => .none))) s')
        (fun e s' => wpAny (model prog w) (A.deeper (envOf qual scope L' f cdv)) (leaving (envOf qual scope L' f cdv) e) (fun _ s'' => R (.error e) s'') (fun e' s'' => R (.error e') s'') s')
        { s with heap := h₁, toks := s.toks + binds.length })
    (hco : scope.isCoroutine = false) (hgen : scope.isGenerator = false) (hk : scope.kind = .function)
    (hcell : ∀ x ∈ scope.names, x.2 ≠ .cell) : codeAny (model prog w) A (.call (.ref f) args) R s := by
  obtain ⟨_, BG, st, _⟩ := groundX (R := R) B F N hA hf hke
  refine codeAny_call_def (fd := fnOf name qual params body scope dV kV doc pm an cdv ct) (body := body) (binds := binds) hroom ((X₀.keeps F.keep) _ _ ho) rfl (T.nolimit.keeps F.keep) (codeRec_of (X₀.keeps F.keep) hcd) rfl hbind hcell hloc (fun h₁ hns hk₁ => ?_) hco hgen hk
  exact h _ s.heap.objs.size h₁ rfl ⟨hns, fun b o e => hk₁ b o (of_hideAll _ e), Nat.le_of_eq (hideAll_size _ _)⟩
    (fun q hq => ⟨hk₁ _ _ (N q hq).1, Nat.ne_of_lt (Heap.lt_size (N q hq).1), hideAll_none _ (List.mem_map_of_mem hq)⟩) BG (X₀.keeps st) (T.keeps st) (fun q hq => Heap.lt_size (N q hq).1)

/-- the same for a def that keeps cells -/
theorem enterHC {env : Env} {outer : List Env} {R : Result → Shared → Prop} {name qual : Str} {params : Arguments} {body : List Stmt} {scope : Scope} {dV kV doc pm cdv ct oc : Value} {an od : Option Addr} {osl : Array (Option Value)} {f : Addr} {args : Args} {binds : List (Str × Value)}
    (B : Below A₀ base outer h₀) (F : Fr h₀ L s.heap m) (X₀ : K.In h₀) (N : News h₀ L s.heap mu) (T : Top p loose mean mg mb h₀) (hA : A.frames = some (env :: outer)) (hf : env.frame = some L) (hke : env.scope.kind = .function)
    (ho : K.lookup f = some ⟨oc, od, .func (fnOf name qual params body scope dV kV doc pm an cdv ct), osl⟩) (hcd : codeIn K cdv qual = true) (hroom : A.depth < recursionLimit)
    (hbind : BindsTo s (fnOf name qual params body scope dV kV doc pm an cdv ct) args binds) (hkind : (binds.all fun y => scope.names.lookup y.1 == some .local || scope.names.lookup y.1 == some .cell) = true)
    (hnd : ((cellsFrom 0 scope.names []).map (·.1)).Nodup)
    (h : ∀ g L' h₁ tk cells, g = hideAll s.heap (mu.map (·.1)) → Fr g L' h₁ (bindL (envOfC qual scope L' f cdv).kindOf binds fun _ => none) → News g L' h₁ (cells ++ mu) →
      CellsAre (bindC (envOfC qual scope L' f cdv).kindOf binds fun _ => none) (cellsFrom (L' + 1) scope.names []) cells → Below A base (env :: outer) g → K.In g → Top p loose mean mg mb g → (∀ q ∈ mu, q.1 < L') →
      wpAny (model prog w) (A.deeper (envOfC qual scope L' f cdv)) (execs body (envOfC qual scope L' f cdv))
        (fun fl s' => R (.ok (.ret (match fl with | .ret v => v | _ => .none))) s')
        (fun e s' => wpAny (model prog w) (A.deeper (envOfC qual scope L' f cdv)) (leaving (envOfC qual scope L' f cdv) e) (fun _ s'' => R (.error e) s'') (fun e' s'' => R (.error e') s'') s')
        { s with heap := h₁, toks := tk })
    (hco : scope.isCoroutine = false) (hgen : scope.isGenerator = false) (hk : scope.kind = .function) : codeAny (model prog w) A (.call (.ref f) args) R s := by
  obtain ⟨_, BG, st, _⟩ := groundX (R := R) B F N hA hf hke
  refine codeAny_call_function hroom ((X₀.keeps F.keep) _ _ ho) rfl hco hgen rfl (codeRec_of (X₀.keeps F.keep) hcd) (hbind _ _ _ _ ?_)
  refine wpAny_newFunctionEnv_cells hk (kindsX hkind _) fun env' he s' x => ?_
  subst he
  refine ⟨(T.nolimit.keeps F.keep).keeps x.toInCall.keep, codeAny_func ?_⟩
  obtain ⟨h₁, tk, rfl, _⟩ := x.done
  have hk₁ := x.toInCall.keep
  obtain ⟨cells, NC, Y⟩ := Cl.news (h₀ := s.heap) (Nat.le_refl _) fun n c hm => ⟨x.cell n c (lookup_of_mem_nodup (cellsFrom_names scope.names 0 (s.heap.objs.size + 1) [] [] rfl ▸ hnd) hm), x.above n c hm⟩
  refine h _ s.heap.objs.size h₁ tk cells rfl ⟨x.toInCall.ns, fun b o e => hk₁ b o (of_hideAll _ e), Nat.le_of_eq (hideAll_size _ _)⟩ (fun q hq => ?_) Y BG (X₀.keeps st) (T.keeps st) (fun q hq => Heap.lt_size (N q hq).1)
  rcases List.mem_append.mp hq with hq | hq
  · refine ⟨(NC q hq).1, (NC q hq).2.1, ?_⟩
    cases e : (hideAll s.heap (mu.map (·.1))).get? q.1 with
    | none => rfl
    | some o => have := of_hideAll _ e; rw [(NC q hq).2.2] at this; cases this
  · exact ⟨hk₁ _ _ (N q hq).1, Nat.ne_of_lt (Heap.lt_size (N q hq).1), hideAll_none _ (List.mem_map_of_mem hq)⟩

theorem kept_of {g h h' : Heap} {L' : Addr} {m' : Str → Option Value} {as : List Addr} (hg : g = hideAll h as) (F' : Fr g L' h' m') : ∀ b o, b ∉ as → h.get? b = some o → h'.get? b = some o :=
  fun b o hb e => F'.keep b o (by rw [hg]; exact hideAll_get _ e hb)
theorem size_of {g h h' : Heap} {L' : Addr} {m' : Str → Option Value} {as : List Addr} (hg : g = hideAll h as) (F' : Fr g L' h' m') : h.objs.size ≤ L' ∧ h.objs.size ≤ h'.objs.size := by
  have h1 := F'.above
  rw [hg, hideAll_size] at h1
  exact ⟨h1, Nat.le_of_lt (Nat.lt_of_le_of_lt h1 F'.ns.lt)⟩
end

/-! a for, turn by turn -/
section
variable {prog : Program} {w : World} {A : Around} {E : Value → Shared → Prop} {s : Shared} {env : Env} {target : PySem.Expr} {it : Value} {body orelse : List Stmt} {Q : Flow → Shared → Prop}
def FGo (prog : Program) (w : World) (A : Around) (E : Value → Shared → Prop) (env : Env) (target : PySem.Expr) (body orelse : List Stmt) (Q : Flow → Shared → Prop) (it : Value) (s : Shared) : Prop :=
  codeAny (model prog w) A (.forLoop target it body orelse env) (fun r s' => match r with | .ok f => Q f s' | .error e => cameBackBy (model prog w) A env E e s') s
def FPost (prog : Program) (w : World) (A : Around) (E : Value → Shared → Prop) (env : Env) (target : PySem.Expr) (body orelse : List Stmt) (Q : Flow → Shared → Prop) (it : Value) (f : Flow) (s : Shared) : Prop :=
  match f with
  | .next => FGo prog w A E env target body orelse Q it s
  | .cont => FGo prog w A E env target body orelse Q it s
  | .brk => Q .next s
  | .ret v => Q (.ret v) s
def FTurn (prog : Program) (w : World) (A : Around) (E : Value → Shared → Prop) (env : Env) (target : PySem.Expr) (body orelse : List Stmt) (Q : Flow → Shared → Prop) (it : Value) (r : Option Value) (s₁ : Shared) : Prop :=
  match r with
  | none => wpAny (model prog w) A (execs orelse env) Q E s₁
  | some v => wpAny (model prog w) A (letOwnedTupleGo target it v) (fun _ s₂ => wpAny (model prog w) A (assign target env v) (fun _ s₃ => wpAny (model prog w) A (execs body env) (FPost prog w A E env target body orelse Q it) E s₃) E s₂) E s₁
theorem fgo_turn (hE : PassesOwn (model prog w) A env E) (h : wpAny (model prog w) A (pyNext it) (FTurn prog w A E env target body orelse Q it) E s) : FGo prog w A E env target body orelse Q it s := by
  refine codeAny_of_tree ?_
  show wpAny _ A ((forTurn target it body orelse env).onRaise (fun x => do noteFrame x env; theTreesLotGoes x)) _ _ s
  refine wpAny_noted ?_
  simp only [forTurn]
  refine wpAny_bind (wpAny_standAt (wpAny_bind (wpAny_onRaise (wpAny_mono h (fun r s₁ h₁ => ?_) fun _ _ h' => wpAny_standAt (hE _ _ h')))))
  cases r with
  | none => exact wpAny_pure ⟨rfl, codeAny_block (wpAny_mono h₁ (fun _ _ q => q) hE)⟩
  | some v =>
    refine wpAny_bind (wpAny_mono (show wpAny _ _ (letOwnedTupleGo target it v) _ _ _ from h₁) (fun _ s₁' h₁' => ?_) hE)
    refine wpAny_bind (wpAny_mono h₁' (fun _ s₂ h₂ => wpAny_bind (wpAny_mono h₂ (fun f s₃ h₃ => ?_) hE)) hE)
    cases f with
    | next => exact wpAny_pure ⟨rfl, h₃⟩
    | cont => exact wpAny_pure ⟨rfl, h₃⟩
    | brk => exact wpAny_pure h₃
    | ret v => exact wpAny_pure h₃
theorem For_go {iter : PySem.Expr} {pos : Pos} (h : wpAny (model prog w) A (eval iter env) (fun xv s₁ => wpAny (model prog w) A (pyIter xv) (fun it s₂ => FGo prog w A E env target body orelse Q it s₂) E s₁) E s)
    (hs : ∀ x, foldedSetIterable iter env x = pure x := by intro _; rfl) : wpAny (model prog w) A (exec (.For target iter body orelse pos) env) Q E s := wpAny_For h hs
end
section
variable {M : Model} {A : Around} {E : Value → Shared → Prop} {s : Shared} {h₀ : Heap} {L a : Addr} {m : Str → Option Value} {cn : Str} {cs : Scope} {ccd : Value} {cl : List (Str × Addr)}
  {x : Str} {v : Value} {Q : Unit → Shared → Prop} {news : List (Addr × Obj)} {n : Int} {c : Str} {t : Tok}
theorem storeG (F : Fr h₀ L s.heap m) (N : News h₀ L s.heap news)
    (h : ∀ h' t', let m' := fun y => if y = x then some v else m y; Fr h₀ L h' m' → News h₀ L h' news → Q () { s with heap := h', toks := t' })
    (hk : cs.kind = .function := by rfl) (hx : (envX cn cs L a ccd cl).kindOf x = some .local := by rfl) : wpAny M A (storeName (envX cn cs L a ccd cl) x v) Q E s :=
  storeX_L F N (fun h' F' N' => h h' _ F' N') hk hx
theorem storeGi (F : Fr h₀ L s.heap m) (N : News h₀ L s.heap news)
    (h : ∀ h' t' u, let m' := fun y => if y = x then some (.int n u) else m y; Fr h₀ L h' m' → News h₀ L h' news → Q () { s with heap := h', toks := t' })
    (hk : cs.kind = .function := by rfl) (hx : (envX cn cs L a ccd cl).kindOf x = some .local := by rfl) : wpAny M A (storeName (envX cn cs L a ccd cl) x (.int n t)) Q E s :=
  storeX_L F N (fun h' F' N' => h h' _ t F' N') hk hx
theorem storeGs (F : Fr h₀ L s.heap m) (N : News h₀ L s.heap news)
    (h : ∀ h' t' u, let m' := fun y => if y = x then some (.str c u) else m y; Fr h₀ L h' m' → News h₀ L h' news → Q () { s with heap := h', toks := t' })
    (hk : cs.kind = .function := by rfl) (hx : (envX cn cs L a ccd cl).kindOf x = some .local := by rfl) : wpAny M A (storeName (envX cn cs L a ccd cl) x (.str c t)) Q E s :=
  storeX_L F N (fun h' F' N' => h h' _ t F' N') hk hx
end
section
variable {prog : Program} {w : World} {A : Around} {h₀ : Heap} {L a : Addr} {m : Str → Option Value} {cn : Str} {cs : Scope} {ccd : Value} {cl : List (Str × Addr)} {env : Env} {e e' : PySem.Expr} {p q : Int} {x : Str} {t : Tok} {k : Nat} {pos : Pos}
/-- a pure expression over ints that gives n, whatever stands behind it -/
def IE (prog : Program) (w : World) (A : Around) (h₀ : Heap) (L : Addr) (m : Str → Option Value) (env : Env) (e : PySem.Expr) (n : Int) : Prop :=
  ∀ (Q E : Value → Shared → Prop) (s : Shared), Fr h₀ L s.heap m → (∀ t tk, Q (.int n t) { s with toks := tk }) → wpAny (model prog w) A (eval e env) Q E s
theorem IE.go {Q E : Value → Shared → Prop} {s : Shared} (h : IE prog w A h₀ L m env e p) (F : Fr h₀ L s.heap m) (k : ∀ t tk, Q (.int p t) { s with toks := tk }) : wpAny (model prog w) A (eval e env) Q E s := h Q E s F k
theorem IE.const : IE prog w A h₀ L m env (.Constant (.int p) k pos) p := fun _ _ _ _ h => wpAny_Constant_int (h _ _)
theorem IE.name (hv : m x = some (.int p t)) (hk : cs.kind = .function := by rfl) (hx : (envX cn cs L a ccd cl).kindOf x = some .local := by rfl) (hd : (x == ("__debug__" : Str)) = false := by decide) :
    IE prog w A h₀ L m (envX cn cs L a ccd cl) (.Name x pos) p := fun _ _ s F h => nameX_L F hv (h t s.toks) hk hx hd
theorem IE.add (h : IE prog w A h₀ L m env e p) (h' : IE prog w A h₀ L m env e' q) : IE prog w A h₀ L m env (.BinOp e .Add e' pos) (p + q) :=
  fun _ _ _ F g => wpAny_BinOp (h _ _ _ F fun _ _ => h' _ _ _ F fun _ _ => PyProof.Rows.add_int (g _ _))
theorem IE.sub (h : IE prog w A h₀ L m env e p) (h' : IE prog w A h₀ L m env e' q) : IE prog w A h₀ L m env (.BinOp e .Sub e' pos) (p - q) :=
  fun _ _ _ F g => wpAny_BinOp (h _ _ _ F fun _ _ => h' _ _ _ F fun _ _ => PyProof.Rows.sub_int (g _ _))
theorem IE.mul (h : IE prog w A h₀ L m env e p) (h' : IE prog w A h₀ L m env e' q) (hm : IntMulOk p q) : IE prog w A h₀ L m env (.BinOp e .Mult e' pos) (p * q) :=
  fun _ _ _ F g => wpAny_BinOp (h _ _ _ F fun _ _ => h' _ _ _ F fun _ _ => PyProof.Rows.mul_int (g _ _) hm)
theorem IE.mod (h : IE prog w A h₀ L m env e p) (h' : IE prog w A h₀ L m env e' q) (hq : q ≠ 0) : IE prog w A h₀ L m env (.BinOp e .Mod e' pos) (Int.fmod p q) :=
  fun _ _ _ F g => wpAny_BinOp (h _ _ _ F fun _ _ => h' _ _ _ F fun _ _ => mod_int' hq (g _ _))
theorem IE.fdiv (h : IE prog w A h₀ L m env e p) (h' : IE prog w A h₀ L m env e' q) (hq : q ≠ 0) (hs : q.natAbs.log2 < 9000) : IE prog w A h₀ L m env (.BinOp e .FloorDiv e' pos) (Int.fdiv p q) :=
  fun _ _ _ F g => wpAny_BinOp (h _ _ _ F fun _ _ => h' _ _ _ F fun _ _ => floordiv_int hq (g _ _) (.inl (PyProof.noPylong_of_log2 hs)))
end

end
local macro_rules | `(tactic| k_ne) => `(tactic| (refine neN ?_; (try dsimp only); first | exact Nat.ne_of_lt (by with_reducible assumption) | exact Nat.ne_of_gt (by with_reducible assumption) | with_reducible assumption | exact Ne.symm (by with_reducible assumption) | omega))
local macro_rules | `(tactic| k_lt $h:ident) => `(tactic| (replace $h := allLt_of $h; (try dsimp only at $h:ident); repeat' (have hlHead := allLt_hd $h; replace $h := allLt_tl $h)))
local macro_rules | `(tactic| walk_at "execs cons") => `(tactic| (k_here; k_fold))
local macro_rules | `(tactic| walk_at "eval Call") => `(tactic| (k_here; k_gentoks))
local macro_rules | `(tactic| walk_at "eval Tuple") => `(tactic| (k_here; k_gentoks))
/-! part B1 -/
section
open PySem PySem.W PyProof.Rows
theorem flushB1 {prog : Program} {w : World} {A : Around} {E : Value → Shared → Prop} {s : Shared} {t u : Tok} {Q : Value → Shared → Prop} (h : wpAny (model prog w) A (binaryOp .Mult (.int 1 t) (.int 1 u)) Q E s) : wpAny (model prog w) A (binaryOp .Mult (.int 1 t) (.int 1 u)) Q E s := by
  first
  | (walk1; fail)
  | exact h
end
section
open PySem PySem.W PySem.Spec PySem.Calls PyProof.Rows

/-! a tuple's iterator, as the ledger bears it -/
def TI (o : Obj) (ax : Addr) (i : Nat) : Prop := o.cls = .type "tuple_iterator" ∧ o.data = .fields #[.ref ax, .int i 0]

inductive DropF (I : Addr) : List (Addr × Obj) → List (Addr × Obj) → Prop
  | head {o : Obj} {r : List (Addr × Obj)} : (∀ p ∈ r, p.1 ≠ I) → DropF I ((I, o) :: r) r
  | tail {p : Addr × Obj} {r r' : List (Addr × Obj)} : p.1 ≠ I → DropF I r r' → DropF I (p :: r) (p :: r')
theorem DropF.sub {I : Addr} : ∀ {l l' : List (Addr × Obj)}, DropF I l l' → ∀ p ∈ l', p ∈ l ∧ p.1 ≠ I
  | _, _, .head h, p, hp => ⟨.tail _ hp, h p hp⟩
  | _, _, .tail h r, p, hp => by
    rcases List.mem_cons.mp hp with rfl | hp
    · exact ⟨.head _, h⟩
    · exact ⟨.tail _ (r.sub p hp).1, (r.sub p hp).2⟩

theorem fr_but1 {h₀ h h' : Heap} {L I : Addr} {m : Str → Option Value} (F : Fr h₀ L h m) (hk : ∀ b o, b ≠ I → h.get? b = some o → h'.get? b = some o) (hL : I ≠ L) (hI : h₀.get? I = none) : Fr h₀ L h' m :=
  ⟨F.ns.at' fun o e => hk L o (Ne.symm hL) e, fun b o e => hk b o (fun q => by rw [q, hI] at e; cases e) (F.keep b o e), F.above⟩
theorem news_but1 {h₀ h h' : Heap} {L I : Addr} {news : List (Addr × Obj)} (N : News h₀ L h news) (hk : ∀ b o, b ≠ I → h.get? b = some o → h'.get? b = some o) (off : ∀ p ∈ news, p.1 ≠ I) : News h₀ L h' news :=
  fun p hp => ⟨hk _ _ (off p hp) (N p hp).1, (N p hp).2⟩

section
variable {prog : Program} {w : World} {A : Around} {E : Value → Shared → Prop} {s : Shared} {h₀ : Heap} {L ax I : Addr} {m : Str → Option Value} {news news' : List (Addr × Obj)} {g : Obj → List (Addr × Obj)} {o : Obj} {items : Array Value} {i : Nat} {x : Value}

theorem iter_tupL {Q : Value → Shared → Prop} (F : Fr h₀ L s.heap m) (N : News h₀ L s.heap news) (hT : s.heap.IsTuple ax items)
    (h : ∀ I o h', Fr h₀ L h' m → News h₀ L h' ((I, o) :: news) → (∀ q ∈ news, q.1 < I) → TI o ax 0 → Q (.ref I) { s with heap := h' }) : wpAny (model prog w) A (pyIter (.ref ax)) Q E s := by
  exact wpAny_pyIter_tuple hT (h _ { cls := .type "tuple_iterator", data := .fields #[.ref ax, .int 0 0] } _ (F.push _) (N.push F _ rfl) (fun q hq => Heap.lt_size (N q hq).1) ⟨rfl, by simp⟩)

theorem upd_news {h h' : Heap} {o' : Obj} (F : Fr h₀ L h m) (N : News h₀ L h news) (U : UpdF I o news g) (hs : Heap.SameBut I h h') (ho' : h'.get? I = some o') : Fr h₀ L h' m ∧ News h₀ L h' (g o') := by
  obtain ⟨pre, post, rfl, hg, h1, h2⟩ := U.split
  have hm := N (I, o) (List.mem_append_right _ (.head _))
  refine ⟨fr_but1 F (fun b ob hb e => (hs.2 b hb).trans e) hm.2.1 hm.2.2, ?_⟩
  rw [hg]
  exact N.setAt h1 h2 hs ho'

theorem next_tupL {Q : Option Value → Shared → Prop} (F : Fr h₀ L s.heap m) (N : News h₀ L s.heap news) (U : UpdF I o news g) (ho : TI o ax i) (hT : s.heap.IsTuple ax items) (hx : items[i]? = some x)
    (h : ∀ h' o', Fr h₀ L h' m → News h₀ L h' (g o') → TI o' ax (i + 1) → Q (some x) { s with heap := h' }) : wpAny (model prog w) A (pyNext (.ref I)) Q E s := by
  obtain ⟨pre, post, e0, _⟩ := id U.split
  have hm := N (I, o) (by rw [e0]; exact List.mem_append_right _ (.head _))
  refine wpAny_pyNext_tuple_item (t := ax) (i := i) ⟨o, hm.1, ho.1, ho.2⟩ hT hx fun h' hit hs => ?_
  obtain ⟨o', e1, e2, e3⟩ := hit
  obtain ⟨F', N'⟩ := upd_news F N U hs e1
  exact h h' o' F' N' ⟨e2, e3⟩

theorem end_tupL {Q : Option Value → Shared → Prop} (hh : A.handled = none) (F : Fr h₀ L s.heap m) (N : News h₀ L s.heap news) (hm : (I, o) ∈ news) (D : DropF I news news') (ho : TI o ax i) (hT : s.heap.IsTuple ax items) (hx : items[i]? = none)
    (h : ∀ h', Fr h₀ L h' m → News h₀ L h' news' → Q none { s with heap := h' }) : wpAny (model prog w) A (pyNext (.ref I)) Q E s := by
  have hm := N (I, o) hm
  refine wpAny_pyNext_tuple_end (t := ax) (i := i) hh ⟨o, hm.1, ho.1, ho.2⟩ hT hx fun h' hs => ?_
  exact h h' (fr_but1 F (fun b ob hb e => hs b ob hb e) hm.2.1 hm.2.2) (news_but1 (fun p hp => N p (D.sub p hp).1) (fun b ob hb e => hs b ob hb e) fun p hp => (D.sub p hp).2)

theorem go_tupL {target : PySem.Expr} {v : Value} {Q : Unit → Shared → Prop} (N : News h₀ L s.heap news) (hm : (I, o) ∈ news) (ho : TI o ax i) (h : Q () s) : wpAny (model prog w) A (letOwnedTupleGo target (.ref I) v) Q E s :=
  letGo_tupleiter ⟨o, (N _ hm).1, ho.1, ho.2⟩ h
end

/-! drawing from a tuple's iterator inside enumerate and zip -/
section
variable {prog : Program} {w : World} {A : Around} {E : Value → Shared → Prop} {s : Shared}
theorem nextOf_tuple_item {it t : Addr} {i : Nat} {items} {x : Value} {Q : Value → Shared → Prop} (hit : s.heap.IsTupleIter it t i) (ht : s.heap.IsTuple t items) (hx : items[i]? = some x)
    (hQ : ∀ h', h'.IsTupleIter it t (i + 1) → Heap.SameBut it s.heap h' → Q x { s with heap := h' }) : wpAny (model prog w) A (Builtin.SmallTypes.nextOf (.ref it)) Q E s := by
  obtain ⟨o, ho, hc, hd⟩ := id hit
  obtain ⟨ol, hol, _, nl, hdl⟩ := ht
  unfold Builtin.SmallTypes.nextOf
  refine wpAny_bind (wpAny_callSpecial?_slot (name := Str.ofString "__next__") hit.typeIs F.slot_tuple_iterator_next
    (wpAny_call_entry F.slot_tuple_iterator_next hit.typeIs F.entry_tuple_iterator_next ?_ (F.args_tuple_iterator_next_1 _)))
  show wpAny _ _ (field (.ref it) 0 >>= _) _ _ s
  refine wpAny_bind (wpAny_field ho hd (x := .ref t) rfl ?_)
  show wpAny _ _ (if (Value.ref t == Value.none) = true then _ else _) _ _ s
  rw [if_neg (show ¬ ((Value.ref t == Value.none) = true) from Bool.false_ne_true)]
  show wpAny _ _ (field (.ref it) 1 >>= _) _ _ s
  refine wpAny_bind (wpAny_field ho hd (x := .int i 0) rfl ?_)
  show wpAny _ _ (seqItems? (.ref t) >>= _) _ _ s
  refine wpAny_bind (wpAny_seqItems hol hdl ?_)
  simp only [Int.toNat_natCast, hx]
  refine wpAny_bind (wpAny_setField ho hd (by simp) (wpAny_pure ⟨x, rfl, wpAny_pure (hQ _ ?_ (Heap.SameBut.update ..))⟩))
  exact ⟨_, Heap.get?_update_self _ ho (Obj.isFreed_of_fields (Obj.data_mapFields hd _)), (Obj.cls_mapFields ..).trans hc, by
    rw [Obj.data_mapFields hd]; simp [rawInt]⟩
theorem nextOf_tuple_end {it t : Addr} {i : Nat} {items} {Q : Value → Shared → Prop} (hh : A.handled = none) (hit : s.heap.IsTupleIter it t i) (ht : s.heap.IsTuple t items) (hx : items[i]? = none)
    (hE : ∀ h' e, Heap.ExtBut it s.heap h' → (∃ o, h'.get? e = some o ∧ o.cls = .type "StopIteration") → E (.ref e) { s with heap := h' }) :
    wpAny (model prog w) A (Builtin.SmallTypes.nextOf (.ref it)) Q E s := by
  obtain ⟨o, ho, hc, hd⟩ := id hit
  obtain ⟨ol, hol, _, nl, hdl⟩ := ht
  unfold Builtin.SmallTypes.nextOf
  refine wpAny_bind (wpAny_callSpecial?_slot (name := Str.ofString "__next__") hit.typeIs F.slot_tuple_iterator_next
    (wpAny_call_entry F.slot_tuple_iterator_next hit.typeIs F.entry_tuple_iterator_next ?_ (F.args_tuple_iterator_next_1 _)))
  show wpAny _ _ (field (.ref it) 0 >>= _) _ _ s
  refine wpAny_bind (wpAny_field ho hd (x := .ref t) rfl ?_)
  show wpAny _ _ (if (Value.ref t == Value.none) = true then _ else _) _ _ s
  rw [if_neg (show ¬ ((Value.ref t == Value.none) = true) from Bool.false_ne_true)]
  show wpAny _ _ (field (.ref it) 1 >>= _) _ _ s
  refine wpAny_bind (wpAny_field ho hd (x := .int i 0) rfl ?_)
  show wpAny _ _ (seqItems? (.ref t) >>= _) _ _ s
  refine wpAny_bind (wpAny_seqItems hol hdl ?_)
  simp only [Int.toNat_natCast, hx]
  refine wpAny_bind (wpAny_rule (wpAny_bind (wpAny_setField ho hd (by simp) ?_)))
  show wpAny _ _ (newExc (.type "StopIteration") [] >>= _) _ _ _
  refine wpAny_bind ?_
  simp only [newExc, newTuple]
  refine wpAny_bind (wpAny_newObj_type ?_ (by size_fits))
  refine wpAny_bind (m := firstArgMember _ _) (wpAny_of_eq (a := Value.none) (by first | rfl | (simp only [firstArgMember]; rfl)) ?_)
  refine wpAny_newObj_type ?_ (by size_fits)
  simp only [raiseNew]
  refine wpAny_bind (wpAny_handled ?_)
  first | rw [show A.in1.handled = none from hh] | rw [hh]
  refine wpAny_bind (wpAny_pure (wpAny_throw ?_))
  exact hE _ _ (((Heap.SameBut.update ..).extBut.push _).push _) ⟨_, Heap.get?_push_size _ rfl, rfl⟩
end
theorem tupIter_at {h h' : Heap} {a l : Addr} {i : Nat} (x : h.IsTupleIter a l i) (e : ∀ o, h.get? a = some o → h'.get? a = some o) : h'.IsTupleIter a l i := let ⟨o, ho, r⟩ := x; ⟨o, e _ ho, r⟩
theorem tup_at {h h' : Heap} {a : Addr} {its : Array Value} (x : h.IsTuple a its) (e : ∀ o, h.get? a = some o → h'.get? a = some o) : h'.IsTuple a its := let ⟨o, ho, r⟩ := x; ⟨o, e _ ho, r⟩
theorem draws_tuple {prog : Program} {w : World} {A : Around} (hh : A.handled = none) (it l : Addr) (hne : l ≠ it) (items : Array Value) :
    Draws prog w A it [it, l] items.size (fun i v => items[i]? = some v) (fun i h => h.IsTupleIter it l i ∧ h.IsTuple l items) where
  live := fun _ _ st => let ⟨o, ho, _⟩ := st.1; ⟨o, ho⟩
  frame := fun _ _ _ st hk => ⟨tupIter_at st.1 fun o e => hk it (by simp) o e, tup_at st.2 fun o e => hk l (by simp) o e⟩
  item := fun i s Q E hi st hQ => by
    refine nextOf_tuple_item st.1 st.2 (x := items[i]) (by simp [hi]) fun h' hit' hs' => ?_
    exact hQ _ h' s.toks (by simp [hi]) ⟨hit', st.2.extBut hs'.extBut hne⟩ hs'
  done := fun s Q E st hE => nextOf_tuple_end hh st.1 st.2 (by simp) hE

open AutoSeq1 (wpAny_loadPart') in
theorem meets_enumerate_newT (l : Addr) (items : Array Value) (n : Nat) (dct : Option Addr) (sl : Array (Option Value)) :
    Meets (Builtin.«enumerate.__new__» ⟨[.type "enumerate", .ref l], []⟩) (fun _ R s => s.heap.get? l = some { cls := .type "tuple", dict := dct, data := .seq items n, slots := sl } ∧
      R (.ok (.ret (.ref (s.heap.push { cls := .type "tuple_iterator", data := .fields #[.ref l, .int 0 0] }).objs.size)))
        { s with heap := (s.heap.push { cls := .type "tuple_iterator", data := .fields #[.ref l, .int 0 0] }).push { cls := .type "enumerate", data := .fields #[.none, .bool false, .ref s.heap.objs.size, rawInt 0, .none, .none] } }) :=
  .of_wp fun prog w A R s h => by
    obtain ⟨hp, g, d, tk, os⟩ := s; obtain ⟨hl, h⟩ := h
    have hsub := sub_enumerate
    have hL : Heap.IsTuple (Shared.heap ⟨hp, g, d, tk, os⟩) l items := ⟨_, hl, rfl, n, rfl⟩
    wp_walk using wpAny_loadPart' hl
    refine wpAny_stack_any fun st => wpAny_pure ?_
    split
    · rename_i c _ _ _ _ _
      cases (c == Value.type "enumerate")
      · wp_walk using wpAny_loadPart' hl, wpAny_pyIter_tuple hL
        exact ⟨_, rfl, h⟩
      · wp_walk using wpAny_loadPart' hl, wpAny_pyIter_tuple hL
        exact ⟨_, rfl, h⟩
    · wp_walk using wpAny_loadPart' hl, wpAny_pyIter_tuple hL
      exact ⟨_, rfl, h⟩

theorem call_enumerate_tup {prog : Program} {w : World} {A : Around} {E : Value → Shared → Prop} {s : Shared} {l : Addr} {items : Array Value} {Q : Value → Shared → Prop} (hL : s.heap.IsTuple l items)
    (h : ∀ h', IsEnum h' (s.heap.objs.size + 1) s.heap.objs.size 0 .none → h'.IsTupleIter s.heap.objs.size l 0 → h'.objs.size = s.heap.objs.size + 2 →
      (∀ b o, s.heap.get? b = some o → h'.get? b = some o) → Q (.ref (s.heap.objs.size + 1)) { s with heap := h' }) :
    wpAny (model prog w) A (call (.type "enumerate") [.ref l]) Q E s := by
  obtain ⟨⟨c, dct, dt, sl⟩, hl, hc, n, hd⟩ := hL
  replace hc : c = .type "tuple" := hc
  replace hd : dt = .seq items n := hd
  subst hc hd
  refine callType_new F.called_enumerate (by decide) (F.typeCall_enumerate_1 _) (F.newCall_enumerate_1 _) (fun obj => F.args_object_init_2 obj _) F.entry_enumerate_new
    (meets_enumerate_newT l items n dct sl) ⟨hl, ?_⟩
  have hz : (s.heap.push { cls := .type "tuple_iterator", data := .fields #[.ref l, .int 0 0] }).objs.size = s.heap.objs.size + 1 := Heap.size_push ..
  show _ ∧ _
  rw [hz]
  have he : IsEnum ((s.heap.push { cls := .type "tuple_iterator", data := .fields #[.ref l, .int 0 0] }).push
      { cls := .type "enumerate", data := .fields #[.none, .bool false, .ref s.heap.objs.size, rawInt 0, .none, .none] }) (s.heap.objs.size + 1) s.heap.objs.size 0 .none := by
    have := Heap.get?_push_size (s.heap.push { cls := .type "tuple_iterator", data := .fields #[.ref l, .int 0 0] })
      (o := { cls := .type "enumerate", data := .fields #[.none, .bool false, .ref s.heap.objs.size, rawInt 0, .none, .none] }) rfl
    rw [hz] at this; exact this
  refine ⟨⟨_, he, rfl⟩, h _ he ⟨_, Heap.get?_push_of_some _ (Heap.get?_push_size _ rfl), rfl, rfl⟩ (by rw [Heap.size_push, hz]) fun b o x => Heap.get?_push_of_some _ (Heap.get?_push_of_some _ x)⟩

end
/-! part FM0 -/
section
open PySem PySem.W PyProof.Rows
theorem flushFM0 {prog : Program} {w : World} {A : Around} {E : Value → Shared → Prop} {s : Shared} {t u : Tok} {Q : Value → Shared → Prop} (h : wpAny (model prog w) A (binaryOp .Mult (.int 1 t) (.int 1 u)) Q E s) : wpAny (model prog w) A (binaryOp .Mult (.int 1 t) (.int 1 u)) Q E s := by
  first
  | (walk1; fail)
  | exact h
end
section
open PySem PySem.W PySem.Spec PySem.Calls PyProof.Rows

abbrev enumO (it : Addr) (i : Int) (old : Value) : Obj := { cls := .type "enumerate", dict := none, data := .fields #[.none, .bool false, .ref it, rawInt i, .none, old], slots := #[] }
abbrev tup2 (a b : Value) : Obj := { cls := .type "tuple", data := .seq #[a, b] }

section
variable {prog : Program} {w : World} {A : Around} {E : Value → Shared → Prop} {s : Shared} {env : Env} {elts : List PySem.Expr} {kk : Nat} {pos : Pos} {body orelse : List Stmt} {Q : Flow → Shared → Prop} {g : Heap} {L e it ax : Addr} {m : Str → Option Value} {news : List (Addr × Obj)} {oIt : Obj} {items : Array Value} {i : Nat} {x old : Value}

theorem fgo_enum (hE : PassesOwn (model prog w) A env E) (hh : A.handled = none) (F : Fr g L s.heap m) (N : News g L s.heap ((e, enumO it i old) :: (it, oIt) :: news)) (ho : TI oIt ax i) (hT : g.IsTuple ax items) (hx : items[i]? = some x)
    (hei : it < e) (hnw : ∀ p ∈ news, p.1 < it)
    (h : ∀ T oIt' t h' tk, Fr g L h' m → News g L h' ((T, tup2 (.int i t) x) :: (e, enumO it ((i : Int) + 1) x) :: (it, oIt') :: news) → e < T → TI oIt' ax (i + 1) →
      wpAny (model prog w) A (assign (.Tuple elts kk pos) env (.ref T)) (fun _ s₃ => wpAny (model prog w) A (execs body env) (FPost prog w A E env (.Tuple elts kk pos) body orelse Q (.ref e)) E s₃) E { s with heap := h', toks := tk }) :
    FGo prog w A E env (.Tuple elts kk pos) body orelse Q (.ref e) s := by
  have h1 := N (e, enumO it i old) (.head _)
  have h2 := N (it, oIt) (.tail _ (.head _))
  have hTs : s.heap.IsTuple ax items := tup_at hT fun o q => F.keep ax o q
  have axg : ∀ b, g.get? b = none → ax ≠ b := fun b hb q => by obtain ⟨o, ho, _⟩ := hT; rw [q, hb] at ho; cases ho
  have hne : e ≠ it := Nat.ne_of_gt hei
  refine fgo_turn hE (wpAny_pyNext_enum_itemD (fp := [it, ax]) (n := items.size) (P := fun i v => items[i]? = some v) (St := fun i h => h.IsTupleIter it ax i ∧ h.IsTuple ax items) (draws_tuple (by show A.in1.handled = none; exact hh) it ax (axg it h2.2.2) items) h1.1 ⟨⟨oIt, h2.1, ho.1, ho.2⟩, hTs⟩ (by
    rcases Nat.lt_or_ge i items.size with q | q
    · exact q
    · rw [Array.getElem?_eq_none q] at hx; cases hx) hne (by
    intro q
    rcases List.mem_cons.mp q with q | q
    · exact hne q
    · exact axg e h1.2.2 (List.mem_singleton.mp q).symm) fun y h' tk hy hout hst htu hsz hk => ?_)
  rw [hx] at hy
  cases hy
  have elt : e < s.heap.objs.size := Heap.lt_size h1.1
  have Llt : L < s.heap.objs.size := F.ns.lt
  show wpAny _ _ (letOwnedTupleGo _ _ _) _ _ _
  refine wpAny_letOwnedTupleGo_enum hout fun h'' he' hs' => ?_
  obtain ⟨oIt', q1, q2, q3⟩ := hst.1
  have new : ∀ b, s.heap.objs.size ≤ b → g.get? b = none := fun b hb => Heap.get?_none_of_le (Nat.le_trans F.above (Nat.le_trans (Nat.le_of_lt Llt) hb))
  have F'' : Fr g L h'' m := by
    refine ⟨F.ns.at' fun o q => (hs'.2 L (Ne.symm h1.2.1)).trans (hk L o (Ne.symm h1.2.1) (Ne.symm h2.2.1) q), fun b o q => ?_, F.above⟩
    have b1 : b ≠ e := fun z => by rw [z, h1.2.2] at q; cases q
    have b2 : b ≠ it := fun z => by rw [z, h2.2.2] at q; cases q
    exact (hs'.2 b b1).trans (hk b o b1 b2 (F.keep b o q))
  refine h s.heap.objs.size oIt' tk h'' (tk + 1) F'' (fun p hp => ?_) elt ⟨q2, q3⟩
  rcases List.mem_cons.mp hp with rfl | hp
  · exact ⟨(hs'.2 _ (Nat.ne_of_gt elt)).trans htu, Nat.ne_of_gt Llt, new _ (Nat.le_refl _)⟩
  rcases List.mem_cons.mp hp with rfl | hp
  · exact ⟨he', h1.2⟩
  rcases List.mem_cons.mp hp with rfl | hp
  · exact ⟨(hs'.2 _ (Ne.symm hne)).trans q1, h2.2⟩
  · have z := N p (.tail _ (.tail _ hp))
    have z1 := hnw p hp
    exact ⟨(hs'.2 _ (Nat.ne_of_lt (Nat.lt_trans z1 hei))).trans (hk _ _ (Nat.ne_of_lt (Nat.lt_trans z1 hei)) (Nat.ne_of_lt z1) z.1), z.2⟩

theorem fgo_enum_end (hE : PassesOwn (model prog w) A env E) (hh : A.handled = none) (F : Fr g L s.heap m) (N : News g L s.heap ((e, enumO it i old) :: (it, oIt) :: news)) (ho : TI oIt ax items.size) (hT : g.IsTuple ax items)
    (hnw : ∀ p ∈ news, p.1 < it)
    (h : ∀ h', Fr g L h' m → News g L h' news → wpAny (model prog w) A (execs orelse env) Q E { s with heap := h' }) :
    FGo prog w A E env (.Tuple elts kk pos) body orelse Q (.ref e) s := by
  have h1 := N (e, enumO it i old) (.head _)
  have h2 := N (it, oIt) (.tail _ (.head _))
  have hTs : s.heap.IsTuple ax items := tup_at hT fun o q => F.keep ax o q
  have axg : ∀ b, g.get? b = none → ax ≠ b := fun b hb q => by obtain ⟨o, ho, _⟩ := hT; rw [q, hb] at ho; cases ho
  refine fgo_turn hE (wpAny_pyNext_enum_endD (fp := [it, ax]) (n := items.size) (P := fun i v => items[i]? = some v) (St := fun i h => h.IsTupleIter it ax i ∧ h.IsTuple ax items) (draws_tuple (by show A.in1.handled = none; exact hh) it ax (axg it h2.2.2) items) h1.1 ⟨⟨oIt, h2.1, ho.1, ho.2⟩, hTs⟩ fun h' hs => ?_)
  exact h h' (fr_but1 F (fun b ob hb q => hs b ob hb q) h2.2.1 h2.2.2) (news_but1 (fun p hp => N p (.tail _ (.tail _ hp))) (fun b ob hb q => hs b ob hb q) fun p hp => Nat.ne_of_lt (hnw p hp))
end

/-! filemode's frame -/
abbrev fmM (mode : Int) (t : Tok) (l : Addr) (vi vt vb vc : Option Value) : Str → Option Value := fun y =>
  if y = Str.ofString "char" then vc else if y = Str.ofString "bit" then vb else if y = Str.ofString "table" then vt else if y = Str.ofString "index" then vi else if y = Str.ofString "perm" then some (.ref l) else if y = Str.ofString "mode" then some (.int mode t) else none

structure Ent where
  T : Addr
  b : Int
  tb : Tok
  c : Str
  tc : Tok

def pickS (cond : Int → Bool) (dflt : Str) : List Ent → Str
  | [] => dflt
  | e :: r => if cond e.b = true then e.c else pickS cond dflt r

def InEnd (g : Heap) (L : Addr) (s : Shared) (mode : Int) (t : Tok) (l I : Addr) (vi vt : Option Value) (oI : Obj) (its : Array Value) (nn : Nat) (rest : List (Addr × Obj)) (cond : Int → Bool) (e : Ent) (f : Flow) (s₄ : Shared) : Prop :=
  ∃ h' tk' vb' vc', s₄ = { s with heap := h', toks := tk' } ∧ Fr g L h' (fmM mode t l vi vt vb' vc') ∧
    ((f = .brk ∧ cond e.b = true ∧ News g L h' ((I, oI) :: (l, W.listOf (its.push (.str e.c e.tc)) (nn + 1)) :: rest)) ∨ (f = .next ∧ cond e.b = false ∧ News g L h' ((I, oI) :: (l, W.listOf its nn) :: rest)))
def ElEnd (g : Heap) (L : Addr) (s : Shared) (mode : Int) (t : Tok) (l : Addr) (vi vt : Option Value) (its : Array Value) (nn : Nat) (rest : List (Addr × Obj)) (dflt : Str) (f : Flow) (s₄ : Shared) : Prop :=
  f = .next ∧ ∃ h' tk' vb' vc' t', s₄ = { s with heap := h', toks := tk' } ∧ Fr g L h' (fmM mode t l vi vt vb' vc') ∧ News g L h' ((l, W.listOf (its.push (.str dflt t')) (nn + 1)) :: rest)

section
variable {prog : Program} {w : World} {A : Around} {E : Value → Shared → Prop} {s : Shared} {env : Env} {target : PySem.Expr} {body orelse : List Stmt} {Q : Flow → Shared → Prop} {g : Heap} {L l ax I : Addr} {mode : Int} {t : Tok} {vi vt : Option Value} {its : Array Value} {nn : Nat} {rest : List (Addr × Obj)}

theorem fm_inner (hE : PassesOwn (model prog w) A env E) (hh : A.handled = none) (es : List Ent) (cond : Int → Bool) (dflt : Str) (hT : g.IsTuple ax (es.map fun e => Value.ref e.T).toArray)
    (hoff : l ≠ I ∧ ∀ p ∈ rest, p.1 ≠ I)
    (hes : ∀ e ∈ es, IsTup g e.T #[.int e.b e.tb, .str e.c e.tc])
    (turn : ∀ (e : Ent) (vb vc : Option Value) (oI : Obj) (h : Heap) (tk : Nat), e ∈ es → Fr g L h (fmM mode t l vi vt vb vc) → News g L h ((I, oI) :: (l, W.listOf its nn) :: rest) → IsTup h e.T #[.int e.b e.tb, .str e.c e.tc] →
      wpAny (model prog w) A (assign target env (.ref e.T)) (fun _ s₃ => wpAny (model prog w) A (execs body env) (InEnd g L s mode t l I vi vt oI its nn rest cond e) E s₃) E { s with heap := h, toks := tk })
    (els : ∀ (vb vc : Option Value) (h : Heap) (tk : Nat), Fr g L h (fmM mode t l vi vt vb vc) → News g L h ((l, W.listOf its nn) :: rest) →
      wpAny (model prog w) A (execs orelse env) (ElEnd g L s mode t l vi vt its nn rest dflt) E { s with heap := h, toks := tk })
    (fin : ∀ (vb vc : Option Value) (t' : Tok) (h : Heap) (tk : Nat), Fr g L h (fmM mode t l vi vt vb vc) → News g L h ((l, W.listOf (its.push (.str (pickS cond dflt es) t')) (nn + 1)) :: rest) → Q .next { s with heap := h, toks := tk }) :
    ∀ (r done : List Ent) (vb vc : Option Value) (oI : Obj) (h : Heap) (tk : Nat), es = done ++ r → pickS cond dflt es = pickS cond dflt r → Fr g L h (fmM mode t l vi vt vb vc) → News g L h ((I, oI) :: (l, W.listOf its nn) :: rest) → TI oI ax done.length →
      FGo prog w A E env target body orelse Q (.ref I) { s with heap := h, toks := tk } := by
  intro r
  induction r with
  | nil =>
    intro done vb vc oI h tk he hp F N ho
    rw [List.append_nil] at he
    have hTs : h.IsTuple ax (es.map fun e => Value.ref e.T).toArray := tup_at hT fun o q => F.keep ax o q
    refine fgo_turn hE (end_tupL (news' := (l, W.listOf its nn) :: rest) hh F N (.head _) (.head fun p hp => ?_) ho hTs (by rw [he]; simp) fun h' F' N' => ?_)
    · rcases List.mem_cons.mp hp with rfl | hp
      · exact hoff.1
      · exact hoff.2 p hp
    · show wpAny _ _ (execs orelse env) _ _ _
      refine wpAny_mono (els vb vc h' tk F' N') (fun f s₄ h₄ => ?_) fun _ _ q => q
      obtain ⟨rfl, h'', tk', vb', vc', t', rfl, F'', N''⟩ := h₄
      refine fin vb' vc' t' h'' tk' F'' ?_
      rw [hp]
      exact N''
  | cons e r ih =>
    intro done vb vc oI h tk he hp F N ho
    have hTs : h.IsTuple ax (es.map fun e => Value.ref e.T).toArray := tup_at hT fun o q => F.keep ax o q
    have hmem : e ∈ es := by rw [he]; exact List.mem_append_right _ (.head _)
    refine fgo_turn hE (next_tupL (g := fun o' => (I, o') :: (l, W.listOf its nn) :: rest) F N (.head fun p hp => ?_) ho hTs (x := .ref e.T) (by rw [he]; simp) fun h' oI' F' N' ho' => ?_)
    · rcases List.mem_cons.mp hp with rfl | hp
      · exact hoff.1
      · exact hoff.2 p hp
    · show wpAny _ _ (letOwnedTupleGo _ _ _) _ _ _
      refine go_tupL N' (.head _) ho' ?_
      refine wpAny_mono (turn e vb vc oI' h' tk hmem F' N' (tup_at (hes e hmem) fun o q => F'.keep e.T o q)) (fun _ s₃ h₃ => wpAny_mono h₃ (fun f s₄ h₄ => ?_) fun _ _ q => q) fun _ _ q => q
      obtain ⟨h'', tk', vb', vc', rfl, F'', hc⟩ := h₄
      rcases hc with ⟨rfl, hc, N''⟩ | ⟨rfl, hc, N''⟩
      · refine fin vb' vc' e.tc h'' tk' F'' ?_
        rw [hp, pickS, if_pos hc]
        exact fun p hp => N'' p (.tail _ hp)
      · refine ih (done ++ [e]) vb' vc' oI' h'' tk' (by rw [he]; simp) ?_ F'' N'' (by rw [List.length_append]; exact ho')
        rw [hp, pickS, if_neg (by rw [hc]; exact Bool.false_ne_true)]
end

def FmEnd (g : Heap) (L : Addr) (s : Shared) (mode : Int) (t : Tok) (l e it : Addr) (oE oIt : Obj) (its : Array Value) (nn : Nat) (c : Str) (f : Flow) (s₄ : Shared) : Prop :=
  f = .next ∧ ∃ h' tk' vi' vt' vb' vc' t', s₄ = { s with heap := h', toks := tk' } ∧ Fr g L h' (fmM mode t l vi' vt' vb' vc') ∧ News g L h' [(e, oE), (it, oIt), (l, W.listOf (its.push (.str c t')) (nn + 1))]

/-- texts, their tokens whatever they are -/
def SA : List Value → List Str → Prop
  | [], [] => True
  | v :: vs, c :: cs => (∃ t, v = .str c t) ∧ SA vs cs
  | _, _ => False
theorem SA.snoc : ∀ {vs : List Value} {cs : List Str} {c : Str} {t : Tok}, SA vs cs → SA (vs ++ [.str c t]) (cs ++ [c])
  | [], [], _, t, _ => ⟨⟨t, rfl⟩, trivial⟩
  | _ :: _, _ :: _, _, _, h => ⟨h.1, h.2.snoc⟩
  | [], _ :: _, _, _, h => h.elim
  | _ :: _, [], _, _, h => h.elim
theorem SA.length : ∀ {vs : List Value} {cs : List Str}, SA vs cs → vs.length = cs.length
  | [], [], _ => rfl
  | _ :: _, _ :: _, h => congrArg (· + 1) h.2.length
  | [], _ :: _, h => h.elim
  | _ :: _, [], h => h.elim

section
variable {prog : Program} {w : World} {A : Around} {E : Value → Shared → Prop} {s : Shared} {env : Env} {elts : List PySem.Expr} {kk : Nat} {pos : Pos} {body : List Stmt} {Q : Flow → Shared → Prop} {g : Heap} {L l e it ax : Addr} {mode : Int} {t : Tok} {items : Array Value}

theorem fm_outer (hE : PassesOwn (model prog w) A env E) (hh : A.handled = none) (ch : Nat → Str) (hT : g.IsTuple ax items) (hli : l < it) (hie : it < e)
    (turn : ∀ (i : Nat) (x : Value) (its : Array Value) (nn : Nat) (vi vt vb vc : Option Value) (T : Addr) (oIt : Obj) (ti : Tok) (h : Heap) (tk : Nat), items[i]? = some x → its.size = i → Fr g L h (fmM mode t l vi vt vb vc) →
      News g L h [(T, tup2 (.int i ti) x), (e, enumO it ((i : Int) + 1) x), (it, oIt), (l, W.listOf its nn)] → e < T →
      wpAny (model prog w) A (assign (.Tuple elts kk pos) env (.ref T)) (fun _ s₃ => wpAny (model prog w) A (execs body env) (FmEnd g L s mode t l e it (enumO it ((i : Int) + 1) x) oIt its nn (ch i)) E s₃) E { s with heap := h, toks := tk })
    (fin : ∀ (its : Array Value) (nn : Nat) (vi vt vb vc : Option Value) (h : Heap) (tk : Nat), SA its.toList ((List.range items.size).map ch) → Fr g L h (fmM mode t l vi vt vb vc) → News g L h [(l, W.listOf its nn)] → Q .next { s with heap := h, toks := tk }) :
    ∀ (k i : Nat) (its : Array Value) (nn : Nat) (vi vt vb vc : Option Value) (oIt : Obj) (old : Value) (h : Heap) (tk : Nat), i + k = items.size → SA its.toList ((List.range i).map ch) → Fr g L h (fmM mode t l vi vt vb vc) →
      News g L h [(e, enumO it i old), (it, oIt), (l, W.listOf its nn)] → TI oIt ax i → FGo prog w A E env (.Tuple elts kk pos) body [] Q (.ref e) { s with heap := h, toks := tk } := by
  have hnw : ∀ {o : Obj}, ∀ p ∈ [(l, o)], p.1 < it := fun p hp => by rw [List.mem_singleton.mp hp]; exact hli
  intro k
  induction k with
  | zero =>
    intro i its nn vi vt vb vc oIt old h tk hi hs F N ho
    have hi' : i = items.size := hi
    subst hi'
    exact fgo_enum_end hE hh F N ho hT hnw fun h' F' N' => wpAny_execs_nil (fin its nn vi vt vb vc h' tk hs F' N')
  | succ k ih =>
    intro i its nn vi vt vb vc oIt old h tk hi hs F N ho
    have hlt : i < items.size := by omega
    have hlen : its.size = i := by have := hs.length; simpa using this
    refine fgo_enum hE hh F N ho hT (x := items[i]) (by simp [hlt]) hie hnw fun T oIt' ti h' tk' F' N' hT' ho' => ?_
    refine wpAny_mono (turn i items[i] its nn vi vt vb vc T oIt' ti h' tk' (by simp [hlt]) hlen F' N' hT') (fun _ s₃ h₃ => wpAny_mono h₃ (fun f s₄ h₄ => ?_) fun _ _ q => q) fun _ _ q => q
    obtain ⟨rfl, h'', tk'', vi', vt', vb', vc', t', rfl, F'', N''⟩ := h₄
    refine ih (i + 1) (its.push (.str (ch i) t')) (nn + 1) vi' vt' vb' vc' oIt' items[i] h'' tk'' (by omega) ?_ F'' N'' ho'
    rw [Array.toList_push, List.range_succ, List.map_append]
    exact hs.snoc
end

end
/-! part FM -/
section
open PySem PySem.W PyProof.Rows
theorem flushFM {prog : Program} {w : World} {A : Around} {E : Value → Shared → Prop} {s : Shared} {t u : Tok} {Q : Value → Shared → Prop} (h : wpAny (model prog w) A (binaryOp .Mult (.int 1 t) (.int 1 u)) Q E s) : wpAny (model prog w) A (binaryOp .Mult (.int 1 t) (.int 1 u)) Q E s := by
  first
  | (walk1; fail)
  | exact h
end
section
open PySem PySem.W PySem.Spec PySem.Calls PyProof.Rows
local macro_rules | `(tactic| k_room) => `(tactic| ktr_room)

abbrev PCon (prog : Program) (w : World) (f : Addr) (vs : List Value) (d : Nat) (P : Value → Heap → Prop) : Prop :=
  PySem.Challenge.rw_oy0173_01 = PySem.Challenge.rw_oy0173_01 → ∀ (loose : List Str) (mean : ExcName → Option Value) (mg mb : Str → Option Value) (dp un : Nat) (gd : Option (List Code)) (cn : Str) (cs : Scope) (a : Addr) (ccd : Value) (cl : List (Str × Addr)) (outer : List Env) (A₀ : Around) (base h₀ : Heap) (L : Addr) (m : Str → Option Value) (s : Shared) (Q E : Value → Shared → Prop),
    Below A₀ base outer h₀ → Fr h₀ L s.heap m → (hd.heap_39 w.params).In h₀ → Top topProg loose mean mg mb h₀ → cs.kind = .function →
    dp + d < recursionLimit → un + 8 * d < cLine →
    (∀ v h' tk', (∀ b o, s.heap.get? b = some o → h'.get? b = some o) → P v h' → Q v { s with heap := h', toks := tk' }) →
    wpAny (model prog w) (ktrTop dp un gd cn cs L a ccd cl outer) (call (.ref f) vs) Q E s

local macro_rules | `(tactic| walk_at "exec For Tuple Call cons nil") => `(tactic| (k_here; refine For_go ?_))


local macro_rules | `(tactic| walk_at "exec For Tuple Name cons cons") => `(tactic| (k_here; refine For_go ?_))
theorem fr_cong {g h : Heap} {L : Addr} {m m' : Str → Option Value} (F : Fr g L h m) (e : ∀ y, m y = m' y) : Fr g L h m' := by
  have : m = m' := funext e
  rw [← this]; exact F

def fmCond (mode : Int) (i : Nat) (b : Int) : Bool := if i = 0 then decide (Builtin.bitAnd mode 61440 = b) else decide (Builtin.bitAnd mode b = b)
def fmDef (i : Nat) : Str := if i = 0 then Str.ofString "?" else Str.ofString "-"
def fmTab : Nat → Addr × List Ent
  | 0 => (36, [⟨29, 40960, 213, Str.ofString "l", 241⟩, ⟨30, 49152, 215, Str.ofString "s", 242⟩, ⟨31, 32768, 209, Str.ofString "-", 243⟩, ⟨32, 24576, 207, Str.ofString "b", 244⟩, ⟨33, 16384, 203, Str.ofString "d", 245⟩, ⟨34, 8192, 205, Str.ofString "c", 246⟩, ⟨35, 4096, 211, Str.ofString "p", 247⟩])
  | 1 => (38, [⟨37, 256, 223, Str.ofString "r", 248⟩])
  | 2 => (40, [⟨39, 128, 225, Str.ofString "w", 249⟩])
  | 3 => (44, [⟨41, 2112, 250, Str.ofString "s", 251⟩, ⟨42, 2048, 217, Str.ofString "S", 252⟩, ⟨43, 64, 227, Str.ofString "x", 253⟩])
  | 4 => (46, [⟨45, 32, 229, Str.ofString "r", 254⟩])
  | 5 => (48, [⟨47, 16, 231, Str.ofString "w", 255⟩])
  | 6 => (52, [⟨49, 1032, 256, Str.ofString "s", 257⟩, ⟨50, 1024, 219, Str.ofString "S", 258⟩, ⟨51, 8, 233, Str.ofString "x", 259⟩])
  | 7 => (54, [⟨53, 4, 235, Str.ofString "r", 260⟩])
  | 8 => (56, [⟨55, 2, 237, Str.ofString "w", 261⟩])
  | 9 => (60, [⟨57, 513, 262, Str.ofString "t", 263⟩, ⟨58, 512, 221, Str.ofString "T", 264⟩, ⟨59, 1, 239, Str.ofString "x", 265⟩])
  | _ => (0, [])
def fmCh (mode : Int) (i : Nat) : Str := pickS (fmCond mode i) (fmDef i) (fmTab i).2
def fmItems : Array Value := #[.ref 36, .ref 38, .ref 40, .ref 44, .ref 46, .ref 48, .ref 52, .ref 54, .ref 56, .ref 60]

/-- the written table, as the ground bears it -/
theorem fm_table {P : Params} {g : Heap} : PySem.Challenge.rw_oy0173_01 = PySem.Challenge.rw_oy0173_01 → (hd.heap_39 P).In g → g.IsTuple 61 fmItems ∧ ∀ i x, fmItems[i]? = some x → x = .ref (fmTab i).1 ∧ g.IsTuple (fmTab i).1 ((fmTab i).2.map fun e => Value.ref e.T).toArray ∧ ∀ e ∈ (fmTab i).2, IsTup g e.T #[.int e.b e.tb, .str e.c e.tc] := by
  w_top off
  k_fill
  intro _ X
  have tp : ∀ {a : Addr} {o : Obj} {its : Array Value}, g.get? a = some o → o.cls = .type "tuple" → o.data = .seq its 0 → g.IsTuple a its := fun h1 h2 h3 => ⟨_, h1, h2, _, h3⟩
  refine ⟨tp (X 61 _ (by k_is)) rfl rfl, fun i x hx => ?_⟩
  have hi : i < 10 := by
    rcases Nat.lt_or_ge i 10 with q | q
    · exact q
    · rw [Array.getElem?_eq_none (by exact q)] at hx; cases hx
  match i, hi, hx with
  | 0, _, hx => cases hx; exact ⟨rfl, tp (X 36 _ (by k_is)) rfl rfl, List.forall_mem_cons.mpr ⟨tp (X 29 _ (by k_is)) rfl rfl, List.forall_mem_cons.mpr ⟨tp (X 30 _ (by k_is)) rfl rfl, List.forall_mem_cons.mpr ⟨tp (X 31 _ (by k_is)) rfl rfl, List.forall_mem_cons.mpr ⟨tp (X 32 _ (by k_is)) rfl rfl, List.forall_mem_cons.mpr ⟨tp (X 33 _ (by k_is)) rfl rfl, List.forall_mem_cons.mpr ⟨tp (X 34 _ (by k_is)) rfl rfl, List.forall_mem_cons.mpr ⟨tp (X 35 _ (by k_is)) rfl rfl, List.forall_mem_nil _⟩⟩⟩⟩⟩⟩⟩⟩
  | 1, _, hx => cases hx; exact ⟨rfl, tp (X 38 _ (by k_is)) rfl rfl, List.forall_mem_cons.mpr ⟨tp (X 37 _ (by k_is)) rfl rfl, List.forall_mem_nil _⟩⟩
  | 2, _, hx => cases hx; exact ⟨rfl, tp (X 40 _ (by k_is)) rfl rfl, List.forall_mem_cons.mpr ⟨tp (X 39 _ (by k_is)) rfl rfl, List.forall_mem_nil _⟩⟩
  | 3, _, hx => cases hx; exact ⟨rfl, tp (X 44 _ (by k_is)) rfl rfl, List.forall_mem_cons.mpr ⟨tp (X 41 _ (by k_is)) rfl rfl, List.forall_mem_cons.mpr ⟨tp (X 42 _ (by k_is)) rfl rfl, List.forall_mem_cons.mpr ⟨tp (X 43 _ (by k_is)) rfl rfl, List.forall_mem_nil _⟩⟩⟩⟩
  | 4, _, hx => cases hx; exact ⟨rfl, tp (X 46 _ (by k_is)) rfl rfl, List.forall_mem_cons.mpr ⟨tp (X 45 _ (by k_is)) rfl rfl, List.forall_mem_nil _⟩⟩
  | 5, _, hx => cases hx; exact ⟨rfl, tp (X 48 _ (by k_is)) rfl rfl, List.forall_mem_cons.mpr ⟨tp (X 47 _ (by k_is)) rfl rfl, List.forall_mem_nil _⟩⟩
  | 6, _, hx => cases hx; exact ⟨rfl, tp (X 52 _ (by k_is)) rfl rfl, List.forall_mem_cons.mpr ⟨tp (X 49 _ (by k_is)) rfl rfl, List.forall_mem_cons.mpr ⟨tp (X 50 _ (by k_is)) rfl rfl, List.forall_mem_cons.mpr ⟨tp (X 51 _ (by k_is)) rfl rfl, List.forall_mem_nil _⟩⟩⟩⟩
  | 7, _, hx => cases hx; exact ⟨rfl, tp (X 54 _ (by k_is)) rfl rfl, List.forall_mem_cons.mpr ⟨tp (X 53 _ (by k_is)) rfl rfl, List.forall_mem_nil _⟩⟩
  | 8, _, hx => cases hx; exact ⟨rfl, tp (X 56 _ (by k_is)) rfl rfl, List.forall_mem_cons.mpr ⟨tp (X 55 _ (by k_is)) rfl rfl, List.forall_mem_nil _⟩⟩
  | 9, _, hx => cases hx; exact ⟨rfl, tp (X 60 _ (by k_is)) rfl rfl, List.forall_mem_cons.mpr ⟨tp (X 57 _ (by k_is)) rfl rfl, List.forall_mem_cons.mpr ⟨tp (X 58 _ (by k_is)) rfl rfl, List.forall_mem_cons.mpr ⟨tp (X 59 _ (by k_is)) rfl rfl, List.forall_mem_nil _⟩⟩⟩⟩


theorem strsAre_of_SA : ∀ {vs : List Value} {cs : List Str}, SA vs cs → StrsAre vs cs
  | [], [], _ => .nil
  | _ :: _, _ :: _, h => by
    obtain ⟨t, e⟩ := h.1
    subst e
    exact .cons _ _ (strsAre_of_SA h.2)
  | [], _ :: _, h => h.elim
  | _ :: _, [], h => h.elim
theorem pickS_len {cond : Int → Bool} {dflt : Str} (hd : dflt.length ≤ 1) : ∀ {es : List Ent}, (∀ e ∈ es, e.c.length ≤ 1) → (pickS cond dflt es).length ≤ 1
  | [], _ => hd
  | e :: r, h => by
    unfold pickS
    split
    · exact h e (.head _)
    · exact pickS_len hd fun e' he => h e' (.tail _ he)
theorem fmCh_len (mode : Int) (i : Nat) : (fmCh mode i).length ≤ 1 := by
  unfold fmCh
  refine pickS_len ?_ ?_
  · unfold fmDef; split <;> decide
  · match i with
    | 0 | 1 | 2 | 3 | 4 | 5 | 6 | 7 | 8 | 9 => decide
    | _ + 10 => exact fun _ h => nomatch h
def fmRow (mode : Int) : Str := Txt.join (Str.ofString "") ((List.range 10).map (fmCh mode))
theorem sum_le_of {α : Type} {f : α → Nat} : ∀ {l : List α}, (∀ a ∈ l, f a ≤ 1) → (l.map f).sum ≤ l.length
  | [], _ => Nat.le_refl _
  | a :: r, h => by
    have h1 := h a (.head _)
    have h2 := sum_le_of fun b hb => h b (.tail _ hb)
    simp only [List.map_cons, List.sum_cons, List.length_cons]
    omega
theorem news_re5 {g h : Heap} {L : Addr} {a b c d e : Addr × Obj} (N : News g L h [a, b, c, d, e]) : News g L h [a, e, c, d] :=
  List.forall_mem_cons.mpr ⟨N _ (by k_mem), List.forall_mem_cons.mpr ⟨N _ (by k_mem), List.forall_mem_cons.mpr ⟨N _ (by k_mem), List.forall_mem_cons.mpr ⟨N _ (by k_mem), List.forall_mem_nil _⟩⟩⟩⟩
theorem news_lt {g h : Heap} {L l : Addr} {o : Obj} {r : List (Addr × Obj)} (N : News g L h ((l, o) :: r)) : l < h.objs.size := Heap.lt_size (N _ (.head _)).1

theorem filemode_c (prog : Program) (w : World) (mode : Int) (t : Tok) : PCon prog w 68 [.int mode t] 3 (fun v _ => ∃ t', v = .str (fmRow mode) t') := by
  unfold PCon
  w_top off
  k_fill
  intro _ loose mean mg mb dp un gd cn cs a ccd cl outer A₀ base h₀ L m s Q E B F X T hk hd hu hret
  refine wpAny_call ?_
  k_dflt (refine' enterH (mu := []) ?k1 ?k2 ?k3 ?k4 ?k5 ?kA ?kF ?kK ?k6 ?k7 ?k8 ?k9 ?kB ?_ ?c2 ?c3 ?c4 ?c5; (case kA => exact rfl); (case kF => exact rfl); (case kK => assumption); (case k1 => k_asm); (case k2 => k_asm); (case k3 => k_asm); (case k4 => exact News.nil); (case k5 => k_asm); (case k6 => k_is); (case k7 => k_is); (case k8 => exact room_0 hd); (case k9 => exact BindsTo.of_eq rfl); (case c5 => decide); (case kB => exact locs rfl); (case c2 => exact rfl); (case c3 => exact rfl); (case c4 => exact rfl); k_whole)
  intro g' L' h' hg' F' N' B' X' T' l1'
  clear B F X T
  obtain ⟨htab, hrow⟩ := fm_table rfl X'
  dsimp only
  k_fold
  k_steps
  rename News _ _ _ _ => N1
  rename Fr _ _ _ _ => F1
  refine call_enumerate_tup (items := fmItems) (tup_at htab fun o q => F1.keep _ o q) fun h2 hE hI hsz hk2 => ?_
  refine wpAny_pyIter_enum hE ?_
  obtain ⟨oIt, q1, q2, q3⟩ := hI
  have llt := ltN (news_lt N1)
  have Llt := F1.ns.lt
  have new : ∀ b, _ ≤ b → g'.get? b = none := fun b hb => Heap.get?_none_of_le (Nat.le_trans F1.above (Nat.le_trans (Nat.le_of_lt Llt) hb))
  refine fm_outer (g := g') (L := L') (mode := mode) (t := t) (items := fmItems) (ax := 61) ?hE rfl (fmCh mode) htab llt (Nat.lt_succ_self _) ?turn ?fin 10 0 #[] 0 none none none none oIt .none h2 _ rfl trivial (fr_cong ⟨F1.ns.at' fun o q => hk2 _ o q, fun b o q => hk2 b o (F1.keep b o q), F1.above⟩ ?mx) (fun p hp => ?nn) ⟨q2, q3⟩
  case hE => first | passes_own | with_unfolding_all passes_own
  case mx => (intro y; (by_cases c1 : y = Str.ofString "char"; (subst c1; rfl)); (by_cases c2 : y = Str.ofString "bit"; (subst c2; rfl)); (by_cases c3 : y = Str.ofString "table"; (subst c3; rfl)); (by_cases c4 : y = Str.ofString "index"; (subst c4; rfl)); (by_cases c5 : y = Str.ofString "perm"; (subst c5; rfl)); (by_cases c6 : y = Str.ofString "mode"; (subst c6; rfl)); (simp +zetaDelta [fmM, List.lookup, beq_eq_false_iff_ne.mpr, *]))
  case nn =>
    rcases List.mem_cons.mp hp with rfl | hp
    · exact ⟨hE, Nat.ne_of_gt (Nat.lt_succ_of_lt Llt), new _ (Nat.le_succ _)⟩
    rcases List.mem_cons.mp hp with rfl | hp
    · exact ⟨q1, Nat.ne_of_gt Llt, new _ (Nat.le_refl _)⟩
    · have z := N1 p hp
      exact ⟨hk2 _ _ z.1, z.2⟩
  case fin =>
    intro its nn vi vt vb vc h tk hs F N
    clear N1 F1
    dsimp only
    k_steps
    rename Fr _ _ _ _ => F3
    rename News _ _ _ _ => N3
    refine join_list (ys := (List.range 10).map (fmCh mode)) (News.isList N3 (.head _)) (strsAre_of_SA hs) ?_ fun t' k' => ?_
    · refine Nat.le_trans (Nat.add_le_add_right (sum_le_of fun c hc => ?_) _) (by rw [List.length_map, List.length_range]; decide)
      obtain ⟨i, _, rfl⟩ := List.mem_map.mp hc
      exact fmCh_len mode i
    · k_unfold
      dsimp only
      exact hret _ _ _ (fun b o e => kept_of hg' F3 b o List.not_mem_nil e) ⟨t', rfl⟩
  case turn =>
    intro i x its nn vi vt vb vc T oIt ti h tk hx hsz F N hT
    have hsz' : its.size ≤ 10 := by
      have hi : i < 10 := by
        rcases Nat.lt_or_ge i 10 with q | q
        · exact q
        · rw [Array.getElem?_eq_none (by exact q)] at hx; cases hx
      omega
    obtain ⟨rfl, htab, hent⟩ := hrow i x hx
    generalize hax : (fmTab i).1 = ax at *
    clear N1 F1
    replace hT := ltN hT
    k_steps
    rename Fr _ _ _ _ => F3
    rename News _ _ _ _ => N3
    refine iter_tupL F3 N3 (tup_at htab fun o q => F3.keep _ o q) fun I oI h4 F4 N4 hI4 hTI => ?_
    clear F3 N3
    k_lt hI4
    refine fm_inner (mode := mode) (t := t) (its := its) (nn := nn) (vi := some (.int i ti)) (vt := some (.ref ax)) ?hE rfl (fmTab i).2 (fmCond mode i) (fmDef i) htab ?hoff hent ?tn ?el ?fi (fmTab i).2 [] vb vc oI h4 _ rfl rfl (fr_cong F4 ?mx) (news_re5 N4) hTI
    case hE => first | passes_own | with_unfolding_all passes_own
    case hoff => exact ⟨by k_ne, by k_all⟩
    case mx => (intro y; (by_cases c1 : y = Str.ofString "char"; (subst c1; rfl)); (by_cases c2 : y = Str.ofString "bit"; (subst c2; rfl)); (by_cases c3 : y = Str.ofString "table"; (subst c3; rfl)); (by_cases c4 : y = Str.ofString "index"; (subst c4; rfl)); (by_cases c5 : y = Str.ofString "perm"; (subst c5; rfl)); (by_cases c6 : y = Str.ofString "mode"; (subst c6; rfl)); (simp +zetaDelta [fmM, List.lookup, beq_eq_false_iff_ne.mpr, *]))
    case fi =>
      intro vb' vc' t' h5 tk5 F5 N5
      dsimp only
      refine wpAny_execs_nil ?_
      refine ⟨rfl, h5, tk5, _, _, vb', vc', t', rfl, F5, ?_⟩
      exact List.forall_mem_cons.mpr ⟨N5 _ (by k_mem), List.forall_mem_cons.mpr ⟨N5 _ (by k_mem), List.forall_mem_cons.mpr ⟨N5 _ (by k_mem), List.forall_mem_nil _⟩⟩⟩
    case el =>
      intro vb' vc' h5 tk5 F5 N5
      clear F4 N4
      dsimp only
      try k_gentoks
      rcases Nat.eq_zero_or_pos i with hi0 | hi0
      · subst hi0
        k_steps
        exact ⟨rfl, _, _, _, _, _, rfl, fr_cong (by assumption) (by (intro y; (by_cases c1 : y = Str.ofString "char"; (subst c1; rfl)); (by_cases c2 : y = Str.ofString "bit"; (subst c2; rfl)); (by_cases c3 : y = Str.ofString "table"; (subst c3; rfl)); (by_cases c4 : y = Str.ofString "index"; (subst c4; rfl)); (by_cases c5 : y = Str.ofString "perm"; (subst c5; rfl)); (by_cases c6 : y = Str.ofString "mode"; (subst c6; rfl)); (simp +zetaDelta [fmM, List.lookup, beq_eq_false_iff_ne.mpr, *]))), by assumption⟩
      · have hd0 : fmDef i = Str.ofString "-" := if_neg (Nat.ne_of_gt hi0)
        rw [hd0]
        k_steps
        all_goals first
          | (exfalso; omega)
          | exact ⟨rfl, _, _, _, _, _, rfl, fr_cong (by assumption) (by (intro y; (by_cases c1 : y = Str.ofString "char"; (subst c1; rfl)); (by_cases c2 : y = Str.ofString "bit"; (subst c2; rfl)); (by_cases c3 : y = Str.ofString "table"; (subst c3; rfl)); (by_cases c4 : y = Str.ofString "index"; (subst c4; rfl)); (by_cases c5 : y = Str.ofString "perm"; (subst c5; rfl)); (by_cases c6 : y = Str.ofString "mode"; (subst c6; rfl)); (simp +zetaDelta [fmM, List.lookup, beq_eq_false_iff_ne.mpr, *]))), by assumption⟩
    case tn =>
      intro en vb' vc' oI' h5 tk5 hen F5 N5 hIt
      clear F4 N4
      dsimp only
      try k_gentoks
      try k_fold
      rcases Nat.eq_zero_or_pos i with hi0 | hi0
      · have hc : ∀ b, fmCond mode i b = decide (Builtin.bitAnd mode 61440 = b) := fun b => if_pos hi0
        subst hi0
        k_steps
        all_goals (try dsimp only)
        all_goals first
          | exact ⟨_, _, _, _, rfl, fr_cong (by assumption) (by (intro y; (by_cases c1 : y = Str.ofString "char"; (subst c1; rfl)); (by_cases c2 : y = Str.ofString "bit"; (subst c2; rfl)); (by_cases c3 : y = Str.ofString "table"; (subst c3; rfl)); (by_cases c4 : y = Str.ofString "index"; (subst c4; rfl)); (by_cases c5 : y = Str.ofString "perm"; (subst c5; rfl)); (by_cases c6 : y = Str.ofString "mode"; (subst c6; rfl)); (simp +zetaDelta [fmM, List.lookup, beq_eq_false_iff_ne.mpr, *]))), Or.inl ⟨rfl, (hc _).trans (decide_eq_true (by assumption)), by assumption⟩⟩
          | exact ⟨_, _, _, _, rfl, fr_cong (by assumption) (by (intro y; (by_cases c1 : y = Str.ofString "char"; (subst c1; rfl)); (by_cases c2 : y = Str.ofString "bit"; (subst c2; rfl)); (by_cases c3 : y = Str.ofString "table"; (subst c3; rfl)); (by_cases c4 : y = Str.ofString "index"; (subst c4; rfl)); (by_cases c5 : y = Str.ofString "perm"; (subst c5; rfl)); (by_cases c6 : y = Str.ofString "mode"; (subst c6; rfl)); (simp +zetaDelta [fmM, List.lookup, beq_eq_false_iff_ne.mpr, *]))), Or.inr ⟨rfl, (hc _).trans (decide_eq_false (by assumption)), by assumption⟩⟩
      · have hc : ∀ b, fmCond mode i b = decide (Builtin.bitAnd mode b = b) := fun b => if_neg (Nat.ne_of_gt hi0)
        k_steps
        all_goals (try dsimp only)
        all_goals first
          | (exfalso; omega)
          | exact ⟨_, _, _, _, rfl, fr_cong (by assumption) (by (intro y; (by_cases c1 : y = Str.ofString "char"; (subst c1; rfl)); (by_cases c2 : y = Str.ofString "bit"; (subst c2; rfl)); (by_cases c3 : y = Str.ofString "table"; (subst c3; rfl)); (by_cases c4 : y = Str.ofString "index"; (subst c4; rfl)); (by_cases c5 : y = Str.ofString "perm"; (subst c5; rfl)); (by_cases c6 : y = Str.ofString "mode"; (subst c6; rfl)); (simp +zetaDelta [fmM, List.lookup, beq_eq_false_iff_ne.mpr, *]))), Or.inl ⟨rfl, (hc _).trans (decide_eq_true (by assumption)), by assumption⟩⟩
          | exact ⟨_, _, _, _, rfl, fr_cong (by assumption) (by (intro y; (by_cases c1 : y = Str.ofString "char"; (subst c1; rfl)); (by_cases c2 : y = Str.ofString "bit"; (subst c2; rfl)); (by_cases c3 : y = Str.ofString "table"; (subst c3; rfl)); (by_cases c4 : y = Str.ofString "index"; (subst c4; rfl)); (by_cases c5 : y = Str.ofString "perm"; (subst c5; rfl)); (by_cases c6 : y = Str.ofString "mode"; (subst c6; rfl)); (simp +zetaDelta [fmM, List.lookup, beq_eq_false_iff_ne.mpr, *]))), Or.inr ⟨rfl, (hc _).trans (decide_eq_false (by assumption)), by assumption⟩⟩

end
local macro_rules | `(tactic| walk_at "storeName") => `(tactic| (k_here; k_dflt (first | (refine' storeGi ?F ?N ?_ ?a ?b; (case F => k_asm); (case N => k_asm); (case a => rfl); (case b => rfl); k_whole; intro h' t' u' m' F' N') | (refine' storeGs ?F ?N ?_ ?a ?b; (case F => k_asm); (case N => k_asm); (case a => rfl); (case b => rfl); k_whole; intro h' t' u' m' F' N') | (refine' storeG ?F ?N ?_ ?a ?b; (case F => k_asm); (case N => k_asm); (case a => rfl); (case b => rfl); k_whole; intro h' t' m' F' N')); (try k_sweep)))
/-! part LR -/
section
open PySem PySem.W PyProof.Rows
theorem flushLR {prog : Program} {w : World} {A : Around} {E : Value → Shared → Prop} {s : Shared} {t u : Tok} {Q : Value → Shared → Prop} (h : wpAny (model prog w) A (binaryOp .Mult (.int 1 t) (.int 1 u)) Q E s) : wpAny (model prog w) A (binaryOp .Mult (.int 1 t) (.int 1 u)) Q E s := by
  first
  | (walk1; fail)
  | exact h
end
section
open PySem PySem.W PySem.Spec PySem.Calls PyProof.Rows
local macro_rules | `(tactic| k_room) => `(tactic| ktr_room)

section
variable {prog : Program} {w : World} {A : Around} {E : Value → Shared → Prop} {s : Shared} {x y : Str} {t u : Tok} {n k : Nat}
theorem addG {Q : Value → Shared → Prop} (hx : x.length = n) (hy : y.length = k) (hb : n + k ≤ sizeLine) (h : ∀ c t' tk, c = x ++ y → c.length = n + k → Q (.str c t') { s with toks := tk }) : wpAny (model prog w) A (binaryOp .Add (.str x t) (.str y u)) Q E s :=
  add_str (fun t' tk => h _ t' tk rfl (by rw [Str.length_append, hx, hy])) (by rw [hx, hy]; exact hb)
theorem iaddG {Q : Value → Shared → Prop} (hx : x.length = n) (hy : y.length = k) (hb : n + k ≤ sizeLine) (h : ∀ c t' tk, c = x ++ y → c.length = n + k → Q (.str c t') { s with toks := tk }) : wpAny (model prog w) A (inplaceOp .Add (.str x t) (.str y u)) Q E s :=
  iadd_str (fun t' tk => h _ t' tk rfl (by rw [Str.length_append, hx, hy])) (by rw [hx, hy]; exact hb)
end
local macro_rules | `(tactic| walk_at "binaryOp Add str str") => `(tactic| (refine addG (by with_reducible assumption) (by with_reducible assumption) (by decide) ?_; intro c t' tk hc hl))
local macro_rules | `(tactic| walk_at "inplaceOp Add str str") => `(tactic| (refine iaddG (by with_reducible assumption) (by with_reducible assumption) (by decide) ?_; intro c t' tk hc hl))

def lawRow (mode : Int) : Str :=
  Txt.item (Str.ofString "?pc?d?b?-?l?s???") (Int.fmod (Int.fdiv mode 4096) 16) ++ (Txt.item (Str.ofString "-r") (Int.fmod (Int.fdiv (Int.fdiv mode 64) 4) 2) ++ Txt.item (Str.ofString "-w") (Int.fmod (Int.fdiv (Int.fdiv mode 64) 2) 2)) ++
    Txt.item (Str.ofString "-xSs") (Int.fmod (Int.fdiv mode 64) 2 + Int.fmod (Int.fdiv mode 2048) 2 * 2) ++ (Txt.item (Str.ofString "-r") (Int.fmod (Int.fdiv (Int.fdiv mode 8) 4) 2) ++ Txt.item (Str.ofString "-w") (Int.fmod (Int.fdiv (Int.fdiv mode 8) 2) 2)) ++
    Txt.item (Str.ofString "-xSs") (Int.fmod (Int.fdiv mode 8) 2 + Int.fmod (Int.fdiv mode 1024) 2 * 2) ++ (Txt.item (Str.ofString "-r") (Int.fmod (Int.fdiv mode 4) 2) ++ Txt.item (Str.ofString "-w") (Int.fmod (Int.fdiv mode 2) 2)) ++
    Txt.item (Str.ofString "-xTt") (Int.fmod mode 2 + Int.fmod (Int.fdiv mode 512) 2 * 2)

theorem lawRow_c (prog : Program) (w : World) (mode : Int) (t : Tok) : PCon prog w 117 [.int mode t] 3 (fun v _ => ∃ t', v = .str (lawRow mode) t') := by
  unfold PCon
  w_top off
  k_fill
  intro _ loose mean mg mb dp un gd cn cs a ccd cl outer A₀ base h₀ L m s Q E B F X T hk hd hu hret
  refine wpAny_call ?_
  k_dflt (refine' enterH (mu := []) ?k1 ?k2 ?k3 ?k4 ?k5 ?kA ?kF ?kK ?k6 ?k7 ?k8 ?k9 ?kB ?_ ?c2 ?c3 ?c4 ?c5; (case kA => exact rfl); (case kF => exact rfl); (case kK => assumption); (case k1 => k_asm); (case k2 => k_asm); (case k3 => k_asm); (case k4 => exact News.nil); (case k5 => k_asm); (case k6 => k_is); (case k7 => k_is); (case k8 => exact room_0 hd); (case k9 => exact BindsTo.of_eq rfl); (case c5 => decide); (case kB => exact locs rfl); (case c2 => exact rfl); (case c3 => exact rfl); (case c4 => exact rfl); k_whole)
  intro g' L' h' hg' F' N' B' X' T' l1'
  clear B F X T
  dsimp only
  k_fold
  k_steps
  rename Fr _ _ _ _ => F3
  exact hret _ _ _ (fun b o e => kept_of hg' F3 b o List.not_mem_nil e) ⟨_, congrArg (fun z => Value.str z _) (by subst_vars; rfl)⟩

end
/-! part DV0 -/
section
open PySem PySem.W PyProof.Rows
theorem flushDV0 {prog : Program} {w : World} {A : Around} {E : Value → Shared → Prop} {s : Shared} {t u : Tok} {Q : Value → Shared → Prop} (h : wpAny (model prog w) A (binaryOp .Mult (.int 1 t) (.int 1 u)) Q E s) : wpAny (model prog w) A (binaryOp .Mult (.int 1 t) (.int 1 u)) Q E s := by
  first
  | (walk1; fail)
  | exact h
end
section
open PySem PySem.W PySem.Spec PySem.Calls PyProof.Rows
local macro_rules | `(tactic| k_room) => `(tactic| ktr_room)

abbrev QCon (prog : Program) (w : World) (f : Addr) (vs : List Value) (d : Nat) (mu : List (Addr × Obj)) (P : Heap → Value → Heap → Prop) : Prop :=
  PySem.Challenge.rw_oy0173_01 = PySem.Challenge.rw_oy0173_01 → ∀ (loose : List Str) (mean : ExcName → Option Value) (mg mb : Str → Option Value) (dp un : Nat) (gd : Option (List Code)) (cn : Str) (cs : Scope) (a : Addr) (ccd : Value) (cl : List (Str × Addr)) (outer : List Env) (A₀ : Around) (base h₀ : Heap) (L : Addr) (m : Str → Option Value) (s : Shared) (Q E : Value → Shared → Prop),
    Below A₀ base outer h₀ → Fr h₀ L s.heap m → (hd.heap_39 w.params).In h₀ → News h₀ L s.heap mu → Top topProg loose mean mg mb h₀ → cs.kind = .function → CodeHd base 95 91 → CodeHd base 88 84 →
    dp + d < recursionLimit → un + 8 * d < cLine →
    (∀ v h' tk', (∀ b o, b ∉ mu.map (·.1) → s.heap.get? b = some o → h'.get? b = some o) → s.heap.objs.size ≤ h'.objs.size → P s.heap v h' → Q v { s with heap := h', toks := tk' }) →
    wpAny (model prog w) (ktrTop dp un gd cn cs L a ccd cl outer) (call (.ref f) vs) Q E s


theorem div21_c (prog : Program) (w : World) (a b n : Int) (ta tb tn : Tok) (hb : b ≠ 0) (ha : Builtin.divisionGoesByPylong a b = false) (hn : (Builtin.Int.intBits a : Int) - n ≤ 4000) :
    QCon prog w 75 [.int a ta, .int b tb, .int n tn] 1 [] (fun h v h' => ∃ r t1 t2, v = .ref r ∧ h.objs.size ≤ r ∧ h'.get? r = some (tup2 (.int (a.fdiv b) t1) (.int (a.fmod b) t2))) := by
  unfold QCon
  w_top off
  k_fill
  intro _ loose mean mg mb dp un gd cn cs ad ccd cl outer A₀ base h₀ L m s Q E B F X N T hk c1 c2 hd hu hret
  refine wpAny_call ?_
  k_dflt (refine' enterH ?k1 ?k2 ?k3 ?k4 ?k5 ?kA ?kF ?kK ?k6 ?k7 ?k8 ?k9 ?kB ?_ ?c2 ?c3 ?c4 ?c5; (case kA => exact rfl); (case kF => exact rfl); (case kK => assumption); (case k1 => k_asm); (case k2 => k_asm); (case k3 => k_asm); (case k4 => k_asm); (case k5 => k_asm); (case k6 => k_is); (case k7 => k_is); (case k8 => exact room_0 hd); (case k9 => exact BindsTo.of_eq rfl); (case c5 => decide); (case kB => exact locs rfl); (case c2 => exact rfl); (case c3 => exact rfl); (case c4 => exact rfl); k_whole)
  intro g' L' h' hg' F' N' B' X' T' l1'
  clear B F X T N
  dsimp only
  k_fold
  k_steps
  rename News _ _ _ _ => N3
  rename Fr _ _ _ _ => F3
  refine divmod_N F3 N3 hb (fun h4 F4 N4 => ?_) (.inl ha)
  k_unfold
  dsimp only
  exact hret _ _ _ (kept_of hg' F4) (size_of hg' F4).2 ⟨_, _, _, rfl, (size_of hg' F3).2, (N4 _ (.head _)).1⟩

end
/-! part B2 -/
section
open PySem PySem.W PyProof.Rows
theorem flushB2 {prog : Program} {w : World} {A : Around} {E : Value → Shared → Prop} {s : Shared} {t u : Tok} {Q : Value → Shared → Prop} (h : wpAny (model prog w) A (binaryOp .Mult (.int 1 t) (.int 1 u)) Q E s) : wpAny (model prog w) A (binaryOp .Mult (.int 1 t) (.int 1 u)) Q E s := by
  first
  | (walk1; fail)
  | exact h
end
section
open PySem PySem.W PySem.Spec PySem.Calls PyProof.Rows

section
variable {prog : Program} {w : World} {A A₀ : Around} {s : Shared} {K : Frag} {L : Addr} {h₀ base : Heap} {m mg mb : Str → Option Value} {mu : List (Addr × Obj)} {p : Program} {loose : List Str} {mean : ExcName → Option Value}

/-- a def that the call has made is entered: everything but mu is laid into the new ground -/
theorem enterN {env : Env} {outer : List Env} {R : Result → Shared → Prop} {name qual : Str} {params : Arguments} {body : List Stmt} {scope : Scope} {cl : List (Str × Addr)} {doc pm ctv : Value} {c' : Addr} {f : Addr} {args : Args} {binds : List (Str × Value)}
    (B : Below A₀ base outer h₀) (F : Fr h₀ L s.heap m) (X₀ : K.In h₀) (N : News h₀ L s.heap mu) (T : Top p loose mean mg mb h₀) (hA : A.frames = some (env :: outer)) (hf : env.frame = some L) (hke : env.scope.kind = .function)
    (ho : s.heap.get? f = some (fnMade name qual params body scope cl doc pm c' ctv)) (hcd : s.heap.CodeRec (.ref c') qual) (hroom : A.depth < recursionLimit)
    (hbind : BindsTo s (fnX name qual params body scope cl .none .none doc pm none (.ref c') ctv) args binds) (hloc : ∀ y ∈ binds, scope.names.lookup y.1 = some .local)
    (h : ∀ g L' h₁, g = hideAll s.heap (mu.map (·.1)) → Fr g L' h₁ (fun y => binds.reverse.lookup y) → News g L' h₁ mu → Below A base (env :: outer) g → K.In g → Top p loose mean mg mb g → (∀ q ∈ mu, q.1 < L') →
      wpAny (model prog w) (A.deeper (envX qual scope L' f (.ref c') cl)) (execs body (envX qual scope L' f (.ref c') cl))
        (fun fl s' => R (.ok (.ret (match fl with | .ret v => v | _ => .none))) s')
        (fun e s' => wpAny (model prog w) (A.deeper (envX qual scope L' f (.ref c') cl)) (leaving (envX qual scope L' f (.ref c') cl) e) (fun _ s'' => R (.error e) s'') (fun e' s'' => R (.error e') s'') s')
        { s with heap := h₁, toks := s.toks + binds.length })
    (hco : scope.isCoroutine = false) (hgen : scope.isGenerator = false) (hk : scope.kind = .function)
    (hcell : ∀ x ∈ scope.names, x.2 ≠ .cell) : codeAny (model prog w) A (.call (.ref f) args) R s := by
  obtain ⟨_, BG, st, _⟩ := groundX (R := R) B F N hA hf hke
  refine codeAny_call_def (fd := fnX name qual params body scope cl .none .none doc pm none (.ref c') ctv) (body := body) (binds := binds) hroom ho rfl (T.nolimit.keeps F.keep) hcd rfl hbind hcell hloc (fun h₁ hns hk₁ => ?_) hco hgen hk
  exact h _ s.heap.objs.size h₁ rfl ⟨hns, fun b o e => hk₁ b o (of_hideAll _ e), Nat.le_of_eq (hideAll_size _ _)⟩
    (fun q hq => ⟨hk₁ _ _ (N q hq).1, Nat.ne_of_lt (Heap.lt_size (N q hq).1), hideAll_none _ (List.mem_map_of_mem hq)⟩) BG (X₀.keeps st) (T.keeps st) (fun q hq => Heap.lt_size (N q hq).1)
end

/-- a captured name whose cell lies in the ground -/
theorem nameX_G {M : Model} {A : Around} {E : Value → Shared → Prop} {s : Shared} {h₀ : Heap} {L a : Addr} {m : Str → Option Value} {cn : Str} {cs : Scope} {ccd : Value} {cl : List (Str × Addr)} {x : Str} {pos : Pos} {v : Value} {Q : Value → Shared → Prop} {c : Addr} {o : Obj}
    (F : Fr h₀ L s.heap m) (hc : cl.lookup x = some c) (hm : h₀.get? c = some o) (hd : o.data = .cell (some v)) (h : Q v s)
    (hk : cs.kind = .function := by rfl) (hx : (envX cn cs L a ccd cl).kindOf x = some .free := by rfl) (hb : (x == ("__debug__" : Str)) = false := by decide) (hn : (x == ("__classdict__" : Str)) = false := by decide) :
    wpAny M A (eval (.Name x pos) (envX cn cs L a ccd cl)) Q E s := wpAny_Name (wpAny_loadName_free hk hx hc ⟨o, F.keep _ _ hm, hd⟩ h hn) hb

/-- the whole ledger behind a call that turned one object -/
theorem upd_kept {h₀ h h' : Heap} {L la : Addr} {m : Str → Option Value} {news : List (Addr × Obj)} {g : Obj → List (Addr × Obj)} {o o' : Obj} (F : Fr h₀ L h m) (N : News h₀ L h news) (U : UpdF la o news g)
    (hk : ∀ b ob, b ≠ la → h.get? b = some ob → h'.get? b = some ob) (ho' : h'.get? la = some o') : Fr h₀ L h' m ∧ News h₀ L h' (g o') := by
  obtain ⟨pre, post, rfl, hg, h1, h2⟩ := U.split
  have hm := N (la, o) (List.mem_append_right _ (.head _))
  refine ⟨fr_but1 F hk hm.2.1 hm.2.2, ?_⟩
  rw [hg]
  intro q hq
  rcases List.mem_append.mp hq with hq | hq
  · have z := N q (List.mem_append_left _ hq)
    exact ⟨hk _ _ (h1 q hq) z.1, z.2⟩
  · rcases List.mem_cons.mp hq with rfl | hq
    · exact ⟨ho', hm.2⟩
    · have z := N q (List.mem_append_right _ (.tail _ hq))
      exact ⟨hk _ _ (h2 q hq) z.1, z.2⟩
/-- the whole ledger behind a call that turned nothing -/
theorem all_kept {h₀ h h' : Heap} {L : Addr} {m : Str → Option Value} {news : List (Addr × Obj)} (F : Fr h₀ L h m) (N : News h₀ L h news)
    (hk : ∀ b ob, h.get? b = some ob → h'.get? b = some ob) : Fr h₀ L h' m ∧ News h₀ L h' news :=
  ⟨⟨F.ns.at' fun o e => hk L o e, fun b o e => hk b o (F.keep b o e), F.above⟩, fun q hq => ⟨hk _ _ (N q hq).1, (N q hq).2⟩⟩

/-! ints as letters -/
section
variable {prog : Program} {w : World} {A : Around} {E : Value → Shared → Prop} {s : Shared} {a b : Int} {t u : Tok} {Q : Value → Shared → Prop}
theorem rshift_one (h : ∀ r : Int, 2 * r ≤ a → a < 2 * r + 2 → Q (.int r s.toks) { s with toks := s.toks + 1 }) : wpAny (model prog w) A (binaryOp .RShift (.int a t) (.int 1 u)) Q E s := by
  refine rshift_int (by decide) (h _ ?_ ?_)
  · rw [Int.fdiv_eq_ediv_of_nonneg _ (by decide)]; show 2 * (a / 2) ≤ a; omega
  · rw [Int.fdiv_eq_ediv_of_nonneg _ (by decide)]; show a < 2 * (a / 2) + 2; omega
theorem mul_small (ha : 0 ≤ a) (hb : 0 ≤ b) (ha2 : a ≤ 1000) (hb2 : b ≤ 1000) (h : ∀ r : Int, r = a * b → 0 ≤ r → r ≤ 1000000 → Q (.int r s.toks) { s with toks := s.toks + 1 }) : wpAny (model prog w) A (binaryOp .Mult (.int a t) (.int b u)) Q E s := by
  refine PyProof.Rows.mul_int (h _ rfl (Int.mul_nonneg ha hb) ?_) (IntMulOk.of_left (intBits_le_iff.mpr (by omega)))
  exact Int.le_trans (Int.mul_le_mul ha2 hb2 hb (by decide)) (by decide)
theorem rshift_up (ha : 0 ≤ a) (hb : 0 ≤ b) (h : ∀ r : Int, r = a / 2 ^ b.toNat → 0 ≤ r → r ≤ a → Q (.int r s.toks) { s with toks := s.toks + 1 }) : wpAny (model prog w) A (binaryOp .RShift (.int a t) (.int b u)) Q E s := by
  have hp : (0 : Int) < 2 ^ b.toNat := Int.pow_pos (by decide)
  refine rshift_int hb ?_
  rw [Int.fdiv_eq_ediv_of_nonneg _ (Int.le_of_lt hp)]
  exact h _ rfl (Int.ediv_nonneg ha (Int.le_of_lt hp)) (Int.ediv_le_self _ ha)
theorem lshift_up (ha : 0 ≤ a) (ha2 : a < 2 ^ 64) (hb : 0 ≤ b) (hb2 : b ≤ 1000000) (h : ∀ r : Int, r = a * 2 ^ b.toNat → Q (.int r s.toks) { s with toks := s.toks + 1 }) : wpAny (model prog w) A (binaryOp .LShift (.int a t) (.int b u)) Q E s :=
  lshift_int_small hb hb2 (by omega) (h _ rfl)
theorem xor_v (h : ∀ r : Int, r = Builtin.bitXor a b → Q (.int r s.toks) { s with toks := s.toks + 1 }) : wpAny (model prog w) A (binaryOp .BitXor (.int a t) (.int b u)) Q E s := xor_int (h _ rfl)
end

end
/-! part PD -/
section
open PySem PySem.W PyProof.Rows
theorem flushPD {prog : Program} {w : World} {A : Around} {E : Value → Shared → Prop} {s : Shared} {t u : Tok} {Q : Value → Shared → Prop} (h : wpAny (model prog w) A (binaryOp .Mult (.int 1 t) (.int 1 u)) Q E s) : wpAny (model prog w) A (binaryOp .Mult (.int 1 t) (.int 1 u)) Q E s := by
  first
  | (walk1; fail)
  | exact h
end
section
open PySem PySem.W PySem.Spec PySem.Calls PyProof.Rows

/-! digits, the least first -/
def valD (B : Int) : List Int → Int
  | [] => 0
  | d :: r => d + B * valD B r
def DigsOk (B : Int) (l : List Int) : Prop := ∀ d ∈ l, 0 ≤ d ∧ d < B
theorem valD_append (B : Int) : ∀ (u v : List Int), valD B (u ++ v) = valD B u + B ^ u.length * valD B v
  | [], v => by simp [valD]
  | d :: u, v => by
    show d + B * valD B (u ++ v) = d + B * valD B u + B ^ (u.length + 1) * valD B v
    rw [valD_append B u v, Int.pow_succ, Int.mul_add, Int.mul_comm (B ^ u.length) B, Int.mul_assoc]
    omega
theorem valD_bounds {B : Int} (hB : 0 < B) : ∀ {l : List Int}, DigsOk B l → 0 ≤ valD B l ∧ valD B l < B ^ l.length
  | [], _ => ⟨Int.le_refl _, by show (0 : Int) < B ^ 0; rw [Int.pow_zero]; decide⟩
  | d :: r, h => by
    have h1 := h d (.head _)
    have h2 := valD_bounds hB (l := r) fun x hx => h x (.tail _ hx)
    have h3 : 0 ≤ B * valD B r := Int.mul_nonneg (Int.le_of_lt hB) h2.1
    have h4 : B * (valD B r + 1) ≤ B * B ^ r.length := Int.mul_le_mul_of_nonneg_left h2.2 (Int.le_of_lt hB)
    show 0 ≤ d + B * valD B r ∧ d + B * valD B r < B ^ (r.length + 1)
    rw [Int.pow_succ, Int.mul_comm (B ^ r.length) B]
    rw [Int.mul_add, Int.mul_one] at h4
    omega
theorem DigsOk.append {B : Int} {u v : List Int} (h1 : DigsOk B u) (h2 : DigsOk B v) : DigsOk B (u ++ v) := fun d hd =>
  (List.mem_append.mp hd).elim (h1 d) (h2 d)

/-- x less its upper part -/
theorem xor_low {x : Int} (hx : 0 ≤ x) (k : Nat) : Builtin.bitXor x (x / 2 ^ k * 2 ^ k) = x % 2 ^ k := by
  obtain ⟨X, rfl⟩ := Int.eq_ofNat_of_zero_le hx
  have e1 : ((X : Int) / 2 ^ k * 2 ^ k) = ((X / 2 ^ k * 2 ^ k : Nat) : Int) := by push_cast; rfl
  have e2 : ((X : Int) % 2 ^ k) = ((X % 2 ^ k : Nat) : Int) := by push_cast; rfl
  rw [e1, e2, bitXor_and]
  have e3 : Builtin.bitAnd (X : Int) ((X / 2 ^ k * 2 ^ k : Nat) : Int) = ((X / 2 ^ k * 2 ^ k : Nat) : Int) := by
    unfold Builtin.bitAnd
    rw [decide_eq_true (Int.natCast_nonneg X), decide_eq_true (Int.natCast_nonneg _)]
    show ((X &&& (X / 2 ^ k * 2 ^ k) : Nat) : Int) = _
    congr 1
    apply Nat.eq_of_testBit_eq
    intro i
    rw [Nat.testBit_and]
    have : X / 2 ^ k * 2 ^ k = (X >>> k) <<< k := by rw [Nat.shiftRight_eq_div_pow, Nat.shiftLeft_eq]
    rw [this, Nat.testBit_shiftLeft, Nat.testBit_shiftRight]
    by_cases hi : k ≤ i
    · have : k + (i - k) = i := by omega
      rw [this]
      simp [hi]
    · simp [hi]
  rw [e3]
  have := Nat.div_add_mod X (2 ^ k)
  rw [Nat.mul_comm] at this
  omega
theorem pow_toNat {n d : Int} (hn : 0 ≤ n) (hd : 0 ≤ d) : (2 : Int) ^ (d * n).toNat = (2 ^ n.toNat) ^ d.toNat := by
  rw [← Int.pow_mul]
  congr 1
  rw [Int.toNat_mul hd hn, Nat.mul_comm]
theorem mid_cut {Lo Hi mid : Int} {len : Nat} (hHi : Hi = Lo + (len : Int)) (hm1 : 2 * mid ≤ Lo + Hi) (hm2 : Lo + Hi < 2 * mid + 2) (hlen : 2 ≤ len) :
    ∃ a b : Nat, a + b = len ∧ 0 < a ∧ 0 < b ∧ mid = Lo + (a : Int) ∧ Hi = mid + (b : Int) ∧ mid - Lo = (a : Int) := by
  obtain ⟨a, ha⟩ := Int.eq_ofNat_of_zero_le (a := mid - Lo) (by omega)
  obtain ⟨b, hb⟩ := Int.eq_ofNat_of_zero_le (a := Hi - mid) (by omega)
  have e1 : mid = Lo + (a : Int) := by omega
  have e2 : Hi = mid + (b : Int) := by omega
  clear hb
  refine ⟨a, b, by omega, by omega, by omega, e1, e2, ha⟩
theorem cut_take {α : Type} {old : List α} {a b : Nat} (h : a + b = old.length) : (old.take a).length = a := by rw [List.length_take, ← h]; exact Nat.min_eq_left (Nat.le_add_right a b)
theorem cut_drop {α : Type} {old : List α} {a b : Nat} (h : a + b = old.length) : (old.drop a).length = b := by rw [List.length_drop, ← h]; exact Nat.add_sub_cancel_left a b
theorem cut_le1 {a b len k : Nat} (h : a + b = len) (hb : 0 < b) (hk : len ≤ k + 1) : a ≤ k := by omega
theorem cut_le2 {a b len k : Nat} (h : a + b = len) (ha : 0 < a) (hk : len ≤ k + 1) : b ≤ k := by omega
theorem cut_30 {p o q : Nat} (h : p + o + q ≤ 30) : o ≤ 30 := Nat.le_trans (Nat.le_trans (Nat.le_add_left o p) (Nat.le_add_right _ q)) h
theorem cut_b30 {p o q a b : Nat} (h : p + o + q ≤ 30) (e : a + b = o) : b ≤ 30 := Nat.le_trans (e ▸ Nat.le_add_left b a) (cut_30 h)
theorem cut_sum {p o q a b n d : Nat} (h : p + o + q ≤ 30) (e : a + b = o) (hn : n = a) (hd : d = b) : p + n + d + q ≤ 30 := by subst e; subst hn; subst hd; rw [Nat.add_assoc p]; exact h
theorem cut_one {Lo Hi : Int} {len : Nat} (h : Hi = Lo + (len : Int)) (e : Lo + 1 = Hi) : len = 1 := by omega
theorem cut_two {Lo Hi : Int} {len : Nat} (h : Hi = Lo + (len : Int)) (e : Lo + 1 ≠ Hi) (h0 : 0 < len) : 2 ≤ len := by omega
theorem cut_nat {Lo : Int} {n : Nat} (h : (n : Int) = Lo) : Lo.toNat = n := by subst h; rfl

end
/-! part IN1 -/
section
open PySem PySem.W PyProof.Rows
theorem flushIN1 {prog : Program} {w : World} {A : Around} {E : Value → Shared → Prop} {s : Shared} {t u : Tok} {Q : Value → Shared → Prop} (h : wpAny (model prog w) A (binaryOp .Mult (.int 1 t) (.int 1 u)) Q E s) : wpAny (model prog w) A (binaryOp .Mult (.int 1 t) (.int 1 u)) Q E s := by
  first
  | (walk1; fail)
  | exact h
end
section
open PySem PySem.W PySem.Spec PySem.Calls PyProof.Rows
local macro_rules | `(tactic| k_room) => `(tactic| ktr_room)

/-- a made def's closure, as the heap bears it -/
def Clo (f cN cA cI : Addr) (fo : Obj) (nv av : Value) (cc : Addr) (qual : Str) (h : Heap) : Prop :=
  h.get? f = some fo ∧ (∃ o, h.get? cN = some o ∧ o.data = .cell (some nv)) ∧ (∃ o, h.get? cA = some o ∧ o.data = .cell (some av)) ∧ (∃ o, h.get? cI = some o ∧ o.data = .cell (some (.ref f))) ∧ h.CodeRec (.ref cc) qual
theorem Clo.keeps {f cN cA cI la : Addr} {fd : FuncData} {fo lo : Obj} {nv av : Value} {cc : Addr} {qual : Str} {its : Array Value} {nn : Nat} {h h' : Heap} (C : Clo f cN cA cI fo nv av cc qual h) (hfo : fo.data = .func fd)
    (hl : h.get? la = some lo) (hld : lo.data = .seq its nn) (hk : ∀ b o, b ≠ la → h.get? b = some o → h'.get? b = some o) : Clo f cN cA cI fo nv av cc qual h' := by
  obtain ⟨c1, ⟨o2, c2, e2⟩, ⟨o3, c3, e3⟩, ⟨o4, c4, e4⟩, ⟨c5, o5, vs5, t5, e5, g5, d5, v5⟩⟩ := C
  have ne : ∀ {b : Addr} {o : Obj}, h.get? b = some o → (∀ i k, o.data ≠ .seq i k) → b ≠ la := fun hb hd q => by
    rw [q, hl] at hb; cases hb; exact hd _ _ hld
  cases e5
  exact ⟨hk _ _ (ne c1 (by rw [hfo]; nofun)) c1, ⟨o2, hk _ _ (ne c2 (by rw [e2]; nofun)) c2, e2⟩, ⟨o3, hk _ _ (ne c3 (by rw [e3]; nofun)) c3, e3⟩, ⟨o4, hk _ _ (ne c4 (by rw [e4]; nofun)) c4, e4⟩,
    ⟨_, o5, vs5, t5, rfl, hk _ _ (ne g5 (by rw [d5]; nofun)) g5, d5, v5⟩⟩

theorem look_use {K : Frag} {a : Addr} {o o' : Obj} {P : Prop} (h : K.lookup a = some o) (h' : K.lookup a = some o') (k : o = o' → P) : P := k (Option.some.inj (h.symm.trans h'))
def InCon (prog : Program) (w : World) (f la cN cA cI : Addr) (fo : Obj) (cc : Addr) (qual : Str) (n : Int) (tN : Tok) (k : Nat) : Prop :=
  ∀ (x Lo Hi : Int) (tx tl th : Tok) (pre old post : List Int) (vs : List Value) (nn : Nat) (loose : List Str) (mean : ExcName → Option Value) (mg mb : Str → Option Value) (dp un : Nat) (gd : Option (List Code)) (env : Env) (outer : List Env) (A₀ : Around) (base h₀ : Heap) (L : Addr) (m : Str → Option Value) (s : Shared) (Q E : Value → Shared → Prop),
    Below A₀ base outer h₀ → Fr h₀ L s.heap m → (hd.heap_39 w.params).In h₀ → News h₀ L s.heap [(la, W.listOf vs.toArray nn)] → Top topProg loose mean mg mb h₀ → env.frame = some L → env.scope.kind = .function →
    Clo f cN cA cI fo (.int n tN) (.ref la) cc qual s.heap → IntsAre vs (pre ++ old ++ post) → (pre.length : Int) = Lo → Hi = Lo + (old.length : Int) → 0 < old.length → old.length ≤ k → (pre ++ old ++ post).length ≤ 30 →
    0 ≤ x → x < (2 ^ n.toNat) ^ old.length → dp + k < recursionLimit → un + 8 * k < cLine →
    (∀ (vs' : List Value) (new : List Int) (h' : Heap) (tk' : Nat), (∀ b o, b ≠ la → s.heap.get? b = some o → h'.get? b = some o) → s.heap.objs.size ≤ h'.objs.size → h'.get? la = some (W.listOf vs'.toArray nn) → IntsAre vs' (pre ++ new ++ post) → new.length = old.length →
      DigsOk (2 ^ n.toNat) new → valD (2 ^ n.toNat) new = x → Q .none { s with heap := h', toks := tk' }) →
    wpAny (model prog w) { handled := none, depth := dp, frames := some (env :: outer), guards := gd, units := un } (call (.ref f) [.int x tx, .int Lo tl, .int Hi th]) Q E s

theorem lshift_upx {prog : Program} {w : World} {A : Around} {E : Value → Shared → Prop} {s : Shared} {a b x : Int} {t u : Tok} {Q : Value → Shared → Prop} (hx : Builtin.Int.intBits x ≤ 1000) (ha : 0 ≤ a) (hax : a ≤ x) (hb : 0 ≤ b) (hb2 : b ≤ 1000000)
    (h : ∀ r : Int, r = a * 2 ^ b.toNat → Q (.int r s.toks) { s with toks := s.toks + 1 }) : wpAny (model prog w) A (binaryOp .LShift (.int a t) (.int b u)) Q E s := by
  have h1 : Builtin.Int.intBits a ≤ 1000 := intBits_le_of_natAbs (by omega) hx
  exact lshift_int hb (by omega) (h _ rfl)
theorem bits_pow {x n : Int} {k : Nat} (h0 : 0 ≤ x) (hn : n ≤ 30) (hk : k ≤ 30) (hx : x < (2 ^ n.toNat) ^ k) : Builtin.Int.intBits x ≤ 1000 := by
  refine intBits_le_iff.mpr ?_
  have e : ((2 : Int) ^ n.toNat) ^ k = ((2 ^ (n.toNat * k) : Nat) : Int) := by rw [← Int.pow_mul]; push_cast; rfl
  rw [e] at hx
  have h1 : x.natAbs < 2 ^ (n.toNat * k) := by omega
  refine Nat.lt_of_lt_of_le h1 (Nat.pow_le_pow_right (by decide) ?_)
  have h2 : n.toNat ≤ 30 := by omega
  exact Nat.le_trans (Nat.mul_le_mul h2 hk) (by decide)

theorem inner_arith {x Lo Hi n mid shift upper sh lower : Int} {len : Nat} (hn : 0 < n) (hx0 : 0 ≤ x) (hx1 : x < (2 ^ n.toNat) ^ len) (hHi : Hi = Lo + (len : Int)) (hm1 : 2 * mid ≤ Lo + Hi) (hm2 : Lo + Hi < 2 * mid + 2) (hlen : 2 ≤ len)
    (hmul : shift = (mid - Lo) * n) (hup : upper = x / 2 ^ shift.toNat) (hsh : sh = upper * 2 ^ shift.toNat) (hxor : lower = Builtin.bitXor x sh) :
    ∃ a b : Nat, a + b = len ∧ 0 < a ∧ 0 < b ∧ mid = Lo + (a : Int) ∧ Hi = mid + (b : Int) ∧ 0 ≤ lower ∧ lower < (2 ^ n.toNat) ^ a ∧ 0 ≤ upper ∧ upper < (2 ^ n.toNat) ^ b ∧ lower + (2 ^ n.toNat) ^ a * upper = x := by
  obtain ⟨a, b, hab, ha, hb, e1, e2, hd⟩ := mid_cut hHi hm1 hm2 hlen
  refine ⟨a, b, hab, ha, hb, e1, e2, ?_⟩
  have h0 : (0 : Int) ≤ (a : Int) := Int.natCast_nonneg a
  have hB : (0 : Int) < (2 ^ n.toNat) ^ a := Int.pow_pos (Int.pow_pos (by decide))
  have hp : (2 : Int) ^ ((a : Int) * n).toNat = (2 ^ n.toNat) ^ a := pow_toNat (Int.le_of_lt hn) h0
  rw [hd] at hmul
  rw [hsh, hup, xor_low hx0, hmul, hp] at hxor
  rw [hmul, hp] at hup
  rw [show ((2 : Int) ^ n.toNat) ^ len = (2 ^ n.toNat) ^ b * (2 ^ n.toNat) ^ a by rw [← Int.pow_add, Nat.add_comm b a, hab]] at hx1
  refine ⟨?_, ?_, ?_, ?_, ?_⟩
  · rw [hxor]; exact Int.emod_nonneg _ (Int.ne_of_gt hB)
  · rw [hxor]; exact Int.emod_lt_of_pos _ hB
  · rw [hup]; exact Int.ediv_nonneg hx0 (Int.le_of_lt hB)
  · rw [hup]; exact Int.ediv_lt_of_lt_mul hB hx1
  · rw [hxor, hup, Int.add_comm]
    exact Int.mul_ediv_add_emod x ((2 ^ n.toNat) ^ a)
theorem set_mid {x : Int} : ∀ (pre : List Int) {old post : List Int}, old.length = 1 → (pre ++ old ++ post).set pre.length x = pre ++ [x] ++ post
  | [], [_], _, _ => rfl
  | [], [], _, h => by cases h
  | [], _ :: _ :: _, _, h => by simp at h
  | p :: pre, old, post, h => by
    have := set_mid (x := x) pre (old := old) (post := post) h
    simpa using this

local macro_rules | `(tactic| walk_at "eval Name") => `(tactic| (k_here; k_dflt (refine' nameX_G ?F ?c ?m ?d ?_ ?a ?b; (case a => rfl); (case b => rfl); (case F => k_asm); (case c => rfl); (case m => assumption); (case d => assumption); k_whole)))
local macro_rules | `(tactic| walk_at "FnAt") => `(tactic| exact ⟨_, _, _, _, Fr.keep (by k_asm) _ _ (by assumption)⟩)
local macro_rules | `(tactic| walk_at "callWith ref") => `(tactic| (k_here; k_dflt (refine' callWith_F ?k1 ?_; (case k1 => exact ⟨_, _, _, _, Fr.keep (by k_asm) _ _ (by assumption)⟩); k_whole)))
local macro_rules | `(tactic| walk_at "binaryOp Mult int int") => `(tactic| (refine mul_small ?_ ?_ ?_ ?_ ?_; omega; omega; omega; omega; intro r9 hr9 hr9a hr9b))
local macro_rules | `(tactic| walk_at "binaryOp RShift int int") => `(tactic| first | (refine rshift_one ?_; intro r9 hr9 hr9a) | (refine rshift_up ?_ ?_ ?_; omega; omega; intro r9 hr9 hr9a hr9b))
local macro_rules | `(tactic| walk_at "binaryOp BitXor int int") => `(tactic| (refine xor_v ?_; intro r9 hr9))

local macro_rules | `(tactic| walk_at "binaryOp LShift int int") => `(tactic| (refine lshift_upx (by assumption) ?_ ?_ ?_ ?_ ?_; omega; omega; omega; omega; intro r9 hr9))

theorem inner1 (prog : Program) (w : World) {oc : Value} {od : Option Addr} {osl : Array (Option Value)} {nm q : Str} {ps : Arguments} {st0 : Stmt} {nameI : Str} {paramsI : Arguments} {bodyI : List Stmt} {scopeI : Scope} {posI : Pos} {rest : List Stmt} {sc : Scope} {dV kV doc pm : Value} {an : Option Addr} {cdv ct : Value} :
    PySem.Challenge.rw_oy0173_01 = PySem.Challenge.rw_oy0173_01 → (hd.heap_39 w.params).lookup 89 = some ⟨oc, od, .func (fnOf nm q ps (st0 :: .FunctionDef nameI paramsI bodyI [] none [] scopeI none nameI posI :: rest) sc dV kV doc pm an cdv ct), osl⟩ →
    ∀ (f la cN cA cI : Addr) (docI pmI : Value) (cc : Addr) (ctv : Value) (qualI : Str) (n : Int) (tN : Tok), 0 < n → n ≤ 30 →
    ∀ k, InCon prog w f la cN cA cI (fnMade nameI qualI paramsI bodyI scopeI [(Str.ofString "n", cN), (Str.ofString "inner", cI), (Str.ofString "a_digits", cA)] docI pmI cc ctv) cc qualI n tN k := by
  w_top off
  k_fill
  intro _ hlook f la cN cA cI docI pmI cc ctv qualI n tN hn hn30 k
  refine' look_use hlook ?e ?_
  case e => k_is
  intro hh
  cases hh
  clear hlook
  induction k with
  | zero => intro x Lo Hi tx tl th pre old post vs nn loose mean mg mb dp un gd env outer A₀ base h₀ L m s Q E B F X N T he hk C hi hlo hhi h0 h1; exact absurd (Nat.lt_of_lt_of_le h0 h1) (Nat.lt_irrefl 0)
  | succ k ih =>
    intro x Lo Hi tx tl th pre old post vs nn loose mean mg mb dp un gd env outer A₀ base h₀ L m s Q E B F X N T he hk C hi hlo hhi h0 h1 h30 hx0 hx1 hdp hun hret
    have Cg : Clo f cN cA cI _ (.int n tN) (.ref la) cc qualI (hideAll s.heap [la]) := C.keeps rfl (N _ (.head _)).1 rfl fun b o hb e => hideAll_get _ e (by simpa using hb)
    refine wpAny_call ?_
    refine enterN B F X N T rfl he hk C.1 C.2.2.2.2 (room_0 hdp) (BindsTo.of_eq rfl) (locs rfl) ?_ rfl rfl rfl (by decide)
    intro g' L' h' hg' F' N' B' X' T' l1'
    rw [show hideAll s.heap [la] = g' from hg'.symm] at Cg
    obtain ⟨c1, ⟨o2, c2, e2⟩, ⟨o3, c3, e3⟩, ⟨o4, c4, e4⟩, c5⟩ := Cg
    clear B F X T N
    have hlen : pre.length + old.length + post.length ≤ 30 := by simpa [Nat.add_assoc] using h30
    have hbits := bits_pow hx0 hn30 (cut_30 hlen) hx1
    dsimp only
    try k_fold
    k_steps
    · rename Fr _ _ _ _ => F3
      rename News _ _ _ _ => N3
      have h1' : old.length = 1 := cut_one hhi (by assumption)
      have e : Lo.toNat = pre.length := cut_nat hlo
      rename IntsAre (List.set _ _ _) _ => hi3
      rw [e, set_mid pre h1'] at hi3
      have hone : x < 2 ^ n.toNat := by rw [h1', Int.pow_succ, Int.pow_zero, Int.one_mul] at hx1; exact hx1
      refine hret _ [x] _ _ (fun b o hb q => kept_of hg' F3 b o (by simpa using hb) q) (size_of hg' F3).2 (N3 _ (.head _)).1 (e ▸ hi3) h1'.symm (fun d hd => ?_) (by simp [valD])
      rw [List.mem_singleton.mp hd]
      exact ⟨hx0, hone⟩
    · rename Fr _ _ _ _ => F3
      rename News _ _ _ _ => N3
      rename (_ = Builtin.bitXor _ _) => hxor
      rename (_ = _ * 2 ^ _) => hsh
      rename (_ = _ / 2 ^ _) => hup
      rename (_ = (_ - _) * _) => hmul
      rename (2 * _ ≤ _) => hm1
      rename (_ < 2 * _ + 2) => hm2
      obtain ⟨a, b, hab, ha, hb, hmid, hhi', l0, l1, u0, u1, hsum⟩ := inner_arith hn hx0 hx1 hhi hm1 hm2 (cut_two hhi (by assumption) h0) hmul hup hsh hxor
      have hlt : (old.take a).length = a := cut_take hab
      have hld : (old.drop a).length = b := cut_drop hab
      have hcut : pre ++ old ++ post = pre ++ old.take a ++ (old.drop a ++ post) := by
        conv => lhs; rw [← List.take_append_drop a old]
        simp only [List.append_assoc]
      have keepC : ∀ h5 : Heap, (∀ b o, g'.get? b = some o → h5.get? b = some o) → Clo f cN cA cI _ (.int n tN) (.ref la) cc qualI h5 := fun h5 k5 =>
        ⟨k5 _ _ c1, ⟨o2, k5 _ _ c2, e2⟩, ⟨o3, k5 _ _ c3, e3⟩, ⟨o4, k5 _ _ c4, e4⟩, c5.keeps k5⟩
      refine ih _ _ _ _ _ _ pre (old.take a) (old.drop a ++ post) vs nn _ _ _ _ _ _ _ _ _ _ _ _ _ _ _ _ _ B' F3 X' N3 T' rfl rfl (keepC _ F3.keep) (hcut ▸ hi) hlo (by rw [hlt]; exact hmid) (by rw [hlt]; exact ha) (by rw [hlt]; exact cut_le1 hab hb h1) (hcut ▸ h30) l0 (by rw [hlt]; exact l1) (room_dk hdp) (room_uk hun) ?_
      intro vs1 new1 h5 tk5 hk5 hs5 hl5 hi5 hnl5 hd5 hv5
      obtain ⟨F5, N5⟩ := upd_kept F3 N3 (UpdF.head (List.forall_mem_nil _)) hk5 hl5
      clear F3 N3
      k_steps
      rename Fr _ _ _ _ => F6
      rename News _ _ _ _ => N6
      have hcut2 : pre ++ new1 ++ (old.drop a ++ post) = (pre ++ new1) ++ old.drop a ++ post := by simp only [List.append_assoc]
      have hpl : ((pre ++ new1).length : Int) = Lo + (a : Int) := by rw [List.length_append, hnl5, hlt, Int.natCast_add, hlo]
      refine ih _ _ _ _ _ _ (pre ++ new1) (old.drop a) post vs1 nn _ _ _ _ _ _ _ _ _ _ _ _ _ _ _ _ _ B' F6 X' N6 T' rfl rfl (keepC _ F6.keep) (hcut2 ▸ hi5) (by rw [hpl]; exact hmid.symm) (by rw [hld]; exact hhi') (by rw [hld]; exact hb) (by rw [hld]; exact cut_le2 hab ha h1) (by simp only [List.length_append]; exact cut_sum hlen hab (hnl5.trans hlt) hld) u0 (by rw [hld]; exact u1) (room_dk hdp) (room_uk hun) ?_
      intro vs2 new2 h7 tk7 hk7 hs7 hl7 hi7 hnl7 hd7 hv7
      obtain ⟨F8, N8⟩ := upd_kept F6 N6 (UpdF.head (List.forall_mem_nil _)) hk7 hl7
      clear F6 N6
      k_steps
      refine hret vs2 (new1 ++ new2) h7 tk7 (fun b o hb q => kept_of hg' F8 b o (by simpa using hb) q) (size_of hg' F8).2 hl7 ?_ ?_ (hd5.append hd7) ?_
      · have e : pre ++ (new1 ++ new2) ++ post = pre ++ new1 ++ new2 ++ post := by simp only [List.append_assoc]
        rw [e]; exact hi7
      · rw [List.length_append, hnl5, hnl7, hlt, hld, hab]
      · rw [valD_append, hv5, hv7, hnl5, hlt]; exact hsum

end
/-! part IN2 -/
section
open PySem PySem.W PyProof.Rows
theorem flushIN2 {prog : Program} {w : World} {A : Around} {E : Value → Shared → Prop} {s : Shared} {t u : Tok} {Q : Value → Shared → Prop} (h : wpAny (model prog w) A (binaryOp .Mult (.int 1 t) (.int 1 u)) Q E s) : wpAny (model prog w) A (binaryOp .Mult (.int 1 t) (.int 1 u)) Q E s := by
  first
  | (walk1; fail)
  | exact h
end
section
open PySem PySem.W PySem.Spec PySem.Calls PyProof.Rows
local macro_rules | `(tactic| k_room) => `(tactic| ktr_room)

def InCon2 (prog : Program) (w : World) (f la cN cA cI : Addr) (fo : Obj) (cc : Addr) (qual : Str) (n : Int) (tN : Tok) (k : Nat) : Prop :=
  ∀ (Lo Hi : Int) (tl th : Tok) (pre old post : List Int) (vs : List Value) (loose : List Str) (mean : ExcName → Option Value) (mg mb : Str → Option Value) (dp un : Nat) (gd : Option (List Code)) (env : Env) (outer : List Env) (A₀ : Around) (base h₀ : Heap) (L : Addr) (m : Str → Option Value) (s : Shared) (Q E : Value → Shared → Prop),
    Below A₀ base outer h₀ → Fr h₀ L s.heap m → (hd.heap_39 w.params).In h₀ → Top topProg loose mean mg mb h₀ → env.frame = some L → env.scope.kind = .function →
    Clo f cN cA cI fo (.int n tN) (.ref la) cc qual s.heap → s.heap.IsList la vs.toArray → IntsAre vs (pre ++ old ++ post) → (pre.length : Int) = Lo → Hi = Lo + (old.length : Int) → 0 < old.length → old.length ≤ k → (pre ++ old ++ post).length ≤ 30 →
    DigsOk (2 ^ n.toNat) old → dp + k < recursionLimit → un + 8 * k < cLine →
    (∀ (t : Tok) (h' : Heap) (tk' : Nat), (∀ b o, s.heap.get? b = some o → h'.get? b = some o) → s.heap.objs.size ≤ h'.objs.size → Q (.int (valD (2 ^ n.toNat) old) t) { s with heap := h', toks := tk' }) →
    wpAny (model prog w) { handled := none, depth := dp, frames := some (env :: outer), guards := gd, units := un } (call (.ref f) [.int Lo tl, .int Hi th]) Q E s

local macro_rules | `(tactic| walk_at "eval Name") => `(tactic| (k_here; k_dflt (refine' nameX_G ?F ?c ?m ?d ?_ ?a ?b; (case a => rfl); (case b => rfl); (case F => k_asm); (case c => rfl); (case m => assumption); (case d => assumption); k_whole)))
local macro_rules | `(tactic| walk_at "FnAt") => `(tactic| exact ⟨_, _, _, _, Fr.keep (by k_asm) _ _ (by assumption)⟩)
local macro_rules | `(tactic| walk_at "callWith ref") => `(tactic| (k_here; k_dflt (refine' callWith_F ?k1 ?_; (case k1 => exact ⟨_, _, _, _, Fr.keep (by k_asm) _ _ (by assumption)⟩); k_whole)))
local macro_rules | `(tactic| walk_at "binaryOp Mult int int") => `(tactic| (refine mul_small ?_ ?_ ?_ ?_ ?_; omega; omega; omega; omega; intro r9 hr9 hr9a hr9b))
local macro_rules | `(tactic| walk_at "binaryOp LShift int int") => `(tactic| (refine lshift_upx (by assumption) ?_ ?_ ?_ ?_ ?_; omega; omega; omega; omega; intro r9 hr9))
local macro_rules | `(tactic| walk_at "binaryOp RShift int int") => `(tactic| (refine rshift_one ?_; intro r9 hr9 hr9a))

theorem getD_mid : ∀ (pre : List Int) {old post : List Int} {B : Int}, old.length = 1 → (pre ++ old ++ post).getD pre.length 0 = valD B old
  | [], [d], _, B, _ => by simp [valD]
  | [], [], _, _, h => by cases h
  | [], _ :: _ :: _, _, _, h => by simp at h
  | p :: pre, old, post, B, h => by
    have := getD_mid pre (old := old) (post := post) (B := B) h
    simpa using this
theorem mid_arith {Lo Hi n mid shift : Int} {len : Nat} (hn : 0 < n) (hHi : Hi = Lo + (len : Int)) (hm1 : 2 * mid ≤ Lo + Hi) (hm2 : Lo + Hi < 2 * mid + 2) (hlen : 2 ≤ len) (hmul : shift = (mid - Lo) * n) :
    ∃ a b : Nat, a + b = len ∧ 0 < a ∧ 0 < b ∧ mid = Lo + (a : Int) ∧ Hi = mid + (b : Int) ∧ (2 : Int) ^ shift.toNat = (2 ^ n.toNat) ^ a := by
  obtain ⟨a, b, hab, ha, hb, e1, e2, hd⟩ := mid_cut hHi hm1 hm2 hlen
  refine ⟨a, b, hab, ha, hb, e1, e2, ?_⟩
  rw [hmul, hd]
  exact pow_toNat (Int.le_of_lt hn) (Int.natCast_nonneg a)

theorem inner2 (prog : Program) (w : World) {oc : Value} {od : Option Addr} {osl : Array (Option Value)} {nm q : Str} {ps : Arguments} {nameI : Str} {paramsI : Arguments} {bodyI : List Stmt} {scopeI : Scope} {posI : Pos} {rest : List Stmt} {sc : Scope} {dV kV doc pm : Value} {an : Option Addr} {cdv ct : Value} :
    PySem.Challenge.rw_oy0173_01 = PySem.Challenge.rw_oy0173_01 → (hd.heap_39 w.params).lookup 96 = some ⟨oc, od, .func (fnOf nm q ps (.FunctionDef nameI paramsI bodyI [] none [] scopeI none nameI posI :: rest) sc dV kV doc pm an cdv ct), osl⟩ →
    ∀ (f la cN cA cI : Addr) (docI pmI : Value) (cc : Addr) (ctv : Value) (qualI : Str) (n : Int) (tN : Tok), 0 < n → n ≤ 30 →
    ∀ k, InCon2 prog w f la cN cA cI (fnMade nameI qualI paramsI bodyI scopeI [(Str.ofString "n", cN), (Str.ofString "inner", cI), (Str.ofString "digits", cA)] docI pmI cc ctv) cc qualI n tN k := by
  w_top off
  k_fill
  intro _ hlook f la cN cA cI docI pmI cc ctv qualI n tN hn hn30 k
  refine' look_use hlook ?e ?_
  case e => k_is
  intro hh
  cases hh
  clear hlook
  induction k with
  | zero => intro Lo Hi tl th pre old post vs loose mean mg mb dp un gd env outer A₀ base h₀ L m s Q E B F X T he hk C hl hi hlo hhi h0 h1; exact absurd (Nat.lt_of_lt_of_le h0 h1) (Nat.lt_irrefl 0)
  | succ k ih =>
    intro Lo Hi tl th pre old post vs loose mean mg mb dp un gd env outer A₀ base h₀ L m s Q E B F X T he hk C hl hi hlo hhi h0 h1 h30 hdg hdp hun hret
    refine wpAny_call ?_
    refine enterN (mu := []) B F X News.nil T rfl he hk C.1 C.2.2.2.2 (room_0 hdp) (BindsTo.of_eq rfl) (locs rfl) ?_ rfl rfl rfl (by decide)
    intro g' L' h' hg' F' N' B' X' T' l1'
    replace hg' : g' = s.heap := hg'
    rw [← hg'] at C hl
    obtain ⟨c1, ⟨o2, c2, e2⟩, ⟨o3, c3, e3⟩, ⟨o4, c4, e4⟩, c5⟩ := C
    clear B F X T
    have hlen : pre.length + old.length + post.length ≤ 30 := by simpa [Nat.add_assoc] using h30
    dsimp only
    try k_fold
    k_steps
    · rename Fr _ _ _ _ => F3
      dsimp only
      have h1' : old.length = 1 := cut_one hhi (by assumption)
      have e : Lo.toNat = pre.length := cut_nat hlo
      rw [e, getD_mid pre (B := 2 ^ n.toNat) h1']
      exact hret _ _ _ (fun b o q => F3.keep b o (hg' ▸ q)) (hg' ▸ Nat.le_of_lt (Nat.lt_of_le_of_lt F3.above F3.ns.lt))
    · rename Fr _ _ _ _ => F3
      rename News _ _ _ _ => N3
      rename (_ = (_ - _) * _) => hmul
      rename (2 * _ ≤ _) => hm1
      rename (_ < 2 * _ + 2) => hm2
      obtain ⟨a, b, hab, ha, hb, hmid, hhi', hpw⟩ := mid_arith hn hhi hm1 hm2 (cut_two hhi (by assumption) h0) hmul
      have hlt : (old.take a).length = a := cut_take hab
      have hld : (old.drop a).length = b := cut_drop hab
      have hcut : pre ++ old ++ post = pre ++ old.take a ++ (old.drop a ++ post) := by
        conv => lhs; rw [← List.take_append_drop a old]
        simp only [List.append_assoc]
      have hcut2 : pre ++ old ++ post = (pre ++ old.take a) ++ old.drop a ++ post := by rw [hcut]; simp only [List.append_assoc]
      have hdt : DigsOk (2 ^ n.toNat) (old.take a) := fun d hd => hdg d (List.mem_of_mem_take hd)
      have hdd : DigsOk (2 ^ n.toNat) (old.drop a) := fun d hd => hdg d (List.mem_of_mem_drop hd)
      have keepC : ∀ h5 : Heap, (∀ b o, g'.get? b = some o → h5.get? b = some o) → Clo f cN cA cI _ (.int n tN) (.ref la) cc qualI h5 := fun h5 k5 =>
        ⟨k5 _ _ c1, ⟨o2, k5 _ _ c2, e2⟩, ⟨o3, k5 _ _ c3, e3⟩, ⟨o4, k5 _ _ c4, e4⟩, c5.keeps k5⟩
      have hB : (0 : Int) < 2 ^ n.toNat := Int.pow_pos (by decide)
      have vb := valD_bounds hB hdd
      have vbits := bits_pow vb.1 hn30 (by rw [hld]; exact cut_b30 hlen hab) vb.2
      have hpl : ((pre ++ old.take a).length : Int) = Lo + (a : Int) := by rw [List.length_append, hlt, Int.natCast_add, hlo]
      refine ih _ _ _ _ (pre ++ old.take a) (old.drop a) post vs _ _ _ _ _ _ _ _ _ _ _ _ _ _ _ _ _ B' F3 X' T' rfl rfl (keepC _ F3.keep) (hl.at fun o q => F3.keep _ o q) (hcut2 ▸ hi) (by rw [hpl]; exact hmid.symm) (by rw [hld]; exact hhi') (by rw [hld]; exact hb) (by rw [hld]; exact cut_le2 hab ha h1) (hcut2 ▸ h30) hdd (room_dk hdp) (room_uk hun) ?_
      intro t5 h5 tk5 hk5 hs5
      obtain ⟨F5, N5⟩ := all_kept F3 N3 hk5
      clear F3 N3
      k_steps
      rename Fr _ _ _ _ => F6
      rename News _ _ _ _ => N6
      rename (_ = _ * 2 ^ _) => hsh
      refine ih _ _ _ _ pre (old.take a) (old.drop a ++ post) vs _ _ _ _ _ _ _ _ _ _ _ _ _ _ _ _ _ B' F6 X' T' rfl rfl (keepC _ F6.keep) (hl.at fun o q => F6.keep _ o q) (hcut ▸ hi) hlo (by rw [hlt]; exact hmid) (by rw [hlt]; exact ha) (by rw [hlt]; exact cut_le1 hab hb h1) (hcut ▸ h30) hdt (room_dk hdp) (room_uk hun) ?_
      intro t7 h7 tk7 hk7 hs7
      obtain ⟨F8, N8⟩ := all_kept F6 N6 hk7
      clear F6 N6
      k_steps
      rename Fr _ _ _ _ => F9
      rw [hpw] at hsh
      subst hsh
      have hval : valD (2 ^ n.toNat) (old.drop a) * (2 ^ n.toNat) ^ a + valD (2 ^ n.toNat) (old.take a) = valD (2 ^ n.toNat) old := by
        conv => rhs; rw [← List.take_append_drop a old, valD_append, hlt]
        rw [Int.mul_comm, Int.add_comm]
      dsimp only
      rw [hval]
      exact hret _ _ _ (fun b o q => F9.keep b o (hg' ▸ q)) (hg' ▸ Nat.le_of_lt (Nat.lt_of_le_of_lt F9.above F9.ns.lt))

end
/-! part TB -/
section
open PySem PySem.W PyProof.Rows
theorem flushTB {prog : Program} {w : World} {A : Around} {E : Value → Shared → Prop} {s : Shared} {t u : Tok} {Q : Value → Shared → Prop} (h : wpAny (model prog w) A (binaryOp .Mult (.int 1 t) (.int 1 u)) Q E s) : wpAny (model prog w) A (binaryOp .Mult (.int 1 t) (.int 1 u)) Q E s := by
  first
  | (walk1; fail)
  | exact h
end
section
open PySem PySem.W PySem.Spec PySem.Calls PyProof.Rows

/-- a code table: still empty, or it holds the one inner def's code -/
def TabOk (ln cl : Int) (qual : Str) (ps : Array Value) (h : Heap) : Prop := ps = #[] ∨ ∃ c, ps = #[rawInt ln, rawInt cl, .ref c] ∧ h.CodeRec (.ref c) qual
/-- the code: it lies in the ground, or at d -/
def CodeAt (h : Heap) (d : Addr) (od : Obj) (c : Addr) (qual : Str) : Prop := h.CodeRec (.ref c) qual ∨ (c = d ∧ ∃ vs t, od.data = .fields vs ∧ vs[1]? = some (.str qual t))
/-- the table's code: the one that was there, or a new one at d -/
def CodeNew (ln cl : Int) (ps : Array Value) (d : Addr) (od : Obj) (c : Addr) (qual : Str) : Prop := ps = #[rawInt ln, rawInt cl, .ref c] ∨ (c = d ∧ ∃ vs t, od.data = .fields vs ∧ vs[1]? = some (.str qual t))
theorem CodeNew.at {ln cl : Int} {ps : Array Value} {d : Addr} {od : Obj} {c : Addr} {qual : Str} {h : Heap} (x : CodeNew ln cl ps d od c qual) (t : TabOk ln cl qual ps h) : CodeAt h d od c qual := by
  rcases x with rfl | x
  · rcases t with e | ⟨c', e, r⟩
    · exact absurd (congrArg Array.size e) (by simp)
    · have : Value.ref c = Value.ref c' := by
        have := congrArg (fun a : Array Value => a[2]?) e
        simpa using this
      cases this
      exact .inl r
  · exact .inr x
theorem CodeAt.rec {h h' : Heap} {d : Addr} {od : Obj} {c : Addr} {qual : Str} (x : CodeAt h d od c qual) (hk : ∀ b o, h.get? b = some o → h'.get? b = some o) (hd : h'.get? d = some od) : h'.CodeRec (.ref c) qual := by
  rcases x with x | ⟨rfl, vs, t, e1, e2⟩
  · exact x.keeps hk
  · exact ⟨c, od, vs, t, rfl, hd, e1, e2⟩
/-- a code's record is kept where only a table turns -/
theorem codeRec_but {h h' : Heap} {P c : Addr} {ps : Array Value} {qual : Str} (x : h.CodeRec (.ref c) qual) (hP : h.get? P = some (tabObj ps)) (hps : ∀ q t, ps[1]? ≠ some (.str q t)) (hk : ∀ b o, b ≠ P → h.get? b = some o → h'.get? b = some o) : h'.CodeRec (.ref c) qual := by
  obtain ⟨c', o, vs, t, e, g, e1, e2⟩ := x
  cases e
  refine ⟨c, o, vs, t, rfl, hk _ _ (fun q => ?_) g, e1, e2⟩
  rw [q, hP] at g
  cases g
  cases e1
  exact hps _ _ e2
theorem TabOk.at1 {ln cl : Int} {qual : Str} {ps : Array Value} {h : Heap} (x : TabOk ln cl qual ps h) : ∀ q t, ps[1]? ≠ some (.str q t) := by
  rcases x with rfl | ⟨c, rfl, _⟩
  · intro q t e; cases e
  · intro q t e
    have e' : some (rawInt cl) = some (Value.str q t) := e
    simp [rawInt] at e'
theorem TabOk.but {ln cl : Int} {qual : Str} {ps qs : Array Value} {h h' : Heap} {P : Addr} (x : TabOk ln cl qual ps h) (hP : h.get? P = some (tabObj qs)) (hqs : ∀ q t, qs[1]? ≠ some (.str q t)) (hk : ∀ b o, b ≠ P → h.get? b = some o → h'.get? b = some o) : TabOk ln cl qual ps h' := by
  rcases x with h0 | ⟨c, e, r⟩
  · exact .inl h0
  · exact .inr ⟨c, e, codeRec_but r hP hqs hk⟩

section
variable {M : Model} {A : Around} {E : Value → Shared → Prop} {s : Shared} {h₀ : Heap} {L a c P : Addr} {m mg mb : Str → Option Value} {cn : Str} {cs : Scope} {ccd : Value} {cl : List (Str × Addr)} {news : List (Addr × Obj)} {g : Obj → List (Addr × Obj)}
  {p : Program} {loose : List Str} {mean : ExcName → Option Value} {name : Str} {params : Arguments} {body : List Stmt} {scope : Scope} {ps : Array Value} {pos : Pos} {clos : List (Str × Addr)} {qual : Str}
theorem nestDef_join {Q : Flow → Shared → Prop} (F : Fr h₀ L s.heap m) (N : News h₀ L s.heap news) (T : Top p loose mean mg mb h₀) (C : CodeHd h₀ c P) (hcd : ccd = .ref c) (U : UpdF P (tabObj ps) news g) (ht : TabOk pos.line pos.col qual ps h₀)
    (hq : qualnameIn (envX cn cs L a ccd cl) name name = qual) (hd0 : params.defaults = []) (hk0 : params.kw_defaults = []) (ha : annTrees params none (envX cn cs L a ccd cl) = []) (hcl : closureFor scope (envX cn cs L a ccd cl) = pure clos)
    (h : ∀ f d od c' ctv doc h' tk, Fr h₀ L h' m → News h₀ L h' ((f, fnMade name qual params body scope clos doc ((mg "__name__").getD .none) c' ctv) :: (d, od) :: g (tabObj #[rawInt pos.line, rawInt pos.col, .ref c'])) → (∀ q ∈ news, q.1 < d) → d ≤ f → CodeNew pos.line pos.col ps d od c' qual →
      wpAny M A (storeName (envX cn cs L a ccd cl) name (.ref f)) (fun _ s'' => Q .next s'') E { s with heap := h', toks := tk }) :
    wpAny M A (exec (.FunctionDef name params body [] none [] scope none name pos) (envX cn cs L a ccd cl)) Q E s := by
  refine nestDef_K hd0 hk0 ha ?_
  subst hq
  rcases ht with rfl | ⟨c', rfl, _⟩
  · refine nest_K F N T C hcd U trivial rfl hcl fun f c' oc vs t ctv doc h' tk F' N' hd hv hl1 hl2 => ?_
    exact h f c' oc c' ctv doc h' tk F' (by simpa using N') hl1 (Nat.le_of_lt hl2) (.inr ⟨rfl, vs, t, hd, hv⟩)
  · obtain ⟨pre, post, e0, hg, _, _⟩ := U.split
    have hmem : (P, tabObj #[rawInt pos.line, rawInt pos.col, .ref c']) ∈ news := by rw [e0]; exact List.mem_append_right _ (.head _)
    refine nestHit_K F N T C hcd hmem (by simp [TriplesOk, rawInt]) (c' := c') (by simp [codeAmong, rawInt]) hcl fun f ctv doc h' tk F' N' hl => ?_
    refine h f f (fnMade name (qualnameIn (envX cn cs L a ccd cl) name name) params body scope clos doc ((mg "__name__").getD .none) c' ctv) c' ctv doc h' tk F' (fun q hq => ?_) hl (Nat.le_refl _) (.inl rfl)
    rcases List.mem_cons.mp hq with rfl | hq
    · exact N' _ (.head _)
    rcases List.mem_cons.mp hq with rfl | hq
    · exact N' _ (.head _)
    · rw [hg, ← e0] at hq
      exact N' _ (.tail _ hq)
end
def qual1 : Str := (Str.ofString "_int2digits" ++ ".<locals>.") ++ Str.ofString "inner"
def qual2 : Str := (Str.ofString "_digits2int" ++ ".<locals>.") ++ Str.ofString "inner"
/-- what a call leaves of a code table -/
def MadeTab (P : Addr) (ln cl : Int) (qual : Str) (ps : Array Value) (h h' : Heap) (d : Addr) (od : Obj) (c : Addr) : Prop :=
  h.objs.size ≤ d ∧ h'.get? d = some od ∧ h'.get? P = some (tabObj #[rawInt ln, rawInt cl, .ref c]) ∧ CodeNew ln cl ps d od c qual
theorem TabOk.keeps {ln cl : Int} {qual : Str} {ps : Array Value} {h h' : Heap} (x : TabOk ln cl qual ps h) (hk : ∀ b o, h.get? b = some o → h'.get? b = some o) : TabOk ln cl qual ps h' :=
  x.imp id fun ⟨c, e, r⟩ => ⟨c, e, r.keeps hk⟩
/-- a new object onto the ledger -/
theorem news_new {h₀ h h' : Heap} {L r : Addr} {o : Obj} {m : Str → Option Value} {news : List (Addr × Obj)} (F : Fr h₀ L h m) (hr : h.objs.size ≤ r) (ho : h'.get? r = some o) (N' : News h₀ L h' news) : News h₀ L h' ((r, o) :: news) := fun q hq => by
  have Llt := F.ns.lt
  rcases List.mem_cons.mp hq with rfl | hq
  · exact ⟨ho, Nat.ne_of_gt (Nat.lt_of_lt_of_le Llt hr), Heap.get?_none_of_le (Nat.le_trans F.above (Nat.le_trans (Nat.le_of_lt Llt) hr))⟩
  · exact N' q hq

end
/-! part I2 -/
section
open PySem PySem.W PyProof.Rows
theorem flushI2 {prog : Program} {w : World} {A : Around} {E : Value → Shared → Prop} {s : Shared} {t u : Tok} {Q : Value → Shared → Prop} (h : wpAny (model prog w) A (binaryOp .Mult (.int 1 t) (.int 1 u)) Q E s) : wpAny (model prog w) A (binaryOp .Mult (.int 1 t) (.int 1 u)) Q E s := by
  first
  | (walk1; fail)
  | exact h
end
section
open PySem PySem.W PySem.Spec PySem.Calls PyProof.Rows
local macro_rules | `(tactic| k_room) => `(tactic| ktr_room)

abbrev RCon (prog : Program) (w : World) (f : Addr) (vs : List Value) (d : Nat) (mu : List (Addr × Obj)) (Pre : Heap → Prop) (P : Heap → Value → Heap → Prop) : Prop :=
  PySem.Challenge.rw_oy0173_01 = PySem.Challenge.rw_oy0173_01 → ∀ (loose : List Str) (mean : ExcName → Option Value) (mg mb : Str → Option Value) (dp un : Nat) (gd : Option (List Code)) (cn : Str) (cs : Scope) (a : Addr) (ccd : Value) (cl : List (Str × Addr)) (outer : List Env) (A₀ : Around) (base h₀ : Heap) (L : Addr) (m : Str → Option Value) (s : Shared) (Q E : Value → Shared → Prop),
    Below A₀ base outer h₀ → Fr h₀ L s.heap m → (hd.heap_39 w.params).In h₀ → News h₀ L s.heap mu → Top topProg loose mean mg mb h₀ → cs.kind = .function → CodeHd base 95 91 → CodeHd base 88 84 →
    dp + d < recursionLimit → un + 8 * d < cLine → Pre s.heap →
    (∀ v h' tk', (∀ b o, b ∉ mu.map (·.1) → s.heap.get? b = some o → h'.get? b = some o) → s.heap.objs.size ≤ h'.objs.size → P s.heap v h' → Q v { s with heap := h', toks := tk' }) →
    wpAny (model prog w) (ktrTop dp un gd cn cs L a ccd cl outer) (call (.ref f) vs) Q E s


theorem foldl_rep (v : Value) : ∀ k (acc : Array Value), List.foldl (fun x1 x2 => x1 ++ x2) acc (List.replicate k #[v]) = acc ++ (List.replicate k v).toArray
  | 0, acc => by simp
  | k + 1, acc => by
    rw [List.replicate_succ, List.foldl_cons, foldl_rep v k, List.replicate_succ]
    apply Array.toList_inj.mp
    simp
theorem ints_rep (n : Int) (t : Tok) : ∀ k, IntsAre (List.replicate k (.int n t)) (List.replicate k n)
  | 0 => .nil
  | k + 1 => by rw [List.replicate_succ, List.replicate_succ]; exact .cons _ _ (ints_rep n t k)

/-- how many digits -/
def nDigs (a n : Int) : Nat := (Int.fdiv ((Builtin.Int.intBits a : Int) + n - 1) n).toNat
theorem nDigs_mul {a n : Int} (hn : 0 < n) : (Builtin.Int.intBits a : Int) ≤ n * (nDigs a n : Int) := by
  have h1 : (nDigs a n : Int) = ((Builtin.Int.intBits a : Int) + n - 1) / n := by
    unfold nDigs
    rw [Int.fdiv_eq_ediv_of_nonneg _ (Int.le_of_lt hn)]
    exact Int.toNat_of_nonneg (Int.ediv_nonneg (by omega) (Int.le_of_lt hn))
  rw [h1]
  have h2 := Int.mul_ediv_add_emod ((Builtin.Int.intBits a : Int) + n - 1) n
  have h3 := Int.emod_lt_of_pos ((Builtin.Int.intBits a : Int) + n - 1) hn
  omega
theorem lt_digs {a n : Int} (h0 : 0 ≤ a) (hn : 0 < n) : a < (2 ^ n.toNat) ^ nDigs a n := by
  have h1 := intBits_le_iff.mp (Nat.le_refl (Builtin.Int.intBits a))
  have h2 := nDigs_mul (a := a) hn
  have h3 : Builtin.Int.intBits a ≤ n.toNat * nDigs a n := by
    have e : ((n.toNat * nDigs a n : Nat) : Int) = n * (nDigs a n : Int) := by
      rw [Int.natCast_mul, Int.toNat_of_nonneg (Int.le_of_lt hn)]
    omega
  have h4 : a.natAbs < 2 ^ (n.toNat * nDigs a n) := Nat.lt_of_lt_of_le h1 (Nat.pow_le_pow_right (by decide) h3)
  have e : ((2 : Int) ^ n.toNat) ^ nDigs a n = ((2 ^ (n.toNat * nDigs a n) : Nat) : Int) := by rw [← Int.pow_mul]; push_cast; rfl
  rw [e]
  omega
theorem nDigs_pos {a n : Int} (ha : a ≠ 0) (hn : 0 < n) : 0 < nDigs a n := by
  have h2 := nDigs_mul (a := a) hn
  rcases Nat.eq_zero_or_pos (nDigs a n) with h | h
  · rw [h] at h2
    have h3 : Builtin.Int.intBits a ≤ 0 := by omega
    have := intBits_le_iff.mp h3
    omega
  · exact h
theorem nDigs_zero {n : Int} (hn : 0 < n) : nDigs 0 n = 0 := by
  unfold nDigs
  rw [Int.fdiv_eq_ediv_of_nonneg _ (Int.le_of_lt hn)]
  have e : ((Builtin.Int.intBits 0 : Nat) : Int) = 0 := rfl
  rw [e, Int.ediv_eq_zero_of_lt (by omega) (by omega)]
  rfl
theorem codeAt_out {g h : Heap} {as : List Addr} {d : Addr} {od : Obj} {c : Addr} {qual : Str} (x : CodeAt g d od c qual) (hg : g = hideAll h as) : CodeAt h d od c qual :=
  x.imp (fun r => r.keeps fun b o q => of_hideAll _ (hg ▸ q)) id

theorem rep_list {prog : Program} {w : World} {A : Around} {E : Value → Shared → Prop} {s : Shared} {h₀ : Heap} {L l : Addr} {m : Str → Option Value} {news : List (Addr × Obj)} {v : Value} {x : Int} {u : Tok} {k : Nat} {Q : Value → Shared → Prop}
    (F : Fr h₀ L s.heap m) (N : News h₀ L s.heap ((l, W.listOf #[v] 0) :: news)) (hx : x = (k : Int)) (hk : k ≤ 1000)
    (h : ∀ la h', Fr h₀ L h' m → News h₀ L h' ((la, W.listOf (List.replicate k v).toArray 0) :: news) → (∀ q ∈ news, q.1 < la) → Q (.ref la) { s with heap := h' }) : wpAny (model prog w) A (binaryOp .Mult (.ref l) (.int x u)) Q E s := by
  subst hx
  refine mul_list F N (N _ (.head _)).1 (by omega) (by omega) (by rw [Int.toNat_natCast]; simp; omega) fun h4 F4 N4 => ?_
  rw [if_neg (by simp), foldl_rep, Array.empty_append, Int.toNat_natCast] at N4
  refine h _ h4 F4 (fun q hq => ?_) fun q hq => Heap.lt_size (N q (.tail _ hq)).1
  rcases List.mem_cons.mp hq with rfl | hq
  · exact N4 _ (.head _)
  · exact N4 _ (.tail _ (.tail _ hq))
theorem digs_nil {B : Int} : DigsOk B [] := fun _ h => nomatch h
theorem use_key {P Q : Prop} (p : P) (h : P → Q) : Q := h p

theorem i2d_c (prog : Program) (w : World) (a n : Int) (ta tn : Tok) (ps : Array Value) (h0 : 0 ≤ a) (hn : 0 < n) (hn2 : n ≤ 30) (hk30 : nDigs a n ≤ 30) :
    RCon prog w 89 [.int a ta, .int n tn] 40 [(84, tabObj ps)] (TabOk 74 4 qual1 ps) (fun h v h' => ∃ la vs ds d od c, v = .ref la ∧ h.objs.size ≤ la ∧ h'.get? la = some (W.listOf (List.toArray vs) 0) ∧ IntsAre vs ds ∧ ds.length ≤ 30 ∧ DigsOk (2 ^ n.toNat) ds ∧ valD (2 ^ n.toNat) ds = a ∧ MadeTab 84 74 4 qual1 ps h h' d od c ∧ d ≠ la) := by
  unfold RCon
  w_top off
  k_fill
  intro _ loose mean mg mb dp un gd cn cs ad ccd cl outer A₀ base h₀ L m s Q E B F X N T hk c1 c2 hdp hun hpre hret
  refine' use_key (inner1 prog w rfl ?look) ?_
  case look => k_is
  intro hfn
  have hP := (N _ (.head _)).1
  have tg : TabOk 74 4 qual1 ps (hideAll s.heap [84]) := hpre.but hP hpre.at1 fun b o hb q => hideAll_get _ q (by simpa using hb)
  refine wpAny_call ?_
  k_dflt (refine' enterHC ?k1 ?k2 ?k3 ?k4 ?k5 ?kA ?kF ?kK ?k6 ?k7 ?k8 ?k9 ?kB ?kD ?_ ?c2 ?c3 ?c4; (case kA => exact rfl); (case kF => exact rfl); (case kK => assumption); (case k1 => k_asm); (case k2 => k_asm); (case k3 => k_asm); (case k4 => k_asm); (case k5 => k_asm); (case k6 => k_is); (case k7 => k_is); (case k8 => exact room_0 hdp); (case k9 => exact BindsTo.of_eq rfl); (case kB => exact rfl); (case kD => decide +kernel); (case c2 => exact rfl); (case c3 => exact rfl); (case c4 => exact rfl); k_whole)
  intro g' L' h' tk' cells' hg' F' N' Y' B' X' T' l1'
  k_cells Y'
  k_lt l1'
  simp only [List.cons_append, List.nil_append] at N'
  rw [show hideAll s.heap [84] = g' from hg'.symm] at tg
  clear B F X T N
  dsimp only
  try k_fold
  k_steps
  rename News _ _ _ _ => N3
  rename Fr _ _ _ _ => F3
  have hkI : Int.fdiv ((Builtin.Int.intBits a : Int) + n - 1) n = (nDigs a n : Int) := by
    unfold nDigs
    rw [Int.fdiv_eq_ediv_of_nonneg _ (Int.le_of_lt hn)]
    exact (Int.toNat_of_nonneg (Int.ediv_nonneg (by omega) (Int.le_of_lt hn))).symm
  refine rep_list F3 N3 hkI (by omega) fun la h4 F4 N4 lt4 => ?_
  k_lt lt4
  clear N3 F3
  k_steps
  rename News _ _ _ _ => N5
  rename Fr _ _ _ _ => F5
  refine' nestDef_join (ps := ps) (qual := qual1) (c := 88) (P := 84) F5 N5 T' (c2.keeps B'.stays) rfl ?U tg rfl rfl rfl rfl ?hcl ?_
  case U => k_updF
  case hcl => exact rfl
  intro f d od c' ctv doc h6 tk6 F6 N6 hl1 hl2 hca
  clear F5 N5
  k_lt hl1
  replace hl2 : @LE.le Nat _ d f := hl2
  dsimp only at N6
  k_steps
  · rename News _ _ _ _ => N7
    rename Fr _ _ _ _ => F7
    refine len_list (News.isList N7 (by k_mem)) (by simp; omega) ?_
    k_steps
    rename News _ _ _ _ => N7
    rename Fr _ _ _ _ => F7
    have hpos := nDigs_pos (a := a) (by assumption) hn
    refine hfn f la (L' + 1) (L' + 1 + 1) (L' + 1 + 1 + 1) doc ((mg "__name__").getD .none) c' ctv qual1 n tn hn hn2 30 a 0 _ _ _ _ [] (List.replicate (nDigs a n) 0) [] (List.replicate (nDigs a n) (.int 0 tk')) 0 _ _ _ _ _ _ _ _ _ _ _ _ _ _ _ _ _ B' F7 X' ?Nla T' rfl rfl ?clo (by simpa using ints_rep 0 tk' (nDigs a n)) rfl (by simp) (by simpa using hpos) (by simpa using hk30) (by simpa using hk30) h0 (by rw [List.length_replicate]; exact lt_digs h0 hn) (room_d hdp (by decide)) (room_u hun (by decide)) ?_
    case Nla => exact List.forall_mem_cons.mpr ⟨N7 _ (by k_mem), List.forall_mem_nil _⟩
    case clo => exact ⟨News.get (a := f) N7 (by k_mem), ⟨_, News.get (a := L' + 1) N7 (by k_mem), by assumption⟩, ⟨_, News.get (a := L' + 1 + 1) N7 (by k_mem), by assumption⟩, ⟨_, News.get (a := L' + 1 + 1 + 1) N7 (by k_mem), by assumption⟩, (hca.at tg).rec F7.keep (News.get (a := d) N7 (by k_mem))⟩
    intro vs' new h8 tk8 hk8 hs8 hl8 hi8 hnl8 hd8 hv8
    obtain ⟨F8, N8⟩ := upd_kept F7 N7 (by k_updF) hk8 hl8
    clear F7 N7
    k_steps
    rename News _ _ _ _ => N9
    rename Fr _ _ _ _ => F9
    dsimp only
    have hsz := size_of hg' F9
    rw [List.nil_append, List.append_nil] at hi8
    rw [List.length_replicate] at hnl8
    exact hret _ _ _ (fun b o hb q => kept_of hg' F9 b o hb q) hsz.2 ⟨la, vs', new, d, od, c', rfl, (by first | exact sz3 hsz.1 (by with_reducible assumption) | exact sz4 hsz.1 (by with_reducible assumption) (by with_reducible assumption) | omega), News.get (a := la) N9 (by k_mem), hi8, by omega, hd8, hv8, ⟨(by first | exact sz3 hsz.1 (by with_reducible assumption) | exact sz4 hsz.1 (by with_reducible assumption) (by with_reducible assumption) | omega), News.get (a := d) N9 (by k_mem), News.get (a := 84) N9 (by k_mem), hca⟩, by k_ne⟩
  · rename News _ _ _ _ => N9
    rename Fr _ _ _ _ => F9
    dsimp only
    have hsz := size_of hg' F9
    have ha : a = 0 := by assumption
    have hz : nDigs a n = 0 := by rw [ha]; exact nDigs_zero hn
    rw [hz] at N9
    exact hret _ _ _ (fun b o hb q => kept_of hg' F9 b o hb q) hsz.2 ⟨la, [], [], d, od, c', rfl, (by first | exact sz3 hsz.1 (by with_reducible assumption) | exact sz4 hsz.1 (by with_reducible assumption) (by with_reducible assumption) | omega), News.get (a := la) N9 (by k_mem), .nil, by simp, digs_nil, ha.symm, ⟨(by first | exact sz3 hsz.1 (by with_reducible assumption) | exact sz4 hsz.1 (by with_reducible assumption) (by with_reducible assumption) | omega), News.get (a := d) N9 (by k_mem), News.get (a := 84) N9 (by k_mem), hca⟩, by k_ne⟩

end
/-! part D2 -/
section
open PySem PySem.W PyProof.Rows
theorem flushD2 {prog : Program} {w : World} {A : Around} {E : Value → Shared → Prop} {s : Shared} {t u : Tok} {Q : Value → Shared → Prop} (h : wpAny (model prog w) A (binaryOp .Mult (.int 1 t) (.int 1 u)) Q E s) : wpAny (model prog w) A (binaryOp .Mult (.int 1 t) (.int 1 u)) Q E s := by
  first
  | (walk1; fail)
  | exact h
end
section
open PySem PySem.W PySem.Spec PySem.Calls PyProof.Rows
local macro_rules | `(tactic| k_room) => `(tactic| ktr_room)


theorem d2i_c (prog : Program) (w : World) (lq : Addr) (n : Int) (tn : Tok) (ps : Array Value) (vs : List Value) (ds : List Int) (hi : IntsAre vs ds) (hds : DigsOk (2 ^ n.toNat) ds) (h30 : ds.length ≤ 30) (hn : 0 < n) (hn2 : n ≤ 30) :
    RCon prog w 96 [.ref lq, .int n tn] 40 [(91, tabObj ps)] (fun h => TabOk 89 4 qual2 ps h ∧ h.IsList lq vs.toArray) (fun h v h' => ∃ t d od c, v = .int (valD (2 ^ n.toNat) ds) t ∧ MadeTab 91 89 4 qual2 ps h h' d od c) := by
  unfold RCon
  w_top off
  k_fill
  intro _ loose mean mg mb dp un gd cn cs ad ccd cl outer A₀ base h₀ L m s Q E B F X N T hk c1 c2 hdp hun hpre hret
  obtain ⟨hpre, hl⟩ := hpre
  refine' use_key (inner2 prog w rfl ?look) ?_
  case look => k_is
  intro hfn
  have hP := (N _ (.head _)).1
  have tg : TabOk 89 4 qual2 ps (hideAll s.heap [91]) := hpre.but hP hpre.at1 fun b o hb q => hideAll_get _ q (by simpa using hb)
  have hlg : (hideAll s.heap [91]).IsList lq vs.toArray := by
    obtain ⟨o, ho, hc, r⟩ := hl
    refine ⟨o, hideAll_get _ ho (fun q => ?_), hc, r⟩
    rw [List.mem_singleton.mp q, hP] at ho
    cases ho
    cases hc
  refine wpAny_call ?_
  k_dflt (refine' enterHC ?k1 ?k2 ?k3 ?k4 ?k5 ?kA ?kF ?kK ?k6 ?k7 ?k8 ?k9 ?kB ?kD ?_ ?c2 ?c3 ?c4; (case kA => exact rfl); (case kF => exact rfl); (case kK => assumption); (case k1 => k_asm); (case k2 => k_asm); (case k3 => k_asm); (case k4 => k_asm); (case k5 => k_asm); (case k6 => k_is); (case k7 => k_is); (case k8 => exact room_0 hdp); (case k9 => exact BindsTo.of_eq rfl); (case kB => exact rfl); (case kD => decide +kernel); (case c2 => exact rfl); (case c3 => exact rfl); (case c4 => exact rfl); k_whole)
  intro g' L' h' tk' cells' hg' F' N' Y' B' X' T' l1'
  k_cells Y'
  k_lt l1'
  simp only [List.cons_append, List.nil_append] at N'
  rw [show hideAll s.heap [91] = g' from hg'.symm] at tg hlg
  clear B F X T N hl
  dsimp only
  try k_fold
  k_steps
  rename News _ _ _ _ => N5
  rename Fr _ _ _ _ => F5
  refine' nestDef_join (ps := ps) (qual := qual2) (c := 95) (P := 91) F5 N5 T' (c1.keeps B'.stays) rfl ?U tg rfl rfl rfl rfl ?hcl ?_
  case U => k_updF
  case hcl => exact rfl
  intro f d od c' ctv doc h6 tk6 F6 N6 hl1 hl2 hca
  clear F5 N5
  k_lt hl1
  replace hl2 : @LE.le Nat _ d f := hl2
  dsimp only at N6
  k_steps
  · rename News _ _ _ _ => N7
    rename Fr _ _ _ _ => F7
    have hpos : 0 < ds.length := by assumption
    refine hfn f lq (L' + 1 + 1) (L' + 1) (L' + 1 + 1 + 1) doc ((mg "__name__").getD .none) c' ctv qual2 n tn hn hn2 30 0 _ _ _ [] ds [] vs _ _ _ _ _ _ _ _ _ _ _ _ _ _ _ _ _ B' F7 X' T' rfl rfl ?clo (hlg.at fun o q => F7.keep _ o q) (by simpa using hi) rfl (by simp) hpos h30 (by simpa using h30) hds (room_d hdp (by decide)) (room_u hun (by decide)) ?_
    case clo => exact ⟨News.get (a := f) N7 (by k_mem), ⟨_, News.get (a := L' + 1 + 1) N7 (by k_mem), by assumption⟩, ⟨_, News.get (a := L' + 1) N7 (by k_mem), by assumption⟩, ⟨_, News.get (a := L' + 1 + 1 + 1) N7 (by k_mem), by assumption⟩, (hca.at tg).rec F7.keep (News.get (a := d) N7 (by k_mem))⟩
    intro t8 h8 tk8 hk8 hs8
    obtain ⟨F9, N9⟩ := all_kept F7 N7 hk8
    clear F7 N7
    dsimp only
    have hsz := size_of hg' F9
    exact hret _ _ _ (fun b o hb q => kept_of hg' F9 b o hb q) hsz.2 ⟨t8, d, od, c', rfl, ⟨(by first | exact sz3 hsz.1 (by with_reducible assumption) | exact sz4 hsz.1 (by with_reducible assumption) (by with_reducible assumption) | omega), News.get (a := d) N9 (by k_mem), News.get (a := 91) N9 (by k_mem), hca⟩⟩
  · rename News _ _ _ _ => N9
    rename Fr _ _ _ _ => F9
    dsimp only
    have hsz := size_of hg' F9
    have hz : ds = [] := List.eq_nil_of_length_eq_zero (by have : ¬ 0 < ds.length := by assumption
                                                           omega)
    rw [hz] at hret
    exact hret _ _ _ (fun b o hb q => kept_of hg' F9 b o hb q) hsz.2 ⟨_, d, od, c', rfl, ⟨(by first | exact sz3 hsz.1 (by with_reducible assumption) | exact sz4 hsz.1 (by with_reducible assumption) (by with_reducible assumption) | omega), News.get (a := d) N9 (by k_mem), News.get (a := 91) N9 (by k_mem), hca⟩⟩

end
/-! part DP0 -/
section
open PySem PySem.W PyProof.Rows
theorem flushDP0 {prog : Program} {w : World} {A : Around} {E : Value → Shared → Prop} {s : Shared} {t u : Tok} {Q : Value → Shared → Prop} (h : wpAny (model prog w) A (binaryOp .Mult (.int 1 t) (.int 1 u)) Q E s) : wpAny (model prog w) A (binaryOp .Mult (.int 1 t) (.int 1 u)) Q E s := by
  first
  | (walk1; fail)
  | exact h
end
section
open PySem PySem.W PySem.Spec PySem.Calls PyProof.Rows

/-- a new object onto the ledger, behind a call that kept all else -/
theorem add_kept {h₀ h h' : Heap} {L r : Addr} {o : Obj} {m : Str → Option Value} {news : List (Addr × Obj)} (F : Fr h₀ L h m) (N : News h₀ L h news)
    (hk : ∀ b ob, h.get? b = some ob → h'.get? b = some ob) (hr : h.objs.size ≤ r) (ho : h'.get? r = some o) : Fr h₀ L h' m ∧ News h₀ L h' ((r, o) :: news) ∧ ∀ q ∈ news, q.1 < r := by
  obtain ⟨F', N'⟩ := all_kept F N hk
  have Llt := F.ns.lt
  refine ⟨F', fun q hq => ?_, fun q hq => Nat.lt_of_lt_of_le (Heap.lt_size (N q hq).1) hr⟩
  rcases List.mem_cons.mp hq with rfl | hq
  · exact ⟨ho, Nat.ne_of_gt (Nat.lt_of_lt_of_le Llt hr), Heap.get?_none_of_le (Nat.le_trans F.above (Nat.le_trans (Nat.le_of_lt Llt) hr))⟩
  · exact N' q hq

abbrev dpM (a b n : Int) (ta tb tn tr : Tok) (la lq : Addr) (r : Int) (vq vd : Option Value) : Str → Option Value := fun y =>
  if y = Str.ofString "a_digit" then vd else if y = Str.ofString "q_digit" then vq else if y = Str.ofString "r" then some (.int r tr) else if y = Str.ofString "q_digits" then some (.ref lq) else if y = Str.ofString "a_digits" then some (.ref la) else
  if y = Str.ofString "n" then some (.int n tn) else if y = Str.ofString "b" then some (.int b tb) else if y = Str.ofString "a" then some (.int a ta) else none

def DpEnd (g : Heap) (L : Addr) (s : Shared) (a b n : Int) (ta tb tn : Tok) (la lq I : Addr) (oI : Obj) (oA : Obj) (qs : List Value) (rest : List (Addr × Obj)) (q' r' : Int) (f : Flow) (s₄ : Shared) : Prop :=
  f = .next ∧ ∃ h' tk' tr' tq vq' vd' nn', s₄ = { s with heap := h', toks := tk' } ∧ Fr g L h' (dpM a b n ta tb tn tr' la lq r' vq' vd') ∧ News g L h' ((I, oI) :: (la, oA) :: (lq, W.listOf (List.toArray (qs ++ [Value.int q' tq])) nn') :: rest)

theorem ints_snoc : ∀ {vs : List Value} {ns : List Int} {n : Int} {t : Tok}, IntsAre vs ns → IntsAre (vs ++ [.int n t]) (ns ++ [n])
  | _, _, _, _, .nil => .cons _ _ .nil
  | _, _, _, _, .cons x t h => .cons x t (ints_snoc h)

section
variable {prog : Program} {w : World} {A : Around} {E : Value → Shared → Prop} {s : Shared} {env : Env} {x : Str} {px : Pos} {body : List Stmt} {Q : Flow → Shared → Prop} {g : Heap} {L la lq I : Addr} {a b n B : Int} {ta tb tn : Tok} {vs : List Value} {ds : List Int} {rest : List (Addr × Obj)}

theorem dp_loop (hE : PassesOwn (model prog w) A env E) (hh : A.handled = none) (hi : IntsAre vs ds) (hB : 0 < B) (hb : 0 < b) (hbB : b ≤ B) (hds : DigsOk B ds) (hoff : ∀ o o' : Obj, ∀ p ∈ (la, o) :: (lq, o') :: rest, p.1 ≠ I)
    (turn : ∀ (d r : Int) (td tr : Tok) (qs : List Value) (nn : Nat) (vq vd : Option Value) (oI : Obj) (h : Heap) (tk : Nat), 0 ≤ d → d < B → 0 ≤ r → r < b → qs.length ≤ 30 → Fr g L h (dpM a b n ta tb tn tr la lq r vq vd) → News g L h ((I, oI) :: (la, W.listOf vs.toArray 0) :: (lq, W.listOf qs.toArray nn) :: rest) →
      wpAny (model prog w) A (assign (.Name x px) env (.int d td)) (fun _ s₃ => wpAny (model prog w) A (execs body env) (DpEnd g L s a b n ta tb tn la lq I oI (W.listOf vs.toArray 0) qs rest ((r * B + d) / b) ((r * B + d) % b)) E s₃) E { s with heap := h, toks := tk })
    (hlen : ds.length ≤ 30)
    (fin : ∀ (r : Int) (tr : Tok) (qs : List Value) (qds : List Int) (nn : Nat) (vq vd : Option Value) (h : Heap) (tk : Nat), 0 ≤ r → r < b → IntsAre qs qds → DigsOk B qds → qds.length = ds.length → valD B qds.reverse * b + r = valD B ds → Fr g L h (dpM a b n ta tb tn tr la lq r vq vd) →
      News g L h ((la, W.listOf vs.toArray 0) :: (lq, W.listOf qs.toArray nn) :: rest) → Q .next { s with heap := h, toks := tk }) :
    ∀ (i : Nat) (r : Int) (tr : Tok) (qs : List Value) (qds : List Int) (nn : Nat) (vq vd : Option Value) (oI : Obj) (h : Heap) (tk : Nat), i ≤ ds.length → 0 ≤ r → r < b → IntsAre qs qds → DigsOk B qds → qds.length = ds.length - i → valD B qds.reverse * b + r = valD B (ds.drop i) →
      Fr g L h (dpM a b n ta tb tn tr la lq r vq vd) → News g L h ((I, oI) :: (la, W.listOf vs.toArray 0) :: (lq, W.listOf qs.toArray nn) :: rest) → oI.cls = .type "list_reverseiterator" → oI.data = .fields #[.ref la, rawInt ((i : Int) - 1)] →
      FGo prog w A E env (.Name x px) body [] Q (.ref I) { s with heap := h, toks := tk } := by
  have hvl : vs.length = ds.length := hi.length
  intro i
  induction i with
  | zero =>
    intro r tr qs qds nn vq vd oI h tk hle r0 r1 hqs hqd hql hv F N hc hd
    have hm := N (I, oI) (.head _)
    refine fgo_turn hE (wpAny_pyNext_rev_end (l := la) hh ⟨oI, hm.1, hc, by simpa using hd⟩ fun h' hs => ?_)
    refine wpAny_execs_nil (fin r tr qs qds nn vq vd h' tk r0 r1 hqs hqd (by simpa using hql) (by simpa using hv) (fr_but1 F (fun b' ob hb' e => hs b' ob hb' e) hm.2.1 hm.2.2) (news_but1 (fun p hp => N p (.tail _ hp)) (fun b' ob hb' e => hs b' ob hb' e) (hoff _ _)))
  | succ i ih =>
    intro r tr qs qds nn vq vd oI h tk hle r0 r1 hqs hqd hql hv F N hc hd
    have hm := N (I, oI) (.head _)
    have hA := (N (la, W.listOf vs.toArray 0) (.tail _ (.head _))).1
    obtain ⟨td, hx⟩ := hi.get i (ds[i]'(by omega)) (by simp)
    have e1 : ((i + 1 : Nat) : Int) - 1 = (i : Int) := by omega
    rw [e1] at hd
    refine fgo_turn hE (wpAny_pyNext_rev_item (l := la) (i := i) (items := vs.toArray) (x := .int (ds[i]'(by omega)) td) ⟨oI, hm.1, hc, hd⟩ ⟨_, hA, rfl, _, rfl⟩ (by simpa using hx) fun h' hit hs => ?_)
    obtain ⟨oI', q1, q2, q3⟩ := hit
    obtain ⟨F', N'⟩ := upd_news (g := fun o' => (I, o') :: (la, W.listOf vs.toArray 0) :: (lq, W.listOf qs.toArray nn) :: rest) F N (.head (hoff _ _)) hs q1
    have hdi := hds (ds[i]'(by omega)) (List.getElem_mem _)
    show wpAny _ _ (letOwnedTupleGo _ _ _) _ _ _
    refine wpAny_pure ?_
    refine wpAny_mono (turn (ds[i]'(by omega)) r td tr qs nn vq vd oI' h' tk hdi.1 hdi.2 r0 r1 (by rw [hqs.length]; omega) F' N') (fun _ s₃ h₃ => wpAny_mono h₃ (fun f s₄ h₄ => ?_) fun _ _ q => q) fun _ _ q => q
    obtain ⟨rfl, h'', tk'', tr', tq, vq', vd', nn', rfl, F'', N''⟩ := h₄
    have hmod := Int.emod_nonneg (r * B + ds[i]) (Int.ne_of_gt hb)
    have hmod2 := Int.emod_lt_of_pos (r * B + ds[i]) hb
    have hdm := Int.mul_ediv_add_emod (r * B + ds[i]) b
    have hrB : 0 ≤ r * B := Int.mul_nonneg r0 (Int.le_of_lt hB)
    have hup : (r + 1) * B ≤ b * B := Int.mul_le_mul_of_nonneg_right r1 (Int.le_of_lt hB)
    refine ih ((r * B + ds[i]) % b) tr' (qs ++ [.int ((r * B + ds[i]) / b) tq]) (qds ++ [(r * B + ds[i]) / b]) nn' vq' vd' oI' h'' tk'' (by omega) hmod hmod2 (ints_snoc hqs) (hqd.append fun d hd => ?_) (by rw [List.length_append, hql]; simp; omega) ?_ F'' N'' q2 (by rw [q3])
    · rw [List.mem_singleton.mp hd]
      refine ⟨Int.ediv_nonneg (by omega) (Int.le_of_lt hb), Int.ediv_lt_of_lt_mul hb ?_⟩
      rw [Int.add_mul, Int.one_mul] at hup
      rw [Int.mul_comm B b]
      omega
    · have hdrop : ds.drop i = ds[i] :: ds.drop (i + 1) := List.drop_eq_getElem_cons (by omega)
      rw [hdrop, List.reverse_append]
      show ((r * B + ds[i]) / b + B * valD B qds.reverse) * b + (r * B + ds[i]) % b = ds[i] + B * valD B (ds.drop (i + 1))
      rw [← hv, Int.add_mul, Int.mul_add, Int.mul_assoc B, Int.mul_comm ((r * B + ds[i]) / b) b, Int.mul_comm B r]
      omega
end

end
/-! part DP -/
section
open PySem PySem.W PyProof.Rows
theorem flushDP {prog : Program} {w : World} {A : Around} {E : Value → Shared → Prop} {s : Shared} {t u : Tok} {Q : Value → Shared → Prop} (h : wpAny (model prog w) A (binaryOp .Mult (.int 1 t) (.int 1 u)) Q E s) : wpAny (model prog w) A (binaryOp .Mult (.int 1 t) (.int 1 u)) Q E s := by
  first
  | (walk1; fail)
  | exact h
end
section
open PySem PySem.W PySem.Spec PySem.Calls PyProof.Rows

local macro_rules | `(tactic| walk_at "exec For Name Call cons nil") => `(tactic| (k_here; with_unfolding_all (refine For_go ?_)))

/-- both code tables are as the calls want them -/
abbrev Tabs (p1 p2 : Array Value) (h : Heap) : Prop := TabOk 89 4 qual2 p1 h ∧ TabOk 74 4 qual1 p2 h
theorem tabs_hide {p1 p2 : Array Value} {h : Heap} (x : Tabs p1 p2 h) (h1 : h.get? 91 = some (tabObj p1)) (h2 : h.get? 84 = some (tabObj p2)) : Tabs p1 p2 (hideAll h [91, 84]) := by
  have go : ∀ {ln cl : Int} {qual : Str} {ps : Array Value}, TabOk ln cl qual ps h → TabOk ln cl qual ps (hideAll h [91, 84]) := by
    rintro ln cl qual ps (e | ⟨c, e, r⟩)
    · exact .inl e
    · refine .inr ⟨c, e, ?_⟩
      obtain ⟨c', o, vs, t, e0, g0, e1, e2⟩ := r
      cases e0
      refine ⟨c, o, vs, t, rfl, hideAll_get _ g0 fun q => ?_, e1, e2⟩
      rcases List.mem_cons.mp q with q | q
      · rw [q, h1] at g0; cases g0; cases e1; exact x.1.at1 _ _ e2
      · rw [List.mem_singleton.mp q, h2] at g0; cases g0; cases e1; exact x.2.at1 _ _ e2
  exact ⟨go x.1, go x.2⟩

def DivPost (q r : Int) (p1 p2 : Array Value) (h : Heap) (v : Value) (h' : Heap) : Prop :=
  ∃ rr t1 t2 d1 od1 c1 d2 od2 c2, v = .ref rr ∧ h.objs.size ≤ rr ∧ h'.get? rr = some (tup2 (.int q t1) (.int r t2)) ∧ MadeTab 91 89 4 qual2 p1 h h' d1 od1 c1 ∧ MadeTab 84 74 4 qual1 p2 h h' d2 od2 c2 ∧ d1 ≠ rr ∧ d2 ≠ rr ∧ d1 ≠ d2

local macro_rules | `(tactic| walk_at "binaryOp LShift int int") => `(tactic| (refine lshift_int_small ?_ ?_ ?_ ?_; omega; omega; omega))
theorem ints_rev : ∀ {vs : List Value} {ns : List Int}, IntsAre vs ns → IntsAre vs.reverse ns.reverse
  | _, _, .nil => .nil
  | _, _, .cons n t h => by rw [List.reverse_cons, List.reverse_cons]; exact ints_snoc (ints_rev h)
theorem news_re6 {g h : Heap} {L : Addr} {a b c d e f : Addr × Obj} (N : News g L h [a, b, c, d, e, f]) : News g L h [a, d, b, c, e, f] :=
  List.forall_mem_cons.mpr ⟨N _ (by k_mem), List.forall_mem_cons.mpr ⟨N _ (by k_mem), List.forall_mem_cons.mpr ⟨N _ (by k_mem), List.forall_mem_cons.mpr ⟨N _ (by k_mem), List.forall_mem_cons.mpr ⟨N _ (by k_mem), List.forall_mem_cons.mpr ⟨N _ (by k_mem), List.forall_mem_nil _⟩⟩⟩⟩⟩⟩

theorem dpos_c (prog : Program) (w : World) (a b : Int) (ta tb : Tok) (p1 p2 : Array Value) (h0 : 0 ≤ a) (hb : 0 < b) (hN : Builtin.Int.intBits b ≤ 30) (hk30 : nDigs a (Builtin.Int.intBits b) ≤ 30) :
    RCon prog w 103 [.int a ta, .int b tb] 60 [(91, tabObj p1), (84, tabObj p2)] (Tabs p1 p2) (DivPost (a / b) (a % b) p1 p2) := by
  unfold RCon
  w_top off
  k_fill
  intro _ loose mean mg mb dp un gd cn cs ad ccd cl outer A₀ base h₀ L m s Q E B F X N T hk c1 c2 hdp hun hpre hret
  have tg := tabs_hide hpre (N _ (.head _)).1 (N _ (.tail _ (.head _))).1
  refine wpAny_call ?_
  k_dflt (refine' enterH ?k1 ?k2 ?k3 ?k4 ?k5 ?kA ?kF ?kK ?k6 ?k7 ?k8 ?k9 ?kB ?_ ?c2 ?c3 ?c4 ?c5; (case kA => exact rfl); (case kF => exact rfl); (case kK => assumption); (case k1 => k_asm); (case k2 => k_asm); (case k3 => k_asm); (case k4 => k_asm); (case k5 => k_asm); (case k6 => k_is); (case k7 => k_is); (case k8 => exact room_0 hdp); (case k9 => exact BindsTo.of_eq rfl); (case c5 => decide); (case kB => exact locs rfl); (case c2 => exact rfl); (case c3 => exact rfl); (case c4 => exact rfl); k_whole)
  intro g' L' h' hg' F' N' B' X' T' l1'
  rw [show hideAll s.heap [91, 84] = g' from hg'.symm] at tg
  k_lt l1'
  clear B F X T N
  replace F' : Fr g' L' h' (fun y => List.lookup y [(Str.ofString "b", .int b tb), (Str.ofString "a", .int a ta)]) := F'
  have hb31 : b < 1073741824 := by
    have := intBits_le_iff.mp hN
    omega
  have hpos : 0 < Builtin.Int.intBits b := by
    rcases Nat.eq_zero_or_pos (Builtin.Int.intBits b) with q | q
    · have := intBits_le_iff.mp (Nat.le_of_eq q)
      omega
    · exact q
  dsimp only
  try k_fold
  k_steps
  rename News _ _ _ _ => N3
  rename Fr _ _ _ _ => F3
  refine i2d_c prog w a _ _ _ p2 h0 (by omega) (by omega) hk30 rfl _ _ _ _ _ _ _ _ _ _ _ _ _ _ _ _ _ _ _ _ _ B' F3 X' (List.forall_mem_cons.mpr ⟨N3 _ (by k_mem), List.forall_mem_nil _⟩) T' rfl c1 c2 (room_d hdp (by decide)) (room_u hun (by decide)) (tg.2.keeps F3.keep) ?_
  intro v h5 tk5 hk5 hs5 hpost
  obtain ⟨la, vs, ds, d2, od2, c2', rfl, hla, hl5, hi, hlen, hds, hval, ⟨hd2, hg2, h84, hca2⟩, hne⟩ := hpost
  obtain ⟨F5, N5⟩ := upd_kept F3 N3 (by k_updF) (fun b' ob hb' q => hk5 b' ob (by simpa using hb') q) h84
  have N6 := news_new F3 hd2 hg2 (news_new F3 hla hl5 N5)
  have lt3 := allLt_of (fun p hp => Nat.lt_of_lt_of_le (Heap.lt_size (N3 p hp).1) hla)
  have lt4 := allLt_of (fun p hp => Nat.lt_of_lt_of_le (Heap.lt_size (N3 p hp).1) hd2)
  repeat' (have hlHead := allLt_hd lt3; replace lt3 := allLt_tl lt3)
  repeat' (have hlHead := allLt_hd lt4; replace lt4 := allLt_tl lt4)
  replace hne := neN hne
  have hLd2 := ltN (Nat.lt_of_lt_of_le F3.ns.lt hd2)
  clear F3 N3 N5
  k_steps
  rename News _ _ _ _ => N7
  rename Fr _ _ _ _ => F7
  have hB : (0 : Int) < 2 ^ ((Builtin.Int.intBits b : Nat) : Int).toNat := Int.pow_pos (by decide)
  have hbB : b ≤ 2 ^ ((Builtin.Int.intBits b : Nat) : Int).toNat := by
    have h1 := intBits_le_iff.mp (Nat.le_refl (Builtin.Int.intBits b))
    have e : (2 : Int) ^ ((Builtin.Int.intBits b : Nat) : Int).toNat = ((2 ^ Builtin.Int.intBits b : Nat) : Int) := by rw [Int.toNat_natCast]; push_cast; rfl
    rw [e]
    omega
  obtain ⟨tn, tr, F7'⟩ : ∃ tn tr, Fr g' L' _ (dpM a b ((Builtin.Int.intBits b : Nat) : Int) ta tb tn tr la _ 0 none none) := ⟨_, _, fr_cong F7 (by (intro y; (by_cases c1 : y = Str.ofString "a_digit"; (subst c1; rfl)); (by_cases c2 : y = Str.ofString "q_digit"; (subst c2; rfl)); (by_cases c3 : y = Str.ofString "r"; (subst c3; rfl)); (by_cases c4 : y = Str.ofString "q_digits"; (subst c4; rfl)); (by_cases c5 : y = Str.ofString "a_digits"; (subst c5; rfl)); (by_cases c6 : y = Str.ofString "n"; (subst c6; rfl)); (by_cases c7 : y = Str.ofString "b"; (subst c7; rfl)); (by_cases c8 : y = Str.ofString "a"; (subst c8; rfl)); (simp +zetaDelta [dpM, List.lookup, beq_eq_false_iff_ne.mpr, *])))⟩
  refine wpAny_pyIter_revIter ⟨_, (N7 _ (.head _)).1, rfl, rfl⟩ ?_
  refine dp_loop (g := g') (L := L') (a := a) (b := b) (B := 2 ^ ((Builtin.Int.intBits b : Nat) : Int).toNat) ?hE rfl hi hB hb hbB hds ?hoff ?turn hlen ?fin ds.length 0 tr [] [] 0 none none _ _ _ (Nat.le_refl _) (Int.le_refl _) hb .nil digs_nil (by simp) (by simp [valD]) F7' (news_re6 N7) rfl (by rw [← hi.length]; rfl)
  case hE => first | passes_own | with_unfolding_all passes_own
  case hoff => exact fun _ _ => by k_all
  case turn =>
    intro d r td tr qs nn vq vd oI h tk hd0 hd1 hr0 hr1 hqs F8 N8
    clear F7 F7' N7
    k_steps
    rename News _ _ _ _ => N9
    rename Fr _ _ _ _ => F9
    have hbits : (Builtin.Int.intBits (r * 2 ^ ((Builtin.Int.intBits b : Nat) : Int).toNat + d) : Int) - ((Builtin.Int.intBits b : Nat) : Int) ≤ 4000 := by
      have hB30 : (2 : Int) ^ ((Builtin.Int.intBits b : Nat) : Int).toNat ≤ 1073741824 := by
        rw [Int.toNat_natCast]
        have e : (2 : Int) ^ Builtin.Int.intBits b = ((2 ^ Builtin.Int.intBits b : Nat) : Int) := by push_cast; rfl
        have : 2 ^ Builtin.Int.intBits b ≤ 2 ^ 30 := Nat.pow_le_pow_right (by decide) hN
        rw [e]
        omega
      have h1 : r * 2 ^ ((Builtin.Int.intBits b : Nat) : Int).toNat ≤ 1073741824 * 1073741824 := Int.mul_le_mul (by omega) hB30 (Int.le_of_lt hB) (by decide)
      have h2 : 0 ≤ r * 2 ^ ((Builtin.Int.intBits b : Nat) : Int).toNat := Int.mul_nonneg hr0 (Int.le_of_lt hB)
      have h3 : Builtin.Int.intBits (r * 2 ^ ((Builtin.Int.intBits b : Nat) : Int).toNat + d) ≤ 61 := intBits_le_iff.mpr (by omega)
      omega
    refine div21_c prog w _ b _ _ _ _ (by omega) (PyProof.noPylong_small (by omega)) hbits rfl _ _ _ _ _ _ _ _ _ _ _ _ _ _ _ _ _ _ _ _ _ B' F9 X' News.nil T' rfl c1 c2 (room_d hdp (by decide)) (room_u hun (by decide)) ?_
    intro v h10 tk10 hk10 hs10 hp10
    obtain ⟨rr, t1, t2, rfl, hrr, htup⟩ := hp10
    rw [Int.fdiv_eq_ediv_of_nonneg _ (Int.le_of_lt hb), Int.fmod_eq_emod_of_nonneg _ (Int.le_of_lt hb)] at htup
    obtain ⟨F11, N11, l11⟩ := add_kept F9 N9 (fun b' ob q => hk10 b' ob List.not_mem_nil q) hrr htup
    clear F9 N9
    k_lt l11
    k_steps
    rename News _ _ _ _ => N12
    rename Fr _ _ _ _ => F12
    rw [List.push_toArray] at N12
    exact ⟨rfl, _, _, _, _, _, _, _, rfl, fr_cong F12 (by (intro y; (by_cases c1 : y = Str.ofString "a_digit"; (subst c1; rfl)); (by_cases c2 : y = Str.ofString "q_digit"; (subst c2; rfl)); (by_cases c3 : y = Str.ofString "r"; (subst c3; rfl)); (by_cases c4 : y = Str.ofString "q_digits"; (subst c4; rfl)); (by_cases c5 : y = Str.ofString "a_digits"; (subst c5; rfl)); (by_cases c6 : y = Str.ofString "n"; (subst c6; rfl)); (by_cases c7 : y = Str.ofString "b"; (subst c7; rfl)); (by_cases c8 : y = Str.ofString "a"; (subst c8; rfl)); (simp +zetaDelta [dpM, List.lookup, beq_eq_false_iff_ne.mpr, *]))), List.forall_mem_cons.mpr ⟨N12 _ (by k_mem), List.forall_mem_cons.mpr ⟨N12 _ (by k_mem), List.forall_mem_cons.mpr ⟨N12 _ (by k_mem), List.forall_mem_cons.mpr ⟨N12 _ (by k_mem), List.forall_mem_cons.mpr ⟨N12 _ (by k_mem), List.forall_mem_cons.mpr ⟨N12 _ (by k_mem), List.forall_mem_nil _⟩⟩⟩⟩⟩⟩⟩
  case fin =>
    intro r tr qs qds nn vq vd h tk hr0 hr1 hqs hqd hql hv F8 N8
    clear F7 F7' N7
    dsimp only
    k_steps
    rename News _ _ _ _ => N9
    rename Fr _ _ _ _ => F9
    dsimp only
    refine' kl_reverse (its := qs.toArray) (l := qs.reverse) F9 N9 (by simp) ?U ?z ?_
    case U => k_upd
    case z => rw [List.toList_toArray, hqs.length, sizeLine_eq]; omega
    intro h10 F10 N10
    clear F9 N9
    k_steps
    rename News _ _ _ _ => N11
    rename Fr _ _ _ _ => F11
    refine d2i_c prog w _ _ _ p1 qs.reverse qds.reverse (ints_rev hqs) (fun x hx => hqd x (List.mem_reverse.mp hx)) (by rw [List.length_reverse]; omega) (by omega) (by omega) rfl _ _ _ _ _ _ _ _ _ _ _ _ _ _ _ _ _ _ _ _ _ B' F11 X' (List.forall_mem_cons.mpr ⟨N11 _ (by k_mem), List.forall_mem_nil _⟩) T' rfl c1 c2 (room_d hdp (by decide)) (room_u hun (by decide)) ⟨tg.1.keeps F11.keep, News.isList N11 (by k_mem)⟩ ?_
    intro v h12 tk12 hk12 hs12 hp12
    obtain ⟨t8, d1, od1, c1', rfl, hd1, hg1, h91, hca1⟩ := hp12
    obtain ⟨F13, N13⟩ := upd_kept F11 N11 (by k_updF) (fun b' ob hb' q => hk12 b' ob (by simpa using hb') q) h91
    have N14 := news_new F11 hd1 hg1 N13
    have lt14 := allLt_of (fun p hp => Nat.lt_of_lt_of_le (Heap.lt_size (N11 p hp).1) hd1)
    repeat' (have hlHead := allLt_hd lt14; replace lt14 := allLt_tl lt14)
    have hLd1 := ltN (Nat.lt_of_lt_of_le F11.ns.lt hd1)
    clear F11 N11 N13
    have huni := (Int.ediv_emod_unique hb (a := a) (q := valD (2 ^ ((Builtin.Int.intBits b : Nat) : Int).toNat) qds.reverse) (r := r)).mpr ⟨by rw [Int.mul_comm, Int.add_comm, hv, hval], hr0, hr1⟩
    k_steps
    rename News _ _ _ _ => N15
    rename Fr _ _ _ _ => F15
    have hsz := size_of hg' F15
    have hs0 : @LE.le Nat _ s.heap.objs.size L' := hsz.1
    rw [huni.1, huni.2] at hret
    exact hret _ _ _ (fun b' o hb' q => kept_of hg' F15 b' o hb' q) hsz.2 ⟨_, _, tr, d1, od1, c1', d2, od2, c2', rfl, (by first | exact Nat.le_trans hsz.1 (Nat.le_of_lt (by with_reducible assumption)) | exact Nat.le_of_lt (ltN (by omega))), (N15 _ (.head _)).1, ⟨(by first | exact Nat.le_trans hsz.1 (Nat.le_of_lt (by with_reducible assumption)) | exact Nat.le_of_lt (ltN (by omega))), News.get (a := d1) N15 (by k_mem), News.get (a := 91) N15 (by k_mem), hca1⟩,
      ⟨(by first | exact Nat.le_trans hsz.1 (Nat.le_of_lt (by with_reducible assumption)) | exact Nat.le_of_lt (ltN (by omega))), News.get (a := d2) N15 (by k_mem), News.get (a := 84) N15 (by k_mem), hca2⟩, by k_ne, by k_ne, by k_ne⟩

end
/-! part ID -/
section
open PySem PySem.W PyProof.Rows
theorem flushID {prog : Program} {w : World} {A : Around} {E : Value → Shared → Prop} {s : Shared} {t u : Tok} {Q : Value → Shared → Prop} (h : wpAny (model prog w) A (binaryOp .Mult (.int 1 t) (.int 1 u)) Q E s) : wpAny (model prog w) A (binaryOp .Mult (.int 1 t) (.int 1 u)) Q E s := by
  first
  | (walk1; fail)
  | exact h
end
section
open PySem PySem.W PySem.Spec PySem.Calls PyProof.Rows


theorem nDigs_le {a n : Int} (h : Builtin.Int.intBits a ≤ 60) (hn : 2 ≤ n) : nDigs a n ≤ 30 := by
  unfold nDigs
  rw [Int.fdiv_eq_ediv_of_nonneg _ (by omega)]
  have h2 := Int.mul_ediv_add_emod ((Builtin.Int.intBits a : Int) + n - 1) n
  have h3 := Int.emod_nonneg ((Builtin.Int.intBits a : Int) + n - 1) (b := n) (by omega)
  have h4 : ((Builtin.Int.intBits a : Int) + n - 1) / n < 31 := Int.ediv_lt_of_lt_mul (by omega) (by omega)
  omega

theorem div_neg_one {a b : Int} (hb : 0 < b) : -((-a - 1) / b) - 1 = a / b := by
  have h1 := Int.mul_ediv_add_emod (-a - 1) b
  have h2 := Int.emod_nonneg (-a - 1) (Int.ne_of_gt hb)
  have h3 := Int.emod_lt_of_pos (-a - 1) hb
  refine ((Int.ediv_emod_unique hb (a := a) (q := -((-a - 1) / b) - 1) (r := b - 1 - (-a - 1) % b)).mpr ⟨?_, by omega, by omega⟩).1.symm
  rw [Int.mul_sub, Int.mul_neg]
  omega
theorem mod_neg_one {a b : Int} (hb : 0 < b) : b + (-((-a - 1) % b) - 1) = a % b := by
  have h1 := Int.mul_ediv_add_emod (-a - 1) b
  have h2 := Int.emod_nonneg (-a - 1) (Int.ne_of_gt hb)
  have h3 := Int.emod_lt_of_pos (-a - 1) hb
  have := ((Int.ediv_emod_unique hb (a := a) (q := -((-a - 1) / b) - 1) (r := b - 1 - (-a - 1) % b)).mpr ⟨by rw [Int.mul_sub, Int.mul_neg]; omega, by omega, by omega⟩).2
  omega
theorem fdiv_of_neg {a b : Int} (hb : b < 0) : -a / -b = a.fdiv b := by
  rw [← Int.fdiv_eq_ediv_of_nonneg _ (by omega)]
  exact Int.neg_fdiv_neg ..
theorem fmod_of_neg {a b : Int} (hb : b < 0) : -(-a % -b) = a.fmod b := by
  have h1 := Int.mul_fdiv_add_fmod a b
  have h2 := Int.mul_ediv_add_emod (-a) (-b)
  rw [fdiv_of_neg hb] at h2
  rw [Int.neg_mul] at h2
  omega
theorem bits_neg (b : Int) : Builtin.Int.intBits (-b) = Builtin.Int.intBits b :=
  Nat.le_antisymm (intBits_neg_le (Nat.le_refl _)) (by have := intBits_neg_le (x := -b) (Nat.le_refl _); rwa [Int.neg_neg] at this)
theorem DivPost.mono {q r : Int} {p1 p2 : Array Value} {h h3 h' : Heap} {v : Value} (x : DivPost q r p1 p2 h3 v h') (hs : h.objs.size ≤ h3.objs.size) : DivPost q r p1 p2 h v h' := by
  obtain ⟨rr, t1, t2, d1, od1, c1, d2, od2, c2, e, hrr, htup, ⟨hd1, r1⟩, ⟨hd2, r2⟩, e1⟩ := x
  exact ⟨rr, t1, t2, d1, od1, c1, d2, od2, c2, e, Nat.le_trans hs hrr, htup, ⟨Nat.le_trans hs hd1, r1⟩, ⟨Nat.le_trans hs hd2, r2⟩, e1⟩

theorem idm0_c (prog : Program) (w : World) (a b : Int) (ta tb : Tok) (p1 p2 : Array Value) (h0 : 0 ≤ a) (h1 : a < 2 ^ 60) (hb : 0 < b) (hN : Builtin.Int.intBits b ≤ 30) (hN2 : 2 ≤ Builtin.Int.intBits b) :
    RCon prog w 110 [.int a ta, .int b tb] 61 [(91, tabObj p1), (84, tabObj p2)] (Tabs p1 p2) (DivPost (a / b) (a % b) p1 p2) := by
  unfold RCon
  w_top off
  k_fill
  intro _ loose mean mg mb dp un gd cn cs ad ccd cl outer A₀ base h₀ L m s Q E B F X N T hk c1 c2 hdp hun hpre hret
  have tg := tabs_hide hpre (N _ (.head _)).1 (N _ (.tail _ (.head _))).1
  refine wpAny_call ?_
  k_dflt (refine' enterH ?k1 ?k2 ?k3 ?k4 ?k5 ?kA ?kF ?kK ?k6 ?k7 ?k8 ?k9 ?kB ?_ ?c2 ?c3 ?c4 ?c5; (case kA => exact rfl); (case kF => exact rfl); (case kK => assumption); (case k1 => k_asm); (case k2 => k_asm); (case k3 => k_asm); (case k4 => k_asm); (case k5 => k_asm); (case k6 => k_is); (case k7 => k_is); (case k8 => exact room_0 hdp); (case k9 => exact BindsTo.of_eq rfl); (case c5 => decide); (case kB => exact locs rfl); (case c2 => exact rfl); (case c3 => exact rfl); (case c4 => exact rfl); k_whole)
  intro g' L' h' hg' F' N' B' X' T' l1'
  rw [show hideAll s.heap [91, 84] = g' from hg'.symm] at tg
  k_lt l1'
  clear B F X T N
  replace F' : Fr g' L' h' (fun y => List.lookup y [(Str.ofString "b", .int b tb), (Str.ofString "a", .int a ta)]) := F'
  dsimp only
  try k_fold
  k_steps
  · exfalso; omega
  rename News _ _ _ _ => N3
  rename Fr _ _ _ _ => F3
  have hbits : Builtin.Int.intBits a ≤ 60 := intBits_le_iff.mpr (by omega)
  refine dpos_c prog w a b _ _ p1 p2 h0 hb hN (nDigs_le hbits (by omega)) rfl _ _ _ _ _ _ _ _ _ _ _ _ _ _ _ _ _ _ _ _ _ B' F3 X' N3 T' rfl c1 c2 (room_d hdp (by decide)) (room_u hun (by decide)) ⟨tg.1.keeps F3.keep, tg.2.keeps F3.keep⟩ ?_
  intro v h5 tk5 hk5 hs5 hp5
  have hsz := size_of hg' F3
  exact hret _ _ _ (fun b' o hb' q => hk5 b' o hb' (kept_of hg' F3 b' o hb' q)) (Nat.le_trans hsz.2 hs5) (hp5.mono hsz.2)

/-- what a def that has called another one of this kind lays: the tables again, a new pair -/
theorem tabs2 {g h h5 : Heap} {L : Addr} {m : Str → Option Value} {p1 p2 : Array Value} {q r : Int} {v : Value} (F : Fr g L h m) (N : News g L h [(91, tabObj p1), (84, tabObj p2)]) (hk : ∀ b o, b ∉ [91, 84] → h.get? b = some o → h5.get? b = some o) (x : DivPost q r p1 p2 h v h5) :
    ∃ rr t1 t2 d1 od1 c1 d2 od2 c2, v = .ref rr ∧ Fr g L h5 m ∧ News g L h5 [(rr, tup2 (.int q t1) (.int r t2)), (d1, od1), (d2, od2), (91, tabObj #[rawInt 89, rawInt 4, .ref c1]), (84, tabObj #[rawInt 74, rawInt 4, .ref c2])] ∧
      CodeNew 89 4 p1 d1 od1 c1 qual2 ∧ CodeNew 74 4 p2 d2 od2 c2 qual1 ∧ (@LT.lt Nat _ L rr ∧ @LT.lt Nat _ L d1 ∧ @LT.lt Nat _ L d2 ∧ @LT.lt Nat _ 91 rr ∧ @LT.lt Nat _ 84 rr ∧ @LT.lt Nat _ 91 d1 ∧ @LT.lt Nat _ 84 d1 ∧ @LT.lt Nat _ 91 d2 ∧ @LT.lt Nat _ 84 d2) ∧ (@Ne Nat d1 rr ∧ @Ne Nat d2 rr ∧ @Ne Nat d1 d2) := by
  obtain ⟨rr, t1, t2, d1, od1, c1, d2, od2, c2, rfl, hrr, htup, ⟨hd1, hg1, h91, n1⟩, ⟨hd2, hg2, h84, n2⟩, e1, e2, e3⟩ := x
  have m1 := N _ (.head _)
  have m2 := N _ (.tail _ (.head _))
  have l1 := Heap.lt_size m1.1
  have l2 := Heap.lt_size m2.1
  have lL := F.ns.lt
  have N5 : News g L h5 [(91, tabObj #[rawInt 89, rawInt 4, .ref c1]), (84, tabObj #[rawInt 74, rawInt 4, .ref c2])] :=
    List.forall_mem_cons.mpr ⟨⟨h91, m1.2⟩, List.forall_mem_cons.mpr ⟨⟨h84, m2.2⟩, List.forall_mem_nil _⟩⟩
  refine ⟨rr, t1, t2, d1, od1, c1, d2, od2, c2, rfl, ⟨F.ns.at' fun o q => hk _ o (fun z => ?_) q, fun b o q => hk b o (fun z => ?_) (F.keep b o q), F.above⟩, news_new F hrr htup (news_new F hd1 hg1 (news_new F hd2 hg2 N5)), n1, n2,
    ⟨Nat.lt_of_lt_of_le lL hrr, Nat.lt_of_lt_of_le lL hd1, Nat.lt_of_lt_of_le lL hd2, Nat.lt_of_lt_of_le l1 hrr, Nat.lt_of_lt_of_le l2 hrr, Nat.lt_of_lt_of_le l1 hd1, Nat.lt_of_lt_of_le l2 hd1, Nat.lt_of_lt_of_le l1 hd2, Nat.lt_of_lt_of_le l2 hd2⟩, e1, e2, e3⟩
  · rcases List.mem_cons.mp z with z | z
    · exact m1.2.1 z.symm
    · exact m2.2.1 (List.mem_singleton.mp z).symm
  · rcases List.mem_cons.mp z with z | z
    · rw [z, m1.2.2] at q; cases q
    · rw [List.mem_singleton.mp z, m2.2.2] at q; cases q

theorem idmP_c (prog : Program) (w : World) (a b : Int) (ta tb : Tok) (p1 p2 : Array Value) (h0 : -(2 ^ 60) < a) (h1 : a < 2 ^ 60) (hb : 0 < b) (hN : Builtin.Int.intBits b ≤ 30) (hN2 : 2 ≤ Builtin.Int.intBits b) :
    RCon prog w 110 [.int a ta, .int b tb] 62 [(91, tabObj p1), (84, tabObj p2)] (Tabs p1 p2) (DivPost (a / b) (a % b) p1 p2) := by
  by_cases ha : 0 ≤ a
  · unfold RCon
    intro hx loose mean mg mb dp un gd cn cs ad ccd cl outer A₀ base h₀ L m s Q E B F X N T hk c1 c2 hdp hun hpre hret
    exact idm0_c prog w a b ta tb p1 p2 ha h1 hb hN hN2 hx loose mean mg mb dp un gd cn cs ad ccd cl outer A₀ base h₀ L m s Q E B F X N T hk c1 c2 (Nat.lt_of_succ_lt hdp) (Nat.lt_of_le_of_lt (Nat.add_le_add_left (by decide) un) hun) hpre hret
  · unfold RCon
    w_top off
    k_fill
    intro _ loose mean mg mb dp un gd cn cs ad ccd cl outer A₀ base h₀ L m s Q E B F X N T hk c1 c2 hdp hun hpre hret
    have tg := tabs_hide hpre (N _ (.head _)).1 (N _ (.tail _ (.head _))).1
    refine wpAny_call ?_
    k_dflt (refine' enterH ?k1 ?k2 ?k3 ?k4 ?k5 ?kA ?kF ?kK ?k6 ?k7 ?k8 ?k9 ?kB ?_ ?c2 ?c3 ?c4 ?c5; (case kA => exact rfl); (case kF => exact rfl); (case kK => assumption); (case k1 => k_asm); (case k2 => k_asm); (case k3 => k_asm); (case k4 => k_asm); (case k5 => k_asm); (case k6 => k_is); (case k7 => k_is); (case k8 => exact room_0 hdp); (case k9 => exact BindsTo.of_eq rfl); (case c5 => decide); (case kB => exact locs rfl); (case c2 => exact rfl); (case c3 => exact rfl); (case c4 => exact rfl); k_whole)
    intro g' L' h' hg' F' N' B' X' T' l1'
    rw [show hideAll s.heap [91, 84] = g' from hg'.symm] at tg
    k_lt l1'
    clear B F X T N
    replace F' : Fr g' L' h' (fun y => List.lookup y [(Str.ofString "b", .int b tb), (Str.ofString "a", .int a ta)]) := F'
    dsimp only
    try k_fold
    k_steps
    · exfalso; omega
    rename News _ _ _ _ => N3
    rename Fr _ _ _ _ => F3
    have hbn : ∀ x, Builtin.bitNot x = -x - 1 := fun x => by unfold Builtin.bitNot; omega
    refine idm0_c prog w (Builtin.bitNot a) b _ _ p1 p2 (by rw [hbn]; omega) (by rw [hbn]; omega) hb hN hN2 rfl _ _ _ _ _ _ _ _ _ _ _ _ _ _ _ _ _ _ _ _ _ B' F3 X' N3 T' rfl c1 c2 (room_d hdp (by decide)) (room_u hun (by decide)) ⟨tg.1.keeps F3.keep, tg.2.keeps F3.keep⟩ ?_
    intro v h5 tk5 hk5 hs5 hp5
    obtain ⟨rr, t1, t2, d1, od1, cc1, d2, od2, cc2, rfl, F5, N5, n1, n2, ⟨x1, x2, x3, x4, x5, x6, x7, x8, x9⟩, y1, y2, y3⟩ := tabs2 F3 N3 hk5 hp5
    clear F3 N3
    k_steps
    rename News _ _ _ _ => N7
    rename Fr _ _ _ _ => F7
    have hsz := size_of hg' F7
    have hs0 : @LE.le Nat _ s.heap.objs.size L' := hsz.1
    have e1 : Builtin.bitNot (Builtin.bitNot a / b) = a / b := by rw [hbn, hbn]; exact div_neg_one hb
    have e2 : b + Builtin.bitNot (Builtin.bitNot a % b) = a % b := by rw [hbn, hbn]; exact mod_neg_one hb
    rw [e1, e2] at N7
    exact hret _ _ _ (fun b' o hb' q => kept_of hg' F7 b' o hb' q) hsz.2 ⟨_, _, _, d1, od1, cc1, d2, od2, cc2, rfl, (by first | exact Nat.le_trans hsz.1 (Nat.le_of_lt (by with_reducible assumption)) | exact Nat.le_of_lt (ltN (by omega))), (N7 _ (.head _)).1, ⟨(by first | exact Nat.le_trans hsz.1 (Nat.le_of_lt (by with_reducible assumption)) | exact Nat.le_of_lt (ltN (by omega))), News.get (a := d1) N7 (by k_mem), News.get (a := 91) N7 (by k_mem), n1⟩,
      ⟨(by first | exact Nat.le_trans hsz.1 (Nat.le_of_lt (by with_reducible assumption)) | exact Nat.le_of_lt (ltN (by omega))), News.get (a := d2) N7 (by k_mem), News.get (a := 84) N7 (by k_mem), n2⟩, by k_ne, by k_ne, by k_ne⟩

theorem idm_c (prog : Program) (w : World) (a b : Int) (ta tb : Tok) (p1 p2 : Array Value) (h0 : -(2 ^ 60) < a) (h1 : a < 2 ^ 60) (hb : b ≠ 0) (hN : Builtin.Int.intBits b ≤ 30) (hN2 : 2 ≤ Builtin.Int.intBits b) :
    RCon prog w 110 [.int a ta, .int b tb] 63 [(91, tabObj p1), (84, tabObj p2)] (Tabs p1 p2) (DivPost (a.fdiv b) (a.fmod b) p1 p2) := by
  by_cases hb0 : 0 < b
  · unfold RCon
    intro hx loose mean mg mb dp un gd cn cs ad ccd cl outer A₀ base h₀ L m s Q E B F X N T hk c1 c2 hdp hun hpre hret
    rw [Int.fdiv_eq_ediv_of_nonneg _ (Int.le_of_lt hb0), Int.fmod_eq_emod_of_nonneg _ (Int.le_of_lt hb0)] at hret
    exact idmP_c prog w a b ta tb p1 p2 h0 h1 hb0 hN hN2 hx loose mean mg mb dp un gd cn cs ad ccd cl outer A₀ base h₀ L m s Q E B F X N T hk c1 c2 (Nat.lt_of_succ_lt hdp) (Nat.lt_of_le_of_lt (Nat.add_le_add_left (by decide) un) hun) hpre hret
  · unfold RCon
    w_top off
    k_fill
    intro _ loose mean mg mb dp un gd cn cs ad ccd cl outer A₀ base h₀ L m s Q E B F X N T hk c1 c2 hdp hun hpre hret
    have tg := tabs_hide hpre (N _ (.head _)).1 (N _ (.tail _ (.head _))).1
    refine wpAny_call ?_
    k_dflt (refine' enterH ?k1 ?k2 ?k3 ?k4 ?k5 ?kA ?kF ?kK ?k6 ?k7 ?k8 ?k9 ?kB ?_ ?c2 ?c3 ?c4 ?c5; (case kA => exact rfl); (case kF => exact rfl); (case kK => assumption); (case k1 => k_asm); (case k2 => k_asm); (case k3 => k_asm); (case k4 => k_asm); (case k5 => k_asm); (case k6 => k_is); (case k7 => k_is); (case k8 => exact room_0 hdp); (case k9 => exact BindsTo.of_eq rfl); (case c5 => decide); (case kB => exact locs rfl); (case c2 => exact rfl); (case c3 => exact rfl); (case c4 => exact rfl); k_whole)
    intro g' L' h' hg' F' N' B' X' T' l1'
    rw [show hideAll s.heap [91, 84] = g' from hg'.symm] at tg
    k_lt l1'
    clear B F X T N
    replace F' : Fr g' L' h' (fun y => List.lookup y [(Str.ofString "b", .int b tb), (Str.ofString "a", .int a ta)]) := F'
    dsimp only
    try k_fold
    k_steps
    · exfalso; omega
    rename News _ _ _ _ => N3
    rename Fr _ _ _ _ => F3
    refine idmP_c prog w (-a) (-b) _ _ p1 p2 (by omega) (by omega) (by omega) (intBits_neg_le hN) (by rw [bits_neg]; exact hN2) rfl _ _ _ _ _ _ _ _ _ _ _ _ _ _ _ _ _ _ _ _ _ B' F3 X' N3 T' rfl c1 c2 (room_d hdp (by decide)) (room_u hun (by decide)) ⟨tg.1.keeps F3.keep, tg.2.keeps F3.keep⟩ ?_
    intro v h5 tk5 hk5 hs5 hp5
    obtain ⟨rr, t1, t2, d1, od1, cc1, d2, od2, cc2, rfl, F5, N5, n1, n2, ⟨x1, x2, x3, x4, x5, x6, x7, x8, x9⟩, y1, y2, y3⟩ := tabs2 F3 N3 hk5 hp5
    clear F3 N3
    k_steps
    rename News _ _ _ _ => N7
    rename Fr _ _ _ _ => F7
    have hsz := size_of hg' F7
    have hs0 : @LE.le Nat _ s.heap.objs.size L' := hsz.1
    have e1 : -a / -b = a.fdiv b := fdiv_of_neg (by omega)
    have e2 : -(-a % -b) = a.fmod b := fmod_of_neg (by omega)
    rw [e1, e2] at N7
    exact hret _ _ _ (fun b' o hb' q => kept_of hg' F7 b' o hb' q) hsz.2 ⟨_, _, _, d1, od1, cc1, d2, od2, cc2, rfl, (by first | exact Nat.le_trans hsz.1 (Nat.le_of_lt (by with_reducible assumption)) | exact Nat.le_of_lt (ltN (by omega))), (N7 _ (.head _)).1, ⟨(by first | exact Nat.le_trans hsz.1 (Nat.le_of_lt (by with_reducible assumption)) | exact Nat.le_of_lt (ltN (by omega))), News.get (a := d1) N7 (by k_mem), News.get (a := 91) N7 (by k_mem), n1⟩,
      ⟨(by first | exact Nat.le_trans hsz.1 (Nat.le_of_lt (by with_reducible assumption)) | exact Nat.le_of_lt (ltN (by omega))), News.get (a := d2) N7 (by k_mem), News.get (a := 84) N7 (by k_mem), n2⟩, by k_ne, by k_ne, by k_ne⟩

end
/-! part WH -/
section
open PySem PySem.W PyProof.Rows
theorem flushWH {prog : Program} {w : World} {A : Around} {E : Value → Shared → Prop} {s : Shared} {t u : Tok} {Q : Value → Shared → Prop} (h : wpAny (model prog w) A (binaryOp .Mult (.int 1 t) (.int 1 u)) Q E s) : wpAny (model prog w) A (binaryOp .Mult (.int 1 t) (.int 1 u)) Q E s := by
  first
  | (walk1; fail)
  | exact h
end
section
open PySem PySem.W PySem.Spec PySem.Calls PyProof.Rows PyProof.Rows.LCg PyProof.Rows.LCt
local macro_rules | `(tactic| k_room) => `(tactic| ktr_room)

/-- the source of a comprehension: a tuple that lies in the ground -/
def TupSrc (prog : Program) (w : World) (A : Around) (h₀ : Heap) (L : Addr) (m : Str → Option Value) (env : Env) (ct elt : PySem.Expr) (x : Str) (scope : Scope) (cl : List (Str × Addr)) (Fin : Shared → List Value → List (Addr × Obj) → Prop) (xv : Value) (s₁ : Shared) : Prop :=
  ∃ ax its news, xv = .ref ax ∧ A.handled = none ∧ Fr h₀ L s₁.heap m ∧ News h₀ L s₁.heap news ∧ h₀.IsTuple ax its ∧ its.size ≤ sizeLine ∧
    ∀ s₂ : Shared, (∃ h, s₂ = { s₁ with heap := h }) → CompRestT prog w A h₀ L m env ct elt x scope cl s₂ (fun _ => True) (fun i v => its[i]? = some v) (Fin s₂) its.size 0 [] news
section
variable {prog : Program} {w : World} {A : Around} {E : Value → Shared → Prop} {s : Shared} {h₀ : Heap} {L : Addr} {m : Str → Option Value} {env : Env}
theorem TupSrc.intro {ct elt : PySem.Expr} {x : Str} {scope : Scope} {cl : List (Str × Addr)} {Fin : Shared → List Value → List (Addr × Obj) → Prop} {ax : Addr} {its : Array Value} {news : List (Addr × Obj)} {s₁ : Shared}
    (hh : A.handled = none) (F : Fr h₀ L s₁.heap m) (N : News h₀ L s₁.heap news) (hl : h₀.IsTuple ax its) (hsz : its.size ≤ sizeLine)
    (h : ∀ g, CompRestT prog w A h₀ L m env ct elt x scope cl { s₁ with heap := g } (fun _ => True) (fun i v => its[i]? = some v) (Fin { s₁ with heap := g }) its.size 0 [] news) :
    TupSrc prog w A h₀ L m env ct elt x scope cl Fin (.ref ax) s₁ := ⟨ax, its, news, rfl, hh, F, N, hl, hsz, fun _ ⟨g, e⟩ => e ▸ h g⟩
theorem ListComp_tup {ct elt iter : PySem.Expr} {x : Str} {px : Pos} {scope : Scope} {cl : List (Str × Addr)} {pos : Pos} {Q : Value → Shared → Prop} (_F₀ : Fr h₀ L s.heap m)
    (hclos : closureFor scope env = pure cl) (hcell : ∀ y ∈ scope.names, y.2 ≠ .cell) (hkind : scope.kind = .function)
    (hnames : ∀ y ∈ scope.names, y.2 = .local → scope.names.lookup y.1 = some .local) (hx : scope.names.lookup x = some .local)
    (h : wpAny (model prog w) A (eval iter env) (TupSrc prog w A h₀ L m env ct elt x scope cl (fun s₂ => FinE h₀ L m s₂ Q)) E s)
    (hs : ∀ x, foldedSetIterable iter env x = pure x := by intro _; rfl) :
    wpAny (model prog w) A (eval (.ListComp elt [⟨.Name x px, iter, [ct], 0⟩] scope pos) env) Q E s := by
  rw [eval_ListComp]
  refine wpAny_comprehension_free (use := none) rfl hs hclos hkind hnames (wpAny_mono h (fun xv s₁ h₁ => ?_) fun _ _ e => e)
  obtain ⟨ax, its, news, rfl, hh, F, N, hT, hsz, R⟩ := h₁
  have hl : s₁.heap.IsTuple ax its := tup_at hT fun o q => F.keep _ o q
  have hlt : ax < s₁.heap.objs.size := by obtain ⟨_, e, _⟩ := hl; exact Heap.lt_size e
  refine wpAny_pyIter_tuple hl ?_
  have up : ∀ b o, s₁.heap.get? b = some o → (s₁.heap.push { cls := .type "tuple_iterator", data := .fields #[.ref ax, .int 0 0] }).get? b = some o := fun b o e => Heap.get?_push_of_some _ e
  refine block_T (S := fun _ => True) (Walks.tuple hh s₁.heap.objs.size ax (Nat.ne_of_lt hlt) its) hsz (fun i h st => by obtain ⟨o, e, _⟩ := st.1; exact ⟨o, e⟩)
    (fun i h h' o nw st e e' k _ _ => ⟨by obtain ⟨o', q, r⟩ := st.1; rw [e] at q; cases q; exact ⟨o, e', r⟩, tup_at hT fun o q => k _ o q⟩) hcell hkind hx ⟨⟨_, Heap.get?_push_size _ rfl, rfl, rfl⟩, hl.push _⟩ (fun b hb => ?_)
    (F.keeps up) (N.grown up) (Nat.ne_of_lt F.ns.lt) (next_is_new F) (fun p hp => Nat.ne_of_lt (Heap.lt_size (N p hp).1)) trivial (R _ ⟨_, rfl⟩) ?_
  · show b < (s₁.heap.push _).objs.size
    rw [Heap.size_push]
    rcases List.mem_cons.mp hb with rfl | hb
    · exact Nat.lt_succ_self _
    · rw [List.mem_singleton.mp hb]; exact Nat.lt_succ_of_lt hlt
  · intro D C h tk m' ys news' F' N' o1 hn hC₀ hD₀ hCL hDL hCD offC fin
    refine ⟨m', hn, fun h'' hs'' => fin D h'' tk (F'.change hs'' hCL hC₀) (fun p hp => ?_) o1⟩
    refine ⟨hs''.extBut _ _ ?_ (N' p hp).1, (N' p hp).2⟩
    rcases List.mem_cons.mp hp with rfl | hp
    · exact Ne.symm hCD
    · exact offC p hp
end

theorem wholeL_c (prog : Program) (w : World) (l : Addr) (x y : Int) (t u : Tok) (n : Nat) :
    QCon prog w 127 [.ref l] 20 [(l, W.listOf #[.int x t, .int y u] n)] (fun _ v h' => v = .bool true ∧ h'.get? l = some (W.listOf #[.int x t, .int y u] n)) := by
  unfold QCon
  w_top off
  k_fill
  intro _ loose mean mg mb dp un gd cn cs ad ccd cl outer A₀ base h₀ L m s Q E B F X N T hk c1 c2 hdp hun hret
  refine wpAny_call ?_
  k_dflt (refine' enterH ?k1 ?k2 ?k3 ?k4 ?k5 ?kA ?kF ?kK ?k6 ?k7 ?k8 ?k9 ?kB ?_ ?c2 ?c3 ?c4 ?c5; (case kA => exact rfl); (case kF => exact rfl); (case kK => assumption); (case k1 => k_asm); (case k2 => k_asm); (case k3 => k_asm); (case k4 => k_asm); (case k5 => k_asm); (case k6 => k_is); (case k7 => k_is); (case k8 => exact room_0 hdp); (case k9 => exact BindsTo.of_eq rfl); (case c5 => decide); (case kB => exact locs rfl); (case c2 => exact rfl); (case c3 => exact rfl); (case c4 => exact rfl); k_whole)
  intro g' L' h' hg' F' N' B' X' T' l1'
  k_lt l1'
  clear B F X T N
  dsimp only
  try k_fold
  k_steps
  rename News _ _ _ _ => N3
  rename Fr _ _ _ _ => F3
  exact hret _ _ _ (fun b' o hb' q => kept_of hg' F3 b' o hb' q) (size_of hg' F3).2 ⟨rfl, News.get (a := l) N3 (by k_mem)⟩
local macro_rules | `(tactic| walk_at "eval ListComp") => `(tactic| (k_here; k_dflt (refine ListComp_tup (by k_asm) (by with_unfolding_all rfl) (by decide) (by rfl) (by decide) (by rfl) ?_)))
local macro_rules | `(tactic| walk_at "TupSrc") => `(tactic| (k_here; k_dflt (refine TupSrc.intro (by rfl) (by k_asm) (by k_asm) (by assumption) (by exact Nat.le_of_ble_eq_true rfl) ?_; intro g'; lct_lit)))
theorem wholeT_c (prog : Program) (w : World) (l : Addr) (x y : Int) (t u : Tok) :
    RCon prog w 127 [.ref l] 20 [] (fun h => h.IsTuple l #[.int x t, .int y u]) (fun _ v _ => v = .bool true) := by
  unfold RCon
  w_top off
  k_fill
  intro _ loose mean mg mb dp un gd cn cs ad ccd cl outer A₀ base h₀ L m s Q E B F X N T hk c1 c2 hdp hun hpre hret
  refine wpAny_call ?_
  k_dflt (refine' enterH ?k1 ?k2 ?k3 ?k4 ?k5 ?kA ?kF ?kK ?k6 ?k7 ?k8 ?k9 ?kB ?_ ?c2 ?c3 ?c4 ?c5; (case kA => exact rfl); (case kF => exact rfl); (case kK => assumption); (case k1 => k_asm); (case k2 => k_asm); (case k3 => k_asm); (case k4 => k_asm); (case k5 => k_asm); (case k6 => k_is); (case k7 => k_is); (case k8 => exact room_0 hdp); (case k9 => exact BindsTo.of_eq rfl); (case c5 => decide); (case kB => exact locs rfl); (case c2 => exact rfl); (case c3 => exact rfl); (case c4 => exact rfl); k_whole)
  intro g' L' h' hg' F' N' B' X' T' l1'
  rw [show Shared.heap s = g' from hg'.symm] at hpre
  clear B F X T N l1'
  dsimp only
  try k_fold
  k_steps
  rename News _ _ _ _ => N3
  rename Fr _ _ _ _ => F3
  exact hret _ _ _ (fun b' o hb' q => kept_of hg' F3 b' o hb' q) (size_of hg' F3).2 rfl

end
/-! part RS -/
section
open PySem PySem.W PyProof.Rows
theorem flushRS {prog : Program} {w : World} {A : Around} {E : Value → Shared → Prop} {s : Shared} {t u : Tok} {Q : Value → Shared → Prop} (h : wpAny (model prog w) A (binaryOp .Mult (.int 1 t) (.int 1 u)) Q E s) : wpAny (model prog w) A (binaryOp .Mult (.int 1 t) (.int 1 u)) Q E s := by
  first
  | (walk1; fail)
  | exact h
end
section
open PySem PySem.W PySem.Spec PySem.Calls PyProof.Rows


local macro_rules | `(tactic| walk_at "binaryOp FloorDiv int int") => `(tactic| (refine floordiv_int (by assumption) ?_ (Or.inl (PyProof.noPylong_small (by assumption)))))
def RestPost (r : Int) (p1 p2 : Array Value) (h : Heap) (v : Value) (h' : Heap) : Prop :=
  ∃ t d1 od1 c1 d2 od2 c2, v = .int r t ∧ MadeTab 91 89 4 qual2 p1 h h' d1 od1 c1 ∧ MadeTab 84 74 4 qual1 p2 h h' d2 od2 c2 ∧ d1 ≠ d2

theorem fmod_cases {top bottom left : Int} (hb : bottom ≠ 0) (hl : left = top % bottom) : ((0 < bottom ∨ left = 0) → left = top.fmod bottom) ∧ (¬ 0 < bottom → left ≠ 0 → left + bottom = top.fmod bottom) := by
  by_cases h0 : 0 < bottom
  · exact ⟨fun _ => by rw [hl, Int.fmod_eq_emod_of_nonneg _ (Int.le_of_lt h0)], fun h => absurd h0 h⟩
  · have e1 : top.fmod bottom = -((-top) % (-bottom)) := (fmod_of_neg (by omega)).symm
    have hl' : left = top % (-bottom) := by rw [hl, Int.emod_neg]
    have hp : 0 < -bottom := by omega
    have a1 := Int.mul_ediv_add_emod top (-bottom)
    have a2 := Int.emod_nonneg top (Int.ne_of_gt hp)
    have a3 := Int.emod_lt_of_pos top hp
    rw [← hl'] at a1 a2 a3
    refine ⟨fun h => ?_, fun _ h => ?_⟩
    · have hz : left = 0 := by rcases h with h | h <;> omega
      have u := (Int.ediv_emod_unique hp (a := -top) (q := -(top / -bottom)) (r := 0)).mpr ⟨by rw [Int.mul_neg]; omega, by omega, by omega⟩
      rw [e1, u.2, hz]
      rfl
    · have u := (Int.ediv_emod_unique hp (a := -top) (q := -(top / -bottom) - 1) (r := -bottom - left)).mpr ⟨by rw [Int.mul_sub, Int.mul_neg]; omega, by omega, by omega⟩
      rw [e1, u.2]
      omega

theorem rest_c (prog : Program) (w : World) (top bottom left : Int) (t1 t2 t3 : Tok) (p1 p2 : Array Value) (h0 : -(2 ^ 60) < top) (h1 : top < 2 ^ 60) (hb : bottom ≠ 0) (hN : Builtin.Int.intBits bottom ≤ 30) (hN2 : 2 ≤ Builtin.Int.intBits bottom) (hl : left = top % bottom) :
    RCon prog w 134 [.int top t1, .int bottom t2, .int left t3] 70 [(91, tabObj p1), (84, tabObj p2)] (Tabs p1 p2) (RestPost (top.fmod bottom) p1 p2) := by
  unfold RCon
  w_top off
  k_fill
  intro _ loose mean mg mb dp un gd cn cs ad ccd cl outer A₀ base h₀ L m s Q E B F X N T hk c1 c2 hdp hun hpre hret
  have tg := tabs_hide hpre (N _ (.head _)).1 (N _ (.tail _ (.head _))).1
  refine wpAny_call ?_
  k_dflt (refine' enterH ?k1 ?k2 ?k3 ?k4 ?k5 ?kA ?kF ?kK ?k6 ?k7 ?k8 ?k9 ?kB ?_ ?c2 ?c3 ?c4 ?c5; (case kA => exact rfl); (case kF => exact rfl); (case kK => assumption); (case k1 => k_asm); (case k2 => k_asm); (case k3 => k_asm); (case k4 => k_asm); (case k5 => k_asm); (case k6 => k_is); (case k7 => k_is); (case k8 => exact room_0 hdp); (case k9 => exact BindsTo.of_eq rfl); (case c5 => decide); (case kB => exact locs rfl); (case c2 => exact rfl); (case c3 => exact rfl); (case c4 => exact rfl); k_whole)
  intro g' L' h' hg' F' N' B' X' T' l1'
  rw [show hideAll s.heap [91, 84] = g' from hg'.symm] at tg
  k_lt l1'
  clear B F X T N
  replace F' : Fr g' L' h' (fun y => List.lookup y [(Str.ofString "left", .int left t3), (Str.ofString "bottom", .int bottom t2), (Str.ofString "top", .int top t1)]) := F'
  dsimp only
  try k_fold
  have hbs : bottom.natAbs < 1073741824 := intBits_le_iff.mp hN
  have hdm := Int.mul_fdiv_add_fmod top bottom
  have hfd : ∀ x, x = top.fmod bottom → Int.fdiv (top - x) bottom = top.fdiv bottom := fun x hx => by
    have e : top - x = bottom * top.fdiv bottom := by omega
    rw [e, Int.mul_fdiv_cancel_left _ hb]
  have hfm : ((0 < bottom ∨ left = 0) → left = top.fmod bottom) ∧ (¬ 0 < bottom → left ≠ 0 → left + bottom = top.fmod bottom) := fmod_cases hb hl
  have hno : ∀ x, x = top.fmod bottom → (Int.fdiv top bottom == Int.fdiv (top - x) bottom && Int.fmod top bottom == x) ≠ false := fun x hx => by
    rw [hfd x hx, ← hx]
    simp
  k_steps
  all_goals (
    rename News _ _ _ _ => N3
    rename Fr _ _ _ _ => F3
    refine idm_c prog w top bottom _ _ p1 p2 h0 h1 hb hN hN2 rfl _ _ _ _ _ _ _ _ _ _ _ _ _ _ _ _ _ _ _ _ _ B' F3 X' N3 T' rfl c1 c2 (room_d hdp (by decide)) (room_u hun (by decide)) ⟨tg.1.keeps F3.keep, tg.2.keeps F3.keep⟩ ?_
    intro v h5 tk5 hk5 hs5 hp5
    obtain ⟨rr, u1, u2, d1, od1, cc1, d2, od2, cc2, rfl, F5, N5, n1, n2, ⟨x1, x2, x3, x4, x5, x6, x7, x8, x9⟩, y1, y2, y3⟩ := tabs2 F3 N3 hk5 hp5
    clear F3 N3
    k_steps)
  all_goals first
    | exact absurd (by assumption) (hno left (hfm.1 (by omega)))
    | exact absurd (by assumption) (hno (left + bottom) (hfm.2 (by omega) (by omega)))
    | skip
  all_goals (
    rename News _ _ _ _ => N7
    rename Fr _ _ _ _ => F7
    refine wholeT_c prog w _ _ _ _ _ rfl _ _ _ _ _ _ _ _ _ _ _ _ _ _ _ _ _ _ _ _ _ B' F7 X' News.nil T' rfl c1 c2 (room_d hdp (by decide)) (room_u hun (by decide)) (News.isTup (a := rr) N7 (by k_mem)) ?_
    intro v h9 tk9 hk9 hs9 hp9
    subst hp9
    obtain ⟨F9, N9⟩ := all_kept F7 N7 (fun b' ob q => hk9 b' ob List.not_mem_nil q)
    clear F7 N7
    k_steps
    rename News _ _ _ _ => N10
    rename Fr _ _ _ _ => F10
    have hsz := size_of hg' F10
    have hs0 : @LE.le Nat _ s.heap.objs.size L' := hsz.1
    exact hret _ _ _ (fun b' o hb' q => kept_of hg' F10 b' o hb' q) hsz.2 ⟨_, d1, od1, cc1, d2, od2, cc2, rfl, ⟨(by first | exact Nat.le_trans hsz.1 (Nat.le_of_lt (by with_reducible assumption)) | exact Nat.le_of_lt (ltN (by omega))), News.get (a := d1) N10 (by k_mem), News.get (a := 91) N10 (by k_mem), n1⟩,
      ⟨(by first | exact Nat.le_trans hsz.1 (Nat.le_of_lt (by with_reducible assumption)) | exact Nat.le_of_lt (ltN (by omega))), News.get (a := d2) N10 (by k_mem), News.get (a := 84) N10 (by k_mem), n2⟩, by k_ne⟩)

end
/-! part ZP -/
section
open PySem PySem.W PyProof.Rows
theorem flushZP {prog : Program} {w : World} {A : Around} {E : Value → Shared → Prop} {s : Shared} {t u : Tok} {Q : Value → Shared → Prop} (h : wpAny (model prog w) A (binaryOp .Mult (.int 1 t) (.int 1 u)) Q E s) : wpAny (model prog w) A (binaryOp .Mult (.int 1 t) (.int 1 u)) Q E s := by
  first
  | (walk1; fail)
  | exact h
end
section
open PySem PySem.W PySem.Spec PySem.Calls PyProof.Rows
theorem nm {c x : Addr} {l : List Addr} (hc : c ∉ l) (h : x ∈ l) : c ≠ x := fun q => hc (q ▸ h)

abbrev tupN (vals : Array Value) : Obj := { cls := .type "tuple", data := .seq vals }
section
variable {prog : Program} {w : World} {A : Around} {E : Value → Shared → Prop} {s : Shared}
theorem upd_tupN {T : Addr} {vals : Array Value} {x : Value} {k : Nat} {Q : Unit → Shared → Prop} (hT : s.heap.get? T = some (tupN vals)) (hv : vals.size ≤ 10)
    (h : ∀ h', h'.get? T = some (tupN (vals.setIfInBounds k x)) → Heap.SameBut T s.heap h' → Q () { s with heap := h' }) :
    wpAny (model prog w) A (updateSeq T (·.setIfInBounds k x)) Q E s := by
  refine wpAny_updateSeq (hz := by rw [sizeLine_eq]; omega) (_hz' := by rw [Array.size_setIfInBounds, sizeLine_eq]; omega) hT rfl (h _ ?_ (Heap.SameBut.update ..))
  rw [Heap.get?_update_self _ hT rfl]
  simp [Obj.mapSeq]

/-- one draw of a zip: the iterator's item is laid into the zip's own tuple -/
structure ZApart (z TO it : Addr) (fp : List Addr) : Prop where
  TOz : TO ≠ z
  itz : it ≠ z
  TOit : TO ≠ it
  off : ∀ b ∈ fp, b ≠ z ∧ b ≠ TO

theorem st_but {it : Addr} {fp : List Addr} {n j : Nat} {P : Nat → Value → Prop} {St : Nat → Heap → Prop} {A' : Around} (D : Draws prog w A' it fp n P St) {h h' : Heap} {c : Addr} (x : St j h) (hs : Heap.SameBut c h h') (hc : ∀ b ∈ fp, b ≠ c) : St j h' :=
  D.frame _ _ _ x fun b hb o e => hs.extBut b o (hc b hb) e

theorem zip3_item {z TI TO i1 i2 i3 : Addr} {f1 f2 f3 : List Addr} {n j : Nat} {P1 P2 P3 : Nat → Value → Prop} {S1 S2 S3 : Nat → Heap → Prop} {a b c : Value} {Q : Value → Shared → Prop}
    (D1 : Draws prog w A i1 f1 n P1 S1) (D2 : Draws prog w A i2 f2 n P2 S2) (D3 : Draws prog w A i3 f3 n P3 S3) (Z1 : ZApart z TO i1 f1) (Z2 : ZApart z TO i2 f2) (Z3 : ZApart z TO i3 f3)
    (o12 : ∀ x ∈ f2, x ≠ i1) (o13 : ∀ x ∈ f3, x ≠ i1) (o21 : ∀ x ∈ f1, x ≠ i2) (o23 : ∀ x ∈ f3, x ≠ i2) (o31 : ∀ x ∈ f1, x ≠ i3) (o32 : ∀ x ∈ f2, x ≠ i3)
    (hz : IsZip s.heap z TI TO .none) (hTI : s.heap.get? TI = some (tupN #[.ref i1, .ref i2, .ref i3])) (hTO : s.heap.get? TO = some (tupN #[a, b, c]))
    (s1 : S1 j s.heap) (s2 : S2 j s.heap) (s3 : S3 j s.heap) (hj : j < n)
    (hQ : ∀ x y v h' tk, P1 j x → P2 j y → P3 j v → IsZip h' z TI TO (rawInt s.heap.objs.size) → h'.get? TO = some (tupN #[x, y, v]) → S1 (j + 1) h' → S2 (j + 1) h' → S3 (j + 1) h' → h'.get? s.heap.objs.size = some (tupN #[x, y, v]) → h'.objs.size = s.heap.objs.size + 1 →
      (∀ c o, c ≠ z → c ≠ TO → c ≠ i1 → c ≠ i2 → c ≠ i3 → s.heap.get? c = some o → h'.get? c = some o) → Q (.ref s.heap.objs.size) { s with heap := h', toks := tk }) :
    wpAny (model prog w) A (Builtin.«zip.__next__» ⟨[.ref z], []⟩) (fun fin s' => ∃ v, fin = .done (.ret v) ∧ Q v s') E s := by
  show wpAny _ _ (field (.ref z) 2 >>= _) _ _ _
  refine wpAny_bind (wpAny_field hz rfl (x := .bool false) rfl ?_)
  show wpAny _ _ (field (.ref z) 3 >>= _) _ _ _
  refine wpAny_bind (wpAny_field hz rfl (x := .ref TI) rfl ?_)
  refine wpAny_bind (wpAny_seqItems hTI rfl ?_)
  show wpAny _ _ (Builtin.SmallTypes.ownedTupleIsFree (.ref z) >>= _) _ _ _
  refine wpAny_bind ?_
  unfold Builtin.SmallTypes.ownedTupleIsFree
  refine wpAny_bind (wpAny_field hz rfl (x := .none) rfl (wpAny_pure ?_))
  simp only [if_true]
  refine wpAny_bind (wpAny_rule ?_)
  refine wpAny_bind (wpAny_field hz rfl (x := .ref TO) rfl ?_)
  refine wpAny_bind (wpAny_setField_rec hz (by simp) fun h₁ hz₁ hs₁ => ?_)
  replace hz₁ : IsZip h₁ z TI TO .ellipsis := hz₁
  refine wpAny_bind ?_
  simp only [List.zipIdx_cons, List.zipIdx_nil, List.forIn_cons, List.forIn_nil]
  have t1 : S1 j h₁ := st_but D1 s1 hs₁ fun b hb => (Z1.off b hb).1
  have t2 : S2 j h₁ := st_but D2 s2 hs₁ fun b hb => (Z2.off b hb).1
  have t3 : S3 j h₁ := st_but D3 s3 hs₁ fun b hb => (Z3.off b hb).1
  refine wpAny_bind (wpAny_bind (wpAny_onRaise ?_))
  show wpAny _ _ (Builtin.SmallTypes.nextOf (.ref i1) >>= _) _ _ _
  refine wpAny_bind (D1.item j _ _ _ hj t1 fun x h₂ tk₂ hx u1 hs₂ => wpAny_pure ?_)
  have hTO₂ : h₂.get? TO = some (tupN #[a, b, c]) := hs₂.extBut _ _ Z1.TOit (hs₁.extBut _ _ Z1.TOz hTO)
  refine wpAny_bind (wpAny_seqItems hTO₂ rfl ?_)
  refine wpAny_bind (upd_tupN hTO₂ (by simp) fun h₃ hTO₃ hs₃ => ?_)
  replace hTO₃ : h₃.get? TO = some (tupN #[x, b, c]) := hTO₃
  refine wpAny_bind (wpAny_letGo (wpAny_pure ?_))
  have u1' : S1 (j + 1) h₃ := st_but D1 u1 hs₃ fun b hb => (Z1.off b hb).2
  have u2 : S2 j h₃ := st_but D2 (st_but D2 t2 hs₂ o12) hs₃ fun b hb => (Z2.off b hb).2
  have u3 : S3 j h₃ := st_but D3 (st_but D3 t3 hs₂ o13) hs₃ fun b hb => (Z3.off b hb).2
  refine wpAny_bind (wpAny_bind (wpAny_onRaise ?_))
  show wpAny _ _ (Builtin.SmallTypes.nextOf (.ref i2) >>= _) _ _ _
  refine wpAny_bind (D2.item j _ _ _ hj u2 fun y h₄ tk₄ hy v2 hs₄ => wpAny_pure ?_)
  have hTO₄ : h₄.get? TO = some (tupN #[x, b, c]) := hs₄.extBut _ _ Z2.TOit hTO₃
  refine wpAny_bind (wpAny_seqItems hTO₄ rfl ?_)
  refine wpAny_bind (upd_tupN hTO₄ (by simp) fun h₅ hTO₅ hs₅ => ?_)
  replace hTO₅ : h₅.get? TO = some (tupN #[x, y, c]) := hTO₅
  refine wpAny_bind (wpAny_letGo (wpAny_pure ?_))
  have v1 : S1 (j + 1) h₅ := st_but D1 (st_but D1 u1' hs₄ o21) hs₅ fun b hb => (Z1.off b hb).2
  have v2' : S2 (j + 1) h₅ := st_but D2 v2 hs₅ fun b hb => (Z2.off b hb).2
  have v3 : S3 j h₅ := st_but D3 (st_but D3 u3 hs₄ o23) hs₅ fun b hb => (Z3.off b hb).2
  refine wpAny_bind (wpAny_bind (wpAny_onRaise ?_))
  show wpAny _ _ (Builtin.SmallTypes.nextOf (.ref i3) >>= _) _ _ _
  refine wpAny_bind (D3.item j _ _ _ hj v3 fun v h₆ tk₆ hv w3 hs₆ => wpAny_pure ?_)
  have hTO₆ : h₆.get? TO = some (tupN #[x, y, c]) := hs₆.extBut _ _ Z3.TOit hTO₅
  refine wpAny_bind (wpAny_seqItems hTO₆ rfl ?_)
  refine wpAny_bind (upd_tupN hTO₆ (by simp) fun h₇ hTO₇ hs₇ => ?_)
  replace hTO₇ : h₇.get? TO = some (tupN #[x, y, v]) := hTO₇
  refine wpAny_bind (wpAny_letGo (wpAny_pure (wpAny_pure ?_)))
  have w1 : S1 (j + 1) h₇ := st_but D1 (st_but D1 v1 hs₆ o31) hs₇ fun b hb => (Z1.off b hb).2
  have w2 : S2 (j + 1) h₇ := st_but D2 (st_but D2 v2' hs₆ o32) hs₇ fun b hb => (Z2.off b hb).2
  have w3' : S3 (j + 1) h₇ := st_but D3 w3 hs₇ fun b hb => (Z3.off b hb).2
  refine wpAny_bind (wpAny_seqItems hTO₇ rfl ?_)
  refine wpAny_bind (wpAny_newTuple ?_)
  have hsz : h₇.objs.size = s.heap.objs.size := by rw [hs₇.1, hs₆.1, hs₅.1, hs₄.1, hs₃.1, hs₂.1, hs₁.1]
  have kz : ∀ o, h₁.get? z = some o → h₇.get? z = some o := fun o e => hs₇.extBut _ _ Z1.TOz.symm (hs₆.extBut _ _ Z3.itz.symm (hs₅.extBut _ _ Z1.TOz.symm (hs₄.extBut _ _ Z2.itz.symm (hs₃.extBut _ _ Z1.TOz.symm (hs₂.extBut _ _ Z1.itz.symm e)))))
  have hz₇ : IsZip h₇ z TI TO .ellipsis := kz _ hz₁
  have hk₇ : ∀ c o, c ≠ z → c ≠ TO → c ≠ i1 → c ≠ i2 → c ≠ i3 → s.heap.get? c = some o → h₇.get? c = some o := fun c o c1 c2 c3 c4 c5 e =>
    hs₇.extBut _ _ c2 (hs₆.extBut _ _ c5 (hs₅.extBut _ _ c2 (hs₄.extBut _ _ c4 (hs₃.extBut _ _ c2 (hs₂.extBut _ _ c3 (hs₁.extBut _ _ c1 e))))))
  have hzlt : z < h₇.objs.size := Heap.lt_size hz₇
  show wpAny _ _ (Builtin.SmallTypes.ownedTupleHandOut (.ref z) (.ref h₇.objs.size) >>= _) _ _ _
  refine wpAny_bind ?_
  unfold Builtin.SmallTypes.ownedTupleHandOut
  have hz₈ : IsZip (h₇.push (tupN #[x, y, v])) z TI TO .ellipsis := Heap.get?_push_of_some _ hz₇
  refine wpAny_bind (wpAny_setField_rec hz₈ (by simp) fun h₈ hz₉ hs₈ => ?_)
  replace hz₉ : IsZip h₈ z TI TO (rawInt h₇.objs.size) := hz₉
  refine wpAny_setField_rec hz₉ (by simp) fun h₉ hz₁₀ hs₉ => ?_
  replace hz₁₀ : IsZip h₉ z TI TO (rawInt h₇.objs.size) := hz₁₀
  have up : ∀ c o, c ≠ z → h₇.get? c = some o → h₉.get? c = some o := fun c o c1 e => hs₉.extBut _ _ c1 (hs₈.extBut _ _ c1 (Heap.get?_push_of_some _ e))
  have hT₉ : h₉.get? h₇.objs.size = some (tupN #[x, y, v]) := hs₉.extBut _ _ (Nat.ne_of_gt hzlt) (hs₈.extBut _ _ (Nat.ne_of_gt hzlt) (Heap.get?_push_size _ rfl))
  have hz9 : h₉.objs.size = h₇.objs.size + 1 := by rw [hs₉.1, hs₈.1, Heap.size_push]
  rw [hsz] at hz₁₀ hT₉ hz9
  refine wpAny_pure ⟨_, rfl, ?_⟩
  show Q (.ref h₇.objs.size) _
  rw [hsz]
  exact hQ x y v h₉ _ hx hy hv hz₁₀ (up _ _ Z1.TOz hTO₇) (D1.frame _ _ _ w1 fun b hb o e => up b o (Z1.off b hb).1 e) (D2.frame _ _ _ w2 fun b hb o e => up b o (Z2.off b hb).1 e) (D3.frame _ _ _ w3' fun b hb o e => up b o (Z3.off b hb).1 e) hT₉ hz9
    fun c o c1 c2 c3 c4 c5 e => up c o c1 (hk₇ c o c1 c2 c3 c4 c5 e)
theorem zip2_item {z TI TO i1 i2 : Addr} {f1 f2 : List Addr} {n j : Nat} {P1 P2 : Nat → Value → Prop} {S1 S2 : Nat → Heap → Prop} {a b : Value} {Q : Value → Shared → Prop}
    (D1 : Draws prog w A i1 f1 n P1 S1) (D2 : Draws prog w A i2 f2 n P2 S2) (Z1 : ZApart z TO i1 f1) (Z2 : ZApart z TO i2 f2)
    (o12 : ∀ x ∈ f2, x ≠ i1) (o21 : ∀ x ∈ f1, x ≠ i2)
    (hz : IsZip s.heap z TI TO .none) (hTI : s.heap.get? TI = some (tupN #[.ref i1, .ref i2])) (hTO : s.heap.get? TO = some (tupN #[a, b]))
    (s1 : S1 j s.heap) (s2 : S2 j s.heap) (hj : j < n)
    (hQ : ∀ x y h' tk, P1 j x → P2 j y → IsZip h' z TI TO (rawInt s.heap.objs.size) → h'.get? TO = some (tupN #[x, y]) → S1 (j + 1) h' → S2 (j + 1) h' → h'.get? s.heap.objs.size = some (tupN #[x, y]) → h'.objs.size = s.heap.objs.size + 1 →
      (∀ c o, c ≠ z → c ≠ TO → c ≠ i1 → c ≠ i2 → s.heap.get? c = some o → h'.get? c = some o) → Q (.ref s.heap.objs.size) { s with heap := h', toks := tk }) :
    wpAny (model prog w) A (Builtin.«zip.__next__» ⟨[.ref z], []⟩) (fun fin s' => ∃ v, fin = .done (.ret v) ∧ Q v s') E s := by
  show wpAny _ _ (field (.ref z) 2 >>= _) _ _ _
  refine wpAny_bind (wpAny_field hz rfl (x := .bool false) rfl ?_)
  show wpAny _ _ (field (.ref z) 3 >>= _) _ _ _
  refine wpAny_bind (wpAny_field hz rfl (x := .ref TI) rfl ?_)
  refine wpAny_bind (wpAny_seqItems hTI rfl ?_)
  show wpAny _ _ (Builtin.SmallTypes.ownedTupleIsFree (.ref z) >>= _) _ _ _
  refine wpAny_bind ?_
  unfold Builtin.SmallTypes.ownedTupleIsFree
  refine wpAny_bind (wpAny_field hz rfl (x := .none) rfl (wpAny_pure ?_))
  simp only [if_true]
  refine wpAny_bind (wpAny_rule ?_)
  refine wpAny_bind (wpAny_field hz rfl (x := .ref TO) rfl ?_)
  refine wpAny_bind (wpAny_setField_rec hz (by simp) fun h₁ hz₁ hs₁ => ?_)
  replace hz₁ : IsZip h₁ z TI TO .ellipsis := hz₁
  refine wpAny_bind ?_
  simp only [List.zipIdx_cons, List.zipIdx_nil, List.forIn_cons, List.forIn_nil]
  have t1 : S1 j h₁ := st_but D1 s1 hs₁ fun b hb => (Z1.off b hb).1
  have t2 : S2 j h₁ := st_but D2 s2 hs₁ fun b hb => (Z2.off b hb).1
  refine wpAny_bind (wpAny_bind (wpAny_onRaise ?_))
  show wpAny _ _ (Builtin.SmallTypes.nextOf (.ref i1) >>= _) _ _ _
  refine wpAny_bind (D1.item j _ _ _ hj t1 fun x h₂ tk₂ hx u1 hs₂ => wpAny_pure ?_)
  have hTO₂ : h₂.get? TO = some (tupN #[a, b]) := hs₂.extBut _ _ Z1.TOit (hs₁.extBut _ _ Z1.TOz hTO)
  refine wpAny_bind (wpAny_seqItems hTO₂ rfl ?_)
  refine wpAny_bind (upd_tupN hTO₂ (by simp) fun h₃ hTO₃ hs₃ => ?_)
  replace hTO₃ : h₃.get? TO = some (tupN #[x, b]) := hTO₃
  refine wpAny_bind (wpAny_letGo (wpAny_pure ?_))
  have u1' : S1 (j + 1) h₃ := st_but D1 u1 hs₃ fun b hb => (Z1.off b hb).2
  have u2 : S2 j h₃ := st_but D2 (st_but D2 t2 hs₂ o12) hs₃ fun b hb => (Z2.off b hb).2
  refine wpAny_bind (wpAny_bind (wpAny_onRaise ?_))
  show wpAny _ _ (Builtin.SmallTypes.nextOf (.ref i2) >>= _) _ _ _
  refine wpAny_bind (D2.item j _ _ _ hj u2 fun y h₄ tk₄ hy v2 hs₄ => wpAny_pure ?_)
  have hTO₄ : h₄.get? TO = some (tupN #[x, b]) := hs₄.extBut _ _ Z2.TOit hTO₃
  refine wpAny_bind (wpAny_seqItems hTO₄ rfl ?_)
  refine wpAny_bind (upd_tupN hTO₄ (by simp) fun h₇ hTO₇ hs₇ => ?_)
  replace hTO₇ : h₇.get? TO = some (tupN #[x, y]) := hTO₇
  refine wpAny_bind (wpAny_letGo (wpAny_pure (wpAny_pure ?_)))
  have w1 : S1 (j + 1) h₇ := st_but D1 (st_but D1 u1' hs₄ o21) hs₇ fun b hb => (Z1.off b hb).2
  have w2 : S2 (j + 1) h₇ := st_but D2 v2 hs₇ fun b hb => (Z2.off b hb).2
  refine wpAny_bind (wpAny_seqItems hTO₇ rfl ?_)
  refine wpAny_bind (wpAny_newTuple ?_)
  have hsz : h₇.objs.size = s.heap.objs.size := by rw [hs₇.1, hs₄.1, hs₃.1, hs₂.1, hs₁.1]
  have kz : ∀ o, h₁.get? z = some o → h₇.get? z = some o := fun o e => hs₇.extBut _ _ Z1.TOz.symm (hs₄.extBut _ _ Z2.itz.symm (hs₃.extBut _ _ Z1.TOz.symm (hs₂.extBut _ _ Z1.itz.symm e)))
  have hz₇ : IsZip h₇ z TI TO .ellipsis := kz _ hz₁
  have hk₇ : ∀ c o, c ≠ z → c ≠ TO → c ≠ i1 → c ≠ i2 → s.heap.get? c = some o → h₇.get? c = some o := fun c o c1 c2 c3 c4 e =>
    hs₇.extBut _ _ c2 (hs₄.extBut _ _ c4 (hs₃.extBut _ _ c2 (hs₂.extBut _ _ c3 (hs₁.extBut _ _ c1 e))))
  have hzlt : z < h₇.objs.size := Heap.lt_size hz₇
  show wpAny _ _ (Builtin.SmallTypes.ownedTupleHandOut (.ref z) (.ref h₇.objs.size) >>= _) _ _ _
  refine wpAny_bind ?_
  unfold Builtin.SmallTypes.ownedTupleHandOut
  have hz₈ : IsZip (h₇.push (tupN #[x, y])) z TI TO .ellipsis := Heap.get?_push_of_some _ hz₇
  refine wpAny_bind (wpAny_setField_rec hz₈ (by simp) fun h₈ hz₉ hs₈ => ?_)
  replace hz₉ : IsZip h₈ z TI TO (rawInt h₇.objs.size) := hz₉
  refine wpAny_setField_rec hz₉ (by simp) fun h₉ hz₁₀ hs₉ => ?_
  replace hz₁₀ : IsZip h₉ z TI TO (rawInt h₇.objs.size) := hz₁₀
  have up : ∀ c o, c ≠ z → h₇.get? c = some o → h₉.get? c = some o := fun c o c1 e => hs₉.extBut _ _ c1 (hs₈.extBut _ _ c1 (Heap.get?_push_of_some _ e))
  have hT₉ : h₉.get? h₇.objs.size = some (tupN #[x, y]) := hs₉.extBut _ _ (Nat.ne_of_gt hzlt) (hs₈.extBut _ _ (Nat.ne_of_gt hzlt) (Heap.get?_push_size _ rfl))
  have hz9 : h₉.objs.size = h₇.objs.size + 1 := by rw [hs₉.1, hs₈.1, Heap.size_push]
  rw [hsz] at hz₁₀ hT₉ hz9
  refine wpAny_pure ⟨_, rfl, ?_⟩
  show Q (.ref h₇.objs.size) _
  rw [hsz]
  exact hQ x y h₉ _ hx hy hz₁₀ (up _ _ Z1.TOz hTO₇) (D1.frame _ _ _ w1 fun b hb o e => up b o (Z1.off b hb).1 e) (D2.frame _ _ _ w2 fun b hb o e => up b o (Z2.off b hb).1 e) hT₉ hz9
    fun c o c1 c2 c3 c4 e => up c o c1 (hk₇ c o c1 c2 c3 c4 e)
theorem zip3_end {z TI TO i1 : Addr} {r2 r3 : Value} {f1 : List Addr} {n : Nat} {P1 : Nat → Value → Prop} {S1 : Nat → Heap → Prop} {Q : Fin → Shared → Prop}
    (D1 : Draws prog w A i1 f1 n P1 S1) (Z1 : ZApart z TO i1 f1) (hz : IsZip s.heap z TI TO .none) (hTI : s.heap.get? TI = some (tupN #[.ref i1, r2, r3])) (s1 : S1 n s.heap)
    (hE : ∀ h' e, (∀ c o, c ≠ z → c ≠ i1 → s.heap.get? c = some o → h'.get? c = some o) → (∃ o, h'.get? e = some o ∧ o.cls = .type "StopIteration") → E (.ref e) { s with heap := h' }) :
    wpAny (model prog w) A (Builtin.«zip.__next__» ⟨[.ref z], []⟩) Q E s := by
  show wpAny _ _ (field (.ref z) 2 >>= _) _ _ _
  refine wpAny_bind (wpAny_field hz rfl (x := .bool false) rfl ?_)
  show wpAny _ _ (field (.ref z) 3 >>= _) _ _ _
  refine wpAny_bind (wpAny_field hz rfl (x := .ref TI) rfl ?_)
  refine wpAny_bind (wpAny_seqItems hTI rfl ?_)
  show wpAny _ _ (Builtin.SmallTypes.ownedTupleIsFree (.ref z) >>= _) _ _ _
  refine wpAny_bind ?_
  unfold Builtin.SmallTypes.ownedTupleIsFree
  refine wpAny_bind (wpAny_field hz rfl (x := .none) rfl (wpAny_pure ?_))
  simp only [if_true]
  refine wpAny_bind (wpAny_rule ?_)
  refine wpAny_bind (wpAny_field hz rfl (x := .ref TO) rfl ?_)
  refine wpAny_bind (wpAny_setField_rec hz (by simp) fun h₁ hz₁ hs₁ => ?_)
  replace hz₁ : IsZip h₁ z TI TO .ellipsis := hz₁
  refine wpAny_bind ?_
  simp only [List.zipIdx_cons, List.zipIdx_nil, List.forIn_cons, List.forIn_nil]
  have t1 : S1 n h₁ := st_but D1 s1 hs₁ fun b hb => (Z1.off b hb).1
  refine wpAny_bind (wpAny_bind (wpAny_onRaise ?_))
  show wpAny _ _ (Builtin.SmallTypes.nextOf (.ref i1) >>= _) _ _ _
  refine wpAny_bind (D1.done _ _ _ t1 fun h₂ e hs₂ he => ?_)
  obtain ⟨oe, hoe, hce⟩ := he
  have hz₂ : IsZip h₂ z TI TO .ellipsis := hs₂ _ _ Z1.itz.symm hz₁
  have hez : e ≠ z := fun x => by subst x; rw [hz₂] at hoe; cases hoe; simp at hce
  refine wpAny_setField_rec hz₂ (by simp) fun h₃ _ hs₃ => hE h₃ e (fun c o c1 c3 x => hs₃.extBut _ _ c1 (hs₂ _ _ c3 (hs₁.extBut _ _ c1 x))) ⟨oe, hs₃.extBut _ _ hez hoe, hce⟩
theorem zip2_end {z TI TO i1 : Addr} {r2 : Value} {f1 : List Addr} {n : Nat} {P1 : Nat → Value → Prop} {S1 : Nat → Heap → Prop} {Q : Fin → Shared → Prop}
    (D1 : Draws prog w A i1 f1 n P1 S1) (Z1 : ZApart z TO i1 f1) (hz : IsZip s.heap z TI TO .none) (hTI : s.heap.get? TI = some (tupN #[.ref i1, r2])) (s1 : S1 n s.heap)
    (hE : ∀ h' e, (∀ c o, c ≠ z → c ≠ i1 → s.heap.get? c = some o → h'.get? c = some o) → (∃ o, h'.get? e = some o ∧ o.cls = .type "StopIteration") → E (.ref e) { s with heap := h' }) :
    wpAny (model prog w) A (Builtin.«zip.__next__» ⟨[.ref z], []⟩) Q E s := by
  show wpAny _ _ (field (.ref z) 2 >>= _) _ _ _
  refine wpAny_bind (wpAny_field hz rfl (x := .bool false) rfl ?_)
  show wpAny _ _ (field (.ref z) 3 >>= _) _ _ _
  refine wpAny_bind (wpAny_field hz rfl (x := .ref TI) rfl ?_)
  refine wpAny_bind (wpAny_seqItems hTI rfl ?_)
  show wpAny _ _ (Builtin.SmallTypes.ownedTupleIsFree (.ref z) >>= _) _ _ _
  refine wpAny_bind ?_
  unfold Builtin.SmallTypes.ownedTupleIsFree
  refine wpAny_bind (wpAny_field hz rfl (x := .none) rfl (wpAny_pure ?_))
  simp only [if_true]
  refine wpAny_bind (wpAny_rule ?_)
  refine wpAny_bind (wpAny_field hz rfl (x := .ref TO) rfl ?_)
  refine wpAny_bind (wpAny_setField_rec hz (by simp) fun h₁ hz₁ hs₁ => ?_)
  replace hz₁ : IsZip h₁ z TI TO .ellipsis := hz₁
  refine wpAny_bind ?_
  simp only [List.zipIdx_cons, List.zipIdx_nil, List.forIn_cons, List.forIn_nil]
  have t1 : S1 n h₁ := st_but D1 s1 hs₁ fun b hb => (Z1.off b hb).1
  refine wpAny_bind (wpAny_bind (wpAny_onRaise ?_))
  show wpAny _ _ (Builtin.SmallTypes.nextOf (.ref i1) >>= _) _ _ _
  refine wpAny_bind (D1.done _ _ _ t1 fun h₂ e hs₂ he => ?_)
  obtain ⟨oe, hoe, hce⟩ := he
  have hz₂ : IsZip h₂ z TI TO .ellipsis := hs₂ _ _ Z1.itz.symm hz₁
  have hez : e ≠ z := fun x => by subst x; rw [hz₂] at hoe; cases hoe; simp at hce
  refine wpAny_setField_rec hz₂ (by simp) fun h₃ _ hs₃ => hE h₃ e (fun c o c1 c3 x => hs₃.extBut _ _ c1 (hs₂ _ _ c3 (hs₁.extBut _ _ c1 x))) ⟨oe, hs₃.extBut _ _ hez hoe, hce⟩

theorem zipW3 {z TI TO i1 i2 i3 : Addr} {f1 f2 f3 : List Addr} {n : Nat} {P1 P2 P3 : Nat → Value → Prop} {S1 S2 S3 : Nat → Heap → Prop} {elts : List PySem.Expr} {kk : Nat} {tp : Pos}
    (D1 : Draws prog w A.in1 i1 f1 n P1 S1) (D2 : Draws prog w A.in1 i2 f2 n P2 S2) (D3 : Draws prog w A.in1 i3 f3 n P3 S3) (Z1 : ZApart z TO i1 f1) (Z2 : ZApart z TO i2 f2) (Z3 : ZApart z TO i3 f3)
    (o12 : ∀ x ∈ f2, x ≠ i1) (o13 : ∀ x ∈ f3, x ≠ i1) (o21 : ∀ x ∈ f1, x ≠ i2) (o23 : ∀ x ∈ f3, x ≠ i2) (o31 : ∀ x ∈ f1, x ≠ i3) (o32 : ∀ x ∈ f2, x ≠ i3)
    (m1 : i1 ∈ f1) (m2 : i2 ∈ f2) (m3 : i3 ∈ f3) (hTI : TI ≠ z ∧ TI ≠ TO ∧ TI ≠ i1 ∧ TI ≠ i2 ∧ TI ≠ i3) :
    KTurns prog w A (.Tuple elts kk tp) z ([z, TI, TO] ++ (f1 ++ (f2 ++ f3))) [z, TO, i1, i2, i3] n
      (fun j v h => ∃ T x y u, v = .ref T ∧ P1 j x ∧ P2 j y ∧ P3 j u ∧ h.IsTuple T #[x, y, u])
      (fun j v h => ∃ T x y u, v = .ref T ∧ P1 j x ∧ P2 j y ∧ P3 j u ∧ h.get? T = some (tupN #[x, y, u]) ∧ T ≠ z ∧ IsZip h z TI TO (rawInt T) ∧ h.get? TI = some (tupN #[.ref i1, .ref i2, .ref i3]) ∧ (∃ a b c, h.get? TO = some (tupN #[a, b, c])) ∧ S1 (j + 1) h ∧ S2 (j + 1) h ∧ S3 (j + 1) h)
      (fun j h => IsZip h z TI TO .none ∧ h.get? TI = some (tupN #[.ref i1, .ref i2, .ref i3]) ∧ (∃ a b c, h.get? TO = some (tupN #[a, b, c])) ∧ S1 j h ∧ S2 j h ∧ S3 j h) where
  sub := fun b hb => by
    simp only [List.mem_cons, List.not_mem_nil, or_false] at hb
    simp only [List.mem_append, List.mem_cons, List.not_mem_nil, or_false]
    rcases hb with rfl | rfl | rfl | rfl | rfl
    · exact .inl (.inl rfl)
    · exact .inl (.inr (.inr rfl))
    · exact .inr (.inl m1)
    · exact .inr (.inr (.inl m2))
    · exact .inr (.inr (.inr m3))
  frame := fun j h h' st hk => by
    obtain ⟨hz, ht, ⟨a, b, c, ho⟩, s1, s2, s3⟩ := st
    exact ⟨hk z (by k_mem) _ hz, hk TI (by k_mem) _ ht, ⟨a, b, c, hk TO (by k_mem) _ ho⟩, D1.frame _ _ _ s1 fun b hb o e => hk b (List.mem_append_right _ (List.mem_append_left _ hb)) o e, D2.frame _ _ _ s2 fun b hb o e => hk b (List.mem_append_right _ (List.mem_append_right _ (List.mem_append_left _ hb))) o e, D3.frame _ _ _ s3 fun b hb o e => hk b (List.mem_append_right _ (List.mem_append_right _ (List.mem_append_right _ hb))) o e⟩
  item := fun j s Q E hj st hQ => by
    obtain ⟨hz, ht, ⟨a, b, c, ho⟩, s1, s2, s3⟩ := st
    have hT : s.TypeIs (.ref z) "zip" := ⟨_, hz, rfl⟩
    unfold pyNext
    refine wpAny_bind (wpAny_attempt (wpAny_callSpecial?_slot (name := Str.ofString "__next__") hT F.slot_zip_next
      (wpAny_call_entry F.slot_zip_next hT F.entry_zip_next
        (zip3_item D1 D2 D3 Z1 Z2 Z3 o12 o13 o21 o23 o31 o32 hz ht ho s1 s2 s3 hj fun x y u h' tk px py pu q1 q2 q3 q4 q5 q6 q7 q8 => wpAny_pure ?_) (F.args_zip_next_1 _))))
    exact hQ _ h' tk ⟨_, x, y, u, rfl, px, py, pu, q6, Nat.ne_of_gt (Heap.lt_size hz), q1, q8 _ _ hTI.1 hTI.2.1 hTI.2.2.1 hTI.2.2.2.1 hTI.2.2.2.2 ht, ⟨_, _, _, q2⟩, q3, q4, q5⟩
      fun c o hc e => q8 c o (nm hc (by k_mem)) (nm hc (by k_mem)) (nm hc (by k_mem)) (nm hc (by k_mem)) (nm hc (by k_mem)) e
  go := fun j v s Q E hm hQ => by
    obtain ⟨T, x, y, u, rfl, px, py, pu, hT, hne, hz, ht, ⟨a, b, c, ho⟩, s1, s2, s3⟩ := hm
    refine wpAny_letOwnedTupleGo_zip hz fun h' hz' hs' => ?_
    exact hQ h' ⟨T, x, y, u, rfl, px, py, pu, ⟨_, hs'.extBut _ _ hne hT, rfl, _, rfl⟩⟩ ⟨hz', hs'.extBut _ _ hTI.1 ht, ⟨a, b, c, hs'.extBut _ _ Z1.TOz ho⟩, st_but D1 s1 hs' fun b hb => (Z1.off b hb).1, st_but D2 s2 hs' fun b hb => (Z2.off b hb).1, st_but D3 s3 hs' fun b hb => (Z3.off b hb).1⟩
      fun c o hc e => hs'.extBut _ _ (nm hc (by k_mem)) e
  done := fun s Q E st hQ => by
    obtain ⟨hz, ht, _, s1, _, _⟩ := st
    have hT : s.TypeIs (.ref z) "zip" := ⟨_, hz, rfl⟩
    unfold pyNext
    refine wpAny_bind (wpAny_attempt (wpAny_callSpecial?_slot (name := Str.ofString "__next__") hT F.slot_zip_next
      (wpAny_call_entry F.slot_zip_next hT F.entry_zip_next (zip3_end D1 Z1 hz ht s1 fun h' e hk he => ?_) (F.args_zip_next_1 _))))
    obtain ⟨o, ho, hc⟩ := he
    refine wpAny_bind (wpAny_isInstance (T := "StopIteration") (b := true) ⟨o, ho, hc⟩ isSubtype_stop ?_)
    exact wpAny_pure (hQ _ _ fun c o hc e => hk c o (nm hc (by k_mem)) (nm hc (by k_mem)) e)

theorem zipW2 {z TI TO i1 i2 : Addr} {f1 f2 : List Addr} {n : Nat} {P1 P2 : Nat → Value → Prop} {S1 S2 : Nat → Heap → Prop} {elts : List PySem.Expr} {kk : Nat} {tp : Pos}
    (D1 : Draws prog w A.in1 i1 f1 n P1 S1) (D2 : Draws prog w A.in1 i2 f2 n P2 S2) (Z1 : ZApart z TO i1 f1) (Z2 : ZApart z TO i2 f2) (o12 : ∀ x ∈ f2, x ≠ i1) (o21 : ∀ x ∈ f1, x ≠ i2)
    (m1 : i1 ∈ f1) (m2 : i2 ∈ f2) (hTI : TI ≠ z ∧ TI ≠ TO ∧ TI ≠ i1 ∧ TI ≠ i2) :
    KTurns prog w A (.Tuple elts kk tp) z ([z, TI, TO] ++ (f1 ++ f2)) [z, TO, i1, i2] n
      (fun j v h => ∃ T x y, v = .ref T ∧ P1 j x ∧ P2 j y ∧ h.IsTuple T #[x, y])
      (fun j v h => ∃ T x y, v = .ref T ∧ P1 j x ∧ P2 j y ∧ h.get? T = some (tupN #[x, y]) ∧ T ≠ z ∧ IsZip h z TI TO (rawInt T) ∧ h.get? TI = some (tupN #[.ref i1, .ref i2]) ∧ (∃ a b, h.get? TO = some (tupN #[a, b])) ∧ S1 (j + 1) h ∧ S2 (j + 1) h)
      (fun j h => IsZip h z TI TO .none ∧ h.get? TI = some (tupN #[.ref i1, .ref i2]) ∧ (∃ a b, h.get? TO = some (tupN #[a, b])) ∧ S1 j h ∧ S2 j h) where
  sub := fun b hb => by
    simp only [List.mem_cons, List.not_mem_nil, or_false] at hb
    simp only [List.mem_append, List.mem_cons, List.not_mem_nil, or_false]
    rcases hb with rfl | rfl | rfl | rfl
    · exact .inl (.inl rfl)
    · exact .inl (.inr (.inr rfl))
    · exact .inr (.inl m1)
    · exact .inr (.inr m2)
  frame := fun j h h' st hk => by
    obtain ⟨hz, ht, ⟨a, b, ho⟩, s1, s2⟩ := st
    exact ⟨hk z (by k_mem) _ hz, hk TI (by k_mem) _ ht, ⟨a, b, hk TO (by k_mem) _ ho⟩, D1.frame _ _ _ s1 fun b hb o e => hk b (List.mem_append_right _ (List.mem_append_left _ hb)) o e, D2.frame _ _ _ s2 fun b hb o e => hk b (List.mem_append_right _ (List.mem_append_right _ hb)) o e⟩
  item := fun j s Q E hj st hQ => by
    obtain ⟨hz, ht, ⟨a, b, ho⟩, s1, s2⟩ := st
    have hT : s.TypeIs (.ref z) "zip" := ⟨_, hz, rfl⟩
    unfold pyNext
    refine wpAny_bind (wpAny_attempt (wpAny_callSpecial?_slot (name := Str.ofString "__next__") hT F.slot_zip_next
      (wpAny_call_entry F.slot_zip_next hT F.entry_zip_next
        (zip2_item D1 D2 Z1 Z2 o12 o21 hz ht ho s1 s2 hj fun x y h' tk px py q1 q2 q3 q4 q6 q7 q8 => wpAny_pure ?_) (F.args_zip_next_1 _))))
    exact hQ _ h' tk ⟨_, x, y, rfl, px, py, q6, Nat.ne_of_gt (Heap.lt_size hz), q1, q8 _ _ hTI.1 hTI.2.1 hTI.2.2.1 hTI.2.2.2 ht, ⟨_, _, q2⟩, q3, q4⟩
      fun c o hc e => q8 c o (nm hc (by k_mem)) (nm hc (by k_mem)) (nm hc (by k_mem)) (nm hc (by k_mem)) e
  go := fun j v s Q E hm hQ => by
    obtain ⟨T, x, y, rfl, px, py, hT, hne, hz, ht, ⟨a, b, ho⟩, s1, s2⟩ := hm
    refine wpAny_letOwnedTupleGo_zip hz fun h' hz' hs' => ?_
    exact hQ h' ⟨T, x, y, rfl, px, py, ⟨_, hs'.extBut _ _ hne hT, rfl, _, rfl⟩⟩ ⟨hz', hs'.extBut _ _ hTI.1 ht, ⟨a, b, hs'.extBut _ _ Z1.TOz ho⟩, st_but D1 s1 hs' fun b hb => (Z1.off b hb).1, st_but D2 s2 hs' fun b hb => (Z2.off b hb).1⟩
      fun c o hc e => hs'.extBut _ _ (nm hc (by k_mem)) e
  done := fun s Q E st hQ => by
    obtain ⟨hz, ht, _, s1, _⟩ := st
    have hT : s.TypeIs (.ref z) "zip" := ⟨_, hz, rfl⟩
    unfold pyNext
    refine wpAny_bind (wpAny_attempt (wpAny_callSpecial?_slot (name := Str.ofString "__next__") hT F.slot_zip_next
      (wpAny_call_entry F.slot_zip_next hT F.entry_zip_next (zip2_end D1 Z1 hz ht s1 fun h' e hk he => ?_) (F.args_zip_next_1 _))))
    obtain ⟨o, ho, hc⟩ := he
    refine wpAny_bind (wpAny_isInstance (T := "StopIteration") (b := true) ⟨o, ho, hc⟩ isSubtype_stop ?_)
    exact wpAny_pure (hQ _ _ fun c o hc e => hk c o (nm hc (by k_mem)) (nm hc (by k_mem)) e)
end

end
/-! part ZN -/
section
open PySem PySem.W PyProof.Rows
theorem flushZN {prog : Program} {w : World} {A : Around} {E : Value → Shared → Prop} {s : Shared} {t u : Tok} {Q : Value → Shared → Prop} (h : wpAny (model prog w) A (binaryOp .Mult (.int 1 t) (.int 1 u)) Q E s) : wpAny (model prog w) A (binaryOp .Mult (.int 1 t) (.int 1 u)) Q E s := by
  first
  | (walk1; fail)
  | exact h
end
section
open PySem PySem.W PySem.Spec PySem.Calls PyProof.Rows

theorem typeCall_zip_3 (a b c : Value) : checkTypeCall "zip" ⟨[a, b, c], []⟩ = pure () := by kernel_rfl
theorem newCall_zip_3 (a b c : Value) : checkBuiltinCall "zip.__new__" ⟨[.type "zip", a, b, c], []⟩ = pure () := by kernel_rfl
theorem args_object_init_4 (a b c d : Value) : argsOk "object.__init__" ⟨[a, b, c, d], []⟩ := by
  unfold argsOk; rw [signature?_of (id := "object.__init__") (n := ['_', '_', 't', 'i', 'n', 'i', '_', '_']) (o := ['t', 'c', 'e', 'j', 'b', 'o']) (by kernel_rfl) PySem.F.owner_object]; kernel_rfl

abbrev tIt (l : Addr) : Obj := { cls := .type "tuple_iterator", data := .fields #[.ref l, .int 0 0] }
abbrev sIt (x : Str) (t : Tok) : Obj := { cls := .type (strIterType x), data := .fields #[.str x t, .int 0 0] }
abbrev zO (TI TO : Addr) : Obj := { cls := .type "zip", data := .fields #[.none, .bool false, .bool false, .ref TI, .ref TO] }
abbrev zA1 (h : Heap) (l1 : Addr) : Heap := h.push (tIt l1)
abbrev zA2 (h : Heap) (l1 l2 : Addr) : Heap := (zA1 h l1).push (tIt l2)
abbrev zA3 (h : Heap) (l1 l2 : Addr) (x : Str) (t : Tok) : Heap := (zA2 h l1 l2).push (sIt x t)
abbrev zA4 (h : Heap) (l1 l2 : Addr) (x : Str) (t : Tok) : Heap := (zA3 h l1 l2 x t).push (tupN #[.ref h.objs.size, .ref (zA1 h l1).objs.size, .ref (zA2 h l1 l2).objs.size])
abbrev zA5 (h : Heap) (l1 l2 : Addr) (x : Str) (t : Tok) : Heap := (zA4 h l1 l2 x t).push (tupN #[.none, .none, .none])
abbrev zA6 (h : Heap) (l1 l2 : Addr) (x : Str) (t : Tok) : Heap := (zA5 h l1 l2 x t).push (zO (zA3 h l1 l2 x t).objs.size (zA4 h l1 l2 x t).objs.size)
abbrev zB2 (h : Heap) (l1 : Addr) (x : Str) (t : Tok) : Heap := (zA1 h l1).push (sIt x t)
abbrev zB3 (h : Heap) (l1 : Addr) (x : Str) (t : Tok) : Heap := (zB2 h l1 x t).push (tupN #[.ref h.objs.size, .ref (zA1 h l1).objs.size])
abbrev zB4 (h : Heap) (l1 : Addr) (x : Str) (t : Tok) : Heap := (zB3 h l1 x t).push (tupN #[.none, .none])
abbrev zB5 (h : Heap) (l1 : Addr) (x : Str) (t : Tok) : Heap := (zB4 h l1 x t).push (zO (zB2 h l1 x t).objs.size (zB3 h l1 x t).objs.size)

theorem meets_zip3 (l1 l2 : Addr) (xs ys : Array Value) (x : Str) (t : Tok) :
    Meets (Builtin.«zip.__new__» ⟨[.type "zip", .ref l1, .ref l2, .str x t], []⟩) (fun _ R s => s.heap.IsTuple l1 xs ∧ s.heap.IsTuple l2 ys ∧
      R (.ok (.ret (.ref (zA5 s.heap l1 l2 x t).objs.size))) { s with heap := zA6 s.heap l1 l2 x t }) :=
  .of_wp fun prog w A R s h => by
    obtain ⟨hp, g, d, tk, os⟩ := s; obtain ⟨hl1, hl2, h⟩ := h
    have hsub := sub_zip
    have hL1 : Heap.IsTuple (Shared.heap ⟨hp, g, d, tk, os⟩) l1 xs := hl1
    have hL2 : Heap.IsTuple (Shared.heap ⟨hp.push (tIt l1), g, d, tk, os⟩) l2 ys := Heap.IsTuple.push hl2 _
    wp_walk using wpAny_pyIter_tuple hL1, wpAny_pyIter_tuple hL2, wpAny_pyIter_strU
    exact ⟨_, rfl, h⟩
theorem meets_zip2 (l1 : Addr) (xs : Array Value) (x : Str) (t : Tok) :
    Meets (Builtin.«zip.__new__» ⟨[.type "zip", .ref l1, .str x t], []⟩) (fun _ R s => s.heap.IsTuple l1 xs ∧
      R (.ok (.ret (.ref (zB4 s.heap l1 x t).objs.size))) { s with heap := zB5 s.heap l1 x t }) :=
  .of_wp fun prog w A R s h => by
    obtain ⟨hp, g, d, tk, os⟩ := s; obtain ⟨hl1, h⟩ := h
    have hsub := sub_zip
    have hL1 : Heap.IsTuple (Shared.heap ⟨hp, g, d, tk, os⟩) l1 xs := hl1
    wp_walk using wpAny_pyIter_tuple hL1, wpAny_pyIter_strU
    exact ⟨_, rfl, h⟩

section
variable {prog : Program} {w : World} {A : Around} {E : Value → Shared → Prop} {s : Shared} {h₀ : Heap} {L : Addr} {m : Str → Option Value} {news : List (Addr × Obj)}
theorem push_kept {h : Heap} (o : Obj) : ∀ b ob, h.get? b = some ob → (h.push o).get? b = some ob := fun _ _ e => Heap.get?_push_of_some _ e
/-- zip of two tuples and a text, onto the ledger -/
theorem zip3_new {l1 l2 : Addr} {xs ys : Array Value} {x : Str} {t : Tok} {Q : Value → Shared → Prop} (F : Fr h₀ L s.heap m) (N : News h₀ L s.heap news) (hl1 : s.heap.IsTuple l1 xs) (hl2 : s.heap.IsTuple l2 ys)
    (h : ∀ z TI TO i1 i2 i3 h', Fr h₀ L h' m → News h₀ L h' ((z, zO TI TO) :: (TO, tupN #[.none, .none, .none]) :: (TI, tupN #[.ref i1, .ref i2, .ref i3]) :: (i3, sIt x t) :: (i2, tIt l2) :: (i1, tIt l1) :: news) →
      (∀ q ∈ news, q.1 < i1) → (@LT.lt Nat _ i1 i2 ∧ @LT.lt Nat _ i2 i3 ∧ @LT.lt Nat _ i3 TI ∧ @LT.lt Nat _ TI TO ∧ @LT.lt Nat _ TO z) → Q (.ref z) { s with heap := h' }) :
    wpAny (model prog w) A (call (.type "zip") [.ref l1, .ref l2, .str x t]) Q E s := by
  refine callType_new PySem.F.called_zip (by decide) (typeCall_zip_3 _ _ _) (newCall_zip_3 _ _ _) (fun obj => args_object_init_4 obj _ _ _) PySem.F.entry_zip_new (meets_zip3 l1 l2 xs ys x t) ⟨hl1, hl2, ?_⟩
  refine ⟨⟨_, Heap.get?_push_size _ rfl, rfl⟩, ?_⟩
  have F1 := F.push (tIt l1)
  have F2 := F1.push (tIt l2)
  have F3 := F2.push (sIt x t)
  have F4 := F3.push (tupN #[.ref s.heap.objs.size, .ref (zA1 s.heap l1).objs.size, .ref (zA2 s.heap l1 l2).objs.size])
  have F5 := F4.push (tupN #[.none, .none, .none])
  have N1 := N.push F (tIt l1) rfl
  have N2 := News.push F1 N1 (tIt l2) rfl
  have N3 := News.push F2 N2 (sIt x t) rfl
  have N4 := News.push F3 N3 (tupN #[.ref s.heap.objs.size, .ref (zA1 s.heap l1).objs.size, .ref (zA2 s.heap l1 l2).objs.size]) rfl
  have N5 := News.push F4 N4 (tupN #[.none, .none, .none]) rfl
  have lt : ∀ (h : Heap) (o : Obj), h.objs.size < (h.push o).objs.size := fun h o => by rw [Heap.size_push]; exact Nat.lt_succ_self _
  exact h _ _ _ _ _ _ _ (F5.push _) (News.push F5 N5 _ rfl) (fun q hq => Heap.lt_size (N q hq).1) ⟨lt _ _, lt _ _, lt _ _, lt _ _, lt _ _⟩
theorem zip2_new {l1 : Addr} {xs : Array Value} {x : Str} {t : Tok} {Q : Value → Shared → Prop} (F : Fr h₀ L s.heap m) (N : News h₀ L s.heap news) (hl1 : s.heap.IsTuple l1 xs)
    (h : ∀ z TI TO i1 i2 h', Fr h₀ L h' m → News h₀ L h' ((z, zO TI TO) :: (TO, tupN #[.none, .none]) :: (TI, tupN #[.ref i1, .ref i2]) :: (i2, sIt x t) :: (i1, tIt l1) :: news) →
      (∀ q ∈ news, q.1 < i1) → (@LT.lt Nat _ i1 i2 ∧ @LT.lt Nat _ i2 TI ∧ @LT.lt Nat _ TI TO ∧ @LT.lt Nat _ TO z) → Q (.ref z) { s with heap := h' }) :
    wpAny (model prog w) A (call (.type "zip") [.ref l1, .str x t]) Q E s := by
  refine callType_new PySem.F.called_zip (by decide) (PySem.F.typeCall_zip_2 _ _) (PySem.F.newCall_zip_2 _ _) (fun obj => PySem.F.args_object_init_3 obj _ _) PySem.F.entry_zip_new (meets_zip2 l1 xs x t) ⟨hl1, ?_⟩
  refine ⟨⟨_, Heap.get?_push_size _ rfl, rfl⟩, ?_⟩
  have F1 := F.push (tIt l1)
  have F2 := F1.push (sIt x t)
  have F3 := F2.push (tupN #[.ref s.heap.objs.size, .ref (zA1 s.heap l1).objs.size])
  have F4 := F3.push (tupN #[.none, .none])
  have N1 := N.push F (tIt l1) rfl
  have N2 := News.push F1 N1 (sIt x t) rfl
  have N3 := News.push F2 N2 (tupN #[.ref s.heap.objs.size, .ref (zA1 s.heap l1).objs.size]) rfl
  have N4 := News.push F3 N3 (tupN #[.none, .none]) rfl
  have lt : ∀ (h : Heap) (o : Obj), h.objs.size < (h.push o).objs.size := fun h o => by rw [Heap.size_push]; exact Nat.lt_succ_self _
  exact h _ _ _ _ _ _ (F4.push _) (News.push F4 N4 _ rfl) (fun q hq => Heap.lt_size (N q hq).1) ⟨lt _ _, lt _ _, lt _ _, lt _ _⟩
end

end
/-! part CS -/
section
open PySem PySem.W PyProof.Rows
theorem flushCS {prog : Program} {w : World} {A : Around} {E : Value → Shared → Prop} {s : Shared} {t u : Tok} {Q : Value → Shared → Prop} (h : wpAny (model prog w) A (binaryOp .Mult (.int 1 t) (.int 1 u)) Q E s) : wpAny (model prog w) A (binaryOp .Mult (.int 1 t) (.int 1 u)) Q E s := by
  first
  | (walk1; fail)
  | exact h
end
section
open PySem PySem.W PySem.Spec PySem.Calls PyProof.Rows PyProof.Rows.LCg

def Kp (s s' : Shared) : Prop := (∃ h tk, s' = { s with heap := h, toks := tk }) ∧ ∀ x o, s.heap.get? x = some o → s'.heap.get? x = some o
def Kb (C : Addr) (s s' : Shared) : Prop := (∃ h tk, s' = { s with heap := h, toks := tk }) ∧ ∀ x o, x ≠ C → s.heap.get? x = some o → s'.heap.get? x = some o
def sel (bs : List (Int × Bool)) : List Int := (bs.filter (·.2)).map (·.1)

section
variable {prog : Program} {w : World} {A : Around} {s : Shared}
theorem comp_sel {elt target iter c : PySem.Expr} {scope : Scope} {pos : Pos} {z D C : Addr} {fp wr : List Addr} {n : Nat} {P Md : Nat → Value → Heap → Prop} {St : Nat → Heap → Prop} {cenv : Env} {R : Result → Shared → Prop} {bs : List (Int × Bool)} {m : Str → Option Value}
    (W : KTurns prog w A target z fp wr n P Md St) (hn : n = bs.length) (hn8 : n ≤ 8) (hDf : D ∉ fp) (hCf : C ∉ fp) (hDC : D ≠ C) (hst : St 0 s.heap) (hacc : s.heap.get? D = some (lst [])) (hns : s.heap.Ns C m)
    (turn : ∀ i wv b v (s₁ : Shared) m₂, bs[i]? = some (wv, b) → P i v s₁.heap → s₁.heap.Ns C m₂ → (∃ h tk, s₁ = { s with heap := h, toks := tk }) → (∀ x o, x ∉ wr → x ≠ C → x ≠ D → s.heap.get? x = some o → s₁.heap.get? x = some o) →
      ∀ Er : Value → Shared → Prop, wpAny (model prog w) A (assign target cenv v) (fun _ s₂ => Kb C s₁ s₂ ∧ (∃ m₃, s₂.heap.Ns C m₃) ∧ wpAny (model prog w) A (isTrue c cenv (eval c cenv)) (fun ok s₃ => ok = b ∧ Kp s₂ s₃ ∧
        (b = true → wpAny (model prog w) A (eval elt cenv) (fun y s₄ => (∃ t, y = .int wv t) ∧ Kp s₃ s₄) Er s₃)) Er s₂) Er s₁)
    (hR : ∀ h' tk ys, (∀ x o, x ∉ wr → x ≠ C → x ≠ D → s.heap.get? x = some o → h'.get? x = some o) → h'.get? D = some (lst ys) → IntsAre ys (sel bs) → (∃ m', h'.Ns C m') → R (.ok .next) { s with heap := h', toks := tk }) :
    codeAny (model prog w) A (.compLoop (.ListComp elt [⟨target, iter, [c], 0⟩] scope pos) 0 (.ref z) (.ref D) cenv) R s := by
  have hDw : D ∉ wr := fun h => hDf (W.sub _ h)
  have hCw : C ∉ wr := fun h => hCf (W.sub _ h)
  refine kct_loop (fun k s' => ∃ h' tk i ys m', s' = { s with heap := h', toks := tk } ∧ i ≤ n ∧ k = n + 1 - i ∧ ys.length ≤ i ∧ St i h' ∧ h'.get? D = some (lst ys) ∧ h'.Ns C m' ∧ IntsAre ys (sel (bs.take i)) ∧
    (∀ x o, x ∉ wr → x ≠ C → x ≠ D → s.heap.get? x = some o → h'.get? x = some o)) ?_ (n + 1) ⟨s.heap, s.toks, 0, [], m, rfl, Nat.zero_le _, rfl, Nat.le_refl _, hst, hacc, hns, .nil, fun _ _ _ _ _ e => e⟩
  rintro k s' ⟨h', tk, i, ys, m', rfl, hi, rfl, hyl, hst', hD', hn', hys, hk⟩
  by_cases hlt : i < n
  · refine W.item i _ _ _ hlt hst' fun v h₁ tk₁ hMd hk₁ => ?_
    refine W.go i v _ _ _ hMd fun h₂ hP hst₂ hk₂ => ?_
    have up : ∀ x o, x ∉ wr → h'.get? x = some o → h₂.get? x = some o := fun x o hx e => hk₂ x o hx (hk₁ x o hx e)
    obtain ⟨wv, b, hb⟩ : ∃ wv b, bs[i]? = some (wv, b) := ⟨_, _, List.getElem?_eq_getElem (by omega)⟩
    refine wpAny_mono (turn i wv b v { s with heap := h₂, toks := tk₁ } m' hb hP (hn'.at' fun o e => up _ o hCw e) ⟨h₂, tk₁, rfl⟩ (fun x o h1 h2 h3 e => up x o h1 (hk x o h1 h2 h3 e)) _) (fun _ s₂ h₂' => ?_) fun _ _ e => e
    obtain ⟨⟨⟨h₃, tk₃, rfl⟩, kb⟩, ⟨m₃, hn₃⟩, ht⟩ := h₂'
    have kb' : ∀ x o, x ≠ C → h₂.get? x = some o → h₃.get? x = some o := kb
    have st₃ : St (i + 1) h₃ := W.frame _ _ _ hst₂ fun x hx o e => kb' x o (fun q => hCf (q ▸ hx)) e
    have D₃ : h₃.get? D = some (lst ys) := kb' D _ hDC (up D _ hDw hD')
    have k₃ : ∀ x o, x ∉ wr → x ≠ C → x ≠ D → s.heap.get? x = some o → h₃.get? x = some o := fun x o h1 h2 h3 e => kb' x o h2 (up x o h1 (hk x o h1 h2 h3 e))
    refine wpAny_mono ht (fun ok s₃ h₃' => ?_) fun _ _ e => e
    obtain ⟨rfl, ⟨⟨h₄, tk₄, rfl⟩, kp⟩, helt⟩ := h₃'
    have kp' : ∀ x o, h₃.get? x = some o → h₄.get? x = some o := kp
    have htake : bs.take (i + 1) = bs.take i ++ [(wv, ok)] := by rw [List.take_add_one, hb]; rfl
    cases ok with
    | false =>
      simp only [Bool.false_eq_true, if_false]
      refine ⟨n + 1 - (i + 1), by omega, h₄, tk₄, i + 1, ys, m₃, rfl, hlt, rfl, Nat.le_succ_of_le hyl, W.frame _ _ _ st₃ fun x _ o e => kp' x o e, kp' _ _ D₃, hn₃.at' fun o e => kp' _ o e, ?_, fun x o h1 h2 h3 e => kp' x o (k₃ x o h1 h2 h3 e)⟩
      rw [htake]
      simpa [sel] using hys
    | true =>
      simp only [if_true]
      refine wpAny_mono (helt rfl) (fun y s₄ h₅ => ?_) fun _ _ e => e
      obtain ⟨⟨t, rfl⟩, ⟨⟨h₅, tk₅, rfl⟩, kp2⟩⟩ := h₅
      have kp2' : ∀ x o, h₄.get? x = some o → h₅.get? x = some o := kp2
      have D₅ : h₅.get? D = some (lst ys) := kp2' _ _ (kp' _ _ D₃)
      refine append_at (hsz := by show ys.toArray.size ≤ sizeLine; rw [List.size_toArray, sizeLine_eq]; omega) D₅ fun h₆ hs₆ hD₆ => ?_
      refine ⟨n + 1 - (i + 1), by omega, h₆, _, i + 1, ys ++ [.int wv t], m₃, rfl, hlt, rfl, by rw [List.length_append]; exact Nat.succ_le_succ hyl, W.frame _ _ _ st₃ fun x hx o e => hs₆.extBut x o (fun q => hDf (q ▸ hx)) (kp2' x o (kp' x o e)),
        hD₆.trans (congrArg some (lst_snoc ys _)), (hn₃.at' fun o e => hs₆.extBut _ o (Ne.symm hDC) (kp2' _ o (kp' _ o e))), ?_, fun x o h1 h2 h3 e => hs₆.extBut x o h3 (kp2' x o (kp' x o (k₃ x o h1 h2 h3 e)))⟩
      rw [htake]
      have : sel (bs.take i ++ [(wv, true)]) = sel (bs.take i) ++ [wv] := by simp [sel]
      rw [this]
      exact ints_snoc hys
  · have hin : i = n := Nat.le_antisymm hi (Nat.not_lt.mp hlt)
    subst hin
    refine W.done _ _ _ hst' fun h₁ tk₁ hk₁ => ?_
    refine hR h₁ tk₁ ys (fun x o h1 h2 h3 e => hk₁ x o h1 (hk x o h1 h2 h3 e)) (hk₁ _ _ hDw hD') ?_ ⟨m', hn'.at' fun o e => hk₁ _ o hCw e⟩
    rw [hn, List.take_length] at hys
    exact hys
end

end
/-! part CZ -/
section
open PySem PySem.W PyProof.Rows
theorem flushCZ {prog : Program} {w : World} {A : Around} {E : Value → Shared → Prop} {s : Shared} {t u : Tok} {Q : Value → Shared → Prop} (h : wpAny (model prog w) A (binaryOp .Mult (.int 1 t) (.int 1 u)) Q E s) : wpAny (model prog w) A (binaryOp .Mult (.int 1 t) (.int 1 u)) Q E s := by
  first
  | (walk1; fail)
  | exact h
end
section
open PySem PySem.W PySem.Spec PySem.Calls PyProof.Rows PyProof.Rows.LCg

section
variable {prog : Program} {w : World} {A : Around} {E : Value → Shared → Prop} {s : Shared} {h₀ : Heap} {L : Addr} {m : Str → Option Value} {env : Env}
/-- the source of a selecting comprehension: a zip that is known -/
def ZSrc (prog : Program) (w : World) (A : Around) (h₀ : Heap) (L : Addr) (m : Str → Option Value) (env : Env) (c elt target : PySem.Expr) (scope : Scope) (cl : List (Str × Addr)) (Q : Value → Shared → Prop) (xv : Value) (s₁ : Shared) : Prop :=
  ∃ (z TI TO : Addr) (fp wr : List Addr) (n : Nat) (P Md : Nat → Value → Heap → Prop) (St : Nat → Heap → Prop) (bs : List (Int × Bool)) (news : List (Addr × Obj)),
    xv = .ref z ∧ KTurns prog w A target z fp wr n P Md St ∧ n = bs.length ∧ n ≤ 8 ∧ IsZip s₁.heap z TI TO .none ∧ St 0 s₁.heap ∧ (∀ b ∈ fp, b < s₁.heap.objs.size) ∧ Fr h₀ L s₁.heap m ∧ News h₀ L s₁.heap news ∧ L ∉ wr ∧ (∀ b ∈ wr, h₀.get? b = none) ∧ (∀ p ∈ news, p.1 ∉ wr) ∧
    (∀ C i wv b v (s₂ : Shared) m₂, bs[i]? = some (wv, b) → P i v s₂.heap → s₂.heap.Ns C m₂ → ∀ Er : Value → Shared → Prop,
      wpAny (model prog w) A (assign target (compEnvC scope cl C env) v) (fun _ s₃ => Kb C s₂ s₃ ∧ (∃ m₃, s₃.heap.Ns C m₃) ∧ wpAny (model prog w) A (isTrue c (compEnvC scope cl C env) (eval c (compEnvC scope cl C env))) (fun ok s₄ => ok = b ∧ Kp s₃ s₄ ∧
        (b = true → wpAny (model prog w) A (eval elt (compEnvC scope cl C env)) (fun y s₅ => (∃ t, y = .int wv t) ∧ Kp s₄ s₅) Er s₄)) Er s₃) Er s₂) ∧
    ∀ D ys h' tk, Fr h₀ L h' m → News h₀ L h' ((D, lst ys) :: news) → IntsAre ys (sel bs) → (∀ p ∈ news, p.1 < D) → @LT.lt Nat _ L D → Q (.ref D) { s₁ with heap := h', toks := tk }

theorem ListComp_zip {c elt iter : PySem.Expr} {elts : List PySem.Expr} {kk : Nat} {tp : Pos} {scope : Scope} {cl : List (Str × Addr)} {pos : Pos} {Q : Value → Shared → Prop} (_F₀ : Fr h₀ L s.heap m)
    (hclos : closureFor scope env = pure cl) (hcell : ∀ y ∈ scope.names, y.2 ≠ .cell) (hkind : scope.kind = .function)
    (hnames : ∀ y ∈ scope.names, y.2 = .local → scope.names.lookup y.1 = some .local)
    (h : wpAny (model prog w) A (eval iter env) (ZSrc prog w A h₀ L m env c elt (.Tuple elts kk tp) scope cl Q) E s)
    (hs : ∀ x, foldedSetIterable iter env x = pure x := by intro _; rfl) :
    wpAny (model prog w) A (eval (.ListComp elt [⟨.Tuple elts kk tp, iter, [c], 0⟩] scope pos) env) Q E s := by
  rw [eval_ListComp]
  refine wpAny_comprehension_free (use := none) rfl hs hclos hkind hnames (wpAny_mono h (fun xv s₁ h₁ => ?_) fun _ _ e => e)
  obtain ⟨z, TI, TO, fp, wr, n, P, Md, St, bs, news, rfl, W, hn, hn8, hz, hst, hfp, F, N, hLw, hwr, hnw, turn, fin⟩ := h₁
  refine wpAny_pyIter_zip hz ?_
  refine wpAny_newObj_type (wpAny_newFunctionEnv hcell (by intro y hy; simp at hy) (fun h₁ hns₁ hsb₁ => ?_) hkind)
  dsimp only at hns₁ hsb₁ ⊢
  generalize hH2 : s₁.heap.push { cls := .type "list", dict := none, data := .seq ([] : List Value).toArray } = H2 at hns₁ hsb₁ ⊢
  have hC : H2.objs.size = s₁.heap.objs.size + 1 := by rw [← hH2, Heap.size_push]
  have hDC : s₁.heap.objs.size ≠ H2.objs.size := by rw [hC]; exact Nat.ne_of_lt (Nat.lt_succ_self _)
  have below : ∀ b, b < s₁.heap.objs.size → b ≠ H2.objs.size ∧ b ≠ s₁.heap.objs.size := fun b hb => ⟨by rw [hC]; exact Nat.ne_of_lt (Nat.lt_succ_of_lt hb), Nat.ne_of_lt hb⟩
  have hDf : s₁.heap.objs.size ∉ fp := fun hm => Nat.lt_irrefl _ (hfp _ hm)
  have hCf : H2.objs.size ∉ fp := fun hm => by have := hfp _ hm; rw [hC] at this; exact Nat.lt_irrefl _ (Nat.lt_of_succ_lt this)
  have old : ∀ b o, s₁.heap.get? b = some o → h₁.get? b = some o := fun b o e => hsb₁.extBut b o (below b (Heap.lt_size e)).1 (Heap.get?_push_of_some _ (hH2 ▸ Heap.get?_push_of_some _ e))
  have hacc : h₁.get? s₁.heap.objs.size = some (lst []) := hsb₁.extBut _ _ hDC (Heap.get?_push_of_some _ (hH2 ▸ Heap.get?_push_size _ rfl))
  have hst₁ : St 0 h₁ := W.frame _ _ _ hst fun b _ o e => old b o e
  have Llt := F.ns.lt
  have fresh₀ : ∀ a, s₁.heap.objs.size ≤ a → h₀.get? a = none := fun a ha => Heap.get?_none_of_le (Nat.le_trans F.above (Nat.le_trans (Nat.le_of_lt Llt) ha))
  refine codeAny_compStart_list ?_ (wpAny_pyIter_zip (old _ _ hz) ?_)
  all_goals
    refine comp_sel (C := H2.objs.size) (bs := bs) W hn hn8 hDf hCf hDC hst₁ hacc hns₁ (fun i wv b v s₂ m₂ hb hP hns _ _ Er => turn _ i wv b v s₂ m₂ hb hP hns Er) ?_
    intro h' tk ys hk hD hys hm
    obtain ⟨m', hn'⟩ := hm
    have up : ∀ x o, x ∉ wr → s₁.heap.get? x = some o → h'.get? x = some o := fun x o hx e => hk x o hx (below x (Heap.lt_size e)).1 (below x (Heap.lt_size e)).2 (old x o e)
    refine ⟨m', hn', fun h'' hs'' => ?_⟩
    have up2 : ∀ x o, x ∉ wr → s₁.heap.get? x = some o → h''.get? x = some o := fun x o hx e => hs''.extBut x o (below x (Heap.lt_size e)).1 (up x o hx e)
    refine fin s₁.heap.objs.size ys h'' tk ⟨F.ns.at' fun o e => up2 _ o hLw e, fun b o e => up2 b o (fun q => by rw [hwr b q] at e; cases e) (F.keep b o e), F.above⟩ (fun p hp => ?_) hys (fun p hp => Heap.lt_size (N p hp).1) Llt
    rcases List.mem_cons.mp hp with rfl | hp
    · exact ⟨hs''.extBut _ _ hDC hD, Nat.ne_of_gt Llt, fresh₀ _ (Nat.le_refl _)⟩
    · exact ⟨up2 _ _ (hnw p hp) (N p hp).1, (N p hp).2⟩
end

end
/-! part CT -/
section
open PySem PySem.W PyProof.Rows
theorem flushCT {prog : Program} {w : World} {A : Around} {E : Value → Shared → Prop} {s : Shared} {t u : Tok} {Q : Value → Shared → Prop} (h : wpAny (model prog w) A (binaryOp .Mult (.int 1 t) (.int 1 u)) Q E s) : wpAny (model prog w) A (binaryOp .Mult (.int 1 t) (.int 1 u)) Q E s := by
  first
  | (walk1; fail)
  | exact h
end
section
open PySem PySem.W PySem.Spec PySem.Calls PyProof.Rows PyProof.Rows.LCg

section
variable {prog : Program} {w : World} {A : Around} {E : Value → Shared → Prop} {s : Shared} {env : Env}
theorem assign3 {a b c : Str} {pa pb pc tp : Pos} {kk : Nat} {T : Addr} {x y z : Value} {m : Str → Option Value} {Q : Unit → Shared → Prop} (hh : A.handled = none) (ht : s.heap.IsTuple T #[x, y, z])
    (ha : env.kindOf a = some .local) (hb : env.kindOf b = some .local) (hc : env.kindOf c = some .local) (hp : (env.scope.kind == .class || (env.scope.kind == .module && env.locals != env.globals)) = false) (hn : s.heap.Ns env.locals m)
    (h : ∀ (h' : Heap) (tk : Nat), h'.Ns env.locals (fun q => if q = c then some z else if q = b then some y else if q = a then some x else m q) → (∀ d o, d ≠ env.locals → s.heap.get? d = some o → h'.get? d = some o) → Q () { s with heap := h', toks := tk }) :
    wpAny (model prog w) A (assign (.Tuple [.Name a pa, .Name b pb, .Name c pc] kk tp) env (.ref T)) Q E s := by
  refine wpAny_assign_Tuple hh ht rfl rfl fun h₁ he₁ => ?_
  have hL : env.locals ≠ s.heap.objs.size := Nat.ne_of_lt hn.lt
  have hn₁ : h₁.Ns env.locals m := hn.at' fun o e => he₁ _ o hL e
  have up₁ : ∀ c o, s.heap.get? c = some o → h₁.get? c = some o := fun c o e => he₁ c o (Nat.ne_of_lt (Heap.lt_size e)) e
  show wpAny _ _ (assignInOrder [assign (.Name a pa) env, assign (.Name b pb) env, assign (.Name c pc) env] [x, y, z]) _ _ _
  refine assignInOrder_cons ?_
  refine wpAny_assign_Name (wpAny_storeName_local ha hn₁ (fun h₂ hn₂ hs₂ => ?_) hp)
  refine assignInOrder_cons ?_
  refine wpAny_assign_Name (wpAny_storeName_local hb hn₂ (fun h₃ hn₃ hs₃ => ?_) hp)
  refine assignInOrder_cons ?_
  refine wpAny_assign_Name (wpAny_storeName_local hc hn₃ (fun h₄ hn₄ hs₄ => ?_) hp)
  refine assignInOrder_nil ?_
  exact h h₄ _ hn₄ fun c o hc e => hs₄.extBut c o hc (hs₃.extBut c o hc (hs₂.extBut c o hc (up₁ c o e)))

theorem name_local {x : Str} {pos : Pos} {m : Str → Option Value} {v : Value} {Q : Value → Shared → Prop} (hd : (x == ("__debug__" : Str)) = false) (hk : env.scope.kind = .function)
    (hl : env.kindOf x = some .local) (hn : s.heap.Ns env.locals m) (hv : m x = some v) (h : Q v s) : wpAny (model prog w) A (eval (.Name x pos) env) Q E s := by
  rw [eval_Name _ _ _ hd]
  exact wpAny_bind (wpAny_standAt (wpAny_loadName_local hk hl hn hv h))

theorem Kp.rfl' (s : Shared) : Kp s s := ⟨⟨s.heap, s.toks, rfl⟩, fun _ _ e => e⟩

theorem turn3 {C T : Addr} {scope : Scope} {cl : List (Str × Addr)} {pa pb pc pd pe pf pg ph : Pos} {kk : Nat} {wv : Int} {t u u' : Tok} {x y : Str} {m₂ : Str → Option Value} (hh : A.handled = none) (ht : s.heap.IsTuple T #[.int wv t, .str y u, .str x u']) (hkind : scope.kind = .function)
    (ha : scope.names.lookup (Str.ofString "worth") = some .local) (hb : scope.names.lookup (Str.ofString "letters") = some .local) (hc : scope.names.lookup (Str.ofString "sign") = some .local) (hn : s.heap.Ns C m₂) (Er : Value → Shared → Prop) :
    wpAny (model prog w) A (assign (.Tuple [.Name "worth" pa, .Name "letters" pb, .Name "sign" pc] kk pd) (compEnvC scope cl C env) (.ref T)) (fun _ s₃ => Kb C s s₃ ∧ (∃ m₃, s₃.heap.Ns C m₃) ∧
      wpAny (model prog w) A (isTrue (.Compare (.Name "sign" pe) [.In] [.Name "letters" pf] pg) (compEnvC scope cl C env) (eval (.Compare (.Name "sign" pe) [.In] [.Name "letters" pf] pg) (compEnvC scope cl C env))) (fun ok s₄ => ok = Txt.contains y x ∧ Kp s₃ s₄ ∧
        (Txt.contains y x = true → wpAny (model prog w) A (eval (.Name "worth" ph) (compEnvC scope cl C env)) (fun y s₅ => (∃ t, y = .int wv t) ∧ Kp s₄ s₅) Er s₄)) Er s₃) Er s := by
  have la : (compEnvC scope cl C env).kindOf "worth" = some .local := lookup_relabel_local ha
  have lb : (compEnvC scope cl C env).kindOf "letters" = some .local := lookup_relabel_local hb
  have lc : (compEnvC scope cl C env).kindOf "sign" = some .local := lookup_relabel_local hc
  have hkf : (compEnvC scope cl C env).scope.kind = .function := hkind
  refine assign3 (env := compEnvC scope cl C env) hh ht la lb lc (by simp [compEnvC, relabel, hkind]) hn fun h₁ tk₁ hn₁ hk₁ => ?_
  refine ⟨⟨⟨h₁, tk₁, rfl⟩, hk₁⟩, ⟨_, hn₁⟩, ?_⟩
  refine wpAny_isTrue_Compare1 ?_
  refine name_local (by decide) hkf lc hn₁ (if_pos rfl) ?_
  refine name_local (by decide) hkf lb hn₁ ((if_neg (by decide)).trans (if_pos rfl)) ?_
  refine in_str ?_
  refine wpAny_truthy_bool ?_
  refine ⟨rfl, Kp.rfl' _, fun _ => ?_⟩
  exact name_local (by decide) hkf la hn₁ ((if_neg (by decide)).trans ((if_neg (by decide)).trans (if_pos rfl))) ⟨⟨t, rfl⟩, Kp.rfl' _⟩

theorem turn2 {C T : Addr} {scope : Scope} {cl : List (Str × Addr)} {pa pc pd pe pf pg ph : Pos} {kk : Nat} {wv : Int} {t u' : Tok} {x : Str} {m₂ : Str → Option Value} (hh : A.handled = none) (ht : s.heap.IsTuple T #[.int wv t, .str x u']) (hkind : scope.kind = .function)
    (ha : scope.names.lookup (Str.ofString "worth") = some .local) (hc : scope.names.lookup (Str.ofString "sign") = some .local) (hn : s.heap.Ns C m₂) (Er : Value → Shared → Prop) :
    wpAny (model prog w) A (assign (.Tuple [.Name "worth" pa, .Name "sign" pc] kk pd) (compEnvC scope cl C env) (.ref T)) (fun _ s₃ => Kb C s s₃ ∧ (∃ m₃, s₃.heap.Ns C m₃) ∧
      wpAny (model prog w) A (isTrue (.Compare (.Name "sign" pe) [.In] [.Constant (.str "sStT") 0 pf] pg) (compEnvC scope cl C env) (eval (.Compare (.Name "sign" pe) [.In] [.Constant (.str "sStT") 0 pf] pg) (compEnvC scope cl C env))) (fun ok s₄ => ok = Txt.contains (Str.ofString "sStT") x ∧ Kp s₃ s₄ ∧
        (Txt.contains (Str.ofString "sStT") x = true → wpAny (model prog w) A (eval (.Name "worth" ph) (compEnvC scope cl C env)) (fun y s₅ => (∃ t, y = .int wv t) ∧ Kp s₄ s₅) Er s₄)) Er s₃) Er s := by
  have la : (compEnvC scope cl C env).kindOf "worth" = some .local := lookup_relabel_local ha
  have lc : (compEnvC scope cl C env).kindOf "sign" = some .local := lookup_relabel_local hc
  have hkf : (compEnvC scope cl C env).scope.kind = .function := hkind
  refine kcp_assign (env := compEnvC scope cl C env) hh ht la lc (by simp [compEnvC, relabel, hkind]) hn fun h₁ tk₁ hn₁ hk₁ => ?_
  refine ⟨⟨⟨h₁, tk₁, rfl⟩, hk₁⟩, ⟨_, hn₁⟩, ?_⟩
  refine wpAny_isTrue_Compare1 ?_
  refine name_local (by decide) hkf lc hn₁ (if_pos rfl) ?_
  walk_at "eval Constant str"
  refine in_str ?_
  refine wpAny_truthy_bool ?_
  refine ⟨rfl, ⟨⟨_, _, rfl⟩, fun _ _ e => e⟩, fun _ => ?_⟩
  exact name_local (by decide) hkf la hn₁ ((if_neg (by decide)).trans (if_pos rfl)) ⟨⟨t, rfl⟩, Kp.rfl' _⟩
end

end
/-! part CU -/
section
open PySem PySem.W PyProof.Rows
theorem flushCU {prog : Program} {w : World} {A : Around} {E : Value → Shared → Prop} {s : Shared} {t u : Tok} {Q : Value → Shared → Prop} (h : wpAny (model prog w) A (binaryOp .Mult (.int 1 t) (.int 1 u)) Q E s) : wpAny (model prog w) A (binaryOp .Mult (.int 1 t) (.int 1 u)) Q E s := by
  first
  | (walk1; fail)
  | exact h
end
section
open PySem PySem.W PySem.Spec PySem.Calls PyProof.Rows PyProof.Rows.LCg

abbrev ch (c : Nat) : Str := ⟨#[c]⟩
theorem ascii_it {x : Str} (h : x.cps.all (· < 128) = true) : strIterType x = "str_ascii_iterator" := if_pos h
theorem neN2 {a b : Addr} (h : @Ne Nat a b) : a ≠ b := h
theorem am1 {p : Addr → Prop} {a : Addr} (h : p a) : ∀ x ∈ [a], p x := List.forall_mem_cons.mpr ⟨h, List.forall_mem_nil _⟩
theorem am2 {p : Addr → Prop} {a b : Addr} (h : p a) (k : p b) : ∀ x ∈ [a, b], p x := List.forall_mem_cons.mpr ⟨h, am1 k⟩
theorem am4 {p : Addr → Prop} {a b c d : Addr} (h : p a) (k : p b) (l : p c) (n : p d) : ∀ x ∈ [a, b, c, d], p x := List.forall_mem_cons.mpr ⟨h, List.forall_mem_cons.mpr ⟨k, am2 l n⟩⟩
theorem am5 {p : Addr → Prop} {a b c d e : Addr} (h : p a) (k : p b) (l : p c) (n : p d) (o : p e) : ∀ x ∈ [a, b, c, d, e], p x := List.forall_mem_cons.mpr ⟨h, am4 k l n o⟩
theorem am6 {p : Addr → Prop} {a b c d e f : Addr} (h : p a) (k : p b) (l : p c) (n : p d) (o : p e) (q : p f) : ∀ x ∈ [a, b, c, d, e, f], p x := List.forall_mem_cons.mpr ⟨h, am5 k l n o q⟩
theorem am8 {p : Addr → Prop} {a b c d e f g i : Addr} (h : p a) (k : p b) (l : p c) (n : p d) (o : p e) (q : p f) (r : p g) (s : p i) : ∀ x ∈ [a, b, c, d, e, f, g, i], p x := List.forall_mem_cons.mpr ⟨h, List.forall_mem_cons.mpr ⟨k, am6 l n o q r s⟩⟩
theorem not_in_of {x : Addr} {l : List Addr} (h : ∀ b ∈ l, b ≠ x) : x ∉ l := fun m => h x m rfl
theorem not_in_gt {x y : Addr} {l : List Addr} (k : @LT.lt Nat _ x y) (h : ∀ b ∈ l, @LE.le Nat _ y b) : x ∉ l := fun m => Nat.not_le_of_lt k (h x m)

section
variable {prog : Program} {w : World} {A : Around} {E : Value → Shared → Prop} {s : Shared} {h₀ : Heap} {L : Addr} {m : Str → Option Value} {env : Env} {rest : List (Addr × Obj)}
def bs3 (c0 c1 c2 : Nat) : List (Int × Bool) := [(4, Txt.contains (Str.ofString "r") (ch c0)), (2, Txt.contains (Str.ofString "w") (ch c1)), (1, Txt.contains (Str.ofString "xst") (ch c2))]
def bs2 (c0 c1 c2 : Nat) : List (Int × Bool) := [(4, Txt.contains (Str.ofString "sStT") (ch c0)), (2, Txt.contains (Str.ofString "sStT") (ch c1)), (1, Txt.contains (Str.ofString "sStT") (ch c2))]
theorem src3 {scope : Scope} {cl : List (Str × Addr)} {pa pb pc pd pe pf pg ph : Pos} {kk : Nat} {z TI TO i1 i2 i3 l1 l2 : Addr} {c0 c1 c2 : Nat} {t t1 t2 t3 u1 u2 u3 : Tok} {o1 o2 o3 : Value} {Q : Value → Shared → Prop}
    (hh : A.handled = none) (F : Fr h₀ L s.heap m) (N : News h₀ L s.heap ((z, zO TI TO) :: (TO, tupN #[o1, o2, o3]) :: (TI, tupN #[.ref i1, .ref i2, .ref i3]) :: (i3, sIt ⟨#[c0, c1, c2]⟩ t) :: (i2, tIt l2) :: (i1, tIt l1) :: rest))
    (hlt : ∀ q ∈ rest, q.1 < i1) (hch : @LT.lt Nat _ i1 i2 ∧ @LT.lt Nat _ i2 i3 ∧ @LT.lt Nat _ i3 TI ∧ @LT.lt Nat _ TI TO ∧ @LT.lt Nat _ TO z)
    (m1 : (l1, tupN #[.int 4 t1, .int 2 t2, .int 1 t3]) ∈ rest) (m2 : (l2, tupN #[.str (Str.ofString "r") u1, .str (Str.ofString "w") u2, .str (Str.ofString "xst") u3]) ∈ rest) (hasc : c0 < 128 ∧ c1 < 128 ∧ c2 < 128)
    (hkind : scope.kind = .function) (ha : scope.names.lookup (Str.ofString "worth") = some .local) (hb : scope.names.lookup (Str.ofString "letters") = some .local) (hc : scope.names.lookup (Str.ofString "sign") = some .local)
    (fin : ∀ D ys h' tk, Fr h₀ L h' m → News h₀ L h' ((D, lst ys) :: rest) → IntsAre ys (sel (bs3 c0 c1 c2)) → (∀ p ∈ rest, p.1 < D) → @LT.lt Nat _ L D → Q (.ref D) { s with heap := h', toks := tk }) :
    ZSrc prog w A h₀ L m env (.Compare (.Name "sign" pe) [.In] [.Name "letters" pf] pg) (.Name "worth" ph) (.Tuple [.Name "worth" pa, .Name "letters" pb, .Name "sign" pc] kk pd) scope cl Q (.ref z) s := by
  obtain ⟨h12, h23, h3T, hTT, hTz⟩ := hch
  have hl1 : @LT.lt Nat _ l1 i1 := hlt _ m1
  have hl2 : @LT.lt Nat _ l2 i1 := hlt _ m2
  have q13 := Nat.lt_trans h12 h23
  have q2T := Nat.lt_trans h23 h3T
  have q1T := Nat.lt_trans h12 q2T
  have q3O := Nat.lt_trans h3T hTT
  have q2O := Nat.lt_trans h23 q3O
  have q1O := Nat.lt_trans h12 q2O
  have qTz := Nat.lt_trans hTT hTz
  have q3z := Nat.lt_trans h3T qTz
  have q2z := Nat.lt_trans h23 q3z
  have q1z := Nat.lt_trans h12 q2z
  have w2 := Nat.lt_trans hl1 h12
  have w3 := Nat.lt_trans hl1 q13
  have wO := Nat.lt_trans hl1 q1O
  have wT := Nat.lt_trans hl1 q1T
  have wz := Nat.lt_trans hl1 q1z
  have v2 := Nat.lt_trans hl2 h12
  have v3 := Nat.lt_trans hl2 q13
  have vO := Nat.lt_trans hl2 q1O
  have vT := Nat.lt_trans hl2 q1T
  have vz := Nat.lt_trans hl2 q1z
  have get : ∀ p, p ∈ ((z, zO TI TO) :: (TO, tupN #[o1, o2, o3]) :: (TI, tupN #[.ref i1, .ref i2, .ref i3]) :: (i3, sIt ⟨#[c0, c1, c2]⟩ t) :: (i2, tIt l2) :: (i1, tIt l1) :: rest) → s.heap.get? p.1 = some p.2 := fun p hp => (N p hp).1
  have gz := get (z, zO TI TO) (by k_mem)
  have gTO := get (TO, tupN #[o1, o2, o3]) (by k_mem)
  have gTI := get (TI, tupN #[.ref i1, .ref i2, .ref i3]) (by k_mem)
  have g3 := get (i3, sIt ⟨#[c0, c1, c2]⟩ t) (by k_mem)
  have g2 := get (i2, tIt l2) (by k_mem)
  have g1 := get (i1, tIt l1) (by k_mem)
  have up : ∀ p, p ∈ rest → s.heap.get? p.1 = some p.2 := fun p hp => get p (by simp [hp])
  have gl1 := up _ m1
  have gl2 := up _ m2
  have e3 : strIterType ⟨#[c0, c1, c2]⟩ = "str_ascii_iterator" := ascii_it (by simp [hasc.1, hasc.2.1, hasc.2.2])
  have W := zipW3 (elts := [.Name "worth" pa, .Name "letters" pb, .Name "sign" pc]) (kk := kk) (tp := pd) (z := z) (TI := TI) (TO := TO) (draws_tuple (prog := prog) (w := w) (A := A.in1) hh i1 l1 (neN2 (by first | exact Nat.ne_of_lt (by with_reducible assumption) | exact Nat.ne_of_gt (by with_reducible assumption))) #[.int 4 t1, .int 2 t2, .int 1 t3])
    (draws_tuple (prog := prog) (w := w) (A := A.in1) hh i2 l2 (neN2 (by first | exact Nat.ne_of_lt (by with_reducible assumption) | exact Nat.ne_of_gt (by with_reducible assumption))) #[.str (Str.ofString "r") u1, .str (Str.ofString "w") u2, .str (Str.ofString "xst") u3])
    (Draws.strAscii (prog := prog) (w := w) (A := A.in1) hh i3 ⟨#[c0, c1, c2]⟩ t)
    ⟨neN2 (by first | exact Nat.ne_of_lt (by with_reducible assumption) | exact Nat.ne_of_gt (by with_reducible assumption)), neN2 (by first | exact Nat.ne_of_lt (by with_reducible assumption) | exact Nat.ne_of_gt (by with_reducible assumption)), neN2 (by first | exact Nat.ne_of_lt (by with_reducible assumption) | exact Nat.ne_of_gt (by with_reducible assumption)), am2 ⟨neN2 (by first | exact Nat.ne_of_lt (by with_reducible assumption) | exact Nat.ne_of_gt (by with_reducible assumption)), neN2 (by first | exact Nat.ne_of_lt (by with_reducible assumption) | exact Nat.ne_of_gt (by with_reducible assumption))⟩ ⟨neN2 (by first | exact Nat.ne_of_lt (by with_reducible assumption) | exact Nat.ne_of_gt (by with_reducible assumption)), neN2 (by first | exact Nat.ne_of_lt (by with_reducible assumption) | exact Nat.ne_of_gt (by with_reducible assumption))⟩⟩
    ⟨neN2 (by first | exact Nat.ne_of_lt (by with_reducible assumption) | exact Nat.ne_of_gt (by with_reducible assumption)), neN2 (by first | exact Nat.ne_of_lt (by with_reducible assumption) | exact Nat.ne_of_gt (by with_reducible assumption)), neN2 (by first | exact Nat.ne_of_lt (by with_reducible assumption) | exact Nat.ne_of_gt (by with_reducible assumption)), am2 ⟨neN2 (by first | exact Nat.ne_of_lt (by with_reducible assumption) | exact Nat.ne_of_gt (by with_reducible assumption)), neN2 (by first | exact Nat.ne_of_lt (by with_reducible assumption) | exact Nat.ne_of_gt (by with_reducible assumption))⟩ ⟨neN2 (by first | exact Nat.ne_of_lt (by with_reducible assumption) | exact Nat.ne_of_gt (by with_reducible assumption)), neN2 (by first | exact Nat.ne_of_lt (by with_reducible assumption) | exact Nat.ne_of_gt (by with_reducible assumption))⟩⟩
    ⟨neN2 (by first | exact Nat.ne_of_lt (by with_reducible assumption) | exact Nat.ne_of_gt (by with_reducible assumption)), neN2 (by first | exact Nat.ne_of_lt (by with_reducible assumption) | exact Nat.ne_of_gt (by with_reducible assumption)), neN2 (by first | exact Nat.ne_of_lt (by with_reducible assumption) | exact Nat.ne_of_gt (by with_reducible assumption)), am1 ⟨neN2 (by first | exact Nat.ne_of_lt (by with_reducible assumption) | exact Nat.ne_of_gt (by with_reducible assumption)), neN2 (by first | exact Nat.ne_of_lt (by with_reducible assumption) | exact Nat.ne_of_gt (by with_reducible assumption))⟩⟩
    (am2 (neN2 (by first | exact Nat.ne_of_lt (by with_reducible assumption) | exact Nat.ne_of_gt (by with_reducible assumption))) (neN2 (by first | exact Nat.ne_of_lt (by with_reducible assumption) | exact Nat.ne_of_gt (by with_reducible assumption))))
    (am1 (neN2 (by first | exact Nat.ne_of_lt (by with_reducible assumption) | exact Nat.ne_of_gt (by with_reducible assumption))))
    (am2 (neN2 (by first | exact Nat.ne_of_lt (by with_reducible assumption) | exact Nat.ne_of_gt (by with_reducible assumption))) (neN2 (by first | exact Nat.ne_of_lt (by with_reducible assumption) | exact Nat.ne_of_gt (by with_reducible assumption))))
    (am1 (neN2 (by first | exact Nat.ne_of_lt (by with_reducible assumption) | exact Nat.ne_of_gt (by with_reducible assumption))))
    (am2 (neN2 (by first | exact Nat.ne_of_lt (by with_reducible assumption) | exact Nat.ne_of_gt (by with_reducible assumption))) (neN2 (by first | exact Nat.ne_of_lt (by with_reducible assumption) | exact Nat.ne_of_gt (by with_reducible assumption))))
    (am2 (neN2 (by first | exact Nat.ne_of_lt (by with_reducible assumption) | exact Nat.ne_of_gt (by with_reducible assumption))) (neN2 (by first | exact Nat.ne_of_lt (by with_reducible assumption) | exact Nat.ne_of_gt (by with_reducible assumption))))
    (by simp) (by simp) (by simp) ⟨neN2 (by first | exact Nat.ne_of_lt (by with_reducible assumption) | exact Nat.ne_of_gt (by with_reducible assumption)), neN2 (by first | exact Nat.ne_of_lt (by with_reducible assumption) | exact Nat.ne_of_gt (by with_reducible assumption)), neN2 (by first | exact Nat.ne_of_lt (by with_reducible assumption) | exact Nat.ne_of_gt (by with_reducible assumption)), neN2 (by first | exact Nat.ne_of_lt (by with_reducible assumption) | exact Nat.ne_of_gt (by with_reducible assumption)), neN2 (by first | exact Nat.ne_of_lt (by with_reducible assumption) | exact Nat.ne_of_gt (by with_reducible assumption))⟩
  refine ⟨z, TI, TO, _, _, 3, _, _, _, bs3 c0 c1 c2, rest, rfl, W, rfl, by decide, gz, ⟨gz, gTI, ⟨_, _, _, gTO⟩, ⟨⟨_, g1, rfl, rfl⟩, ⟨_, gl1, rfl, _, rfl⟩⟩, ⟨⟨_, g2, rfl, rfl⟩, ⟨_, gl2, rfl, _, rfl⟩⟩, ⟨_, g3, congrArg _ e3, rfl⟩⟩, ?_, F, fun p hp => N p (by simp [hp]), ?_, ?_, ?_, ?_, fin⟩
  · exact am8 (Heap.lt_size gz) (Heap.lt_size gTI) (Heap.lt_size gTO) (Heap.lt_size g1) (Heap.lt_size gl1) (Heap.lt_size g2) (Heap.lt_size gl2) (Heap.lt_size g3)
  · exact not_in_of (am5 (N (z, _) (by k_mem)).2.1 (N (TO, _) (by k_mem)).2.1 (N (i1, _) (by k_mem)).2.1 (N (i2, _) (by k_mem)).2.1 (N (i3, _) (by k_mem)).2.1)
  · exact am5 (N (_, zO TI TO) (by k_mem)).2.2 (N (_, tupN #[o1, o2, o3]) (by k_mem)).2.2 (N (_, tIt l1) (by k_mem)).2.2 (N (_, tIt l2) (by k_mem)).2.2 (N (_, sIt ⟨#[c0, c1, c2]⟩ t) (by k_mem)).2.2
  · exact fun p hp => not_in_gt (hlt p hp) (am5 (Nat.le_of_lt q1z) (Nat.le_of_lt q1O) (Nat.le_refl _) (Nat.le_of_lt h12) (Nat.le_of_lt q13))
  · intro C i wv b v s₂ m₂ hbs hP hns Er
    obtain ⟨T, x, y, u, rfl, hx, hy, ⟨c, u', hcc, rfl⟩, hT⟩ := hP
    rcases i with _ | _ | _ | i
    · cases hbs; cases hx; cases hy; cases hcc
      exact turn3 hh hT hkind ha hb hc hns Er
    · cases hbs; cases hx; cases hy; cases hcc
      exact turn3 hh hT hkind ha hb hc hns Er
    · cases hbs; cases hx; cases hy; cases hcc
      exact turn3 hh hT hkind ha hb hc hns Er
    · simp [bs3] at hbs

theorem src2 {scope : Scope} {cl : List (Str × Addr)} {pa pc pd pe pf pg ph : Pos} {kk : Nat} {z TI TO i1 i3 l1 : Addr} {c0 c1 c2 : Nat} {t t1 t2 t3 : Tok} {o1 o2 : Value} {Q : Value → Shared → Prop}
    (hh : A.handled = none) (F : Fr h₀ L s.heap m) (N : News h₀ L s.heap ((z, zO TI TO) :: (TO, tupN #[o1, o2]) :: (TI, tupN #[.ref i1, .ref i3]) :: (i3, sIt ⟨#[c0, c1, c2]⟩ t) :: (i1, tIt l1) :: rest))
    (hlt : ∀ q ∈ rest, q.1 < i1) (hch : @LT.lt Nat _ i1 i3 ∧ @LT.lt Nat _ i3 TI ∧ @LT.lt Nat _ TI TO ∧ @LT.lt Nat _ TO z)
    (m1 : (l1, tupN #[.int 4 t1, .int 2 t2, .int 1 t3]) ∈ rest) (hasc : c0 < 128 ∧ c1 < 128 ∧ c2 < 128)
    (hkind : scope.kind = .function) (ha : scope.names.lookup (Str.ofString "worth") = some .local) (hc : scope.names.lookup (Str.ofString "sign") = some .local)
    (fin : ∀ D ys h' tk, Fr h₀ L h' m → News h₀ L h' ((D, lst ys) :: rest) → IntsAre ys (sel (bs2 c0 c1 c2)) → (∀ p ∈ rest, p.1 < D) → @LT.lt Nat _ L D → Q (.ref D) { s with heap := h', toks := tk }) :
    ZSrc prog w A h₀ L m env (.Compare (.Name "sign" pe) [.In] [.Constant (.str "sStT") 0 pf] pg) (.Name "worth" ph) (.Tuple [.Name "worth" pa, .Name "sign" pc] kk pd) scope cl Q (.ref z) s := by
  obtain ⟨h12, h3T, hTT, hTz⟩ := hch
  have hl1 : @LT.lt Nat _ l1 i1 := hlt _ m1
  have q1T := Nat.lt_trans h12 h3T
  have q3O := Nat.lt_trans h3T hTT
  have q1O := Nat.lt_trans h12 q3O
  have qTz := Nat.lt_trans hTT hTz
  have q3z := Nat.lt_trans h3T qTz
  have q1z := Nat.lt_trans h12 q3z
  have w3 := Nat.lt_trans hl1 h12
  have wO := Nat.lt_trans hl1 q1O
  have wT := Nat.lt_trans hl1 q1T
  have wz := Nat.lt_trans hl1 q1z
  have get : ∀ p, p ∈ ((z, zO TI TO) :: (TO, tupN #[o1, o2]) :: (TI, tupN #[.ref i1, .ref i3]) :: (i3, sIt ⟨#[c0, c1, c2]⟩ t) :: (i1, tIt l1) :: rest) → s.heap.get? p.1 = some p.2 := fun p hp => (N p hp).1
  have gz := get (z, zO TI TO) (by k_mem)
  have gTO := get (TO, tupN #[o1, o2]) (by k_mem)
  have gTI := get (TI, tupN #[.ref i1, .ref i3]) (by k_mem)
  have g3 := get (i3, sIt ⟨#[c0, c1, c2]⟩ t) (by k_mem)
  have g1 := get (i1, tIt l1) (by k_mem)
  have up : ∀ p, p ∈ rest → s.heap.get? p.1 = some p.2 := fun p hp => get p (by simp [hp])
  have gl1 := up _ m1
  have e3 : strIterType ⟨#[c0, c1, c2]⟩ = "str_ascii_iterator" := ascii_it (by simp [hasc.1, hasc.2.1, hasc.2.2])
  have W := zipW2 (elts := [.Name "worth" pa, .Name "sign" pc]) (kk := kk) (tp := pd) (z := z) (TI := TI) (TO := TO) (draws_tuple (prog := prog) (w := w) (A := A.in1) hh i1 l1 (neN2 (by first | exact Nat.ne_of_lt (by with_reducible assumption) | exact Nat.ne_of_gt (by with_reducible assumption))) #[.int 4 t1, .int 2 t2, .int 1 t3])
    (Draws.strAscii (prog := prog) (w := w) (A := A.in1) hh i3 ⟨#[c0, c1, c2]⟩ t)
    ⟨neN2 (by first | exact Nat.ne_of_lt (by with_reducible assumption) | exact Nat.ne_of_gt (by with_reducible assumption)), neN2 (by first | exact Nat.ne_of_lt (by with_reducible assumption) | exact Nat.ne_of_gt (by with_reducible assumption)), neN2 (by first | exact Nat.ne_of_lt (by with_reducible assumption) | exact Nat.ne_of_gt (by with_reducible assumption)), am2 ⟨neN2 (by first | exact Nat.ne_of_lt (by with_reducible assumption) | exact Nat.ne_of_gt (by with_reducible assumption)), neN2 (by first | exact Nat.ne_of_lt (by with_reducible assumption) | exact Nat.ne_of_gt (by with_reducible assumption))⟩ ⟨neN2 (by first | exact Nat.ne_of_lt (by with_reducible assumption) | exact Nat.ne_of_gt (by with_reducible assumption)), neN2 (by first | exact Nat.ne_of_lt (by with_reducible assumption) | exact Nat.ne_of_gt (by with_reducible assumption))⟩⟩
    ⟨neN2 (by first | exact Nat.ne_of_lt (by with_reducible assumption) | exact Nat.ne_of_gt (by with_reducible assumption)), neN2 (by first | exact Nat.ne_of_lt (by with_reducible assumption) | exact Nat.ne_of_gt (by with_reducible assumption)), neN2 (by first | exact Nat.ne_of_lt (by with_reducible assumption) | exact Nat.ne_of_gt (by with_reducible assumption)), am1 ⟨neN2 (by first | exact Nat.ne_of_lt (by with_reducible assumption) | exact Nat.ne_of_gt (by with_reducible assumption)), neN2 (by first | exact Nat.ne_of_lt (by with_reducible assumption) | exact Nat.ne_of_gt (by with_reducible assumption))⟩⟩
    (am1 (neN2 (by first | exact Nat.ne_of_lt (by with_reducible assumption) | exact Nat.ne_of_gt (by with_reducible assumption))))
    (am2 (neN2 (by first | exact Nat.ne_of_lt (by with_reducible assumption) | exact Nat.ne_of_gt (by with_reducible assumption))) (neN2 (by first | exact Nat.ne_of_lt (by with_reducible assumption) | exact Nat.ne_of_gt (by with_reducible assumption))))
    (by simp) (by simp) ⟨neN2 (by first | exact Nat.ne_of_lt (by with_reducible assumption) | exact Nat.ne_of_gt (by with_reducible assumption)), neN2 (by first | exact Nat.ne_of_lt (by with_reducible assumption) | exact Nat.ne_of_gt (by with_reducible assumption)), neN2 (by first | exact Nat.ne_of_lt (by with_reducible assumption) | exact Nat.ne_of_gt (by with_reducible assumption)), neN2 (by first | exact Nat.ne_of_lt (by with_reducible assumption) | exact Nat.ne_of_gt (by with_reducible assumption))⟩
  refine ⟨z, TI, TO, _, _, 3, _, _, _, bs2 c0 c1 c2, rest, rfl, W, rfl, by decide, gz, ⟨gz, gTI, ⟨_, _, gTO⟩, ⟨⟨_, g1, rfl, rfl⟩, ⟨_, gl1, rfl, _, rfl⟩⟩, ⟨_, g3, congrArg _ e3, rfl⟩⟩, ?_, F, fun p hp => N p (by simp [hp]), ?_, ?_, ?_, ?_, fin⟩
  · exact am6 (Heap.lt_size gz) (Heap.lt_size gTI) (Heap.lt_size gTO) (Heap.lt_size g1) (Heap.lt_size gl1) (Heap.lt_size g3)
  · exact not_in_of (am4 (N (z, _) (by k_mem)).2.1 (N (TO, _) (by k_mem)).2.1 (N (i1, _) (by k_mem)).2.1 (N (i3, _) (by k_mem)).2.1)
  · exact am4 (N (_, zO TI TO) (by k_mem)).2.2 (N (_, tupN #[o1, o2]) (by k_mem)).2.2 (N (_, tIt l1) (by k_mem)).2.2 (N (_, sIt ⟨#[c0, c1, c2]⟩ t) (by k_mem)).2.2
  · exact fun p hp => not_in_gt (hlt p hp) (am4 (Nat.le_of_lt q1z) (Nat.le_of_lt q1O) (Nat.le_refl _) (Nat.le_of_lt h12))
  · intro C i wv b v s₂ m₂ hbs hP hns Er
    obtain ⟨T, x, u, rfl, hx, ⟨c, u', hcc, rfl⟩, hT⟩ := hP
    rcases i with _ | _ | _ | i
    · cases hbs; cases hx; cases hcc
      exact turn2 hh hT hkind ha hc hns Er
    · cases hbs; cases hx; cases hcc
      exact turn2 hh hT hkind ha hc hns Er
    · cases hbs; cases hx; cases hcc
      exact turn2 hh hT hkind ha hc hns Er
    · simp [bs2] at hbs
end

end
/-! part FG -/
section
open PySem PySem.W PyProof.Rows
theorem flushFG {prog : Program} {w : World} {A : Around} {E : Value → Shared → Prop} {s : Shared} {t u : Tok} {Q : Value → Shared → Prop} (h : wpAny (model prog w) A (binaryOp .Mult (.int 1 t) (.int 1 u)) Q E s) : wpAny (model prog w) A (binaryOp .Mult (.int 1 t) (.int 1 u)) Q E s := by
  first
  | (walk1; fail)
  | exact h
end
section
open PySem PySem.W PySem.Spec PySem.Calls PyProof.Rows PyProof.Rows.LCg
theorem news_two {g h : Heap} {L l1 l2 : Addr} {n1 n2 n3 : Int} {s1 s2 s3 : Str} {t1 t2 t3 t4 t5 t6 : Tok} {r : List (Addr × Obj)} (N : News g L h ((l2, tupN #[.str s1 t1, .str s2 t2, .str s3 t3]) :: (l1, tupN #[.int n1 t4, .int n2 t5, .int n3 t6]) :: r)) :
    ∃ u1 u2 u3 u4 u5 u6, News g L h ((l2, tupN #[.str s1 u1, .str s2 u2, .str s3 u3]) :: (l1, tupN #[.int n1 u4, .int n2 u5, .int n3 u6]) :: r) :=
  ⟨t1, t2, t3, t4, t5, t6, N⟩
theorem news_drop3 {g h : Heap} {L : Addr} {a b i x y z : Addr × Obj} {r : List (Addr × Obj)} (N : News g L h (a :: b :: i :: x :: y :: z :: r)) : News g L h (a :: b :: i :: r) :=
  List.forall_mem_cons.mpr ⟨N _ (.head _), List.forall_mem_cons.mpr ⟨N _ (.tail _ (.head _)), List.forall_mem_cons.mpr ⟨N _ (.tail _ (.tail _ (.head _))), fun p hp => N p (.tail _ (.tail _ (.tail _ (.tail _ (.tail _ (.tail _ hp))))))⟩⟩⟩
theorem news_one {g h : Heap} {L l1 : Addr} {n1 n2 n3 : Int} {t4 t5 t6 : Tok} {x y z u : Addr × Obj} {r : List (Addr × Obj)} (N : News g L h ((l1, tupN #[.int n1 t4, .int n2 t5, .int n3 t6]) :: x :: y :: z :: u :: r)) :
    ∃ u4 u5 u6, News g L h ((l1, tupN #[.int n1 u4, .int n2 u5, .int n3 u6]) :: r) :=
  ⟨t4, t5, t6, List.forall_mem_cons.mpr ⟨N _ (.head _), fun p hp => N p (.tail _ (.tail _ (.tail _ (.tail _ (.tail _ hp)))))⟩⟩
local macro_rules | `(tactic| walk_at "eval ListComp") => `(tactic| (k_here; k_dflt (refine ListComp_zip (by k_asm) (by with_unfolding_all rfl) (by decide) (by rfl) (by decide) ?_)))
theorem tupAt {g h : Heap} {L l : Addr} {news : List (Addr × Obj)} {xs : Array Value} (N : News g L h news) (hm : (l, tupN xs) ∈ news) : h.IsTuple l xs := ⟨_, (N _ hm).1, rfl, _, rfl⟩
def figO (c : Nat → Nat) (i : Nat) : Int := (sel (bs3 (c i) (c (i + 1)) (c (i + 2)))).sum
theorem fig_c (prog : Program) (w : World) (c0 c1 c2 c3 c4 c5 c6 c7 c8 c9 : Nat) (hasc : c0 < 128 ∧ c1 < 128 ∧ c2 < 128 ∧ c3 < 128 ∧ c4 < 128 ∧ c5 < 128 ∧ c6 < 128 ∧ c7 < 128 ∧ c8 < 128 ∧ c9 < 128) (t : Tok) :
    QCon prog w 122 [.str ⟨#[c0, c1, c2, c3, c4, c5, c6, c7, c8, c9]⟩ t] 20 [] (fun h v h' => ∃ l t0 t1 t2 t3 n, v = .ref l ∧ h.objs.size ≤ l ∧
      h'.get? l = some (W.listOf #[.int (sel (bs3 c7 c8 c9)).sum t0, .int (sel (bs3 c4 c5 c6)).sum t1, .int (sel (bs3 c1 c2 c3)).sum t2, .int (sel (bs2 c3 c6 c9)).sum t3] n)) := by
  unfold QCon
  w_top off
  k_fill
  intro _ loose mean mg mb dp un gd cn cs ad ccd cl outer A₀ base h₀ L m s Q E B F X N T hk cc1 cc2 hdp hun hret
  obtain ⟨k0, k1, k2, k3, k4, k5, k6, k7, k8, k9⟩ := hasc
  refine wpAny_call ?_
  k_dflt (refine' enterH ?k1 ?k2 ?k3 ?k4 ?k5 ?kA ?kF ?kK ?k6 ?k7 ?k8 ?k9 ?kB ?_ ?c2 ?c3 ?c4 ?c5; (case kA => exact rfl); (case kF => exact rfl); (case kK => assumption); (case k1 => k_asm); (case k2 => k_asm); (case k3 => k_asm); (case k4 => k_asm); (case k5 => k_asm); (case k6 => k_is); (case k7 => k_is); (case k8 => exact room_0 hdp); (case k9 => exact BindsTo.of_eq rfl); (case c5 => decide); (case kB => exact locs rfl); (case c2 => exact rfl); (case c3 => exact rfl); (case c4 => exact rfl); k_whole)
  intro g' L' h' hg' F' N' B' X' T' l1'
  clear B F X T N
  replace F' : Fr g' L' h' (fun y => List.lookup y [(Str.ofString "row", .str ⟨#[c0, c1, c2, c3, c4, c5, c6, c7, c8, c9]⟩ t)]) := F'
  dsimp only
  try k_fold
  k_steps
  rename News _ _ _ _ => N3
  rename Fr _ _ _ _ => F3
  rw [show Txt.slice ⟨#[c0, c1, c2, c3, c4, c5, c6, c7, c8, c9]⟩ (some 7) (some (7 + 3)) = ⟨#[c7, c8, c9]⟩ from rfl]
  replace N3 := news_two N3
  obtain ⟨u1, u2, u3, u4, u5, u6, N3⟩ := N3
  try k_gentoks
  refine zip3_new F3 N3 (tupAt N3 (.tail _ (.head _))) (tupAt N3 (.head _)) fun z TI TO i1 i2 i3 h4 F4 N4 lt4 ch4 => ?_
  clear F3 N3
  k_steps
  rename News _ _ _ _ => N3
  rename Fr _ _ _ _ => F3
  refine src3 rfl F3 N3 lt4 ch4 (.tail _ (.head _)) (.head _) ⟨by with_reducible assumption, by with_reducible assumption, by with_reducible assumption⟩ rfl rfl rfl rfl fun D ys h5 tk5 F5 N5 hys hD hLD => ?_
  clear F3 N3
  k_lt hD
  k_steps
  rename News _ _ _ _ => N3
  rename Fr _ _ _ _ => F3
  rw [show Txt.slice ⟨#[c0, c1, c2, c3, c4, c5, c6, c7, c8, c9]⟩ (some 4) (some (4 + 3)) = ⟨#[c4, c5, c6]⟩ from rfl]
  replace N3 := news_two (news_drop3 N3)
  obtain ⟨u1, u2, u3, u4, u5, u6, N3⟩ := N3
  try k_gentoks
  refine zip3_new F3 N3 (tupAt N3 (.tail _ (.head _))) (tupAt N3 (.head _)) fun z TI TO i1 i2 i3 h4 F4 N4 lt4 ch4 => ?_
  clear F3 N3
  k_steps
  rename News _ _ _ _ => N3
  rename Fr _ _ _ _ => F3
  refine src3 rfl F3 N3 lt4 ch4 (.tail _ (.head _)) (.head _) ⟨by with_reducible assumption, by with_reducible assumption, by with_reducible assumption⟩ rfl rfl rfl rfl fun D ys h5 tk5 F5 N5 hys hD hLD => ?_
  clear F3 N3
  k_lt hD
  k_steps
  rename News _ _ _ _ => N3
  rename Fr _ _ _ _ => F3
  rw [show Txt.slice ⟨#[c0, c1, c2, c3, c4, c5, c6, c7, c8, c9]⟩ (some 1) (some (1 + 3)) = ⟨#[c1, c2, c3]⟩ from rfl]
  replace N3 := news_two (news_drop3 N3)
  obtain ⟨u1, u2, u3, u4, u5, u6, N3⟩ := N3
  try k_gentoks
  refine zip3_new F3 N3 (tupAt N3 (.tail _ (.head _))) (tupAt N3 (.head _)) fun z TI TO i1 i2 i3 h4 F4 N4 lt4 ch4 => ?_
  clear F3 N3
  k_steps
  rename News _ _ _ _ => N3
  rename Fr _ _ _ _ => F3
  refine src3 rfl F3 N3 lt4 ch4 (.tail _ (.head _)) (.head _) ⟨by with_reducible assumption, by with_reducible assumption, by with_reducible assumption⟩ rfl rfl rfl rfl fun D ys h5 tk5 F5 N5 hys hD hLD => ?_
  clear F3 N3
  k_lt hD
  k_steps
  rename News _ _ _ _ => N3
  rename Fr _ _ _ _ => F3
  rw [show Txt.item ⟨#[c0, c1, c2, c3, c4, c5, c6, c7, c8, c9]⟩ 3 ++ Txt.item ⟨#[c0, c1, c2, c3, c4, c5, c6, c7, c8, c9]⟩ 6 ++ Txt.item ⟨#[c0, c1, c2, c3, c4, c5, c6, c7, c8, c9]⟩ 9 = ⟨#[c3, c6, c9]⟩ from rfl]
  replace N3 := news_one N3
  obtain ⟨u4, u5, u6, N3⟩ := N3
  try k_gentoks
  refine zip2_new F3 N3 (tupAt N3 (.head _)) fun z TI TO i1 i2 h4 F4 N4 lt4 ch4 => ?_
  clear F3 N3
  k_steps
  rename News _ _ _ _ => N3
  rename Fr _ _ _ _ => F3
  refine src2 rfl F3 N3 lt4 ch4 (.head _) ⟨by with_reducible assumption, by with_reducible assumption, by with_reducible assumption⟩ rfl rfl rfl fun D ys h5 tk5 F5 N5 hys hD hLD => ?_
  clear F3 N3
  k_lt hD
  k_steps
  rename News _ _ _ _ => N3
  rename Fr _ _ _ _ => F3
  have hsz := size_of hg' F3
  exact hret _ _ _ (fun b' o hb' q => kept_of hg' F3 b' o hb' q) hsz.2 ⟨_, _, _, _, _, _, rfl, by omega, (N3 _ (.head _)).1⟩

end
/-! part PL1 -/
section
open PySem PySem.W PyProof.Rows
theorem flushPL1 {prog : Program} {w : World} {A : Around} {E : Value → Shared → Prop} {s : Shared} {t u : Tok} {Q : Value → Shared → Prop} (h : wpAny (model prog w) A (binaryOp .Mult (.int 1 t) (.int 1 u)) Q E s) : wpAny (model prog w) A (binaryOp .Mult (.int 1 t) (.int 1 u)) Q E s := by
  first
  | (walk1; fail)
  | exact h
end
section
open PySem PyProof.Rows
theorem land_mask (n j k : Nat) : n &&& ((2 ^ k - 1) <<< j) = ((n >>> j) % 2 ^ k) <<< j := by
  apply Nat.eq_of_testBit_eq
  intro i
  simp only [Nat.testBit_and, Nat.testBit_shiftLeft, Nat.testBit_two_pow_sub_one, Nat.testBit_mod_two_pow, Nat.testBit_shiftRight]
  by_cases h : i ≥ j
  · simp only [h, decide_true, Bool.true_and]
    rw [show j + (i - j) = i by omega, Bool.and_comm]
  · simp [h]
theorem land_lit {P K M : Nat} (j k : Nat) (hP : 2 ^ j = P) (hK : 2 ^ k = K) (hM : (2 ^ k - 1) <<< j = M) (n : Nat) : n &&& M = n / P % K * P := by
  rw [← hM, land_mask, Nat.shiftLeft_eq, Nat.shiftRight_eq_div_pow, hP, hK]
theorem negdiv (n : Nat) {P K : Nat} (hP : 0 < P) (hK : 0 < K) : Int.negSucc n / (P : Int) % (K : Int) = (K : Int) - 1 - ((n / P % K : Nat) : Int) := by
  rw [Int.negSucc_ediv n (Int.natCast_pos.mpr hP)]
  show Int.negSucc (n / P) % (K : Int) = _
  rw [Int.negSucc_emod (n / P) (Int.natCast_pos.mpr hK)]
  rfl
theorem band_neg (n M : Nat) : Builtin.bitAnd (Int.negSucc n) (M : Int) = (M : Int) - ((n &&& M : Nat) : Int) := by
  rw [bitAnd_np (by simp) (Int.natCast_nonneg M), Nat.and_comm]
  have h : Builtin.bitNot (Int.negSucc n) = (n : Int) := by unfold Builtin.bitNot; omega
  rw [h]; rfl
theorem band_pos (n M : Nat) : Builtin.bitAnd (n : Int) (M : Int) = ((n &&& M : Nat) : Int) := bitAnd_pp (Int.natCast_nonneg n) (Int.natCast_nonneg M)
theorem band_g {P K M : Nat} (j k : Nat) (hP : 2 ^ j = P) (hK : 2 ^ k = K) (hM : (2 ^ k - 1) <<< j = M) (x : Int) : Builtin.bitAnd x (M : Int) = x / (P : Int) % (K : Int) * (P : Int) := by
  cases x with
  | ofNat n => exact (band_pos n M).trans (congrArg _ (land_lit j k hP hK hM n))
  | negSucc n =>
    rw [band_neg, land_lit j k hP hK hM, negdiv n (hP ▸ Nat.two_pow_pos j) (hK ▸ Nat.two_pow_pos k), Int.sub_mul, ← hM, Nat.shiftLeft_eq, hP, hK, Int.natCast_mul, Int.natCast_mul, Int.natCast_sub (hK ▸ Nat.two_pow_pos k)]
    rfl
theorem land_two {P Q : Nat} (i j : Nat) (hP : 2 ^ i = P) (hQ : 2 ^ j = Q) (hM : P ||| Q = P + Q) (n : Nat) : n &&& (P + Q) = n / P % 2 * P + n / Q % 2 * Q := by
  rw [← hM, Nat.and_or_distrib_left, land_lit (M := P) i 1 hP rfl (by rw [Nat.shiftLeft_eq, hP]; exact Nat.one_mul P), land_lit (M := Q) j 1 hQ rfl (by rw [Nat.shiftLeft_eq, hQ]; exact Nat.one_mul Q)]
  rcases Nat.mod_two_eq_zero_or_one (n / P) with h | h <;> rcases Nat.mod_two_eq_zero_or_one (n / Q) with h' | h' <;> rw [h, h'] <;> simp [hM]
theorem band_two {P Q : Nat} (i j : Nat) (hP : 2 ^ i = P) (hQ : 2 ^ j = Q) (hM : P ||| Q = P + Q) (x : Int) : Builtin.bitAnd x ((P + Q : Nat) : Int) = x / (P : Int) % 2 * (P : Int) + x / (Q : Int) % 2 * (Q : Int) := by
  cases x with
  | ofNat n => exact (band_pos n _).trans (congrArg _ (land_two i j hP hQ hM n))
  | negSucc n =>
    have e1 := negdiv n (K := 2) (hP ▸ Nat.two_pow_pos i) (by decide)
    have e2 := negdiv n (K := 2) (hQ ▸ Nat.two_pow_pos j) (by decide)
    rw [band_neg, land_two i j hP hQ hM]
    show _ = Int.negSucc n / (P : Int) % ((2 : Nat) : Int) * (P : Int) + Int.negSucc n / (Q : Int) % ((2 : Nat) : Int) * (Q : Int)
    rw [e1, e2]
    rcases Nat.mod_two_eq_zero_or_one (n / P) with h | h <;> rcases Nat.mod_two_eq_zero_or_one (n / Q) with h' | h' <;> rw [h, h'] <;> simp <;> omega
theorem band61440 (x : Int) : Builtin.bitAnd x 61440 = x / 4096 % 16 * 4096 := band_g (P := 4096) (K := 16) (M := 61440) 12 4 rfl rfl rfl x
theorem band4095 (x : Int) : Builtin.bitAnd x 4095 = x / 1 % 4096 * 1 := band_g (P := 1) (K := 4096) (M := 4095) 0 12 rfl rfl rfl x
def bt (m P : Int) : Bool := decide (m / P % 2 = 1)
theorem bt_one (m : Int) (j : Nat) {P : Nat} (hP : 2 ^ j = P) : decide (Builtin.bitAnd m (P : Int) = (P : Int)) = bt m P := by
  rw [band_g (P := P) (K := 2) (M := P) j 1 hP rfl (by rw [Nat.shiftLeft_eq, hP]; exact Nat.one_mul P)]
  have h0 : (P : Int) ≠ 0 := fun e => Nat.ne_of_gt (hP ▸ Nat.two_pow_pos j) (Int.natCast_eq_zero.mp e)
  exact decide_eq_decide.mpr ⟨fun h => Int.eq_of_mul_eq_mul_right h0 (h.trans (Int.one_mul _).symm), fun h => by rw [show m / (P : Int) % ((2 : Nat) : Int) = 1 from h, Int.one_mul]⟩
theorem bt_two (m : Int) (i j : Nat) {P Q : Nat} (hP : 2 ^ i = P) (hQ : 2 ^ j = Q) (hM : P ||| Q = P + Q) : decide (Builtin.bitAnd m ((P + Q : Nat) : Int) = ((P + Q : Nat) : Int)) = (bt m P && bt m Q) := by
  have p0 : 0 < P := hP ▸ Nat.two_pow_pos i
  have q0 : 0 < Q := hQ ▸ Nat.two_pow_pos j
  rw [band_two i j hP hQ hM]; unfold bt; rw [← Bool.decide_and]
  rcases Int.emod_two_eq (m / (P : Int)) with h | h <;> rcases Int.emod_two_eq (m / (Q : Int)) with h' | h' <;> rw [h, h'] <;> exact decide_eq_decide.mpr (by omega)

end
/-! part PL2 -/
section
open PySem PySem.W PyProof.Rows
theorem flushPL2 {prog : Program} {w : World} {A : Around} {E : Value → Shared → Prop} {s : Shared} {t u : Tok} {Q : Value → Shared → Prop} (h : wpAny (model prog w) A (binaryOp .Mult (.int 1 t) (.int 1 u)) Q E s) : wpAny (model prog w) A (binaryOp .Mult (.int 1 t) (.int 1 u)) Q E s := by
  first
  | (walk1; fail)
  | exact h
end
section
open PySem PyProof.Rows PySem.Spec
def kc (k : Int) : Nat := if k = 1 then 112 else if k = 2 then 99 else if k = 4 then 100 else if k = 6 then 98 else if k = 8 then 45 else if k = 10 then 108 else if k = 12 then 115 else 63
def rc (c : Nat) (b : Bool) : Nat := if b then c else 45
def xc (s S : Nat) (hi lo : Bool) : Nat := if hi && lo then s else if hi then S else if lo then 120 else 45
def rowC (c0 c1 c2 c3 c4 c5 c6 c7 c8 c9 : Nat) : Str := ⟨#[c0, c1, c2, c3, c4, c5, c6, c7, c8, c9]⟩
def rowS (m : Int) : Str := ⟨#[kc (m / 4096 % 16), rc 114 (bt m 256), rc 119 (bt m 128), xc 115 83 (bt m 2048) (bt m 64), rc 114 (bt m 32), rc 119 (bt m 16), xc 115 83 (bt m 1024) (bt m 8), rc 114 (bt m 4), rc 119 (bt m 2), xc 116 84 (bt m 512) (bt m 1)]⟩
theorem all16 {p : Int → Prop} (h : ∀ n : Nat, n < 16 → p n) (x : Int) : p (x % 16) := by
  have h0 : 0 ≤ x % 16 := Int.emod_nonneg x (by decide)
  have h1 : x % 16 < 16 := Int.emod_lt_of_pos x (by decide)
  rw [← Int.toNat_of_nonneg h0]
  exact h _ ((Int.toNat_lt h0).mpr h1)
theorem fmCh0 (mode : Int) : fmCh mode 0 = ch (kc (mode / 4096 % 16)) := by
  have key : ∀ b, fmCond mode 0 b = decide (mode / 4096 % 16 * 4096 = b) := fun b => by unfold fmCond; rw [if_pos rfl, band61440]
  unfold fmCh
  rw [show fmCond mode 0 = fun b => decide (mode / 4096 % 16 * 4096 = b) from funext key]
  exact all16 (p := fun k => pickS (fun b => decide (k * 4096 = b)) (fmDef 0) (fmTab 0).2 = ch (kc k)) (by decide +kernel) _
theorem pick_r {x : Bool} (a : Bool) (h : x = a) : (if x = true then Str.ofString "r" else Str.ofString "-") = ch (rc 114 a) := by subst h; cases x <;> rfl
theorem pick_w {x : Bool} (a : Bool) (h : x = a) : (if x = true then Str.ofString "w" else Str.ofString "-") = ch (rc 119 a) := by subst h; cases x <;> rfl
theorem pick_s {x y z : Bool} (a b : Bool) (h : x = (a && b)) (hy : y = a) (hz : z = b) : (if x = true then Str.ofString "s" else if y = true then Str.ofString "S" else if z = true then Str.ofString "x" else Str.ofString "-") = ch (xc 115 83 a b) := by subst h; subst hy; subst hz; cases y <;> cases z <;> rfl
theorem pick_t {x y z : Bool} (a b : Bool) (h : x = (a && b)) (hy : y = a) (hz : z = b) : (if x = true then Str.ofString "t" else if y = true then Str.ofString "T" else if z = true then Str.ofString "x" else Str.ofString "-") = ch (xc 116 84 a b) := by subst h; subst hy; subst hz; cases y <;> cases z <;> rfl
theorem fmCh1 (mode : Int) : fmCh mode 1 = ch (rc 114 (bt mode 256)) := pick_r _ (bt_one mode 8 rfl)
theorem fmCh2 (mode : Int) : fmCh mode 2 = ch (rc 119 (bt mode 128)) := pick_w _ (bt_one mode 7 rfl)
theorem fmCh4 (mode : Int) : fmCh mode 4 = ch (rc 114 (bt mode 32)) := pick_r _ (bt_one mode 5 rfl)
theorem fmCh5 (mode : Int) : fmCh mode 5 = ch (rc 119 (bt mode 16)) := pick_w _ (bt_one mode 4 rfl)
theorem fmCh7 (mode : Int) : fmCh mode 7 = ch (rc 114 (bt mode 4)) := pick_r _ (bt_one mode 2 rfl)
theorem fmCh8 (mode : Int) : fmCh mode 8 = ch (rc 119 (bt mode 2)) := pick_w _ (bt_one mode 1 rfl)
theorem fmCh3 (mode : Int) : fmCh mode 3 = ch (xc 115 83 (bt mode 2048) (bt mode 64)) := pick_s _ _ (bt_two (P := 2048) (Q := 64) mode 11 6 rfl rfl rfl) (bt_one mode 11 rfl) (bt_one mode 6 rfl)
theorem fmCh6 (mode : Int) : fmCh mode 6 = ch (xc 115 83 (bt mode 1024) (bt mode 8)) := pick_s _ _ (bt_two (P := 1024) (Q := 8) mode 10 3 rfl rfl rfl) (bt_one mode 10 rfl) (bt_one mode 3 rfl)
theorem fmCh9 (mode : Int) : fmCh mode 9 = ch (xc 116 84 (bt mode 512) (bt mode 1)) := pick_t _ _ (bt_two (P := 512) (Q := 1) mode 9 0 rfl rfl rfl) (bt_one mode 9 rfl) (bt_one mode 0 rfl)
theorem join10 {c0 c1 c2 c3 c4 c5 c6 c7 c8 c9 : Nat} {s0 s1 s2 s3 s4 s5 s6 s7 s8 s9 : Str} (h0 : s0 = ch c0) (h1 : s1 = ch c1) (h2 : s2 = ch c2) (h3 : s3 = ch c3) (h4 : s4 = ch c4) (h5 : s5 = ch c5) (h6 : s6 = ch c6) (h7 : s7 = ch c7) (h8 : s8 = ch c8) (h9 : s9 = ch c9) : Txt.join (Str.ofString "") [s0, s1, s2, s3, s4, s5, s6, s7, s8, s9] = rowC c0 c1 c2 c3 c4 c5 c6 c7 c8 c9 := by
  subst h0; subst h1; subst h2; subst h3; subst h4; subst h5; subst h6; subst h7; subst h8; subst h9; rfl
theorem fmRow_eq (mode : Int) : fmRow mode = rowS mode :=
  join10 (fmCh0 mode) (fmCh1 mode) (fmCh2 mode) (fmCh3 mode) (fmCh4 mode) (fmCh5 mode) (fmCh6 mode) (fmCh7 mode) (fmCh8 mode) (fmCh9 mode)
theorem fd {x : Int} (n : Int) (h : 0 ≤ n) : Int.fdiv x n = x / n := Int.fdiv_eq_ediv_of_nonneg _ h
theorem fm {x : Int} (n : Int) (h : 0 ≤ n) : Int.fmod x n = x % n := Int.fmod_eq_emod_of_nonneg _ h
theorem fdm {x : Int} (P : Int) (h : 0 ≤ P) : Int.fmod (Int.fdiv x P) 2 = x / P % 2 := by rw [fd P h, fm 2 (by decide)]
theorem fdm2 {x : Int} {a b c : Int} (h : 0 ≤ a) (h' : 0 ≤ b) (e : a * b = c) : Int.fmod (Int.fdiv (Int.fdiv x a) b) 2 = x / c % 2 := by rw [fdm b h', fd a h, Int.ediv_ediv_of_nonneg h, e]
theorem fdm1 {x : Int} : Int.fmod x 2 = x / 1 % 2 := by rw [fm 2 (by decide), Int.ediv_one]
theorem item_r {v m P : Int} (e : v = m / P % 2) : Txt.item (Str.ofString "-r") v = ch (rc 114 (bt m P)) := by
  subst e; unfold bt
  rcases Int.emod_two_eq (m / P) with h | h <;> rw [h] <;> rfl
theorem item_w {v m P : Int} (e : v = m / P % 2) : Txt.item (Str.ofString "-w") v = ch (rc 119 (bt m P)) := by
  subst e; unfold bt
  rcases Int.emod_two_eq (m / P) with h | h <;> rw [h] <;> rfl
theorem item_s {v u m P R : Int} (e : v = m / P % 2) (e' : u = m / R % 2) : Txt.item (Str.ofString "-xSs") (v + u * 2) = ch (xc 115 83 (bt m R) (bt m P)) := by
  subst e; subst e'; unfold bt
  rcases Int.emod_two_eq (m / P) with h | h <;> rcases Int.emod_two_eq (m / R) with h' | h' <;> rw [h, h'] <;> rfl
theorem item_t {v u m P R : Int} (e : v = m / P % 2) (e' : u = m / R % 2) : Txt.item (Str.ofString "-xTt") (v + u * 2) = ch (xc 116 84 (bt m R) (bt m P)) := by
  subst e; subst e'; unfold bt
  rcases Int.emod_two_eq (m / P) with h | h <;> rcases Int.emod_two_eq (m / R) with h' | h' <;> rw [h, h'] <;> rfl
theorem item_k (m : Int) : Txt.item (Str.ofString "?pc?d?b?-?l?s???") (Int.fmod (Int.fdiv m 4096) 16) = ch (kc (m / 4096 % 16)) := by
  rw [fd 4096 (by decide), fm 16 (by decide)]
  exact all16 (p := fun k => Txt.item (Str.ofString "?pc?d?b?-?l?s???") k = ch (kc k)) (by decide +kernel) _
theorem cat10 {c0 c1 c2 c3 c4 c5 c6 c7 c8 c9 : Nat} {s0 s1 s2 s3 s4 s5 s6 s7 s8 s9 : Str} (h0 : s0 = ch c0) (h1 : s1 = ch c1) (h2 : s2 = ch c2) (h3 : s3 = ch c3) (h4 : s4 = ch c4) (h5 : s5 = ch c5) (h6 : s6 = ch c6) (h7 : s7 = ch c7) (h8 : s8 = ch c8) (h9 : s9 = ch c9) : s0 ++ (s1 ++ s2) ++ s3 ++ (s4 ++ s5) ++ s6 ++ (s7 ++ s8) ++ s9 = rowC c0 c1 c2 c3 c4 c5 c6 c7 c8 c9 := by
  subst h0; subst h1; subst h2; subst h3; subst h4; subst h5; subst h6; subst h7; subst h8; subst h9; rfl
theorem lawRow_eq (m : Int) : lawRow m = rowS m :=
  cat10 (item_k m) (item_r (fdm2 (by decide) (by decide) rfl)) (item_w (fdm2 (by decide) (by decide) rfl)) (item_s (fdm 64 (by decide)) (fdm 2048 (by decide)))
    (item_r (fdm2 (by decide) (by decide) rfl)) (item_w (fdm2 (by decide) (by decide) rfl)) (item_s (fdm 8 (by decide)) (fdm 1024 (by decide)))
    (item_r (fdm 4 (by decide))) (item_w (fdm 2 (by decide))) (item_t fdm1 (fdm 512 (by decide)))

end
/-! part PL3 -/
section
open PySem PySem.W PyProof.Rows
theorem flushPL3 {prog : Program} {w : World} {A : Around} {E : Value → Shared → Prop} {s : Shared} {t u : Tok} {Q : Value → Shared → Prop} (h : wpAny (model prog w) A (binaryOp .Mult (.int 1 t) (.int 1 u)) Q E s) : wpAny (model prog w) A (binaryOp .Mult (.int 1 t) (.int 1 u)) Q E s := by
  first
  | (walk1; fail)
  | exact h
end
section
open PySem PyProof.Rows PySem.Spec
theorem kc_lt (k : Int) : kc k < 128 := by unfold kc; repeat' split <;> first | decide | skip
theorem rc_lt {c : Nat} (h : c < 128) (b : Bool) : rc c b < 128 := by cases b <;> simp [rc, h]
theorem xc_lt {s S : Nat} (h : s < 128) (h' : S < 128) (a b : Bool) : xc s S a b < 128 := by cases a <;> cases b <;> simp [xc, h, h']
theorem in_r (a : Bool) : Txt.contains (Str.ofString "r") (ch (rc 114 a)) = a := by cases a <;> kernel_rfl
theorem in_w (a : Bool) : Txt.contains (Str.ofString "w") (ch (rc 119 a)) = a := by cases a <;> kernel_rfl
theorem in_xs (a b : Bool) : Txt.contains (Str.ofString "xst") (ch (xc 115 83 a b)) = b := by cases a <;> cases b <;> kernel_rfl
theorem in_xt (a b : Bool) : Txt.contains (Str.ofString "xst") (ch (xc 116 84 a b)) = b := by cases a <;> cases b <;> kernel_rfl
theorem in_es (a b : Bool) : Txt.contains (Str.ofString "sStT") (ch (xc 115 83 a b)) = a := by cases a <;> cases b <;> kernel_rfl
theorem in_et (a b : Bool) : Txt.contains (Str.ofString "sStT") (ch (xc 116 84 a b)) = a := by cases a <;> cases b <;> kernel_rfl
def oct (a b d : Bool) : Int := (if a then 4 else 0) + (if b then 2 else 0) + (if d then 1 else 0)
theorem fig_s (a b c d : Bool) : (sel (bs3 (rc 114 a) (rc 119 b) (xc 115 83 c d))).sum = oct a b d := by unfold bs3; rw [in_r, in_w, in_xs]; cases a <;> cases b <;> cases d <;> rfl
theorem fig_t (a b c d : Bool) : (sel (bs3 (rc 114 a) (rc 119 b) (xc 116 84 c d))).sum = oct a b d := by unfold bs3; rw [in_r, in_w, in_xt]; cases a <;> cases b <;> cases d <;> rfl
theorem fig_e (a b c x y z : Bool) : (sel (bs2 (xc 115 83 a x) (xc 115 83 b y) (xc 116 84 c z))).sum = oct a b c := by unfold bs2; rw [in_es, in_es, in_et]; cases a <;> cases b <;> cases c <;> rfl
theorem ifbt (m P : Int) (k : Int) : (if bt m P = true then k else 0) = (m / P % 2) * k := by
  unfold bt
  rcases Int.emod_two_eq (m / P) with h | h <;> rw [h] <;> simp
theorem sub_mid (x p q : Int) : x - p + (p - q) = x - q := by omega
theorem dmk (x : Int) {a : Int} (b : Int) (ha : 0 ≤ a) : x % a + a * (x / a % b) = x % (a * b) := by
  rw [Int.emod_def x a, Int.emod_def (x / a) b, Int.emod_def x (a * b), ← Int.ediv_ediv_of_nonneg ha, Int.mul_sub, Int.mul_assoc, sub_mid]
theorem oct0 (x : Int) : x / 4 % 2 * 4 + x / 2 % 2 * 2 + x / 1 % 2 * 1 = x % 8 := by
  have h : x % 8 = x % 2 + 2 * (x / 2 % 2 + 2 * (x / 4 % 2)) := by
    have e1 := dmk x (a := 2) 4 (by decide)
    have e2 := dmk (x / 2) (a := 2) 2 (by decide)
    rw [Int.ediv_ediv_of_nonneg (by decide)] at e2
    exact ((congrArg (fun z => x % 2 + 2 * z) e2).trans e1).symm
  rw [h, Int.ediv_one]
  generalize x / 4 % 2 = p
  generalize x / 2 % 2 = q
  generalize x % 2 = r
  omega
theorem oct_eq (m a : Int) {P Q : Int} (h : 0 ≤ a) (hP : a * 4 = P) (hQ : a * 2 = Q) : oct (bt m P) (bt m Q) (bt m a) = m / a % 8 := by
  unfold oct
  rw [ifbt, ifbt, ifbt, ← oct0, ← hP, ← hQ, Int.ediv_ediv_of_nonneg h, Int.ediv_ediv_of_nonneg h, Int.ediv_ediv_of_nonneg h, Int.mul_one a]
theorem figO_eq (m : Int) : (sel (bs3 (rc 114 (bt m 4)) (rc 119 (bt m 2)) (xc 116 84 (bt m 512) (bt m 1)))).sum = m % 8 := by rw [fig_t, oct_eq m 1 (P := 4) (Q := 2) (by decide) rfl rfl, Int.ediv_one]
theorem figG_eq (m : Int) : (sel (bs3 (rc 114 (bt m 32)) (rc 119 (bt m 16)) (xc 115 83 (bt m 1024) (bt m 8)))).sum = m / 8 % 8 := (fig_s _ _ _ _).trans (oct_eq m 8 (by decide) rfl rfl)
theorem figW_eq (m : Int) : (sel (bs3 (rc 114 (bt m 256)) (rc 119 (bt m 128)) (xc 115 83 (bt m 2048) (bt m 64)))).sum = m / 64 % 8 := (fig_s _ _ _ _).trans (oct_eq m 64 (by decide) rfl rfl)
theorem figA_eq (m : Int) : (sel (bs2 (xc 115 83 (bt m 2048) (bt m 64)) (xc 115 83 (bt m 1024) (bt m 8)) (xc 116 84 (bt m 512) (bt m 1)))).sum = m / 512 % 8 := (fig_e _ _ _ _ _ _).trans (oct_eq m 512 (by decide) rfl rfl)

def Unit1 (x : Int) : Prop := x = 1 ∨ x = -1
theorem dm8 (m : Int) : m % 8 + 8 * (m / 8 % 8) = m % 64 := dmk m (a := 8) 8 (by decide)
theorem low_eq (m : Int) : m % 8 + 8 * (m / 8 % 8) = m % 64 := dm8 m
theorem high_eq (m : Int) : m / 64 % 8 + 8 * (m / 512 % 8) = m / 64 % 64 := by rw [← dm8, Int.ediv_ediv_of_nonneg (by decide)]; rfl
theorem right_eq (m : Int) : m % 4096 = m % 64 + 64 * (m / 64 % 64) := (dmk m (a := 64) 64 (by decide)).symm
theorem emod_unit {x s N : Int} (hs : Unit1 s) : x % (s * N) = x % N := by
  rcases hs with rfl | rfl
  · rw [Int.one_mul]
  · rw [Int.neg_mul, Int.one_mul, Int.emod_neg]
theorem left63 {turn sign far m : Int} (ht : Unit1 turn) (hs : Unit1 sign) : Int.fmod (turn * (m % 8 + 8 * (m / 8 % 8) + (m / 64 % 8 + 8 * (m / 512 % 8)))) 63 = (turn * (m % 4096 + 4095 * far)) % (sign * 63) := by
  rw [fm 63 (by decide), low_eq, high_eq, right_eq, emod_unit hs]
  generalize m % 64 = l
  generalize m / 64 % 64 = g
  have e : turn * (l + 64 * g + 4095 * far) = turn * (l + g) + 63 * (turn * (g + 65 * far)) := by
    rcases ht with rfl | rfl <;> omega
  rw [e, Int.add_mul_emod_self_left]
theorem left65 {turn sign far m : Int} (ht : Unit1 turn) (hs : Unit1 sign) : Int.fmod (turn * (m % 8 + 8 * (m / 8 % 8) - (m / 64 % 8 + 8 * (m / 512 % 8)))) 65 = (turn * (m % 4096 + 4095 * far)) % (sign * 65) := by
  rw [fm 65 (by decide), low_eq, high_eq, right_eq, emod_unit hs]
  generalize m % 64 = l
  generalize m / 64 % 64 = g
  have e : turn * (l + 64 * g + 4095 * far) = turn * (l - g) + 65 * (turn * (g + 63 * far)) := by
    rcases ht with rfl | rfl <;> omega
  rw [e, Int.add_mul_emod_self_left]
theorem unit_sq {t : Int} (h : Unit1 t) : t * t = 1 := by rcases h with rfl | rfl <;> rfl
theorem rest_g {turn sign far r N R : Int} (hN : 0 ≤ N) (hR : N * R = 4095) (ht : Unit1 turn) : Int.fmod (turn * Int.fmod (turn * (r + 4095 * far)) (sign * N)) N = r % N := by
  rw [fm N hN, Int.fmod_def, Int.mul_sub, ← Int.mul_assoc, unit_sq ht, Int.one_mul]
  generalize Int.fdiv (turn * (r + 4095 * far)) (sign * N) = q
  have e : turn * (sign * N * q) = N * (turn * sign * q) := by
    rw [← Int.mul_assoc, ← Int.mul_assoc, Int.mul_comm (turn * sign) N, Int.mul_assoc]
  rw [e, Int.sub_mul_emod_self_left, ← hR, Int.mul_assoc, Int.add_mul_emod_self_left]
theorem rest63 {turn sign far m : Int} (ht : Unit1 turn) (_hs : Unit1 sign) : Int.fmod (turn * Int.fmod (turn * (m % 4096 + 4095 * far)) (sign * 63)) 63 = m % 4096 % 63 := rest_g (R := 65) (by decide) rfl ht
theorem rest65 {turn sign far m : Int} (ht : Unit1 turn) (_hs : Unit1 sign) : Int.fmod (turn * Int.fmod (turn * (m % 4096 + 4095 * far)) (sign * 65)) 65 = m % 4096 % 65 := rest_g (R := 63) (by decide) rfl ht
theorem crt (r : Int) : (32 * (65 * (r % 63) + 63 * (r % 65))) % 4095 = r % 4095 := by omega
theorem dm_cong {m n q : Int} (P K R : Int) {M : Int} (hP : P ≠ 0) (hM : P * K * R = M) (h : m = n + M * q) : m / P % K = n / P % K := by
  rw [h, ← hM, Int.mul_assoc, Int.mul_assoc, Int.add_mul_ediv_left _ _ hP, Int.add_mul_emod_self_left]
theorem bt_cong {m n q : Int} (P R : Int) (hP : P ≠ 0) (hM : P * 2 * R = 65536) (h : m = n + 65536 * q) : bt m P = bt n P := by unfold bt; rw [dm_cong P 2 R hP hM h]
theorem row_cong {m k : Int} {c0 c1 c2 c3 c4 c5 c6 c7 c8 c9 ca cb : Bool} (hk : m / 4096 % 16 = k) (h0 : bt m 1 = c0) (h1 : bt m 2 = c1) (h2 : bt m 4 = c2) (h3 : bt m 8 = c3) (h4 : bt m 16 = c4) (h5 : bt m 32 = c5) (h6 : bt m 64 = c6) (h7 : bt m 128 = c7) (h8 : bt m 256 = c8) (h9 : bt m 512 = c9) (ha : bt m 1024 = ca) (hb : bt m 2048 = cb) : rowS m = ⟨#[kc k, rc 114 c8, rc 119 c7, xc 115 83 cb c6, rc 114 c5, rc 119 c4, xc 115 83 ca c3, rc 114 c2, rc 119 c1, xc 116 84 c9 c0]⟩ := by
  subst hk; subst h0; subst h1; subst h2; subst h3; subst h4; subst h5; subst h6; subst h7; subst h8; subst h9; subst ha; subst hb; rfl
theorem rowS_cong {m n : Int} (h : m % 65536 = n % 65536) : rowS m = rowS n := by
  have e : m = n + 65536 * (m / 65536 - n / 65536) := by omega
  exact row_cong (dm_cong 4096 16 1 (by decide) rfl e) (bt_cong 1 32768 (by decide) rfl e) (bt_cong 2 16384 (by decide) rfl e) (bt_cong 4 8192 (by decide) rfl e) (bt_cong 8 4096 (by decide) rfl e) (bt_cong 16 2048 (by decide) rfl e) (bt_cong 32 1024 (by decide) rfl e) (bt_cong 64 512 (by decide) rfl e) (bt_cong 128 256 (by decide) rfl e) (bt_cong 256 128 (by decide) rfl e) (bt_cong 512 64 (by decide) rfl e) (bt_cong 1024 32 (by decide) rfl e) (bt_cong 2048 16 (by decide) rfl e)
theorem last_row (m : Int) (hne : m % 4096 ≠ 4095) : rowS (m / 4096 % 16 * 4096 + m % 4096 % 4095 + 65536) = rowS m := by
  refine rowS_cong ?_
  have h0 : 0 ≤ m % 4096 := Int.emod_nonneg m (by decide)
  have h1 : m % 4096 < 4096 := Int.emod_lt_of_pos m (by decide)
  rw [Int.emod_eq_of_lt h0 (b := 4095) (by omega), Int.add_emod_right, Int.add_comm, Int.mul_comm, dmk m (a := 4096) 16 (by decide)]
  exact Int.emod_emod _ _
theorem bt_zero {q : Int} (P R : Int) (hP : P ≠ 0) (hM : P * 2 * R = 4096) : bt (4096 * q) P = false := by
  refine decide_eq_false fun h => ?_
  rw [← hM, Int.mul_assoc, Int.mul_assoc, Int.mul_ediv_cancel_left _ hP, Int.mul_emod_right] at h
  exact absurd h (by decide)
theorem slice1 (c0 c1 c2 c3 c4 c5 c6 c7 c8 c9 : Nat) : Txt.slice ⟨#[c0, c1, c2, c3, c4, c5, c6, c7, c8, c9]⟩ none (some 1) ++ Str.ofString "---------" = ⟨#[c0, 45, 45, 45, 45, 45, 45, 45, 45, 45]⟩ := by kernel_rfl
theorem last_row' (m : Int) (he : m % 4096 = 4095) : rowS (m / 4096 % 16 * 4096 + m % 4096 % 4095 + 65536) = Txt.slice (rowS m) none (some 1) ++ Str.ofString "---------" := by
  rw [show m / 4096 % 16 * 4096 + m % 4096 % 4095 + 65536 = 4096 * (m / 4096 % 16 + 16) by rw [he]; omega]
  exact (row_cong (k := m / 4096 % 16) (by rw [Int.mul_ediv_cancel_left _ (by decide), Int.add_emod_right, Int.emod_emod]) (bt_zero 1 2048 (by decide) rfl) (bt_zero 2 1024 (by decide) rfl) (bt_zero 4 512 (by decide) rfl) (bt_zero 8 256 (by decide) rfl) (bt_zero 16 128 (by decide) rfl) (bt_zero 32 64 (by decide) rfl) (bt_zero 64 32 (by decide) rfl) (bt_zero 128 16 (by decide) rfl) (bt_zero 256 8 (by decide) rfl) (bt_zero 512 4 (by decide) rfl) (bt_zero 1024 2 (by decide) rfl) (bt_zero 2048 1 (by decide) rfl)).trans (slice1 (kc (m / 4096 % 16)) _ _ _ _ _ _ _ _ _).symm

end
/-! part LM -/
section
open PySem PySem.W PyProof.Rows
theorem flushLM {prog : Program} {w : World} {A : Around} {E : Value → Shared → Prop} {s : Shared} {t u : Tok} {Q : Value → Shared → Prop} (h : wpAny (model prog w) A (binaryOp .Mult (.int 1 t) (.int 1 u)) Q E s) : wpAny (model prog w) A (binaryOp .Mult (.int 1 t) (.int 1 u)) Q E s := by
  first
  | (walk1; fail)
  | exact h
end
section
open PySem PySem.W PySem.Spec PySem.Calls PyProof.Rows
local macro_rules | `(tactic| k_room) => `(tactic| ktr_room)

theorem int_eq {a b : Int} {t : Tok} (h : a = b) : ∃ t', Value.int a t = .int b t' := ⟨t, by rw [h]⟩
theorem mod4096 (x : Int) : Builtin.bitAnd x 4095 = x % 4096 := by rw [band4095, Int.ediv_one, Int.mul_one]
theorem imode_c (prog : Program) (w : World) (mode : Int) (t : Tok) : PCon prog w 21 [.int mode t] 3 (fun v _ => ∃ t', v = .int (mode % 4096) t') := by
  unfold PCon
  w_top off
  k_fill
  intro _ loose mean mg mb dp un gd cn cs a ccd cl outer A₀ base h₀ L m s Q E B F X T hk hd hu hret
  refine wpAny_call ?_
  k_dflt (refine' enterH (mu := []) ?k1 ?k2 ?k3 ?k4 ?k5 ?kA ?kF ?kK ?k6 ?k7 ?k8 ?k9 ?kB ?_ ?c2 ?c3 ?c4 ?c5; (case kA => exact rfl); (case kF => exact rfl); (case kK => assumption); (case k1 => k_asm); (case k2 => k_asm); (case k3 => k_asm); (case k4 => exact News.nil); (case k5 => k_asm); (case k6 => k_is); (case k7 => k_is); (case k8 => exact room_0 hd); (case k9 => exact BindsTo.of_eq rfl); (case c5 => decide); (case kB => exact locs rfl); (case c2 => exact rfl); (case c3 => exact rfl); (case c4 => exact rfl); k_whole)
  intro g' L' h' hg' F' N' B' X' T' l1'
  clear B F X T
  dsimp only
  k_fold
  k_steps
  rename Fr _ _ _ _ => F3
  exact hret _ _ _ (fun b o e => kept_of hg' F3 b o List.not_mem_nil e) (int_eq (mod4096 mode))
theorem ifmt_c (prog : Program) (w : World) (mode : Int) (t : Tok) : PCon prog w 28 [.int mode t] 3 (fun v _ => ∃ t', v = .int (mode / 4096 % 16 * 4096) t') := by
  unfold PCon
  w_top off
  k_fill
  intro _ loose mean mg mb dp un gd cn cs a ccd cl outer A₀ base h₀ L m s Q E B F X T hk hd hu hret
  refine wpAny_call ?_
  k_dflt (refine' enterH (mu := []) ?k1 ?k2 ?k3 ?k4 ?k5 ?kA ?kF ?kK ?k6 ?k7 ?k8 ?k9 ?kB ?_ ?c2 ?c3 ?c4 ?c5; (case kA => exact rfl); (case kF => exact rfl); (case kK => assumption); (case k1 => k_asm); (case k2 => k_asm); (case k3 => k_asm); (case k4 => exact News.nil); (case k5 => k_asm); (case k6 => k_is); (case k7 => k_is); (case k8 => exact room_0 hd); (case k9 => exact BindsTo.of_eq rfl); (case c5 => decide); (case kB => exact locs rfl); (case c2 => exact rfl); (case c3 => exact rfl); (case c4 => exact rfl); k_whole)
  intro g' L' h' hg' F' N' B' X' T' l1'
  clear B F X T
  dsimp only
  k_fold
  k_steps
  rename Fr _ _ _ _ => F3
  exact hret _ _ _ (fun b o e => kept_of hg' F3 b o List.not_mem_nil e) (int_eq (band61440 mode))


end
/-! part LC -/
section
open PySem PySem.W PyProof.Rows
theorem flushLC {prog : Program} {w : World} {A : Around} {E : Value → Shared → Prop} {s : Shared} {t u : Tok} {Q : Value → Shared → Prop} (h : wpAny (model prog w) A (binaryOp .Mult (.int 1 t) (.int 1 u)) Q E s) : wpAny (model prog w) A (binaryOp .Mult (.int 1 t) (.int 1 u)) Q E s := by
  first
  | (walk1; fail)
  | exact h
end
section
open PySem PySem.W PySem.Spec PySem.Calls PyProof.Rows

theorem pow_13 {prog : Program} {w : World} {A : Around} {E : Value → Shared → Prop} {s : Shared} {t u : Tok} {Q : Value → Shared → Prop} (h : Q (.int 10000000000000 s.toks) { s with toks := s.toks + 1 }) : wpAny (model prog w) A (binaryOp .Pow (.int 10 t) (.int 13 u)) Q E s :=
  pow_int_small (by decide) (by decide) (by decide) (by rw [show (10 : Int) ^ Int.toNat 13 = 10000000000000 by decide]; exact h)

/-- a tree that the walk is to leave standing -/
def Halt (p : Prop) : Prop := p
theorem halt {p : Prop} (h : Halt p) : p := h
theorem Halt.go {p : Prop} (h : p) : Halt p := h

/-- a code table and the one code it may hold -/
def TabL (ln cl : Int) (qual : Str) (ps : Array Value) (d : Addr) (od : Obj) : Prop := ps = #[] ∨ (ps = #[rawInt ln, rawInt cl, .ref d] ∧ ∃ vs t, od.data = .fields vs ∧ vs[1]? = some (.str qual t))
theorem TabL.ok {ln cl : Int} {qual : Str} {ps : Array Value} {d : Addr} {od : Obj} {h : Heap} (x : TabL ln cl qual ps d od) (hd : h.get? d = some od) : TabOk ln cl qual ps h :=
  x.imp id fun ⟨e, vs, t, e1, e2⟩ => ⟨d, e, d, od, vs, t, rfl, hd, e1, e2⟩
theorem TabL.next {ln cl : Int} {qual : Str} {ps : Array Value} {d d' : Addr} {od od' : Obj} {c : Addr} (x : TabL ln cl qual ps d od) (n : CodeNew ln cl ps d' od' c qual) :
    ∃ e oe, ((e = d ∧ oe = od) ∨ (e = d' ∧ oe = od')) ∧ TabL ln cl qual #[rawInt ln, rawInt cl, .ref c] e oe := by
  rcases n with rfl | ⟨rfl, n⟩
  · rcases x with e | ⟨e, x⟩
    · exact absurd (congrArg Array.size e) (by simp)
    · have q := congrArg (fun a : Array Value => a[2]?) e
      have q : Value.ref c = Value.ref d := Option.some.inj q
      cases q
      exact ⟨_, _, .inl ⟨rfl, rfl⟩, .inr ⟨rfl, x⟩⟩
  · exact ⟨_, _, .inr ⟨rfl, rfl⟩, .inr ⟨rfl, n⟩⟩

structure LawTab (d1 d2 : Addr) (od1 od2 : Obj) (p1 p2 : Array Value) : Prop where
  t1 : TabL 89 4 qual2 p1 d1 od1
  t2 : TabL 74 4 qual1 p2 d2 od2
  n1 : @Ne Nat d1 91 ∧ @Ne Nat d1 84
  n2 : @Ne Nat d2 91 ∧ @Ne Nat d2 84

def AllNe (d : Addr) : List (Addr × Obj) → Prop
  | [] => True
  | p :: r => @Ne Nat p.1 d ∧ AllNe d r
theorem allNe_hd {d a : Addr} {o : Obj} {r : List (Addr × Obj)} (h : AllNe d ((a, o) :: r)) : @Ne Nat a d := h.1
theorem allNe_tl {d a : Addr} {o : Obj} {r : List (Addr × Obj)} (h : AllNe d ((a, o) :: r)) : AllNe d r := h.2
theorem allNe_of {d : Addr} : ∀ {l : List (Addr × Obj)}, (∀ p ∈ l, p.1 ≠ d) → AllNe d l
  | [], _ => trivial
  | p :: _, h => ⟨h p (.head _), allNe_of fun q hq => h q (.tail _ hq)⟩
/-- the ledger behind a call of _law_rest -/
theorem tabs3 {g h h5 : Heap} {L d1 d2 : Addr} {od1 od2 : Obj} {m : Str → Option Value} {p1 p2 : Array Value} {r : Int} {v : Value} {pre : List (Addr × Obj)} (F : Fr g L h m)
    (N : News g L h ((d1, od1) :: (d2, od2) :: (91, tabObj p1) :: (84, tabObj p2) :: pre)) (T : LawTab d1 d2 od1 od2 p1 p2) (o1 : ∀ q ∈ pre, q.1 ≠ 91) (o2 : ∀ q ∈ pre, q.1 ≠ 84)
    (e1 : ∀ q ∈ pre, q.1 ≠ d1) (e2 : ∀ q ∈ pre, q.1 ≠ d2)
    (hk : ∀ b o, b ∉ [91, 84] → h.get? b = some o → h5.get? b = some o) (x : RestPost r p1 p2 h v h5) :
    ∃ t d1' od1' d2' od2' p1' p2', v = .int r t ∧ Fr g L h5 m ∧ News g L h5 ((d1', od1') :: (d2', od2') :: (91, tabObj p1') :: (84, tabObj p2') :: pre) ∧ LawTab d1' d2' od1' od2' p1' p2' ∧ AllNe d1' pre ∧ AllNe d2' pre := by
  obtain ⟨t, c1, oc1, cc1, c2, oc2, cc2, rfl, ⟨hd1, hg1, h91, n1⟩, ⟨hd2, hg2, h84, n2⟩, e3⟩ := x
  have m1 := N (91, tabObj p1) (by k_mem)
  have m2 := N (84, tabObj p2) (by k_mem)
  have l1 : @LT.lt Nat _ 91 h.objs.size := Heap.lt_size m1.1
  have l2 : @LT.lt Nat _ 84 h.objs.size := Heap.lt_size m2.1
  have off : ∀ b o, b ≠ 91 → b ≠ 84 → h.get? b = some o → h5.get? b = some o := fun b o a1 a2 e => hk b o (fun q => by
    rcases List.mem_cons.mp q with q | q
    · exact a1 q
    · exact a2 (List.mem_singleton.mp q)) e
  have F5 : Fr g L h5 m := ⟨F.ns.at' fun o q => off _ o (Ne.symm m1.2.1) (Ne.symm m2.2.1) q, fun b o q => off b o (fun z => by rw [z, m1.2.2] at q; cases q) (fun z => by rw [z, m2.2.2] at q; cases q) (F.keep b o q), F.above⟩
  have lpre : ∀ q ∈ pre, q.1 < h.objs.size := fun q hq => Heap.lt_size (N q (.tail _ (.tail _ (.tail _ (.tail _ hq))))).1
  have one : ∀ {e : Addr} {oe : Obj}, (e, oe) ∈ ((d1, od1) :: (d2, od2) :: (91, tabObj p1) :: (84, tabObj p2) :: pre) → e ≠ 91 → e ≠ 84 → ∀ q ∈ [(e, oe)], h5.get? q.1 = some q.2 ∧ q.1 ≠ L ∧ g.get? q.1 = none := fun {e oe} hm a1 a2 q hq => by
    rw [List.mem_singleton.mp hq]
    exact ⟨off _ _ a1 a2 (N _ hm).1, (N _ hm).2⟩
  have newL : ∀ {e : Addr} {oe : Obj}, h.objs.size ≤ e → h5.get? e = some oe → ∀ q ∈ [(e, oe)], h5.get? q.1 = some q.2 ∧ q.1 ≠ L ∧ g.get? q.1 = none := fun {e oe} he ho => news_new F he ho News.nil
  have P : ∀ q ∈ pre, h5.get? q.1 = some q.2 ∧ q.1 ≠ L ∧ g.get? q.1 = none := fun q hq => by
    have z := N q (.tail _ (.tail _ (.tail _ (.tail _ hq))))
    exact ⟨off _ _ (o1 q hq) (o2 q hq) z.1, z.2⟩
  obtain ⟨a1, oa1, ha1, k1⟩ := T.t1.next n1
  obtain ⟨a2, oa2, ha2, k2⟩ := T.t2.next n2
  refine ⟨t, a1, oa1, a2, oa2, _, _, rfl, F5, ?_, ⟨k1, k2, ?_, ?_⟩, ?_, ?_⟩
  · refine List.forall_mem_cons.mpr ⟨?_, List.forall_mem_cons.mpr ⟨?_, List.forall_mem_cons.mpr ⟨⟨h91, m1.2⟩, List.forall_mem_cons.mpr ⟨⟨h84, m2.2⟩, P⟩⟩⟩⟩
    · rcases ha1 with ⟨rfl, rfl⟩ | ⟨rfl, rfl⟩
      · exact one (by k_mem) T.n1.1 T.n1.2 _ (.head _)
      · exact newL hd1 hg1 _ (.head _)
    · rcases ha2 with ⟨rfl, rfl⟩ | ⟨rfl, rfl⟩
      · exact one (by k_mem) T.n2.1 T.n2.2 _ (.head _)
      · exact newL hd2 hg2 _ (.head _)
  · rcases ha1 with ⟨rfl, rfl⟩ | ⟨rfl, rfl⟩
    · exact T.n1
    · exact ⟨Nat.ne_of_gt (Nat.lt_of_lt_of_le l1 hd1), Nat.ne_of_gt (Nat.lt_of_lt_of_le l2 hd1)⟩
  · rcases ha2 with ⟨rfl, rfl⟩ | ⟨rfl, rfl⟩
    · exact T.n2
    · exact ⟨Nat.ne_of_gt (Nat.lt_of_lt_of_le l1 hd2), Nat.ne_of_gt (Nat.lt_of_lt_of_le l2 hd2)⟩
  · rcases ha1 with ⟨rfl, rfl⟩ | ⟨rfl, rfl⟩
    · exact allNe_of e1
    · exact allNe_of fun q hq => Nat.ne_of_lt (Nat.lt_of_lt_of_le (lpre q hq) hd1)
  · rcases ha2 with ⟨rfl, rfl⟩ | ⟨rfl, rfl⟩
    · exact allNe_of e2
    · exact allNe_of fun q hq => Nat.ne_of_lt (Nat.lt_of_lt_of_le (lpre q hq) hd2)

abbrev lawM (sc : Addr) (first turn sign far : Int) (t1 t2 t3 t4 : Tok) (v : Str → Option Value) : Str → Option Value := fun y =>
  if y = Str.ofString "sign" then some (.int sign t3) else if y = Str.ofString "turn" then some (.int turn t2) else if y = Str.ofString "far" then some (.int far t4) else if y = Str.ofString "first" then some (.int first t1) else if y = Str.ofString "script" then some (.ref sc) else v y

abbrev lawLed (I : Addr) (oI : Obj) (D : Addr) (vs : List Value) (d1 d2 : Addr) (od1 od2 : Obj) (p1 p2 : Array Value) : List (Addr × Obj) :=
  [(I, oI), (D, W.listOf vs.toArray 0), (d1, od1), (d2, od2), (91, tabObj p1), (84, tabObj p2)]

def LawEnd (g : Heap) (L : Addr) (s : Shared) (sc : Addr) (first far : Int) (t1 t4 : Tok) (I : Addr) (oI : Obj) (D : Addr) (vs : List Value) (f : Flow) (s₄ : Shared) : Prop :=
  f = .next ∧ ∃ h' tk' turn sign t2 t3 v d1 d2 od1 od2 p1 p2, s₄ = { s with heap := h', toks := tk' } ∧ Unit1 turn ∧ Unit1 sign ∧ Fr g L h' (lawM sc first turn sign far t1 t2 t3 t4 v) ∧
    News g L h' (lawLed I oI D vs d1 d2 od1 od2 p1 p2) ∧ LawTab d1 d2 od1 od2 p1 p2 ∧ (@Ne Nat d1 I ∧ @Ne Nat d1 D) ∧ (@Ne Nat d2 I ∧ @Ne Nat d2 D)

section
variable {prog : Program} {w : World} {A : Around} {E : Value → Shared → Prop} {s : Shared} {env : Env} {x : Str} {px : Pos} {body : List Stmt} {Q : Flow → Shared → Prop} {g : Heap} {L D I sc : Addr} {first far : Int} {t1 t4 : Tok} {vs : List Value} {ds : List Int}

theorem law_loop (hE : PassesOwn (model prog w) A env E) (hh : A.handled = none) (hi : IntsAre vs ds) (hDI : @LT.lt Nat _ D I) (hI : @LT.lt Nat _ 91 I ∧ @LT.lt Nat _ 84 I)
    (turn : ∀ (mode turn sign : Int) (tm t2 t3 : Tok) (v : Str → Option Value) (d1 d2 : Addr) (od1 od2 : Obj) (p1 p2 : Array Value) (oI : Obj) (h : Heap) (tk : Nat), Unit1 turn → Unit1 sign →
      Fr g L h (lawM sc first turn sign far t1 t2 t3 t4 v) → News g L h (lawLed I oI D vs d1 d2 od1 od2 p1 p2) → LawTab d1 d2 od1 od2 p1 p2 → (@Ne Nat d1 I ∧ @Ne Nat d1 D) → (@Ne Nat d2 I ∧ @Ne Nat d2 D) →
      wpAny (model prog w) A (assign (.Name x px) env (.int mode tm)) (fun _ s₃ => wpAny (model prog w) A (execs body env) (LawEnd g L s sc first far t1 t4 I oI D vs) E s₃) E { s with heap := h, toks := tk })
    (fin : ∀ (turn sign : Int) (t2 t3 : Tok) (v : Str → Option Value) (d1 d2 : Addr) (od1 od2 : Obj) (p1 p2 : Array Value) (h : Heap) (tk : Nat),
      Fr g L h (lawM sc first turn sign far t1 t2 t3 t4 v) → News g L h [(D, W.listOf vs.toArray 0), (d1, od1), (d2, od2), (91, tabObj p1), (84, tabObj p2)] → Q .next { s with heap := h, toks := tk }) :
    ∀ (k i : Nat) (turn sign : Int) (t2 t3 : Tok) (v : Str → Option Value) (d1 d2 : Addr) (od1 od2 : Obj) (p1 p2 : Array Value) (oI : Obj) (h : Heap) (tk : Nat), i + k = ds.length → Unit1 turn → Unit1 sign →
      Fr g L h (lawM sc first turn sign far t1 t2 t3 t4 v) → News g L h (lawLed I oI D vs d1 d2 od1 od2 p1 p2) → LawTab d1 d2 od1 od2 p1 p2 → (@Ne Nat d1 I ∧ @Ne Nat d1 D) → (@Ne Nat d2 I ∧ @Ne Nat d2 D) → oI.cls = .type "list_iterator" → oI.data = .fields #[.ref D, .int i 0] →
      FGo prog w A E env (.Name x px) body [] Q (.ref I) { s with heap := h, toks := tk } := by
  have hvl : vs.length = ds.length := hi.length
  have off : ∀ {d1 d2 : Addr} {o od1 od2 : Obj} {p1 p2 : Array Value}, @Ne Nat d1 I → @Ne Nat d2 I → ∀ p ∈ [(D, o), (d1, od1), (d2, od2), (91, tabObj p1), (84, tabObj p2)], p.1 ≠ I := fun a b => by
    refine List.forall_mem_cons.mpr ⟨Nat.ne_of_lt hDI, List.forall_mem_cons.mpr ⟨a, List.forall_mem_cons.mpr ⟨b, List.forall_mem_cons.mpr ⟨Nat.ne_of_lt hI.1, List.forall_mem_cons.mpr ⟨Nat.ne_of_lt hI.2, List.forall_mem_nil _⟩⟩⟩⟩⟩
  intro k
  induction k with
  | zero =>
    intro i tn sg t2 t3 v d1 d2 od1 od2 p1 p2 oI h tk hk u1 u2 F N T i1 i2 hc hd
    have hm := N (I, oI) (.head _)
    have hA := (N (D, W.listOf vs.toArray 0) (.tail _ (.head _))).1
    have hle : vs.length ≤ i := by omega
    refine fgo_turn hE (wpAny_pyNext_list_end (l := D) (i := i) (items := vs.toArray) hh ⟨oI, hm.1, hc, hd⟩ ⟨_, hA, rfl, _, rfl⟩ (by simp [hle]) fun h' hs => ?_)
    exact wpAny_execs_nil (fin tn sg t2 t3 v d1 d2 od1 od2 p1 p2 h' tk (fr_but1 F (fun b' ob hb' e => hs b' ob hb' e) hm.2.1 hm.2.2) (news_but1 (fun p hp => N p (.tail _ hp)) (fun b' ob hb' e => hs b' ob hb' e) (off i1.1 i2.1)))
  | succ k ih =>
    intro i tn sg t2 t3 v d1 d2 od1 od2 p1 p2 oI h tk hk u1 u2 F N T i1 i2 hc hd
    have hm := N (I, oI) (.head _)
    have hA := (N (D, W.listOf vs.toArray 0) (.tail _ (.head _))).1
    obtain ⟨td, hx⟩ := hi.get i (ds[i]'(by omega)) (by simp)
    refine fgo_turn hE (wpAny_pyNext_list_item (l := D) (i := i) (items := vs.toArray) (x := .int (ds[i]'(by omega)) td) ⟨oI, hm.1, hc, hd⟩ ⟨_, hA, rfl, _, rfl⟩ (by simpa using hx) fun h' hit hs => ?_)
    obtain ⟨oI', q1, q2, q3⟩ := hit
    obtain ⟨F', N'⟩ := upd_news (g := fun o' => lawLed I o' D vs d1 d2 od1 od2 p1 p2) F N (.head (off i1.1 i2.1)) hs q1
    show wpAny _ _ (letOwnedTupleGo _ _ _) _ _ _
    refine wpAny_pure ?_
    refine wpAny_mono (turn (ds[i]'(by omega)) tn sg td t2 t3 v d1 d2 od1 od2 p1 p2 oI' h' tk u1 u2 F' N' T i1 i2) (fun _ s₃ h₃ => wpAny_mono h₃ (fun f s₄ h₄ => ?_) fun _ _ q => q) fun _ _ q => q
    obtain ⟨rfl, h'', tk'', tn', sg', t2', t3', v', d1', d2', od1', od2', p1', p2', rfl, u1', u2', F'', N'', T'', i1', i2'⟩ := h₄
    exact ih (i + 1) tn' sg' t2' t3' v' d1' d2' od1' od2' p1' p2' oI' h'' tk'' (by omega) u1' u2' F'' N'' T'' i1' i2' q2 q3

theorem law_for {turn₀ sign₀ : Int} {t2 t3 : Tok} {v₀ : Str → Option Value} {x1 x2 : Addr × Obj} {d1 d2 : Addr} {od1 od2 : Obj} (F : Fr g L s.heap (lawM sc first turn₀ sign₀ far t1 t2 t3 t4 v₀))
    (N : News g L s.heap [(D, W.listOf vs.toArray 0), x1, (d1, od1), (d2, od2), x2, (91, tabObj #[]), (84, tabObj #[])]) (u1 : Unit1 turn₀) (u2 : Unit1 sign₀)
    (n1 : @Ne Nat d1 91 ∧ @Ne Nat d1 84) (n2 : @Ne Nat d2 91 ∧ @Ne Nat d2 84) (nD : @Ne Nat d1 D ∧ @Ne Nat d2 D)
    (hE : PassesOwn (model prog w) A env E) (hh : A.handled = none) (hi : IntsAre vs ds)
    (turn : ∀ I, @LT.lt Nat _ D I → @LT.lt Nat _ 91 I → @LT.lt Nat _ 84 I → ∀ (mode turn sign : Int) (tm t2 t3 : Tok) (v : Str → Option Value) (d1 d2 : Addr) (od1 od2 : Obj) (p1 p2 : Array Value) (oI : Obj) (h : Heap) (tk : Nat), Unit1 turn → Unit1 sign →
      Fr g L h (lawM sc first turn sign far t1 t2 t3 t4 v) → News g L h (lawLed I oI D vs d1 d2 od1 od2 p1 p2) → LawTab d1 d2 od1 od2 p1 p2 → (@Ne Nat d1 I ∧ @Ne Nat d1 D) → (@Ne Nat d2 I ∧ @Ne Nat d2 D) →
      wpAny (model prog w) A (assign (.Name x px) env (.int mode tm)) (fun _ s₃ => wpAny (model prog w) A (execs body env) (LawEnd g L s sc first far t1 t4 I oI D vs) E s₃) E { s with heap := h, toks := tk })
    (fin : ∀ (turn sign : Int) (t2 t3 : Tok) (v : Str → Option Value) (d1 d2 : Addr) (od1 od2 : Obj) (p1 p2 : Array Value) (h : Heap) (tk : Nat),
      Fr g L h (lawM sc first turn sign far t1 t2 t3 t4 v) → News g L h [(D, W.listOf vs.toArray 0), (d1, od1), (d2, od2), (91, tabObj p1), (84, tabObj p2)] → Q .next { s with heap := h, toks := tk }) :
    wpAny (model prog w) A (pyIter (.ref D)) (fun it s₂ => FGo prog w A E env (.Name x px) body [] Q it s₂) E s := by
  have mD := (N (D, W.listOf vs.toArray 0) (by k_mem)).1
  have m1 := (N (d1, od1) (by k_mem)).1
  have m2 := (N (d2, od2) (by k_mem)).1
  have m91 := (N (91, tabObj #[]) (by k_mem)).1
  have m84 := (N (84, tabObj #[]) (by k_mem)).1
  refine wpAny_pyIter_list (items := vs.toArray) ⟨_, mD, rfl, _, rfl⟩ ?_
  have F4 := F.push { cls := .type "list_iterator", data := .fields #[.ref D, .int 0 0] }
  have N4 := News.push F N { cls := .type "list_iterator", data := .fields #[.ref D, .int 0 0] } rfl
  have lD : @LT.lt Nat _ D s.heap.objs.size := Heap.lt_size mD
  have l91 : @LT.lt Nat _ 91 s.heap.objs.size := Heap.lt_size m91
  have l84 : @LT.lt Nat _ 84 s.heap.objs.size := Heap.lt_size m84
  refine law_loop (I := s.heap.objs.size) hE hh hi lD ⟨l91, l84⟩ (turn _ lD l91 l84) fin ds.length 0 turn₀ sign₀ t2 t3 v₀ d1 d2 od1 od2 #[] #[] { cls := .type "list_iterator", data := .fields #[.ref D, .int 0 0] } _ s.toks (by omega) u1 u2 F4 ?_
    ⟨.inl rfl, .inl rfl, n1, n2⟩ ⟨Nat.ne_of_lt (Heap.lt_size m1), nD.1⟩ ⟨Nat.ne_of_lt (Heap.lt_size m2), nD.2⟩ rfl rfl
  exact List.forall_mem_cons.mpr ⟨N4 _ (by k_mem), List.forall_mem_cons.mpr ⟨N4 _ (by k_mem), List.forall_mem_cons.mpr ⟨N4 _ (by k_mem), List.forall_mem_cons.mpr ⟨N4 _ (by k_mem), List.forall_mem_cons.mpr ⟨N4 _ (by k_mem), List.forall_mem_cons.mpr ⟨N4 _ (by k_mem), List.forall_mem_nil _⟩⟩⟩⟩⟩⟩
end

end
/-! part LF -/
section
open PySem PySem.W PyProof.Rows
theorem flushLF {prog : Program} {w : World} {A : Around} {E : Value → Shared → Prop} {s : Shared} {t u : Tok} {Q : Value → Shared → Prop} (h : wpAny (model prog w) A (binaryOp .Mult (.int 1 t) (.int 1 u)) Q E s) : wpAny (model prog w) A (binaryOp .Mult (.int 1 t) (.int 1 u)) Q E s := by
  first
  | (walk1; fail)
  | exact h
end
section
open PySem PySem.W PySem.Spec PySem.Calls PyProof.Rows
theorem figs_c (prog : Program) (w : World) (m : Int) (t : Tok) :
    QCon prog w 122 [.str (rowS m) t] 20 [] (fun h v h' => ∃ l t0 t1 t2 t3 n, v = .ref l ∧ h.objs.size ≤ l ∧ h'.get? l = some (W.listOf #[.int (m % 8) t0, .int (m / 8 % 8) t1, .int (m / 64 % 8) t2, .int (m / 512 % 8) t3] n)) := by
  unfold QCon
  intro hx loose mean mg mb dp un gd cn cs ad ccd cl outer A₀ base h₀ L m' s Q E B F X N T hk c1 c2 hdp hun hret
  refine fig_c prog w _ _ _ _ _ _ _ _ _ _ ⟨kc_lt _, rc_lt (by decide) _, rc_lt (by decide) _, xc_lt (by decide) (by decide) _ _, rc_lt (by decide) _, rc_lt (by decide) _, xc_lt (by decide) (by decide) _ _, rc_lt (by decide) _, rc_lt (by decide) _, xc_lt (by decide) (by decide) _ _⟩ t hx loose mean mg mb dp un gd cn cs ad ccd cl outer A₀ base h₀ L m' s Q E B F X N T hk c1 c2 hdp hun ?_
  intro v h' tk' h1 h2 ⟨l, t0, t1, t2, t3, n, e1, e2, e3⟩
  rw [figO_eq, figG_eq, figW_eq, figA_eq] at e3
  exact hret v h' tk' h1 h2 ⟨l, t0, t1, t2, t3, n, e1, e2, e3⟩
theorem row_ne (m : Int) : ¬ (rowS m != rowS m) = true := by simp
theorem kind_ne (m : Int) : ¬ (m / 4096 % 16 * 4096 ≠ Int.fmod (Int.fdiv m 4096) 16 * 4096) := by rw [fd 4096 (by decide), fm 16 (by decide)]; simp
theorem news_tl4 {g h : Heap} {L : Addr} {a b c d : Addr × Obj} {r : List (Addr × Obj)} (N : News g L h (a :: b :: c :: d :: r)) : News g L h r := fun q hq => N q (.tail _ (.tail _ (.tail _ (.tail _ hq))))
theorem sum_ne (m : Int) : ¬ (m % 4096 ≠ m % 8 + 8 * (m / 8 % 8) + 64 * (m / 64 % 8 + 8 * (m / 512 % 8))) := fun h => h (by rw [low_eq, high_eq]; exact right_eq m)
theorem news_tl {g h : Heap} {L : Addr} {a : Addr × Obj} {r : List (Addr × Obj)} (N : News g L h (a :: r)) : News g L h r := fun q hq => N q (.tail _ hq)

theorem top_bd {turn far m : Int} (u : Unit1 turn) (fb : -10000000000000 ≤ far ∧ far ≤ 10000000000000) : -(2 ^ 60) < turn * (m % 4096 + 4095 * far) ∧ turn * (m % 4096 + 4095 * far) < 2 ^ 60 := by
  rcases u with rfl | rfl <;> omega
theorem bot63 {sign : Int} (u : Unit1 sign) : sign * 63 ≠ 0 ∧ Builtin.Int.intBits (sign * 63) ≤ 30 ∧ 2 ≤ Builtin.Int.intBits (sign * 63) := by
  rcases u with rfl | rfl <;> decide
theorem bot65 {sign : Int} (u : Unit1 sign) : sign * 65 ≠ 0 ∧ Builtin.Int.intBits (sign * 65) ≤ 30 ∧ 2 ≤ Builtin.Int.intBits (sign * 65) := by
  rcases u with rfl | rfl <;> decide
theorem rest63_c (prog : Program) (w : World) (m far turn sign : Int) (t1 t2 t3 : Tok) (p1 p2 : Array Value) (u1 : Unit1 turn) (u2 : Unit1 sign) (fb : -10000000000000 ≤ far ∧ far ≤ 10000000000000) :
    RCon prog w 134 [.int (turn * (m % 4096 + 4095 * far)) t1, .int (sign * 63) t2, .int (Int.fmod (turn * (m % 8 + 8 * (m / 8 % 8) + (m / 64 % 8 + 8 * (m / 512 % 8)))) 63) t3] 70 [(91, tabObj p1), (84, tabObj p2)] (Tabs p1 p2) (RestPost (Int.fmod (turn * (m % 4096 + 4095 * far)) (sign * 63)) p1 p2) :=
  rest_c prog w _ _ _ t1 t2 t3 p1 p2 (top_bd u1 fb).1 (top_bd u1 fb).2 (bot63 u2).1 (bot63 u2).2.1 (bot63 u2).2.2 (left63 u1 u2)
theorem rest65_c (prog : Program) (w : World) (m far turn sign : Int) (t1 t2 t3 : Tok) (p1 p2 : Array Value) (u1 : Unit1 turn) (u2 : Unit1 sign) (fb : -10000000000000 ≤ far ∧ far ≤ 10000000000000) :
    RCon prog w 134 [.int (turn * (m % 4096 + 4095 * far)) t1, .int (sign * 65) t2, .int (Int.fmod (turn * (m % 8 + 8 * (m / 8 % 8) - (m / 64 % 8 + 8 * (m / 512 % 8)))) 65) t3] 70 [(91, tabObj p1), (84, tabObj p2)] (Tabs p1 p2) (RestPost (Int.fmod (turn * (m % 4096 + 4095 * far)) (sign * 65)) p1 p2) :=
  rest_c prog w _ _ _ t1 t2 t3 p1 p2 (top_bd u1 fb).1 (top_bd u1 fb).2 (bot65 u2).1 (bot65 u2).2.1 (bot65 u2).2.2 (left65 u1 u2)
theorem crt' (r : Int) : Int.fmod (32 * (65 * (r % 63) + 63 * (r % 65))) 4095 = r % 4095 := by rw [fm 4095 (by decide)]; exact crt r
theorem restN_c (prog : Program) (w : World) (m : Int) (t1 t2 t3 : Tok) (p1 p2 : Array Value) :
    RCon prog w 134 [.int (32 * (65 * (m % 4096 % 63) + 63 * (m % 4096 % 65))) t1, .int 4095 t2, .int (Int.fmod (m % 4096) 4095) t3] 70 [(91, tabObj p1), (84, tabObj p2)] (Tabs p1 p2) (RestPost (m % 4096 % 4095) p1 p2) := by
  rw [← crt' (m % 4096)]
  exact rest_c prog w _ _ _ t1 t2 t3 p1 p2 (by omega) (by omega) (by decide) (by decide) (by decide) (by rw [fm 4095 (by decide), ← crt (m % 4096)])
theorem news_swap {g h : Heap} {L : Addr} {l1 l2 : List (Addr × Obj)} (N : News g L h (l1 ++ l2)) : News g L h (l2 ++ l1) := fun q hq => N q (List.mem_append.mpr (List.mem_append.mp hq).symm)
theorem mv7 {g h : Heap} {L : Addr} {a b c d e f k x1 x2 x3 x4 : Addr × Obj} (N : News g L h [a, b, c, d, e, f, k, x1, x2, x3, x4]) : News g L h (x1 :: x2 :: x3 :: x4 :: [a, b, c, d, e, f, k]) := news_swap (l1 := [a, b, c, d, e, f, k]) (l2 := [x1, x2, x3, x4]) N
theorem vm7 {g h : Heap} {L : Addr} {a b c d e f k x1 x2 x3 x4 : Addr × Obj} (N : News g L h (x1 :: x2 :: x3 :: x4 :: [a, b, c, d, e, f, k])) : News g L h [a, b, c, d, e, f, k, x1, x2, x3, x4] := news_swap (l1 := [x1, x2, x3, x4]) (l2 := [a, b, c, d, e, f, k]) N
theorem mv6 {g h : Heap} {L : Addr} {a b c d e f x1 x2 x3 x4 : Addr × Obj} (N : News g L h [a, b, c, d, e, f, x1, x2, x3, x4]) : News g L h (x1 :: x2 :: x3 :: x4 :: [a, b, c, d, e, f]) := news_swap (l1 := [a, b, c, d, e, f]) (l2 := [x1, x2, x3, x4]) N
theorem vm6 {g h : Heap} {L : Addr} {a b c d e f x1 x2 x3 x4 : Addr × Obj} (N : News g L h (x1 :: x2 :: x3 :: x4 :: [a, b, c, d, e, f])) : News g L h [a, b, c, d, e, f, x1, x2, x3, x4] := news_swap (l1 := [x1, x2, x3, x4]) (l2 := [a, b, c, d, e, f]) N
theorem all7 {a b c d e f k : Addr × Obj} {P : Addr × Obj → Prop} (h1 : P a) (h2 : P b) (h3 : P c) (h4 : P d) (h5 : P e) (h6 : P f) (h7 : P k) : ∀ q ∈ [a, b, c, d, e, f, k], P q := List.forall_mem_cons.mpr ⟨h1, List.forall_mem_cons.mpr ⟨h2, List.forall_mem_cons.mpr ⟨h3, List.forall_mem_cons.mpr ⟨h4, List.forall_mem_cons.mpr ⟨h5, List.forall_mem_cons.mpr ⟨h6, List.forall_mem_cons.mpr ⟨h7, List.forall_mem_nil _⟩⟩⟩⟩⟩⟩⟩
theorem all6 {a b c d e f : Addr × Obj} {P : Addr × Obj → Prop} (h1 : P a) (h2 : P b) (h3 : P c) (h4 : P d) (h5 : P e) (h6 : P f) : ∀ q ∈ [a, b, c, d, e, f], P q := List.forall_mem_cons.mpr ⟨h1, List.forall_mem_cons.mpr ⟨h2, List.forall_mem_cons.mpr ⟨h3, List.forall_mem_cons.mpr ⟨h4, List.forall_mem_cons.mpr ⟨h5, List.forall_mem_cons.mpr ⟨h6, List.forall_mem_nil _⟩⟩⟩⟩⟩⟩
theorem mul_unit {prog : Program} {w : World} {A : Around} {E : Value → Shared → Prop} {s : Shared} {a b : Int} {t u : Tok} {Q : Value → Shared → Prop} (x : Unit1 a) (h : Q (.int (a * b) s.toks) { s with toks := s.toks + 1 }) : wpAny (model prog w) A (binaryOp .Mult (.int a t) (.int b u)) Q E s :=
  PyProof.Rows.mul_int h (IntMulOk.of_left (intBits_le_iff.mpr (by rcases x with rfl | rfl <;> decide)))
theorem restN2_c (prog : Program) (w : World) (m y : Int) (hy : y = m % 4096 % 65) (t1 t2 t3 : Tok) (p1 p2 : Array Value) :
    RCon prog w 134 [.int (32 * (65 * (m % 4096 % 63) + 63 * y)) t1, .int 4095 t2, .int (Int.fmod (m % 4096) 4095) t3] 70 [(91, tabObj p1), (84, tabObj p2)] (Tabs p1 p2) (RestPost (m % 4096 % 4095) p1 p2) := by
  subst hy
  exact restN_c prog w m t1 t2 t3 p1 p2
theorem fin_ne (m : Int) (h : m % 4096 ≠ 4095) : ¬ (rowS (m / 4096 % 16 * 4096 + m % 4096 % 4095 + 65536) != rowS m) = true := by rw [last_row m h]; simp
theorem fin_ne' (m : Int) (h : m % 4096 = 4095) : ¬ (rowS (m / 4096 % 16 * 4096 + m % 4096 % 4095 + 65536) != Txt.slice (rowS m) none (some 1) ++ Str.ofString "---------") = true := by rw [last_row' m h]; simp
theorem unit_neg {x : Int} (h : Unit1 x) : Unit1 (-x) := by
  rcases h with rfl | rfl
  · exact .inr rfl
  · exact .inl rfl
theorem law_fr {g h : Heap} {L : Addr} {m : Str → Option Value} {sc : Addr} {first turn sign far : Int} {t1 t2 t3 t4 : Tok} (F : Fr g L h m) (e1 : m (Str.ofString "sign") = some (.int sign t3)) (e2 : m (Str.ofString "turn") = some (.int turn t2)) (e3 : m (Str.ofString "far") = some (.int far t4))
    (e4 : m (Str.ofString "first") = some (.int first t1)) (e5 : m (Str.ofString "script") = some (.ref sc)) : Fr g L h (lawM sc first turn sign far t1 t2 t3 t4 m) := fr_cong F fun y => by
  show m y = if y = Str.ofString "sign" then _ else if y = Str.ofString "turn" then _ else if y = Str.ofString "far" then _ else if y = Str.ofString "first" then _ else if y = Str.ofString "script" then _ else m y
  split
  · next h => rw [h, e1]
  split
  · next h => rw [h, e2]
  split
  · next h => rw [h, e3]
  split
  · next h => rw [h, e4]
  split
  · next h => rw [h, e5]
  rfl

end
/-! part LW -/
section
open PySem PySem.W PyProof.Rows
theorem flushLW {prog : Program} {w : World} {A : Around} {E : Value → Shared → Prop} {s : Shared} {t u : Tok} {Q : Value → Shared → Prop} (h : wpAny (model prog w) A (binaryOp .Mult (.int 1 t) (.int 1 u)) Q E s) : wpAny (model prog w) A (binaryOp .Mult (.int 1 t) (.int 1 u)) Q E s := by
  first
  | (walk1; fail)
  | exact h
end
section
open PySem PySem.W PySem.Spec PySem.Calls PyProof.Rows PyProof.Rows.LCg
local macro_rules | `(tactic| walk_at "binaryOp Pow int int") => `(tactic| (k_here; refine pow_13 ?_))
local macro_rules | `(tactic| walk_at "exec For Name BinOp cons nil") => `(tactic| (k_here; with_unfolding_all (refine For_go ?_)))
local macro_rules | `(tactic| walk_at "binaryOp Mult int int") => `(tactic| (k_here; refine mul_unit (by assumption) ?_))
local macro_rules | `(tactic| walk_at "call ref") => `(tactic| (k_here; refine halt ?_))

theorem unit_of (x : Int) : Unit1 (1 - Int.fmod x 2 * 2) := by
  rw [fm 2 (by decide)]
  unfold Unit1
  omega
theorem far_of (x : Int) : -10000000000000 ≤ Int.fmod (x + 10000000000000) (2 * 10000000000000 + 1) - 10000000000000 ∧ Int.fmod (x + 10000000000000) (2 * 10000000000000 + 1) - 10000000000000 ≤ 10000000000000 := by
  rw [fm (2 * 10000000000000 + 1) (by decide)]
  omega
theorem law_start {g h : Heap} {L : Addr} {m : Str → Option Value} {sc : Addr} {first turn sign far : Int} {t1 t2 t3 t4 : Tok} (F : Fr g L h m) (e : ∀ y, m y = lawM sc first turn sign far t1 t2 t3 t4 (fun _ => none) y) (u1 : Unit1 turn) (u2 : Unit1 sign)
    (fb : -10000000000000 ≤ far ∧ far ≤ 10000000000000) : ∃ first turn sign far t1 t2 t3 t4, Fr g L h (lawM sc first turn sign far t1 t2 t3 t4 fun _ => none) ∧ Unit1 turn ∧ Unit1 sign ∧ (-10000000000000 ≤ far ∧ far ≤ 10000000000000) :=
  ⟨_, _, _, _, _, _, _, _, fr_cong F e, u1, u2, fb⟩
theorem t0 : PySem.Challenge.rw_oy0173_01.Holds := hd (by 
  k_go0
  all_goals try k_fold
  rename Heap.CodeRec _ _ _ => hcode
  rename Dflts _ _ _ _ _ _ => hDD
  clear hcode hDD
  k_steps
  rename News _ _ _ _ => N3
  rename Fr _ _ _ _ => F3
  rename IntsAre _ (_ ++ _) => hi
  rename Top topProg _ _ _ _ _ => T'
  rename Frag.In _ (ghostOf _ _) => X'
  rename Below _ _ _ _ => B'
  rename CodeHd _ (Prod.fst (95, 91)) _ => hc1
  rename CodeHd _ (Prod.fst (88, 84)) _ => hc2
  have Fx := law_start F3 (by (intro y; (by_cases c1 : y = Str.ofString "sign"; (subst c1; rfl)); (by_cases c2 : y = Str.ofString "turn"; (subst c2; rfl)); (by_cases c3 : y = Str.ofString "far"; (subst c3; rfl)); (by_cases c4 : y = Str.ofString "first"; (subst c4; rfl)); (by_cases c5 : y = Str.ofString "script"; (subst c5; rfl)); (simp +zetaDelta [lawM, *]))) (unit_of _) (unit_of _) (far_of _)
  clear F3
  obtain ⟨first, turn, sign, far, t1, t2, t3, t4, F3, u1, u2, fb⟩ := Fx
  refine law_for F3 N3 u1 u2 ⟨by k_ne, by k_ne⟩ ⟨by k_ne, by k_ne⟩ ⟨by k_ne, by k_ne⟩ ?hE rfl hi ?turn ?fin
  case hE => first | passes_own | with_unfolding_all passes_own
  case fin =>
    intro turn' sign' t2' t3' v d1 d2 od1 od2 p1 p2 h tk F5 N5
    clear F3 N3
    dsimp only
    k_steps
  case turn =>
    intro I lDI l91 l84 mode turn' sign' tm t2' t3' v d1 d2 od1 od2 p1 p2 oI h tk u1' u2' F5 N5 LT i1 i2
    obtain ⟨i11, i12⟩ := i1
    obtain ⟨i21, i22⟩ := i2
    rename List.length (List.take 1 _) = _ => z1
    rename List.length (List.take 1 _) ≤ _ => z2
    rename List.length (List.take (_ - 1) _) = _ => z3
    rename List.length (List.take (_ - 1) _) ≤ _ => z4
    rename ¬ _ < _ => z5
    clear F3 N3 z1 z2 z3 z4 z5
    dsimp only
    k_steps
    rename News _ _ _ _ => N6
    rename Fr _ _ _ _ => F6
    refine Halt.go (filemode_c _ _ mode _ rfl _ _ _ _ _ _ _ _ _ _ _ _ _ _ _ _ _ _ _ _ _ B' F6 X' T' rfl (by first | decide | (simp only [depth_deeper, depth_caller]; decide) | (show _ + 3 < _; decide)) (by first | decide | (simp only [depth_deeper, depth_caller]; decide) | (show _ + 3 < _; decide)) ?_)
    intro vv h7 tk7 hk7 hp7
    obtain ⟨tt, rfl⟩ := hp7
    obtain ⟨F7, N7⟩ := all_kept F6 N6 hk7
    clear F6 N6 hk7
    rw [fmRow_eq]
    k_steps
    rename News _ _ _ _ => N6
    rename Fr _ _ _ _ => F6
    refine Halt.go (ifmt_c _ _ mode _ rfl _ _ _ _ _ _ _ _ _ _ _ _ _ _ _ _ _ _ _ _ _ B' F6 X' T' rfl (by first | decide | (simp only [depth_deeper, depth_caller]; decide) | (show _ + 3 < _; decide)) (by first | decide | (simp only [depth_deeper, depth_caller]; decide) | (show _ + 3 < _; decide)) ?_)
    intro vv h7 tk7 hk7 hp7
    obtain ⟨tt, rfl⟩ := hp7
    obtain ⟨F7, N7⟩ := all_kept F6 N6 hk7
    clear F6 N6 hk7
    k_steps
    rename News _ _ _ _ => N6
    rename Fr _ _ _ _ => F6
    refine Halt.go (imode_c _ _ mode _ rfl _ _ _ _ _ _ _ _ _ _ _ _ _ _ _ _ _ _ _ _ _ B' F6 X' T' rfl (by first | decide | (simp only [depth_deeper, depth_caller]; decide) | (show _ + 3 < _; decide)) (by first | decide | (simp only [depth_deeper, depth_caller]; decide) | (show _ + 3 < _; decide)) ?_)
    intro vv h7 tk7 hk7 hp7
    obtain ⟨tt, rfl⟩ := hp7
    obtain ⟨F7, N7⟩ := all_kept F6 N6 hk7
    clear F6 N6 hk7
    k_steps
    rename News _ _ _ _ => N6
    rename Fr _ _ _ _ => F6
    refine Halt.go (lawRow_c _ _ mode _ rfl _ _ _ _ _ _ _ _ _ _ _ _ _ _ _ _ _ _ _ _ _ B' F6 X' T' rfl (by first | decide | (simp only [depth_deeper, depth_caller]; decide) | (show _ + 3 < _; decide)) (by first | decide | (simp only [depth_deeper, depth_caller]; decide) | (show _ + 3 < _; decide)) ?_)
    intro vv h7 tk7 hk7 hp7
    obtain ⟨tt, rfl⟩ := hp7
    obtain ⟨F7, N7⟩ := all_kept F6 N6 hk7
    clear F6 N6 hk7
    rw [lawRow_eq]
    k_steps
    all_goals first | exact absurd (by assumption) (row_ne mode) | exact absurd (by assumption) (kind_ne mode) | skip
    rename (rowS mode != rowS mode) = false => hz1
    rename mode / 4096 % 16 * 4096 = _ => hz2
    clear hz1 hz2
    rename News _ _ _ _ => N6
    rename Fr _ _ _ _ => F6
    replace N6 := news_tl N6
    refine Halt.go (figs_c _ _ mode _ rfl _ _ _ _ _ _ _ _ _ _ _ _ _ _ _ _ _ _ _ _ _ B' F6 X' News.nil T' rfl hc1 hc2 (by first | decide | (simp only [depth_deeper, depth_caller]; decide)) (by first | decide | (simp only [depth_deeper, depth_caller]; decide)) ?_)
    intro vv h7 tk7 hk7 hs7 hp7
    obtain ⟨lf, f0, f1, f2, f3, nf, rfl, hl7, hg7⟩ := hp7
    obtain ⟨F7, N7, lt7⟩ := add_kept F6 N6 (fun b ob q => hk7 b ob List.not_mem_nil q) hl7 hg7
    clear F6 N6 hk7
    k_lt lt7
    k_steps
    all_goals first | exact absurd (by assumption) (sum_ne mode) | skip
    rename mode % 4096 = _ => hz3
    clear hz3
    rename News _ _ _ _ => N6
    rename Fr _ _ _ _ => F6
    refine Halt.go (wholeL_c _ _ _ _ _ _ _ _ rfl _ _ _ _ _ _ _ _ _ _ _ _ _ _ _ _ _ _ _ _ _ B' F6 X' (List.forall_mem_cons.mpr ⟨N6 _ (by k_mem), List.forall_mem_nil _⟩) T' rfl hc1 hc2 (by first | decide | (simp only [depth_deeper, depth_caller]; decide)) (by first | decide | (simp only [depth_deeper, depth_caller]; decide)) ?_)
    intro vv h7 tk7 hk7 hs7 hp7
    obtain ⟨rfl, hg7⟩ := hp7
    obtain ⟨F7, N7⟩ := upd_kept F6 N6 (by k_updF) (fun b' ob hb' q => hk7 b' ob (by simpa using hb') q) hg7
    clear F6 N6 hk7
    replace N7 := news_tl (news_tl (news_tl N7))
    k_steps
    rename News _ _ _ _ => N6
    rename Fr _ _ _ _ => F6
    have N6' := mv7 N6
    refine Halt.go (rest63_c _ _ mode far turn' sign' _ _ _ p1 p2 u1' u2' fb rfl _ _ _ _ _ _ _ _ _ _ _ _ _ _ _ _ _ _ _ _ _ B' F6 X' (List.forall_mem_cons.mpr ⟨N6 _ (by k_mem), List.forall_mem_cons.mpr ⟨N6 _ (by k_mem), List.forall_mem_nil _⟩⟩) T' rfl hc1 hc2 (by first | decide | (simp only [depth_deeper, depth_caller]; decide)) (by first | decide | (simp only [depth_deeper, depth_caller]; decide)) ⟨LT.t1.ok (N6 (d1, od1) (by k_mem)).1, LT.t2.ok (N6 (d2, od2) (by k_mem)).1⟩ ?_)
    intro vv h7 tk7 hk7 hs7 hp7
    obtain ⟨tr, e1, oe1, e2, oe2, q1, q2, rfl, F7, N7, LT7, a1, a2⟩ := tabs3 F6 N6' LT (by refine all7 ?_ ?_ ?_ ?_ ?_ ?_ ?_ <;> k_ne) (by refine all7 ?_ ?_ ?_ ?_ ?_ ?_ ?_ <;> k_ne) (by refine all7 ?_ ?_ ?_ ?_ ?_ ?_ ?_ <;> k_ne) (by refine all7 ?_ ?_ ?_ ?_ ?_ ?_ ?_ <;> k_ne) hk7 hp7
    repeat' (have hlNe := allNe_hd a1; replace a1 := allNe_tl a1)
    repeat' (have hlNe := allNe_hd a2; replace a2 := allNe_tl a2)
    clear a1 a2
    replace N7 := vm7 N7
    clear F6 N6 N6' hk7 hp7
    k_steps
    rename News _ _ _ _ => N6
    rename Fr _ _ _ _ => F6
    rw [rest63 u1' u2'] at N6
    have N6' := mv7 N6
    refine Halt.go (rest65_c _ _ mode far turn' sign' _ _ _ q1 q2 u1' u2' fb rfl _ _ _ _ _ _ _ _ _ _ _ _ _ _ _ _ _ _ _ _ _ B' F6 X' (List.forall_mem_cons.mpr ⟨N6 _ (by k_mem), List.forall_mem_cons.mpr ⟨N6 _ (by k_mem), List.forall_mem_nil _⟩⟩) T' rfl hc1 hc2 (by first | decide | (simp only [depth_deeper, depth_caller]; decide)) (by first | decide | (simp only [depth_deeper, depth_caller]; decide)) ⟨LT7.t1.ok (N6 (e1, oe1) (by k_mem)).1, LT7.t2.ok (N6 (e2, oe2) (by k_mem)).1⟩ ?_)
    intro vv h7 tk7 hk7 hs7 hp7
    obtain ⟨tr, k1, ok1, k2, ok2, r1, r2, rfl, F7, N7, LT8, a3, a4⟩ := tabs3 F6 N6' LT7 (by refine all7 ?_ ?_ ?_ ?_ ?_ ?_ ?_ <;> k_ne) (by refine all7 ?_ ?_ ?_ ?_ ?_ ?_ ?_ <;> k_ne) (by refine all7 ?_ ?_ ?_ ?_ ?_ ?_ ?_ <;> k_ne) (by refine all7 ?_ ?_ ?_ ?_ ?_ ?_ ?_ <;> k_ne) hk7 hp7
    repeat' (have hlNe := allNe_hd a3; replace a3 := allNe_tl a3)
    repeat' (have hlNe := allNe_hd a4; replace a4 := allNe_tl a4)
    clear a3 a4
    replace N7 := vm7 N7
    clear F6 N6 N6' hk7 hp7
    k_steps
    rename News _ _ _ _ => N6
    rename Fr _ _ _ _ => F6
    have N6' := mv6 N6
    refine Halt.go (restN2_c _ _ mode _ (rest65 u1' u2') _ _ _ r1 r2 rfl _ _ _ _ _ _ _ _ _ _ _ _ _ _ _ _ _ _ _ _ _ B' F6 X' (List.forall_mem_cons.mpr ⟨N6 _ (by k_mem), List.forall_mem_cons.mpr ⟨N6 _ (by k_mem), List.forall_mem_nil _⟩⟩) T' rfl hc1 hc2 (by first | decide | (simp only [depth_deeper, depth_caller]; decide)) (by first | decide | (simp only [depth_deeper, depth_caller]; decide)) ⟨LT8.t1.ok (N6 (k1, ok1) (by k_mem)).1, LT8.t2.ok (N6 (k2, ok2) (by k_mem)).1⟩ ?_)
    intro vv h7 tk7 hk7 hs7 hp7
    obtain ⟨tr, j1, oj1, j2, oj2, s1, s2, rfl, F7, N7, LT9, a5, a6⟩ := tabs3 F6 N6' LT8 (by refine all6 ?_ ?_ ?_ ?_ ?_ ?_ <;> k_ne) (by refine all6 ?_ ?_ ?_ ?_ ?_ ?_ <;> k_ne) (by refine all6 ?_ ?_ ?_ ?_ ?_ ?_ <;> k_ne) (by refine all6 ?_ ?_ ?_ ?_ ?_ ?_ <;> k_ne) hk7 hp7
    repeat' (have hlNe := allNe_hd a5; replace a5 := allNe_tl a5)
    repeat' (have hlNe := allNe_hd a6; replace a6 := allNe_tl a6)
    clear a5 a6
    replace N7 := news_tl4 (vm6 N7)
    clear F6 N6 N6' hk7 hp7
    k_steps
    rename News _ _ _ _ => N6
    rename Fr _ _ _ _ => F6
    refine Halt.go (filemode_c _ _ _ _ rfl _ _ _ _ _ _ _ _ _ _ _ _ _ _ _ _ _ _ _ _ _ B' F6 X' T' rfl (by first | decide | (simp only [depth_deeper, depth_caller]; decide)) (by first | decide | (simp only [depth_deeper, depth_caller]; decide)) ?_)
    intro vv h7 tk7 hk7 hp7
    obtain ⟨tt, rfl⟩ := hp7
    obtain ⟨F7, N7⟩ := all_kept F6 N6 hk7
    clear F6 N6 hk7
    rw [fmRow_eq]
    k_steps
    all_goals first
      | exact absurd (by with_reducible assumption) (fin_ne' mode (by with_reducible assumption))
      | exact absurd (by with_reducible assumption) (fin_ne mode (by with_reducible assumption))
      | skip
    all_goals (
      rename News _ _ _ _ => N6
      rename Fr _ _ _ _ => F6
      exact ⟨rfl, _, _, _, _, _, _, _, _, _, _, _, _, _, rfl, u2', unit_neg u1', law_fr F6 rfl rfl rfl rfl rfl, news_tl N6, LT9, ⟨by k_ne, by k_ne⟩, ⟨by k_ne, by k_ne⟩⟩))

end
end Mine
set_option maxRecDepth 100000 in
set_option maxHeartbeats 8000000 in
theorem PySem.Challenge.cw_oy0173_01_holds : PySem.Challenge.rw_oy0173_01.Holds := by
  exact Mine.t0
