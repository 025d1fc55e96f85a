import PyProof.Rows.All
import Wide.All
import OpenK.AllK
import Wide.FinOn
import Lean
import PySem.Challenge.RW_wb0122_01
open PySem PySem.W PyProof.Rows PySem.Calls PyProof.V PySem.Spec
set_option Elab.async false
set_option compiler.extract_closed false
namespace Mine
section
set_option maxRecDepth 100000 in
set_option maxHeartbeats 8000000 in
open_top hd for PySem.Challenge.rw_wb0122_01
end
theorem rest_00 : True := by
  w_top off
  try walk1
  first | done | exact True.intro
section
/-- a call of the text's def, told once for every state -/
abbrev Run (w : World) (p : Program) (loose : List Str) (mean : ExcName → Option Value) (mg mb : Str → Option Value) (dpN unN : Nat)
    (f : Addr) (pos : List Value) (kw : List (Str × Value)) (news : List (Addr × Obj)) (Post : Value → List (Addr × Obj) → Prop) : Prop :=
  ∀ (dp un : Nat) (gd : Option (List Code)) (cn : Str) (cs : Scope) (a : Addr) (ccd : Value) (cl : List (Str × Addr)) (outer : List Env) (A₀ : Around) (base h₀ : Heap) (L : Addr) (m : Str → Option Value) (s : Shared) (Q E : Value → Shared → Prop),
    Below A₀ base outer h₀ → Fr h₀ L s.heap m → (Mine.hd.heap_39 w.params).In h₀ → News h₀ L s.heap news → Top p loose mean mg mb h₀ → cs.kind = .function →
    dp + dpN < recursionLimit → un + unN < cLine →
    (∀ r h' tk' news', Fr h₀ L h' m → News h₀ L h' news' → Post r news' → Q r { s with heap := h', toks := tk' }) →
    wpAny (model PySem.Challenge.rw_wb0122_01.prog w) (ktrTop dp un gd cn cs L a ccd cl outer) (call (.ref f) pos kw) Q E s


theorem Run.use {w : World} {p : Program} {loose : List Str} {mean : ExcName → Option Value} {mg mb : Str → Option Value} {dpN unN : Nat} {f : Addr} {pos : List Value} {kw : List (Str × Value)} {news : List (Addr × Obj)} {Post : Value → List (Addr × Obj) → Prop}
    {dp un : Nat} {gd : Option (List Code)} {cn : Str} {cs : Scope} {a : Addr} {ccd : Value} {cl : List (Str × Addr)} {outer : List Env} {A₀ : Around} {base h₀ : Heap} {L : Addr} {m : Str → Option Value} {s : Shared} {Q E : Value → Shared → Prop}
    (R : Run w p loose mean mg mb dpN unN f pos kw news Post) (B : Below A₀ base outer h₀) (F : Fr h₀ L s.heap m) (X : (Mine.hd.heap_39 w.params).In h₀) (N : News h₀ L s.heap news) (T : Top p loose mean mg mb h₀) (hk : cs.kind = .function)
    (hd : dp + dpN < recursionLimit) (hu : un + unN < cLine) (ret : ∀ r h' tk' news', Fr h₀ L h' m → News h₀ L h' news' → Post r news' → Q r { s with heap := h', toks := tk' }) :
    wpAny (model PySem.Challenge.rw_wb0122_01.prog w) (ktrTop dp un gd cn cs L a ccd cl outer) (call (.ref f) pos kw) Q E s :=
  R _ _ _ _ _ _ _ _ _ _ _ _ _ _ _ _ _ B F X N T hk hd hu ret


theorem leN {a b : Nat} (h : a ≤ b) : a ≤ b := h
theorem ne_of_below {l : List (Addr × Obj)} {d c : Addr} (h : ∀ p ∈ l, p.1 < d) (hd : d ≤ c) : ∀ p ∈ l, p.1 ≠ c := fun p hp => Nat.ne_of_lt (Nat.lt_of_lt_of_le (h p hp) hd)
theorem units_under_make (A : Around) (args : Args) : (A.under (.builtin "type.__call__" args)).units = A.units + 1 := by
  first | rfl | simp [Around.under, Code.cUnits, Code.frames, Code.isFrame]
theorem strip {p : Prop} (h : p) : p := h
theorem un_lt {u a b c n : Nat} (h : u + c < n) (d : Nat.ble (a + b) c = true) : u + a + b < n := by
  rw [Nat.add_assoc]
  exact Nat.lt_of_le_of_lt (Nat.add_le_add_left (Nat.le_of_ble_eq_true d) u) h
theorem un_lt1 {u a c n : Nat} (h : u + c < n) (d : Nat.ble a c = true) : u + a < n := Nat.lt_of_le_of_lt (Nat.add_le_add_left (Nat.le_of_ble_eq_true d) u) h
end
theorem rest_01 : True := by
  w_top off
  try walk1
  first | done | exact True.intro
local macro_rules | `(tactic| walk_at "m_use") => `(tactic| ((case k1 | k2 | k3 | k4 | k5 => k_asm); (case kK => first | exact rfl | assumption); (case kd => ktr_room); (case ku => ktr_units)))
set_option hygiene false in
local macro_rules | `(tactic| walk_at "m_enter") => `(tactic| (delta Run; k_fill; intro dp un gd cn cs a ccd cl outer A₀ base h₀ L m s Q E B F X N T hk hd hu hret; refine wpAny_call ?_; k_dflt (refine' code_def ?k1 ?k2 ?k3 ?k4 ?k5 ?kA ?kF ?kK ?k6 ?k7 ?k8 ?k9 ?kB ?_ ?c2 ?c3 ?c4 ?c5; (case kA | kF => exact rfl); (case kK => assumption); (case k1 | k2 | k3 | k4 | k5 => k_asm); (case k6 | k7 => k_is); (case k8 => ktr_room); (case k9 => first | exact BindsTo.of_eq rfl | exact binds_K (by k_in) rfl (by k_is) rfl rfl rfl); (case c5 => decide); (case kB => exact locs rfl); (case c2 | c3 | c4 => exact rfl); k_whole; intro g' L' h' FG' F' N' B' X' T'; (try dsimp only); (try k_lift B'); (try k_fold))))
local macro_rules | `(tactic| walk_at "m_one") => `(tactic| first | walk1 | (dsimp only; walk1) | (leave1; try dsimp only))
local macro_rules | `(tactic| walk_at "m_guard") => `(tactic| fail_if_success with_reducible first
  | show wpAny _ _ (eval (PySem.Expr.ListComp _ _ _ _) _) _ _ _
  | show wpAny _ _ (exec (Stmt.Assign _ (PySem.Expr.ListComp _ _ _ _) _) _) _ _ _
  | show wpAny _ _ (exec (Stmt.For _ _ _ _ _) _) _ _ _
  | show wpAny _ _ (compareOp CmpOp.Eq (Value.ref _) (Value.ref _)) _ _ _
  | show wpAny _ _ (compareOp CmpOp.NotEq (Value.ref _) (Value.ref _)) _ _ _
  | show wpAny _ _ (pyIter _) _ _ _)
local macro_rules | `(tactic| walk_at "m_steps") => `(tactic| repeat' (first | ((first | k_unfold | (refine strip ?_; k_unfold)); (try dsimp only)) | (walk_at "m_guard"; walk_at "m_one")))
local macro_rules | `(tactic| k_mem) => `(tactic| assumption)
local macro_rules | `(tactic| k_all) => `(tactic| assumption)
set_option hygiene false in
local macro_rules | `(tactic| k_all) => `(tactic| exact ne_of_below hrest (by refine leN ?_; (try dsimp only); omega))
local macro_rules | `(tactic| ktr_room) => `(tactic| ((try simp only [depth_under_make, depth_under_kw, depth_in1, depth_deeper, depth_caller] at *); (try dsimp only [ktrTop] at *); first | decide | walk_at "m_less"))
local macro_rules | `(tactic| ktr_units) => `(tactic| ((try simp only [units_in1, units_deeper, units_under_make, Around.mark_units, units_caller] at *); (try dsimp only [ktrTop] at *); first | (rw [cLine_is]; decide) | walk_at "m_less" | ((have hcL9 := cLine_is); omega)))
local macro_rules | `(tactic| walk_at "m_less") => `(tactic| first | exact un_lt (by with_reducible assumption) (by decide) | exact un_lt1 (by with_reducible assumption) (by decide))
local macro_rules | `(tactic| walk_at "m_len") => `(tactic| first | assumption | ((try simp only [List.length_cons, List.length_append, List.length_nil] at *); omega))
local macro_rules | `(tactic| walk_at "callWith ref") => `(tactic| (k_here; k_dflt (first | (refine' callWith_K (K := Mine.hd.heap_39 _) ?k1 ?k2 ?_; (case k1 => k_asm); (case k2 => k_is); k_whole) | (refine' callWith_K0 (K := Mine.hd.heap_39 _) ?k1 ?k2 ?_; (case k1 => k_in); (case k2 => k_is); k_whole))))
section
theorem slot_search : Slot "re.Pattern" "search" "re.Pattern.search" :=
  .of (owner := "re.Pattern") (n := "search") (by rw [typeLookup_type, builtinLookup_eq_fast]; kernel_rfl) (by decide +kernel) (by decide +kernel) (by decide +kernel)
    (by first | exact .inl (by decide +kernel) | exact .inr (by decide +kernel)) (by rw [isSubtype_type]; kernel_rfl)
theorem type_search : typeOf (.builtin "re.Pattern.search") = pure (.type "method_descriptor") := by show builtinType _ = _; rw [builtinType_eq_fast]; kernel_rfl
theorem entry_search : entryFor table "re.Pattern.search" = some Builtin.«re.Pattern.search» := entryFor_of_tree (by kernel_rfl)
theorem args_search (a b : Value) : argsOk "re.Pattern.search" ⟨[a, b], []⟩ := by unfold argsOk; kernel_rfl
theorem attrs_pattern : PlainAttrs "re.Pattern" :=
  ⟨⟨"object.__getattribute__", by rw [typeLookup_type, builtinLookup_eq_fast]; kernel_rfl, by decide +kernel⟩, by rw [typeLookup_type, builtinLookup_eq_fast]; kernel_rfl⟩

/-- the pattern at P does not find anything in x -/
def NotIn (P : Addr) (x : Str) : Prop :=
  ∀ (w : World) (t : Tok), peek (Mine.hd.heap_39 w.params) ⟨PySem.Challenge.rw_wb0122_01.prog, w.params⟩ (Builtin.«re.Pattern.search» ⟨[.ref P, .str x t], []⟩) = some (.done (.ret .none))

section
variable {w : World} {A : Around} {E : Value → Shared → Prop} {s : Shared} {h₀ : Heap} {L P : Addr} {m : Str → Option Value}
theorem search_none {x : Str} {t : Tok} {Q : Value → Shared → Prop} (F : Fr h₀ L s.heap m) (X : (Mine.hd.heap_39 w.params).In h₀) (hP : typeIn (Mine.hd.heap_39 w.params) (.ref P) = some (.type "re.Pattern")) (hn : NotIn P x) (h : Q .none s) :
    wpAny (model PySem.Challenge.rw_wb0122_01.prog w) A (call (.builtin "re.Pattern.search") [.ref P, .str x t]) Q E s := by
  have X' := X.keeps F.keep
  obtain ⟨o, ho, hc⟩ := Option.map_eq_some_iff.mp hP
  refine wpAny_call (codeAny_call_builtin slot_search.plain entry_search (slot_search.check _ _ _ _ _ _ _ _ ⟨o, X' _ _ ho, hc⟩ (args_search _ _) ?_))
  exact (Looks.of_peek X' (hn w t)).here h
theorem search_method {pl : Sem Bool} {Q : Value × List Value → Shared → Prop} (F : Fr h₀ L s.heap m) (X : (Mine.hd.heap_39 w.params).In h₀) {dt : Data} {sl : Array (Option Value)} (ho : (Mine.hd.heap_39 w.params).lookup P = some ⟨.type "re.Pattern", none, dt, sl⟩) (h : Q (.builtin "re.Pattern.search", [.ref P]) s) :
    wpAny (model PySem.Challenge.rw_wb0122_01.prog w) A (getMethod (.ref P) "search" pl) Q E s := by
  have X' := X.keeps F.keep
  exact getMethod_builtin ⟨_, X' _ _ ho, rfl⟩ attrs_pattern slot_search type_search (fun a e => by cases e; exact ⟨_, X' _ _ ho, rfl⟩) h
end
end
theorem rest_02 : True := by
  w_top off
  try walk1
  first | done | exact True.intro
local macro_rules | `(tactic| walk_at "getMethod ref") => `(tactic| (k_here; (with_reducible show wpAny _ _ (getMethod (Value.ref _) (PySem.Str.ofString "search") _) _ _ _); k_dflt (refine' search_method ?k1 ?k2 ?k3 ?_; (case k1 => k_asm); (case k2 => k_asm); (case k3 => k_is))))
local macro_rules | `(tactic| walk_at "call builtin:re.Pattern.search") => `(tactic| (k_here; k_dflt (refine' search_none ?k1 ?k2 ?k3 ?k4 ?_; (case k1 => k_asm); (case k2 => k_asm); (case k3 => k_is); (case k4 => assumption))))

section
set_option maxRecDepth 100000 in
set_option maxHeartbeats 8000000 in
theorem conv_run {w : World} {p : Program} {loose : List Str} {mean : ExcName → Option Value} {mg mb : Str → Option Value} {x : Str} {t : Tok} {sv : Value} {b : Bool} {news : List (Addr × Obj)} (hx : NotIn (if b then 48 else 53) x)
     : Run w p loose mean mg mb 1 8 83 [sv, .str x t] [(Str.ofString "name", .bool b)] news (fun r news' => news' = news ∧ r = .str x t) := by
  delta Run; k_fill
  cases b
  all_goals (
    simp only [if_true, if_false, Bool.false_eq_true] at hx
    intro dp un gd cn cs a ccd cl outer A₀ base h₀ L m s Q E B F X N T hk hd hu hret
    refine wpAny_call ?_
    k_dflt cell_enter
    k_steps
    exact hret _ _ _ _ (by k_asm) (by k_asm) ⟨rfl, rfl⟩)
end
theorem rest_03 : True := by
  w_top off
  try walk1
  first | done | exact True.intro
local macro_rules | `(tactic| walk_at "call ref") => `(tactic| (k_here; (with_reducible show wpAny _ _ (call (Value.ref 83) [_, Value.str _ _] _) _ _ _); k_dflt (refine' Run.use (conv_run ?c1) ?k1 ?k2 ?k3 ?k4 ?k5 ?kK ?kd ?ku ?_); (case c1 => first | assumption | exact (by assumption)); walk_at "m_use"; intro r9 h9 tk9 news9 F9 N9 P9; obtain ⟨e9, e10⟩ := P9; subst news9; subst r9; (try k_sweep)))
section
abbrev hdr2 (p : Str × Str) : Dat := .tuple [.str p.1, .str p.2]
abbrev hdrEs (w : World) (tk : Tok) (hl : Addr) : List DictEntry := [⟨PyData.keyHash w.params (Str.ofString "_headers"), .str (Str.ofString "_headers") tk, .ref hl⟩]

theorem pair_obj {news : List (Addr × Obj)} {v : Value} {x y : Str} (h : DatIn news v (.tuple [.str x, .str y])) : ∃ T t1 t2 n, v = .ref T ∧ (T, ({ cls := .type "tuple", data := .seq #[.str x t1, .str y t2] n } : Obj)) ∈ news := by
  cases h with
  | tuple hm hd =>
    cases hd with
    | cons h1 hd =>
      cases hd with
      | cons h2 hd =>
        cases hd
        cases h1
        cases h2
        exact ⟨_, _, _, _, rfl, hm⟩

section
variable {prog : Program} {w : World} {A : Around} {E : Value → Shared → Prop} {s : Shared} {env : Env} {h₀ : Heap} {target : PySem.Expr} {body : List Stmt} {Q : Flow → Shared → Prop}

def PairPost (h₀ : Heap) (L : Addr) (m : Str → Option Value) (news : List (Addr × Obj)) (P : Prop) (s₁ : Shared) (Q : Flow → Shared → Prop) (f : Flow) (s₂ : Shared) : Prop := match f with
  | .ret v => Q (.ret v) s₂
  | .brk => Q .next s₂
  | _ => ∃ h' tk, s₂ = { s₁ with heap := h', toks := tk } ∧ Fr h₀ L h' m ∧ News h₀ L h' news ∧ P

theorem items_inv {ws : List (Addr × String)} {keep : List (Addr × Obj)} (Inv : List Value → (Str → Option Value) → List (Addr × Obj) → Prop) (all : List Value)
    (step : ∀ pre v post m news, all = pre ++ v :: post → Inv pre m news → ∀ h tk, Fr h₀ env.locals h m → AllObj ws (fun its => News h₀ env.locals h (its ++ news) →
      wpAny (model prog w) A (assign target env v) (fun _ s₂ => wpAny (model prog w) A (execs body env) (UnrPostW h₀ env.locals { s with heap := h, toks := tk } its (fun m' n' => SubL keep n' ∧ Inv (pre ++ [v]) m' n') Q) E s₂) E { s with heap := h, toks := tk }))
    (done : ∀ m news, Inv all m news → ∀ h tk, Fr h₀ env.locals h m → News h₀ env.locals h news → Q .next { s with heap := h, toks := tk }) :
    ∀ post pre m news, all = pre ++ post → Inv pre m news → ItemsRest prog w A E h₀ env target body Q s ws keep (post.map .val) m news := by
  intro post
  induction post with
  | nil =>
    intro pre m news e hi
    rw [List.append_nil] at e
    subst e
    exact ItemsRest.zero (done m news hi)
  | cons v post ih =>
    intro pre m news e hi
    refine ItemsRest.val fun h tk F => ?_
    have st := step pre v post m news e hi h tk F
    have mono : ∀ {ws : List (Addr × String)} {k k' : List (Addr × Obj) → Prop}, (∀ its, k its → k' its) → AllObj ws k → AllObj ws k' := by
      intro ws
      induction ws with
      | nil => intro k k' hk x; exact hk _ x
      | cons q r ihh => intro k k' hk x; exact fun o ho => ihh (fun its => hk _) (x o ho)
    refine mono (fun its st N => ?_) st
    refine wpAny_mono (st N) (fun _ s₂ h₂ => wpAny_mono h₂ (fun f s₃ p => ?_) fun _ _ x => x) fun _ _ x => x
    have up : UnrEndW h₀ env.locals { s with heap := h, toks := tk } its (fun m' n' => SubL keep n' ∧ Inv (pre ++ [v]) m' n') s₃ →
        UnrEndW h₀ env.locals { s with heap := h, toks := tk } its (fun m' n' => SubL keep n' ∧ ItemsRest prog w A E h₀ env target body Q s ws keep (post.map .val) m' n') s₃ := by
      rintro ⟨h', tk', m', news', e', F', N', ho, hk, hI⟩
      exact ⟨h', tk', m', news', e', F', N', ho, hk, ih (pre ++ [v]) m' news' (by rw [e]; simp) hI⟩
    cases f with
    | ret v => exact p
    | brk => exact p
    | next => exact up p
    | cont => exact up p

theorem for_pairs {a b : Str} {pa pb tp : Pos} {kk : Nat} {hl : Addr} {vs : List Value} {ep : Nat} {items : List (Str × Str)} {m₀ : Str → Option Value} {news : List (Addr × Obj)} (P : List (Str × Str) → Prop)
    (hh : A.handled = none) (F : Fr h₀ env.locals s.heap m₀) (N : News h₀ env.locals s.heap news) (hm : (hl, W.listOf vs.toArray ep) ∈ news) (hD : DatAll news vs (items.map hdr2))
    (ha : env.kindOf a = some .local) (hb : env.kindOf b = some .local) (hp : (env.scope.kind == .class || (env.scope.kind == .module && env.locals != env.globals)) = false) (h0 : P [])
    (turn : ∀ pre p post t1 t2 h tk I o, items = pre ++ p :: post → P pre → o.cls = .type "list_iterator" → (∀ q ∈ news, q.1 < I) →
      Fr h₀ env.locals h (fun y => if y = b then some (.str p.2 t2) else if y = a then some (.str p.1 t1) else m₀ y) → News h₀ env.locals h ((I, o) :: news) →
      wpAny (model prog w) A (execs body env) (PairPost h₀ env.locals (fun y => if y = b then some (.str p.2 t2) else if y = a then some (.str p.1 t1) else m₀ y) ((I, o) :: news) (P (pre ++ [p])) { s with heap := h, toks := tk } Q) E { s with heap := h, toks := tk })
    (done : ∀ (u : Str → Option Value) h tk, P items → Fr h₀ env.locals h (fun y => if y = b then u y else if y = a then u y else m₀ y) → News h₀ env.locals h news → Q .next { s with heap := h, toks := tk }) :
    wpAny (model prog w) A (pyIter (.ref hl)) (fun it s₂ => TurnsAt prog w A h₀ env (.Tuple [.Name a pa, .Name b pb] kk tp) body Q E it s₂) E s := by
  refine iter_listTurns hh F N hm rfl rfl fun I hI => ?_
  refine items_inv (fun pre m₁ n₁ => n₁ = news ∧ (∀ y, y ≠ b → y ≠ a → m₁ y = m₀ y) ∧ P (items.take pre.length)) vs ?_ ?_ vs [] m₀ news rfl ⟨rfl, fun _ _ _ => rfl, by simpa using h0⟩
  · rintro pre v post m₁ n₁ he ⟨e₁, hm₁, hP⟩ h tk F₁
    subst n₁
    intro o ho
    intro N₁
    have hlen := hD.length
    rw [List.length_map] at hlen
    have hk : pre.length < (items.map hdr2).length := by rw [List.length_map, ← hlen, he]; simp
    obtain ⟨v', hv', hDv⟩ := hD.get hk
    have ev : v' = v := by
      rw [he] at hv'
      simpa using hv'.symm
    subst ev
    have hk' : pre.length < items.length := by simpa using hk
    have hg : (items.map hdr2)[pre.length] = hdr2 (items[pre.length]'hk') := by simp
    rw [hg] at hDv
    obtain ⟨T, t1, t2, n, rfl, hT⟩ := pair_obj hDv
    have hT' := (N₁ _ (List.mem_append_right _ hT)).1
    refine kcp_assign hh ⟨_, hT', rfl, n, rfl⟩ ha hb hp F₁.ns fun h₂ tk₂ hn₂ hk₂ => ?_
    have e : (fun z => if z = b then some (Value.str (items[pre.length]'hk').2 t2) else if z = a then some (Value.str (items[pre.length]'hk').1 t1) else m₁ z) = fun z => if z = b then some (Value.str (items[pre.length]'hk').2 t2) else if z = a then some (Value.str (items[pre.length]'hk').1 t1) else m₀ z := by
      funext z
      by_cases h1 : z = b
      · simp [h1]
      · by_cases h2 : z = a
        · simp [h1, h2]
        · simp only [if_neg h1, if_neg h2]; exact hm₁ z h1 h2
    rw [e] at hn₂
    have F₂ : Fr h₀ env.locals h₂ _ := ⟨hn₂, fun c o' e' => hk₂ c o' (Nat.ne_of_lt (Nat.lt_of_lt_of_le (Heap.lt_size e') F₁.above)) (F₁.keep c o' e'), F₁.above⟩
    have N₂ : News h₀ env.locals h₂ ((I, o) :: news) := fun q hq => ⟨hk₂ _ _ (N₁ q hq).2.1 (N₁ q hq).1, (N₁ q hq).2⟩
    have split : items = items.take pre.length ++ (items[pre.length]'hk') :: items.drop (pre.length + 1) := by
      rw [List.getElem_cons_drop, List.take_append_drop]
    have tn := turn _ _ _ t1 t2 h₂ tk₂ I o split hP ho hI F₂ N₂
    refine wpAny_mono tn (fun f s₃ p => ?_) fun _ _ x => x
    have fin : (∃ h' tk, s₃ = { s with heap := h', toks := tk } ∧ Fr h₀ env.locals h' (fun y => if y = b then some (Value.str (items[pre.length]'hk').2 t2) else if y = a then some (Value.str (items[pre.length]'hk').1 t1) else m₀ y) ∧ News h₀ env.locals h' ((I, o) :: news) ∧ P (items.take pre.length ++ [items[pre.length]'hk'])) →
        UnrEndW h₀ env.locals { s with heap := h, toks := tk } [(I, o)] (fun m' n' => SubL [(hl, W.listOf vs.toArray ep)] n' ∧ n' = news ∧ (∀ y, y ≠ b → y ≠ a → m' y = m₀ y) ∧ P (items.take (pre ++ [Value.ref T]).length)) s₃ := by
      rintro ⟨h', tk', e', F', N', hP'⟩
      refine ⟨h', tk', _, news, e', F', N', ?_, ⟨hm, trivial⟩, rfl, ?_, ?_⟩
      · intro q hq q' hq'
        rw [List.mem_singleton.mp hq']
        exact Nat.ne_of_lt (hI q hq)
      · intro y h1 h2
        simp [h1, h2]
      · rw [List.length_append, List.length_singleton, List.take_add_one, List.getElem?_eq_getElem hk']
        exact hP'
    cases f with
    | ret v => exact p
    | brk => exact p
    | next => exact fin p
    | cont => exact fin p
  · rintro m₁ n₁ ⟨e₁, hm₁, hP⟩ h tk F₁ N₁
    subst n₁
    have hlen := hD.length
    rw [List.length_map] at hlen
    rw [hlen, List.take_length] at hP
    refine done m₁ h tk hP ?_ N₁
    have e : (fun y => if y = b then m₁ y else if y = a then m₁ y else m₀ y) = m₁ := by
      funext y
      by_cases h1 : y = b
      · simp [h1]
      · by_cases h2 : y = a
        · simp [h1, h2]
        · simp only [if_neg h1, if_neg h2]; exact (hm₁ y h1 h2).symm
    rw [e]; exact F₁
end

theorem pick_all (l : List Value) : kms_pick l.toArray.toList none none = l := by simp [kms_pick, kms_lo, kms_hi]
theorem pick_tail (a : Value) (l : List Value) : kms_pick (a :: l).toArray.toList (some 1) none = l := by
  simp [kms_pick, kms_lo, kms_hi]
theorem pick_head (a : Value) (l : List Value) : kms_pick (a :: l).toArray.toList none (some 1) = [a] := by
  simp [kms_pick, kms_lo, kms_hi]
theorem pick_tail2 (a b : Value) (l : List Value) : kms_pick (a :: b :: l).toArray.toList (some 2) none = l := by
  have h : min 2 (l.length + 1 + 1) = 2 := by omega
  simp [kms_pick, kms_lo, kms_hi, h]

abbrev tup2 (a b : Value) (k : Nat) : Obj := { cls := .type "tuple", data := .seq #[a, b] k }
/-- the values vs are pairs of the ledger, with these parts -/
def PairsAt (news : List (Addr × Obj)) (vs : List Value) (prs : List (Value × Value)) : Prop :=
  vs.length = prs.length ∧ ∀ (i : Nat) (v : Value), vs[i]? = some v → ∃ T a b k, v = .ref T ∧ prs[i]? = some (a, b) ∧ (T, tup2 a b k) ∈ news
theorem PairsAt.nil {news : List (Addr × Obj)} : PairsAt news [] [] := ⟨rfl, fun i v h => by simp at h⟩
theorem PairsAt.cons {news : List (Addr × Obj)} {T : Addr} {a b : Value} {k : Nat} {vs : List Value} {prs : List (Value × Value)} (hT : (T, tup2 a b k) ∈ news) (h : PairsAt news vs prs) : PairsAt news (.ref T :: vs) ((a, b) :: prs) := by
  refine ⟨by simp [h.1], fun i v hv => ?_⟩
  cases i with
  | zero =>
    simp only [List.getElem?_cons_zero, Option.some.injEq] at hv
    subst hv
    exact ⟨T, a, b, k, rfl, rfl, hT⟩
  | succ i =>
    simp only [List.getElem?_cons_succ] at hv ⊢
    exact h.2 i v hv
theorem PairsAt.mono {news news' : List (Addr × Obj)} {vs : List Value} {prs : List (Value × Value)} (h : PairsAt news vs prs) (hs : ∀ p ∈ news, p ∈ news') : PairsAt news' vs prs :=
  ⟨h.1, fun i v hv => let ⟨T, a, b, k, e, e2, hm⟩ := h.2 i v hv; ⟨T, a, b, k, e, e2, hs _ hm⟩⟩
/-- pairs of texts -/
def StrPrs : List (Value × Value) → List (Str × Str) → Prop
  | [], [] => True
  | p :: ps, q :: qs => (∃ t u, p = (.str q.1 t, .str q.2 u)) ∧ StrPrs ps qs
  | _, _ => False
def IntPrs : List (Value × Value) → List (Int × Int) → Prop
  | [], [] => True
  | p :: ps, q :: qs => (∃ t u, p = (.int q.1 t, .int q.2 u)) ∧ IntPrs ps qs
  | _, _ => False
theorem StrPrs.get : ∀ {ps : List (Value × Value)} {qs : List (Str × Str)}, StrPrs ps qs → ∀ {i : Nat} {a b : Value}, ps[i]? = some (a, b) → ∃ q t u, qs[i]? = some q ∧ a = .str q.1 t ∧ b = .str q.2 u
  | p :: ps, q :: qs, h, 0, a, b, e => by
    obtain ⟨⟨t, u, rfl⟩, _⟩ := h
    simp only [List.getElem?_cons_zero, Option.some.injEq, Prod.mk.injEq] at e
    exact ⟨q, t, u, rfl, e.1.symm, e.2.symm⟩
  | p :: ps, q :: qs, h, i + 1, a, b, e => by
    simp only [List.getElem?_cons_succ] at e ⊢
    exact StrPrs.get h.2 e
  | [], [], _, i, a, b, e => by simp at e
  | [], _ :: _, h, _, _, _, _ => h.elim
  | _ :: _, [], h, _, _, _, _ => h.elim
theorem IntPrs.get : ∀ {ps : List (Value × Value)} {qs : List (Int × Int)}, IntPrs ps qs → ∀ {i : Nat} {a b : Value}, ps[i]? = some (a, b) → ∃ q t u, qs[i]? = some q ∧ a = .int q.1 t ∧ b = .int q.2 u
  | p :: ps, q :: qs, h, 0, a, b, e => by
    obtain ⟨⟨t, u, rfl⟩, _⟩ := h
    simp only [List.getElem?_cons_zero, Option.some.injEq, Prod.mk.injEq] at e
    exact ⟨q, t, u, rfl, e.1.symm, e.2.symm⟩
  | p :: ps, q :: qs, h, i + 1, a, b, e => by
    simp only [List.getElem?_cons_succ] at e ⊢
    exact IntPrs.get h.2 e
  | [], [], _, i, a, b, e => by simp at e
  | [], _ :: _, h, _, _, _, _ => h.elim
  | _ :: _, [], h, _, _, _, _ => h.elim
abbrev card2 (c : Int × Int) : Dat := .tuple [.int c.1, .int c.2]
theorem ipair_obj {news : List (Addr × Obj)} {v : Value} {x y : Int} (h : DatIn news v (.tuple [.int x, .int y])) : ∃ T t1 t2 n, v = .ref T ∧ (T, tup2 (.int x t1) (.int y t2) n) ∈ news := by
  cases h with
  | tuple hm hd =>
    cases hd with
    | cons h1 hd =>
      cases hd with
      | cons h2 hd =>
        cases hd
        cases h1
        cases h2
        exact ⟨_, _, _, _, rfl, hm⟩
theorem strPrs_of {news : List (Addr × Obj)} : ∀ {vs : List Value} {items : List (Str × Str)}, DatAll news vs (items.map hdr2) → ∃ prs, PairsAt news vs prs ∧ StrPrs prs items
  | _, [], h => by cases h; exact ⟨[], .nil, trivial⟩
  | _, p :: ps, h => by
    cases h with
    | cons h r =>
      obtain ⟨prs, h1, h2⟩ := strPrs_of r
      obtain ⟨T, t1, t2, n, rfl, hT⟩ := pair_obj h
      exact ⟨(_, _) :: prs, .cons hT h1, ⟨t1, t2, rfl⟩, h2⟩
theorem intPrs_of {news : List (Addr × Obj)} : ∀ {vs : List Value} {items : List (Int × Int)}, DatAll news vs (items.map card2) → ∃ prs, PairsAt news vs prs ∧ IntPrs prs items
  | _, [], h => by cases h; exact ⟨[], .nil, trivial⟩
  | _, p :: ps, h => by
    cases h with
    | cons h r =>
      obtain ⟨prs, h1, h2⟩ := intPrs_of r
      obtain ⟨T, t1, t2, n, rfl, hT⟩ := ipair_obj h
      exact ⟨(_, _) :: prs, .cons hT h1, ⟨t1, t2, rfl⟩, h2⟩

section
variable {prog : Program} {w : World} {A : Around} {s : Shared} {h₀ : Heap} {L : Addr} {m : Str → Option Value} {env : Env}
theorem compEnd_mono {s₁ s₂ : Shared} {I C D : Addr} {oI oC oD : Obj} {S : List (Addr × Obj) → Prop} {r r' : Value → List (Addr × Obj) → Prop} {y : Value} (h : ∀ nw, r y nw → r' y nw) (x : LCg.CompEnd h₀ L m s₁ I oI C oC D oD S r y s₂) : LCg.CompEnd h₀ L m s₁ I oI C oC D oD S r' y s₂ :=
  let ⟨h', tk, nw, a, b, c, d, e, f⟩ := x
  ⟨h', tk, nw, a, b, c, d, e, h nw f⟩
theorem comp_inv {elt : PySem.Expr} {x x₂ : Str} {scope : Scope} {cl : List (Str × Addr)} {S : List (Addr × Obj) → Prop} {Fin : List Value → List (Addr × Obj) → Prop} {vs : List Value} {prs : List (Value × Value)} {news : List (Addr × Obj)}
    (Inv : Nat → List Value → List (Addr × Obj) → Prop) (hP : PairsAt news vs prs) (hsub : ∀ i ys nw, Inv i ys nw → ∀ p ∈ news, p ∈ nw)
    (step : ∀ i ys nw v₁ v₂ I oI C oC D m₂ h tk (E' : Value → Shared → Prop), Inv i ys nw → prs[i]? = some (v₁, v₂) → LCg.NsObj oC m₂ → m₂ x = some v₁ → m₂ x₂ = some v₂ → Fr h₀ L h m → News h₀ L h ((I, oI) :: (C, oC) :: (D, LCg.lst ys) :: nw) → LCg.Off3 I C D nw → ((@Ne Nat I C) ∧ (@Ne Nat I D) ∧ (@Ne Nat C D)) →
      wpAny (model prog w) A (eval elt (compEnvC scope cl C env)) (LCg.CompEnd h₀ L m { s with heap := h, toks := tk } I oI C oC D (LCg.lst ys) S (fun y nw' => Inv (i + 1) (ys ++ [y]) nw')) E' { s with heap := h, toks := tk })
    (fin : ∀ ys nw, Inv vs.length ys nw → Fin ys nw) :
    ∀ k i ys nw, i + k = vs.length → Inv i ys nw → LCp.CompRestP prog w A h₀ L m env elt x x₂ scope cl s S (fun i v => vs.toArray[i]? = some v) Fin k i ys nw := by
  intro k
  induction k with
  | zero =>
    intro i ys nw e hi
    have e' : i = vs.length := by omega
    subst e'
    exact LCp.CompRestP.zero (fin ys nw hi)
  | succ k ih =>
    intro i ys nw e hi
    refine LCp.CompRestP.succ fun v hv => ?_
    have hv' : vs[i]? = some v := by simpa using hv
    obtain ⟨T, a, b, n, rfl, hp, hT⟩ := hP.2 i v hv'
    refine ⟨T, _, a, b, n, rfl, hsub _ _ _ hi _ hT, rfl, rfl, fun I oI C oC D m₂ h tk E' h1 h2 h3 F N o3 hne => ?_⟩
    exact wpAny_mono (step i ys nw a b I oI C oC D m₂ h tk E' hi hp h1 h2 h3 F N o3 hne) (fun y s₂ c => compEnd_mono (fun nw' hI => ih (i + 1) (ys ++ [y]) nw' (by omega) hI) c) fun _ _ x => x
theorem off1_at {D : Addr} : ∀ {l : List (Addr × Obj)}, LCg.Off1 D l → ∀ p ∈ l, p.1 ≠ D
  | [], _, _, h => nomatch h
  | _ :: _, x, p, h => by
    rcases List.mem_cons.mp h with rfl | h
    · exact x.1
    · exact off1_at x.2 p h
end
theorem srcAt_of {h₀ : Heap} {ax : Addr} {its : Array Value} {k : Nat} {news : List (Addr × Obj)} (hm : (ax, ({ cls := .type "list", data := .seq its k } : Obj)) ∈ news) : LCg.SrcAt h₀ ax its news := .inr ⟨_, hm, rfl, _, rfl⟩
theorem news_tail {h₀ h : Heap} {L : Addr} {q : Addr × Obj} {news : List (Addr × Obj)} (N : News h₀ L h (q :: news)) : News h₀ L h news := fun p hp => N p (List.mem_cons_of_mem _ hp)
theorem news_swap {h₀ h : Heap} {L : Addr} {a b : Addr × Obj} {news : List (Addr × Obj)} (N : News h₀ L h (a :: b :: news)) : News h₀ L h (b :: a :: news) := fun p hp => by
  rcases List.mem_cons.mp hp with rfl | hp
  · exact N _ (List.mem_cons_of_mem _ List.mem_cons_self)
  · rcases List.mem_cons.mp hp with rfl | hp
    · exact N _ List.mem_cons_self
    · exact N _ (List.mem_cons_of_mem _ (List.mem_cons_of_mem _ hp))
theorem cat_list (a b : List Value) : a.toArray.toList ++ b.toArray.toList = a ++ b := rfl
/-- a fact that the walk shall not look at -/
structure Kept (p : Prop) : Prop where
  out : p
section
variable {prog : Program} {w : World} {A : Around} {E : Value → Shared → Prop} {s : Shared}
theorem list_at {value slice : PySem.Expr} {l : Addr} {vs : List Value} {k : Int} {u : Tok} {v : Value} {Q : Value → Shared → Prop}
    (hl : s.heap.IsList l vs.toArray) (h0 : 0 ≤ k) (hhi : k < 2 ^ 63) (hx : vs[k.toNat]? = some v) (h : Q v s)
    (hs : subscripted slice false (.ref l) (.int k u) = operate [.ref l, .int k u] (getItem (.ref l) (.int k u)) := by with_unfolding_all rfl) :
    wpAny (model prog w) A (subscriptTail value slice (.ref l) (.int k u)) Q E s :=
  tail_any hl.typeIs slot_list_getitem.lookup (wpAny_getItem_list hl h0 hhi (by simpa using hx) h) hs
end
theorem no_flow {M : Model} {A : Around} {α β : Type} {t : Sem α} {u : Sem β} {Q : β → Shared → Prop} {E : Value → Shared → Prop} {s : Shared} (h : wpAny M A t (fun _ s₂ => wpAny M A u Q (fun _ _ => False) s₂) (fun _ _ => False) s) : wpAny M A t (fun _ s₂ => wpAny M A u Q E s₂) E s :=
  wpAny_mono h (fun _ _ x => wpAny_mono x (fun _ _ y => y) fun _ _ y => y.elim) fun _ _ x => x.elim
theorem turn_gen {M : Model} {A : Around} {α : Type} {t : Sem α} {u : Sem Flow} {h₀ : Heap} {L : Addr} {s₁ s : Shared} {its : List (Addr × Obj)} {rest : (Str → Option Value) → List (Addr × Obj) → Prop} {Q : Flow → Shared → Prop} {E : Value → Shared → Prop}
    (h : ∀ Q' : Flow → Shared → Prop, (∀ s', UnrEndW h₀ L s₁ its rest s' → Q' .next s') → wpAny M A t (fun _ s₂ => wpAny M A u Q' (fun _ _ => False) s₂) (fun _ _ => False) s) : wpAny M A t (fun _ s₂ => wpAny M A u (UnrPostW h₀ L s₁ its rest Q) E s₂) E s := no_flow (h _ fun _ h => h)
end
theorem rest_04 : True := by
  w_top off
  try walk1
  first | done | exact True.intro
local macro_rules | `(tactic| walk_at "m_size") => `(tactic| ((try simp only [List.size_toArray, List.length_cons, List.length_append, List.length_nil, Array.length_toList, List.length_take, List.length_drop]); (try rw [PySem.sizeLine_eq]); omega))
local macro_rules | `(tactic| walk_at "subscriptTail") => `(tactic| (k_here; (with_reducible show wpAny _ _ (subscriptTail _ (PySem.Expr.Slice _ _ none _) (Value.ref _) (Value.ref _)) _ _ _); k_dflt (refine' kms_slice_lit ?F ?N ?l ?p ?q ?e ?_ ?s ?t ?z; (case F => k_asm); (case N => k_asm); (case l => kmk_list); (case p => kmk_part); (case q => kmk_part); (case e => first | with_reducible exact pick_all _ | with_reducible exact pick_tail _ _ | with_reducible exact pick_head _ _ | with_reducible exact pick_tail2 _ _ _); (case s => with_unfolding_all rfl); (case t => kmk_pure); (case z => walk_at "m_size")); intro D' h' F' N' l1; (try k_lt l1); (try k_sweep)))
local macro_rules | `(tactic| walk_at "binaryOp Add ref ref") => `(tactic| (k_here; (with_reducible show wpAny _ _ (binaryOp _ (Value.ref _) (Value.ref _)) _ _ _); k_dflt (refine' kmk_add_lit ?F ?N ?a ?b ?e ?_ ?z; (case F => k_asm); (case N => k_asm); (case a => kmk_list); (case b => kmk_list); (case e => exact cat_list _ _); (case z => walk_at "m_size")); intro D' h' F' N' l1; (try k_lt l1); (try k_sweep)))
local macro_rules | `(tactic| walk_at "subscriptTail") => `(tactic| (k_here; (with_reducible show wpAny _ _ (subscriptTail _ (PySem.Expr.Constant _ _ _) (Value.ref _) (Value.int _ _)) _ _ _); k_dflt (refine' list_at ?l ?h0 ?h1 ?x ?_ ?s; (case l => kmk_list); (case h0 => decide); (case h1 => decide); (case x => exact rfl); (case s => with_unfolding_all rfl); k_whole)))
local macro_rules | `(tactic| walk_at "m_look") => `(tactic| first | assumption | ((try dsimp only); (repeat rw [if_neg (by decide)]); first | exact if_pos rfl | assumption))
local macro_rules | `(tactic| walk_at "eval Name") => `(tactic| (k_here; k_dflt (refine' ld ?k1 ?k2 ?_; (case k1 => k_asm); (case k2 => walk_at "m_look"); k_whole)))
section
set_option maxRecDepth 100000 in
set_option maxHeartbeats 8000000 in
theorem get_run {w : World} {p : Program} {loose : List Str} {mean : ExcName → Option Value} {mg mb : Str → Option Value} {x : Str} {t tk : Tok} {xa dx hl : Addr} {n e : Nat} {vs : List Value} {items : List (Str × Str)} {news : List (Addr × Obj)} (hx : NotIn 48 (Txt.lower x)) (hxl : x.length ≤ 8)
     (m1 : (xa, instObj 184 dx) ∈ news) (m2 : (dx, dictOf (hdrEs w tk hl) n) ∈ news) (m3 : (hl, listOf vs.toArray e) ∈ news) (hD : DatAll news vs (items.map hdr2)) (hi : ∀ p ∈ items, p.1.length ≤ 8)
     : Run w p loose mean mg mb 2 16 131 [.ref xa, .str x t] [] news (fun r news' => news' = news ∧ match items.find? (fun p => Txt.lower p.1 == Txt.lower x) with | some p => ∃ t, r = .str p.2 t | none => r = .none) := by
  walk_at "m_enter"
  k_steps
  rename Fr _ _ _ _ => lF'
  (with_unfolding_all refine' For_turns lF' ?_)
  k_whole
  k_steps
  refine for_pairs (fun pre => ∀ q ∈ pre, (Txt.lower q.1 == Txt.lower x) = false) rfl (by k_asm) (by k_asm) m3 hD rfl rfl rfl (fun _ h => nomatch h) ?turn ?done
  case turn =>
    intro pre p post t1 t2 h tk I o he hP ho hI F2 N2
    have hpl : p.1.length ≤ 8 := hi p (by rw [he]; simp)
    k_steps
    · unfold PairPost
      dsimp only
      k_steps
      refine hret _ _ _ _ (by k_asm) (news_tail (by k_asm)) ⟨rfl, ?_⟩
      rw [he, List.find?_append, List.find?_eq_none.mpr fun q hq => by rw [hP q hq]; exact Bool.false_ne_true]
      rw [Option.none_or, List.find?_cons_of_pos (by assumption)]
      exact ⟨_, rfl⟩
    · refine ⟨_, _, rfl, by k_asm, by k_asm, ?_⟩
      intro q hq
      rcases List.mem_append.mp hq with hq | hq
      · exact hP q hq
      · rw [List.mem_singleton.mp hq]; assumption
  case done =>
    intro u h tk hP F2 N2
    k_steps
    refine hret _ _ _ _ (by k_asm) (by k_asm) ⟨rfl, ?_⟩
    rw [List.find?_eq_none.mpr fun q hq => by rw [hP q hq]; exact Bool.false_ne_true]
end
theorem rest_05 : True := by
  w_top off
  try walk1
  first | done | exact True.intro
section
def nmS (n u : Int) : Str := Txt.item (Str.ofString (if u = 0 then "abcdef" else "ABCDEF")) n
set_option maxRecDepth 100000 in
set_option maxHeartbeats 8000000 in
theorem name_run {w : World} {p : Program} {loose : List Str} {mean : ExcName → Option Value} {mg mb : Str → Option Value} {n u : Int} {tn tu : Tok} {news : List (Addr × Obj)}
    (hn : 0 ≤ n ∧ n < 6) : Run w p loose mean mg mb 1 8 209 [.int n tn, .int u tu] [] news (fun r news' => news' = news ∧ ∃ t, r = .str (nmS n u) t) := by
  walk_at "m_enter"
  k_steps
  · exact hret _ _ _ _ (by k_asm) (by k_asm) ⟨rfl, Exists.intro _ (by rw [nmS, if_neg (by assumption)])⟩
  · exact hret _ _ _ _ (by k_asm) (by k_asm) ⟨rfl, Exists.intro _ (by rw [nmS, if_pos (by assumption)])⟩
end
theorem rest_06 : True := by
  w_top off
  try walk1
  first | done | exact True.intro
local macro_rules | `(tactic| walk_at "call ref") => `(tactic| (k_here; (with_reducible show wpAny _ _ (call (Value.ref 209) [Value.int _ _, Value.int _ _] _) _ _ _); k_dflt (refine' Run.use (name_run ?c1) ?k1 ?k2 ?k3 ?k4 ?k5 ?kK ?kd ?ku ?_); (case c1 => first | assumption | exact ⟨by omega, by omega⟩); walk_at "m_use"; intro r9 h9 tk9 news9 F9 N9 P9; obtain ⟨e9, t9, e10⟩ := P9; subst news9; subst r9; (try k_sweep)))
section
set_option maxRecDepth 100000 in
set_option maxHeartbeats 8000000 in
theorem items_run {w : World} {p : Program} {loose : List Str} {mean : ExcName → Option Value} {mg mb : Str → Option Value} {tk : Tok} {xa dx hl : Addr} {n e : Nat} {vs : List Value} {news : List (Addr × Obj)}
     (m1 : (xa, instObj 184 dx) ∈ news) (m2 : (dx, dictOf (hdrEs w tk hl) n) ∈ news) (m3 : (hl, W.listOf vs.toArray e) ∈ news) (hz : vs.length ≤ 64)
     : Run w p loose mean mg mb 1 16 148 [.ref xa] [] news (fun r news' => ∃ a, r = .ref a ∧ news' = (a, W.listOf vs.toArray 0) :: news ∧ ∀ q ∈ news, q.1 < a) := by
  walk_at "m_enter"
  walk_at "m_steps"
  exact hret _ _ _ _ (by k_asm) (by k_asm) ⟨_, rfl, rfl, by assumption⟩
end
theorem rest_07 : True := by
  w_top off
  try walk1
  first | done | exact True.intro
set_option hygiene false in
local macro_rules | `(tactic| walk_at "call ref") => `(tactic| (k_here; (show wpAny _ _ (call (Value.ref 148) [Value.ref _] _) _ _ _); k_dflt (refine' Run.use (items_run ?m1 ?m2 ?m3 ?c1) ?k1 ?k2 ?k3 ?k4 ?k5 ?kK ?kd ?ku ?_); walk_at "m_use"; (case m1 | m2 | m3 => k_mem); (case c1 => walk_at "m_len"); intro r9 h9 tk9 news9 F9 N9 P9; obtain ⟨a9, q9, q8, b9⟩ := P9; subst news9; subst r9; (try (replace b9 := allLt_of b9; simp only [AllLt, and_true] at b9)); (try k_sweep)))
section
set_option maxRecDepth 100000 in
set_option maxHeartbeats 8000000 in
theorem keys_run {w : World} {p : Program} {loose : List Str} {mean : ExcName → Option Value} {mg mb : Str → Option Value} {tk : Tok} {xa dx hl : Addr} {n e : Nat} {vs : List Value} {items : List (Str × Str)} {news : List (Addr × Obj)}
     (m1 : (xa, instObj 184 dx) ∈ news) (m2 : (dx, dictOf (hdrEs w tk hl) n) ∈ news) (m3 : (hl, W.listOf vs.toArray e) ∈ news) (hD : DatAll news vs (items.map hdr2)) (hz : vs.length ≤ 64)
     : Run w p loose mean mg mb 1 16 136 [.ref xa] [] news (fun r news' => ∃ a ks k, r = .ref a ∧ news' = (a, W.listOf ks.toArray k) :: news ∧ ks.length ≤ 64 ∧ DatAll [] ks (items.map fun p => Dat.str p.1) ∧ ∀ q ∈ news, q.1 ≠ a) := by
  walk_at "m_enter"
  walk_at "m_steps"
  k_dflt (refine LCp.ListComp_P (F₀ := by k_asm) (by with_unfolding_all rfl) (by decide) (by rfl) (by decide) (by rfl) (by rfl) (by decide) ?_)
  walk_at "m_steps"
  obtain ⟨prs, hP, hS⟩ := strPrs_of hD
  refine LCp.SrcLP.ledger (by rfl) (by k_asm) (by k_asm) m3 (by walk_at "m_size") fun g => ?_
  rw [List.size_toArray]
  refine comp_inv (fun i ys nw => nw = news ∧ DatAll [] ys ((items.take i).map fun p => Dat.str p.1)) hP (fun _ _ _ h q hq => h.1 ▸ hq) ?_ ?_ vs.length 0 [] news (by omega) ⟨rfl, .nil⟩
  · rintro i ys nw v₁ v₂ I oI C oC D m₂ h tk9 E' ⟨e1, hI⟩ hp hC h1 h2 F1 N1 o3 hne
    subst nw
    walk_at "m_steps"
    refine LCg.CompEnd.intro (by k_asm) (by k_asm) news (fun q hq => hq) o3 (srcAt_of m3) ⟨rfl, ?_⟩
    obtain ⟨q, t, u, hq, rfl, rfl⟩ := hS.get hp
    rw [List.take_add_one, hq, List.map_append]
    exact hI.append (.cons (.str _ _) .nil)
  · rintro ys nw ⟨e1, hI⟩
    subst nw
    intro D h tk9 F1 N1 o1
    walk_at "m_steps"
    have hl2 : vs.length = items.length := by rw [hD.length, List.length_map]
    rw [hl2, List.take_length] at hI
    refine hret _ _ _ _ (by k_asm) (by k_asm) ⟨_, _, _, rfl, rfl, ?_, hI, off1_at o1⟩
    rw [hI.length, List.length_map, ← hl2]; exact hz
end
theorem rest_08 : True := by
  w_top off
  try walk1
  first | done | exact True.intro
set_option hygiene false in
local macro_rules | `(tactic| walk_at "call ref") => `(tactic| (k_here; (show wpAny _ _ (call (Value.ref 136) [Value.ref _] _) _ _ _); k_dflt (refine' Run.use (keys_run ?m1 ?m2 ?m3 ?c2 ?c1) ?k1 ?k2 ?k3 ?k4 ?k5 ?kK ?kd ?ku ?_); walk_at "m_use"; (case m1 | m2 | m3 => k_mem); (case c2 => first | assumption | (refine DatAll.mono ?ss9 ?dd9; (case dd9 => assumption); (case ss9 => kqd_sub))); (case c1 => walk_at "m_len"); intro r9 h9 tk9 news9 F9 N9 P9; obtain ⟨a9, ks9, kk9, q9, q8, l9, D9, b9⟩ := P9; subst news9; subst r9; (try k_sweep)))
section
section
variable {M : Model} {K : Frag} {A : Around} {E : Value → Shared → Prop} {s : Shared} {h₀ : Heap} {L : Addr} {m : Str → Option Value} {x C f : Addr} {ox : Obj} {od : Option Obj} {i v : Value}
theorem own_delItem {Q : Unit → Shared → Prop} (F : Fr h₀ L s.heap m) (X₀ : K.In h₀) (I : InstAt s.heap x ox C od) (hq : noSeq K C = true) (hs : findIn K (.ref C) "__delitem__" = some (some (.ref f))) (hf : isFn K (.ref f) = true)
    (h : wpAny M A (call (.ref f) [.ref x, i]) (fun _ s' => Q () s') E s) : wpAny M A (delItem (.ref x) i) Q E s := by
  have X := X₀.keeps F.keep
  unfold delItem sequenceKey
  refine wpAny_holding (wpAny_bind (wpAny_bind (I.type.here ?_)))
  refine wpAny_bind ((anyM_none X hq).here ?_)
  rw [if_pos (show (!false) = true from rfl)]
  exact wpAny_pure (wpAny_bind (special_fn X I hs (beq_iff_eq.mp hf) (wpAny_mono h (fun _ _ z => wpAny_pure z) fun _ _ z => z)))
end
end
theorem rest_09 : True := by
  w_top off
  try walk1
  first | done | exact True.intro
local macro_rules | `(tactic| walk_at "delItem ref") => `(tactic| (k_here; (with_reducible show wpAny _ _ (delItem (Value.ref _) _) _ _ _); k_dflt (refine' own_delItem ?F ?X ?I ?hQ ?hS ?hF ?_; (case F => k_asm); (case X => k_asm); (case I => k_inst); (case hS => k_is); (case hF => k_is); (case hQ => k_is); k_whole)))
section
section
variable {prog : Program} {w : World} {A : Around} {E : Value → Shared → Prop} {s : Shared} {h₀ : Heap} {L : Addr} {m : Str → Option Value} {news : List (Addr × Obj)}
theorem letGo_any {M : Model} {keep : List Value} {Q : Unit → Shared → Prop} (h : Q () s) : ∀ l : List Value, wpAny M A (letGo l keep) Q E s
  | [] => wpAny_pure h
  | _ :: rest => by
    unfold letGo
    exact wpAny_bind (wpAny_holding (wpAny_point (letGo_any h rest)))
theorem listItems_any {M : Model} {l : Addr} {o : Obj} {xs : Array Value} {n : Nat} {Q : Array Value → Shared → Prop} (ho : s.heap.get? l = some o) (hd : o.data = .seq xs n) (h : Q xs s) : wpAny M A (Builtin.List.listItems (.ref l)) Q E s := by
  unfold Builtin.List.listItems
  exact wpAny_bind (wpAny_seqItems ho hd (wpAny_pure h))
theorem mapSeq_list (f : Array Value → Array Value) (xs : Array Value) (e : Nat) : Obj.mapSeq f (W.listOf xs e) = W.listOf (f xs) (if (f xs).size == xs.size then e else e + 1) := rfl
/-- xs[:] = ys -/
theorem setItem_all {hl b : Addr} {xs ys : Array Value} {e k : Nat} {g : Obj → List (Addr × Obj)} {Q : Unit → Shared → Prop} (F : Fr h₀ L s.heap m) (N : News h₀ L s.heap news) (hb : (b, W.listOf ys k) ∈ news)
    (U : UpdF hl (W.listOf xs e) news g) (hne : hl ≠ b) (hz : xs.size + ys.size ≤ sizeLine)
    (h : ∀ h' e', Fr h₀ L h' m → News h₀ L h' (g (W.listOf ys e')) → Q () { s with heap := h' }) :
    wpAny (model prog w) A (setItem (.ref hl) (.ref s.heap.objs.size) (.ref b)) Q E { s with heap := s.heap.push { cls := .type "slice", data := .fields #[.none, .none, .none] } } := by
  obtain ⟨pre, post, rfl, hg, a, c⟩ := U.split
  have F₁ := F.push { cls := .type "slice", data := .fields #[.none, .none, .none] }
  have N₁ : News h₀ L (s.heap.push { cls := .type "slice", data := .fields #[.none, .none, .none] }) (pre ++ (hl, W.listOf xs e) :: post) := fun p hp => ⟨Heap.get?_push_of_some _ (N p hp).1, (N p hp).2⟩
  have hsl := Heap.IsSliceOf.new s.heap .none .none .none
  generalize hsz : s.heap.objs.size = sl at hsl ⊢
  generalize hH : s.heap.push { cls := .type "slice", data := .fields #[.none, .none, .none] } = H at F₁ N₁ hsl ⊢
  have z := N₁ (hl, W.listOf xs e) (List.mem_append.mpr (.inr (.head _)))
  have ho : H.get? hl = some (W.listOf xs e) := z.1
  have hob : H.get? b = some (W.listOf ys k) := (N₁ _ hb).1
  have hTl : ({ s with heap := H } : Shared).TypeIs (.ref hl) "list" := ⟨_, ho, rfl⟩
  obtain ⟨os, hos, hcs, hds⟩ := hsl
  have hTs : ({ s with heap := H } : Shared).TypeIs (.ref sl) "slice" := ⟨os, hos, hcs⟩
  unfold setItem
  try with_reducible refine wpAny_holding ?_
  first | refine wpAny_bind (wpAny_pure ?_) | skip
  refine wpAny_bind (wpAny_sequenceKey hTl (by decide) ?_)
  refine wpAny_bind (wpAny_callSpecial?_slot (name := Str.ofString "__setitem__") hTl slot_list_setitem
    (wpAny_call_entry slot_list_setitem hTl entry_list_setitem ?_ (args_list_setitem _ _ _)))
  show wpAny _ _ (Builtin.List.listSubscript? (.ref sl) >>= _) _ _ _
  refine wpAny_bind ?_
  unfold Builtin.List.listSubscript?
  refine wpAny_bind (wpAny_specialOf hTs slice_no_index ?_)
  simp only [Option.isNone_none, if_true]
  refine wpAny_pure ?_
  show wpAny _ _ (typeOf (.ref sl) >>= _) _ _ _
  refine wpAny_bind (wpAny_typeOf hTs ?_)
  rw [if_neg (by decide)]
  rw [listSliceParts_eq]
  refine wpAny_bind (wpAny_bind (wpAny_field hos hds (x := .none) rfl (wpAny_bind (wpAny_listPart .none ?_))))
  rw [if_neg (by decide)]
  refine wpAny_bind (wpAny_field hos hds (x := .none) rfl (wpAny_bind (wpAny_listPart .none ?_)))
  refine wpAny_bind (wpAny_field hos hds (x := .none) rfl (wpAny_bind (wpAny_listPart .none (wpAny_pure ?_))))
  have hsame : Builtin.List.listSameRef (.ref hl) (.ref b) = false := by
    show (hl == b) = false
    exact beq_eq_false_iff_ne.mpr hne
  rw [hsame, if_neg Bool.false_ne_true]
  have hTb : ({ s with heap := H } : Shared).TypeIs (.ref b) "list" := ⟨_, hob, rfl⟩
  refine wpAny_bind (m := Builtin.List.listAllItems (.ref b) "must assign iterable to extended slice") ?_
  unfold Builtin.List.listAllItems
  refine wpAny_bind (wpAny_typeOf hTb ?_)
  rw [if_pos (by decide)]
  refine listItems_any hob rfl ?_
  refine wpAny_bind (m := Builtin.List.listItems (.ref hl)) ?_
  refine listItems_any ho rfl ?_
  refine wpAny_bind (wpAny_of_eq (sliceIndices_raw none none none xs.size (by decide)) ?_)
  have e1 : sliceBounds none none none xs.size = (0, (xs.size : Int), 1) := by simp [sliceBounds]
  rw [e1]
  simp only [beq_self_eq_true, if_true]
  refine wpAny_bind (wpAny_rule ?_)
  have hbig : Builtin.List.listTooLong (xs.size + ys.size) = false := decide_eq_false (Nat.not_lt.mpr hz)
  rw [hbig]
  simp only [Bool.false_eq_true, if_false]
  have hf : ∀ zs : Array Value, zs.size = xs.size → zs.extract 0 (Int.toNat 0) ++ ys ++ zs.extract (max 0 (xs.size : Int)).toNat zs.size = ys := by
    intro zs hzs
    have e2 : (max 0 (xs.size : Int)).toNat = xs.size := by omega
    rw [e2, ← hzs]
    simp
  have hu : H.get? hl = some (W.listOf xs e) := ho
  refine wpAny_bind (m := updateSeq hl fun zs => zs.extract 0 (Int.toNat 0) ++ ys ++ zs.extract (max 0 (xs.size : Int)).toNat zs.size) ?_
  refine wpAny_updateSeq (xs := xs) (n := e) hu rfl ?_ (by omega) (by show (xs.extract 0 (Int.toNat 0) ++ ys ++ xs.extract (max 0 (xs.size : Int)).toNat xs.size).size ≤ _; rw [hf xs rfl]; omega)
  refine wpAny_bind (letGo_any ?_ _)
  refine wpAny_pure ⟨_, rfl, wpAny_pure ?_⟩
  have hs := Heap.SameBut.update (h := H) (a := hl) (f := Obj.mapSeq fun zs => zs.extract 0 (Int.toNat 0) ++ ys ++ zs.extract (max 0 (xs.size : Int)).toNat zs.size)
  refine h _ (if ys.size == xs.size then e else e + 1) (F₁.change hs z.2.1 z.2.2) ?_
  rw [hg]
  refine news_set N₁ a c hs ?_
  rw [Heap.get?_update_self _ hu rfl, mapSeq_list, hf xs rfl]
end
end
theorem rest_10 : True := by
  w_top off
  try walk1
  first | done | exact True.intro
section
section
variable {prog : Program} {w : World} {A : Around} {s : Shared} {h₀ : Heap} {L : Addr} {m : Str → Option Value} {env : Env}
theorem comp_invT {ct elt : PySem.Expr} {x : Str} {scope : Scope} {cl : List (Str × Addr)} {S : List (Addr × Obj) → Prop} {Fin : List Value → List (Addr × Obj) → Prop} {vs : List Value}
    (Inv : Nat → List Value → List (Addr × Obj) → Prop)
    (step : ∀ i ys nw v I oI C oC D m₂ h tk (E' : Value → Shared → Prop), Inv i ys nw → vs[i]? = some v → LCg.NsObj oC m₂ → m₂ x = some v → Fr h₀ L h m → News h₀ L h ((I, oI) :: (C, oC) :: (D, LCg.lst ys) :: nw) → LCg.Off3 I C D nw → ((@Ne Nat I C) ∧ (@Ne Nat I D) ∧ (@Ne Nat C D)) →
      wpAny (model prog w) A (isTrue ct (compEnvC scope cl C env) (eval ct (compEnvC scope cl C env))) (fun ok s' => if ok = true then
        wpAny (model prog w) A (eval elt (compEnvC scope cl C env)) (LCg.CompEnd h₀ L m { s with heap := h, toks := tk } I oI C oC D (LCg.lst ys) S (fun y nw' => Inv (i + 1) (ys ++ [y]) nw')) E' s'
        else LCg.CompEnd h₀ L m { s with heap := h, toks := tk } I oI C oC D (LCg.lst ys) S (fun _ nw' => Inv (i + 1) ys nw') Value.none s') E' { s with heap := h, toks := tk })
    (fin : ∀ ys nw, Inv vs.length ys nw → Fin ys nw) :
    ∀ k i ys nw, i + k = vs.length → Inv i ys nw → LCt.CompRestT prog w A h₀ L m env ct elt x scope cl s S (fun i v => vs.toArray[i]? = some v) Fin k i ys nw := by
  intro k
  induction k with
  | zero =>
    intro i ys nw e hi
    have e' : i = vs.length := by omega
    subst e'
    exact LCt.CompRestT.zero (fin ys nw hi)
  | succ k ih =>
    intro i ys nw e hi
    refine LCt.CompRestT.succ fun v I oI C oC D m₂ h tk E' hv h1 h2 F N o3 hne => ?_
    have hv' : vs[i]? = some v := by simpa using hv
    refine wpAny_mono (step i ys nw v I oI C oC D m₂ h tk E' hi hv' h1 h2 F N o3 hne) (fun ok s₂ c => ?_) fun _ _ x => x
    cases ok with
    | true =>
      simp only [if_true] at c ⊢
      exact wpAny_mono c (fun y s₃ c' => compEnd_mono (fun nw' hI => ih (i + 1) (ys ++ [y]) nw' (by omega) hI) c') fun _ _ x => x
    | false =>
      simp only [Bool.false_eq_true, if_false] at c ⊢
      exact compEnd_mono (fun nw' hI => ih (i + 1) ys nw' (by omega) hI) c
theorem comp_fixT {ct elt : PySem.Expr} {x : Str} {scope : Scope} {cl : List (Str × Addr)} {S : List (Addr × Obj) → Prop} {Fin : List Value → List (Addr × Obj) → Prop} {vs : List Value} {news : List (Addr × Obj)}
    (R : Nat → List Value → Prop) (h0 : R 0 [])
    (step : ∀ i ys v I oI C oC D m₂ h tk (E' : Value → Shared → Prop), R i ys → vs[i]? = some v → LCg.NsObj oC m₂ → m₂ x = some v → Fr h₀ L h m → News h₀ L h ((I, oI) :: (C, oC) :: (D, LCg.lst ys) :: news) → LCg.Off3 I C D news → ((@Ne Nat I C) ∧ (@Ne Nat I D) ∧ (@Ne Nat C D)) →
      wpAny (model prog w) A (isTrue ct (compEnvC scope cl C env) (eval ct (compEnvC scope cl C env))) (fun ok s' => if ok = true then
        wpAny (model prog w) A (eval elt (compEnvC scope cl C env)) (LCg.CompEnd h₀ L m { s with heap := h, toks := tk } I oI C oC D (LCg.lst ys) S (fun y nw' => nw' = news ∧ R (i + 1) (ys ++ [y]))) E' s'
        else LCg.CompEnd h₀ L m { s with heap := h, toks := tk } I oI C oC D (LCg.lst ys) S (fun _ nw' => nw' = news ∧ R (i + 1) ys) Value.none s') E' { s with heap := h, toks := tk })
    (fin : ∀ ys, R vs.length ys → Fin ys news) : LCt.CompRestT prog w A h₀ L m env ct elt x scope cl s S (fun i v => vs.toArray[i]? = some v) Fin vs.length 0 [] news := by
  refine comp_invT (fun i ys nw => nw = news ∧ R i ys) (fun i ys nw v I oI C oC D m₂ h tk E' hI hv h1 h2 F N o3 hne => ?_) (fun ys nw hI => ?_) vs.length 0 [] news (by omega) ⟨rfl, h0⟩
  · obtain ⟨e, hI⟩ := hI
    subst nw
    exact step i ys v I oI C oC D m₂ h tk E' hI hv h1 h2 F N o3 hne
  · obtain ⟨e, hI⟩ := hI
    subst nw
    exact fin ys hI
end
set_option maxRecDepth 100000 in
set_option maxHeartbeats 8000000 in
theorem delitem_run {w : World} {p : Program} {loose : List Str} {mean : ExcName → Option Value} {mg mb : Str → Option Value} {x : Str} {t tk : Tok} {xa dx hl : Addr} {n e : Nat} {vs : List Value} {items : List (Str × Str)} {rest base0 : List (Addr × Obj)} (hx : NotIn 48 (Txt.lower x)) (hxl : x.length ≤ 8)
     (m1 : (xa, instObj 184 dx) ∈ rest) (m2 : (dx, dictOf (hdrEs w tk hl) n) ∈ rest) (hr : ∀ q ∈ rest, q.1 ≠ hl) (hs : ∀ q ∈ base0, q ∈ rest) (hD : DatAll base0 vs (items.map hdr2)) (hi : ∀ p ∈ items, p.1.length ≤ 8) (hz : vs.length ≤ 64)
     : Run w p loose mean mg mb 2 16 102 [.ref xa, .str x t] [] ((hl, W.listOf vs.toArray e) :: rest) (fun _ news' => ∃ vs' e', news' = (hl, W.listOf vs'.toArray e') :: rest ∧ DatAll base0 vs' ((items.filter fun p => !(Txt.lower p.1 == Txt.lower x)).map hdr2) ∧ vs'.length ≤ vs.length) := by
  (delta Run; k_fill; intro dp un gd cn cs a ccd cl outer A₀ base h₀ L m s Q E B F X N T hk hd hu hret; refine wpAny_call ?_; k_dflt (refine' code_defC ?k1 ?k2 ?k3 ?k4 ?k5 ?kA ?kF ?kK ?k6 ?k7 ?k8 ?k9 ?kB ?kD ?_ ?c2 ?c3 ?c4; (case kA | kF => exact rfl); (case kK => assumption); (case k1 | k2 | k3 | k4 | k5 => k_asm); (case k6 | k7 => k_is); (case k8 => ktr_room); (case k9 => first | exact BindsTo.of_eq rfl | exact binds_K (by k_in) rfl (by k_is) rfl rfl rfl); (case kB => exact rfl); (case kD => decide +kernel); (case c2 | c3 | c4 => exact rfl); k_whole; intro g' L' h' tk' cells' FG' F' N' Y' B' X' T' l1; (try k_lt l1); (try (have hrest : ∀ p ∈ rest, p.1 < L' := tb_ltOf (by first | exact l1 | exact l1.2 | exact l1.2.2))); k_cells Y'; (try simp only [List.cons_append, List.nil_append] at N'); (try dsimp only); (try k_lift B'); (try k_fold)))
  walk_at "m_steps"
  k_dflt (refine wpAny_Assign_Subscript ?_ (by with_unfolding_all rfl))
  k_dflt (refine LCt.ListComp_T (F₀ := by k_asm) (by with_unfolding_all rfl) (by decide) (by rfl) (by decide) (by rfl) ?_)
  walk_at "m_steps"
  refine LCt.CompSrcT.ledger (by rfl) (by k_asm) (by k_asm) (List.mem_cons_of_mem _ List.mem_cons_self) (by walk_at "m_size") fun g => ?_
  rw [List.size_toArray]
  refine comp_fixT (fun i ys => ys.length ≤ i ∧ DatAll base0 ys (((items.take i).filter fun p => !(Txt.lower p.1 == Txt.lower x)).map hdr2)) ⟨Nat.le_refl _, .nil⟩ ?step ?fin
  case step =>
    rintro i ys v I oI C oC D m₂ h tk9 E' ⟨hlen, hI⟩ hv hC h1 F1 N1 o3 hne
    have hl2 : vs.length = items.length := by rw [hD.length, List.length_map]
    have hi1 : i < items.length := by rw [← hl2]; exact (List.getElem?_eq_some_iff.mp hv).1
    have hDv : DatIn base0 v (hdr2 items[i]) := by
      obtain ⟨v', hv', hd'⟩ := hD.get (k := i) (by rw [List.length_map]; exact hi1)
      rw [hv] at hv'
      cases hv'
      simpa using hd'
    have htake : items.take (i + 1) = items.take i ++ [items[i]] := by rw [List.take_add_one, List.getElem?_eq_getElem hi1]; rfl
    have hpl : (items[i]).1.length ≤ 8 := hi _ (List.getElem_mem hi1)
    generalize items[i] = q at hDv htake hpl
    have hDv2 := hDv
    obtain ⟨T, t1, t2, k9, rfl, hT⟩ := pair_obj hDv
    replace hT := hs _ hT
    walk_at "m_steps"
    · have hc : (Txt.lower q.1 == Txt.lower x) = false := by first | assumption | (simp only [bne, Bool.not_eq_true'] at *; assumption)
      refine LCg.CompEnd.intro (by k_asm) (by k_asm) _ (fun q hq => hq) o3 (srcAt_of (List.mem_cons_of_mem _ List.mem_cons_self)) ⟨rfl, by rw [List.length_append, List.length_singleton]; omega, ?_⟩
      rw [htake, List.filter_append, List.map_append]
      refine hI.append ?_
      rw [List.filter_cons_of_pos (by rw [hc]; rfl)]
      exact .cons hDv2 .nil
    · have hc : (Txt.lower q.1 == Txt.lower x) = true := by first | assumption | (simp only [bne, Bool.not_eq_false'] at *; assumption)
      refine LCg.CompEnd.intro (by k_asm) (by k_asm) _ (fun q hq => hq) o3 (srcAt_of (List.mem_cons_of_mem _ List.mem_cons_self)) ⟨rfl, by omega, ?_⟩
      rw [htake, List.filter_append, List.filter_cons_of_neg (by rw [hc]; exact Bool.false_ne_true), List.filter_nil, List.append_nil]
      exact hI
  case fin =>
    rintro ys ⟨hlen, hI⟩
    intro D h tk9 F1 N1 o1
    walk_at "m_steps"
    have hl2 : vs.length = items.length := by rw [hD.length, List.length_map]
    rw [hl2, List.take_length] at hI
    simp only [LCg.Off1] at o1
    k_dflt refine' setItem_all ?c1 ?c2 ?c3 ?c4 ?c5 ?c6 ?_
    (case c1 => k_asm)
    (case c2 => k_asm)
    (case c3 => exact List.mem_cons_self)
    (case c4 => k_updF)
    (case c5 => k_ne)
    (case c6 => walk_at "m_size")
    intro h9 e9 F9 N9
    dsimp only
    walk_at "m_steps"
    refine hret _ _ _ _ (by k_asm) (news_tail (news_tail (by k_asm))) ⟨ys, e9, rfl, hI, by rw [hl2]; rw [hl2] at hlen; exact hlen⟩
end
theorem rest_11 : True := by
  w_top off
  try walk1
  first | done | exact True.intro
set_option hygiene false in
local macro_rules | `(tactic| walk_at "call ref") => `(tactic| (k_here; (with_reducible show wpAny _ _ (call (Value.ref 102) [_, Value.str _ _] _) _ _ _); k_dflt (refine' Run.use (delitem_run ?c1 ?c2 ?m1 ?m2 ?c3 ?cs ?c4 ?c5 ?c6) ?k1 ?k2 ?k3 ?k4 ?k5 ?kK ?kd ?ku ?_); walk_at "m_use"; (case c4 => assumption); (case cs => assumption); (case c1 => assumption); (case c2 => first | assumption | omega); (case m1 => k_mem); (case m2 => k_mem); (case c3 => assumption); (case c5 => assumption); (case c6 => first | assumption | omega); intro r9 h9 tk9 news9 F9 N9 P9; obtain ⟨vs9, e9, q9, D9, l9⟩ := P9; subst news9; (try k_sweep)))
section
set_option maxRecDepth 100000 in
set_option maxHeartbeats 8000000 in
theorem setitem_run {w : World} {p : Program} {loose : List Str} {mean : ExcName → Option Value} {mg mb : Str → Option Value} {x y : Str} {t u tk : Tok} {xa dx hl : Addr} {n e : Nat} {vs : List Value} {items : List (Str × Str)} {rest base0 : List (Addr × Obj)} (hx : NotIn 48 (Txt.lower x)) (hxn : NotIn 48 x) (hyn : NotIn 53 y) (hxl : x.length ≤ 8)
     (m1 : (xa, instObj 184 dx) ∈ rest) (m2 : (dx, dictOf (hdrEs w tk hl) n) ∈ rest) (hr : ∀ q ∈ rest, q.1 ≠ hl) (hs : ∀ q ∈ base0, q ∈ rest) (hD : DatAll base0 vs (items.map hdr2)) (hi : ∀ p ∈ items, p.1.length ≤ 8) (hz : vs.length ≤ 60)
     : Run w p loose mean mg mb 3 24 97 [.ref xa, .str x t, .str y u] [] ((hl, W.listOf vs.toArray e) :: rest) (fun _ news' => ∃ q vs' e', news' = (hl, W.listOf vs'.toArray e') :: q :: rest ∧ q.1 ≠ hl ∧ (∀ p ∈ rest, p.1 ≠ q.1) ∧ DatAll (q :: base0) vs' (((items.filter fun p => !(Txt.lower p.1 == Txt.lower x)) ++ [(x, y)]).map hdr2) ∧ vs'.length ≤ vs.length + 1) := by
  walk_at "m_enter"
  walk_at "m_steps"
  rename News _ _ _ (_ :: (hl, _) :: rest) => Nz
  rename hl < _ ∧ AllLt _ rest => lz
  refine hret _ _ _ _ (by k_asm) (news_swap Nz) ⟨_, vs9 ++ [_], _, by rw [List.push_toArray], ?_, fun q hq => Nat.ne_of_lt (tb_ltOf lz.2 q hq), ?_, by rw [List.length_append, List.length_singleton]; omega⟩
  · exact Nat.ne_of_gt lz.1
  · rw [List.map_append]
    exact (D9.mono fun q hq => List.mem_cons_of_mem _ hq).append (.cons (.tuple List.mem_cons_self (.cons (.str _ _) (.cons (.str _ _) .nil))) .nil)
end
theorem rest_12 : True := by
  w_top off
  try walk1
  first | done | exact True.intro
section
set_option maxRecDepth 100000 in
set_option maxHeartbeats 8000000 in
theorem new_run {w : World} {p : Program} {loose : List Str} {mean : ExcName → Option Value} {mg mb : Str → Option Value} {hl : Addr} {e : Nat} {vs : List Value} {items : List (Str × Str)} {rest : List (Addr × Obj)}
     (m3 : (hl, W.listOf vs.toArray e) ∈ rest) (hD : DatAll rest vs (items.map hdr2)) (hi : ∀ p ∈ items, NotIn 48 p.1 ∧ NotIn 53 p.2)
     : Run w p loose mean mg mb 4 24 184 [.ref hl] [] rest (fun r news' => ∃ xa dx tk, r = .ref xa ∧ news' = (xa, instObj 184 dx) :: (dx, dictOf (hdrEs w tk hl) 1) :: rest ∧ (∀ q ∈ rest, q.1 < dx) ∧ @LT.lt Nat _ dx xa) := by
  delta Run; k_fill; intro dp un gd cn cs a ccd cl outer A₀ base h₀ L m s Q E B F X N T hk hd hu hret
  k_dflt (refine' call_cls ?k1 ?k2 ?k3 ?k4 ?k5 ?k6 ?_; (case k1 => k_asm); (case k2 => k_asm); (case k3 => k_asm); (case k4 => k_is); (case k5 => k_is); (case k6 => k_is); k_whole; intro xa dx h' F' N' hrest l2; replace l2 := ltN l2)
  k_dflt (refine' code_def ?k1 ?k2 ?k3 ?k4 ?k5 ?kA ?kF ?kK ?k6 ?k7 ?k8 ?k9 ?kB ?_ ?c2 ?c3 ?c4 ?c5; (case kA => exact rfl); (case kF => exact rfl); (case kK => assumption); (case k1 => k_asm); (case k2 => k_asm); (case k3 => k_asm); (case k4 => k_asm); (case k5 => k_asm); (case k6 => k_is); (case k7 => k_is); (case k8 => ktr_room); (case k9 => first | exact BindsTo.of_eq rfl | exact binds_K (by k_in) rfl (by k_is) rfl rfl rfl); (case c5 => decide); (case kB => exact locs rfl); (case c2 => exact rfl); (case c3 => exact rfl); (case c4 => exact rfl); k_whole; intro g' L' h' FG' F' N' B' X' T'; (try dsimp only); (try k_lift B'); (try k_fold))
  walk_at "m_steps"
  rename Fr _ _ _ _ => lF'
  rename News _ _ _ (_ :: _ :: rest) => lN'
  (with_unfolding_all refine' For_turns lF' ?_)
  k_whole
  walk_at "m_steps"
  refine for_pairs (fun _ => True) rfl (by k_asm) lN' (List.mem_cons_of_mem _ (List.mem_cons_of_mem _ m3)) (hD.mono fun q hq => List.mem_cons_of_mem _ (List.mem_cons_of_mem _ hq)) rfl rfl rfl trivial ?turn ?done
  case turn =>
    intro pre p post t1 t2 h tk I o he hP ho hI F2 N2
    obtain ⟨hp1, hp2⟩ := hi p (by rw [he]; simp)
    walk_at "m_steps"
    refine ⟨_, _, rfl, by k_asm, by k_asm, trivial⟩
  case done =>
    intro u h tk hP F2 N2
    walk_at "m_steps"
    refine hret _ _ _ _ (by k_asm) (by k_asm) ⟨_, _, _, rfl, rfl, hrest, l2⟩
end
theorem rest_13 : True := by
  w_top off
  try walk1
  first | done | exact True.intro
set_option hygiene false in
local macro_rules | `(tactic| walk_at "call ref") => `(tactic| (k_here; (with_reducible show wpAny _ _ (call (Value.ref 184) [Value.ref _] _) _ _ _); k_dflt (refine' Run.use (new_run ?m3 ?c1 ?c2) ?k1 ?k2 ?k3 ?k4 ?k5 ?kK ?kd ?ku ?_); walk_at "m_use"; (case m3 => k_mem); (case c1 => assumption); (case c2 => assumption); intro r9 h9 tk9 news9 F9 N9 P9; obtain ⟨xa9, dx9, tk9, q9, q8, b9, b8⟩ := P9; subst news9; subst r9; (try k_sweep)))
section
theorem news_sub {h₀ h : Heap} {L : Addr} {l l' : List (Addr × Obj)} (N : News h₀ L h l) (hs : ∀ p ∈ l', p ∈ l) : News h₀ L h l' := fun p hp => N p (hs p hp)
def vlS (n : Int) : Str := Str.ofString "#" ++ Str.ofString (toString n)
abbrev hp2 (c : Int × Int) : Str × Str := (nmS c.1 c.2, vlS c.1)
theorem comp_sub4 {a b c d : Addr × Obj} {l : List (Addr × Obj)} : ∀ p ∈ b :: c :: d :: a :: l, p ∈ a :: b :: c :: d :: l := by
  intro p hp
  simp only [List.mem_cons] at hp ⊢
  rcases hp with h | h | h | h | h <;> simp [h]
set_option maxRecDepth 100000 in
set_option maxHeartbeats 8000000 in
theorem seen_run {w : World} {p : Program} {loose : List Str} {mean : ExcName → Option Value} {mg mb : Str → Option Value} {ca : Addr} {e : Nat} {vs : List Value} {crd : List (Int × Int)} {news : List (Addr × Obj)}
     (m3 : (ca, W.listOf vs.toArray e) ∈ news) (hD : DatAll news vs (crd.map card2)) (hc : ∀ c ∈ crd, 0 ≤ c.1 ∧ c.1 < 6) (hz : vs.length ≤ 60)
     : Run w p loose mean mg mb 2 24 214 [.ref ca] [] news (fun r news' => ∃ a ys k tl, r = .ref a ∧ news' = (a, W.listOf ys.toArray k) :: (tl ++ news) ∧ ys.length = vs.length ∧ (∀ t ∈ tl, ∀ q ∈ news, q.1 ≠ t.1) ∧ (∀ q ∈ tl ++ news, q.1 ≠ a) ∧ DatAll tl ys ((crd.map hp2).map hdr2)) := by
  walk_at "m_enter"
  walk_at "m_steps"
  k_dflt (refine LCp.ListComp_P (F₀ := by k_asm) (by with_unfolding_all rfl) (by decide) (by rfl) (by decide) (by rfl) (by rfl) (by decide) ?_)
  walk_at "m_steps"
  obtain ⟨prs, hP, hS⟩ := intPrs_of hD
  refine LCp.SrcLP.ledger (by rfl) (by k_asm) (by k_asm) m3 (by walk_at "m_size") fun g => ?_
  rw [List.size_toArray]
  refine comp_inv (fun i ys nw => ∃ tl, nw = tl ++ news ∧ ys.length = i ∧ (∀ t ∈ tl, ∀ q ∈ news, q.1 ≠ t.1) ∧ DatAll tl ys (((crd.take i).map hp2).map hdr2)) hP (fun _ _ _ h q hq => by obtain ⟨tl, rfl, _⟩ := h; exact List.mem_append_right _ hq) ?_ ?_ vs.length 0 [] news (by omega) ⟨[], rfl, rfl, fun _ h => (nomatch h), .nil⟩
  · rintro i ys nw v₁ v₂ I oI C oC D m₂ h tk9 E' ⟨tl, e1, hlen, hap, hY⟩ hp hC h1 h2 F1 N1 o3 hne
    subst nw
    obtain ⟨q, t, u, hq, rfl, rfl⟩ := hS.get hp
    have hcq := hc q (List.mem_of_getElem? hq)
    walk_at "m_steps"
    show LCg.CompEnd _ _ _ _ _ _ _ _ _ _ _ _ _ _
    rename News _ _ _ (_ :: (I, _) :: _) => Nz
    rename I < _ ∧ C < _ ∧ D < _ ∧ AllLt _ _ => lz
    obtain ⟨z1, z2, z3, z4⟩ := lz
    refine LCg.CompEnd.intro (by k_asm) Nz (_ :: (tl ++ news)) comp_sub4 ⟨⟨Nat.ne_of_gt z1, Nat.ne_of_gt z2, Nat.ne_of_gt z3⟩, o3⟩ (srcAt_of (List.mem_cons_of_mem _ (List.mem_append_right _ m3))) ⟨_ :: tl, rfl, by rw [List.length_append, hlen]; rfl, ?_, ?_⟩
    · intro t' ht q' hq'
      rcases List.mem_cons.mp ht with rfl | ht
      · exact Nat.ne_of_lt (tb_ltOf z4 q' (List.mem_append_right _ hq'))
      · exact hap t' ht q' hq'
    · rw [List.take_add_one, hq, List.map_append, List.map_append]
      exact (hY.mono fun q' hq' => List.mem_cons_of_mem _ hq').append (.cons (.tuple List.mem_cons_self (.cons (.str _ _) (.cons (.str _ _) .nil))) .nil)
  · rintro ys nw ⟨tl, e1, hlen, hap, hY⟩
    subst nw
    intro D h tk9 F1 N1 o1
    walk_at "m_steps"
    have hl2 : vs.length = crd.length := by rw [hD.length, List.length_map]
    rw [hl2, List.take_length] at hY
    exact hret _ _ _ _ (by k_asm) (by k_asm) ⟨_, _, _, _, rfl, rfl, hlen, hap, off1_at o1, hY⟩
end
theorem rest_14 : True := by
  w_top off
  try walk1
  first | done | exact True.intro
section
theorem six {n : Int} (h : 0 ≤ n ∧ n < 6) : n = 0 ∨ n = 1 ∨ n = 2 ∨ n = 3 ∨ n = 4 ∨ n = 5 := by omega
theorem nmS_up {n u : Int} (h : u ≠ 0) : nmS n u = nmS n 1 := by unfold nmS; rw [if_neg h, if_neg (by decide)]
theorem nmS_lower {n u : Int} (h : 0 ≤ n ∧ n < 6) : Txt.lower (nmS n u) = nmS n 0 := by
  by_cases hu : u = 0
  · subst hu
    rcases six h with rfl | rfl | rfl | rfl | rfl | rfl <;> decide +kernel
  · rw [nmS_up hu]
    rcases six h with rfl | rfl | rfl | rfl | rfl | rfl <;> decide +kernel
theorem nmS_len {n u : Int} (h : 0 ≤ n ∧ n < 6) : (nmS n u).length ≤ 8 := by
  by_cases hu : u = 0
  · subst hu
    rcases six h with rfl | rfl | rfl | rfl | rfl | rfl <;> decide +kernel
  · rw [nmS_up hu]
    rcases six h with rfl | rfl | rfl | rfl | rfl | rfl <;> decide +kernel
def codeOf (x : Str) : Nat := x.cps.getD 0 0
theorem nmS_code {n : Int} (h : 0 ≤ n ∧ n < 6) : (codeOf (nmS n 0) : Int) = 97 + n := by
  rcases six h with rfl | rfl | rfl | rfl | rfl | rfl <;> decide +kernel
theorem nmS_inj {n m : Int} (hn : 0 ≤ n ∧ n < 6) (hm : 0 ≤ m ∧ m < 6) (e : nmS n 0 = nmS m 0) : n = m := by
  have a := nmS_code hn
  have b := nmS_code hm
  rw [e] at a
  omega
theorem nm_beq {n m u v : Int} (hn : 0 ≤ n ∧ n < 6) (hm : 0 ≤ m ∧ m < 6) : (Txt.lower (nmS n u) == Txt.lower (nmS m v)) = decide (n = m) := by
  rw [nmS_lower hn, nmS_lower hm]
  by_cases h : n = m
  · subst h; simp
  · rw [decide_eq_false h]
    exact beq_eq_false_iff_ne.mpr fun e => h (nmS_inj hn hm e)
set_option maxRecDepth 100000 in
theorem nm_clean {n u : Int} (h : 0 ≤ n ∧ n < 6) : NotIn 48 (nmS n u) := by
  by_cases hu : u = 0
  · subst hu
    rcases six h with rfl | rfl | rfl | rfl | rfl | rfl <;> (intro w t; kernel_rfl)
  · rw [nmS_up hu]
    rcases six h with rfl | rfl | rfl | rfl | rfl | rfl <;> (intro w t; kernel_rfl)
theorem nml_clean {n u : Int} (h : 0 ≤ n ∧ n < 6) : NotIn 48 (Txt.lower (nmS n u)) := by
  rw [nmS_lower h]; exact nm_clean h
set_option maxRecDepth 100000 in
theorem vl_clean {n : Int} (h : 0 ≤ n ∧ n < 6) : NotIn 53 (vlS n) := by
  rcases six h with rfl | rfl | rfl | rfl | rfl | rfl <;> (intro w t; kernel_rfl)

/-- a deck's cards: numbers in bounds, each once -/
def Okc (crd : List (Int × Int)) : Prop := (∀ c ∈ crd, 0 ≤ c.1 ∧ c.1 < 6) ∧ (crd.map (·.1)).Nodup
theorem filter_all {c : Int × Int} {crd : List (Int × Int)} (hc : 0 ≤ c.1 ∧ c.1 < 6) (hb : ∀ d ∈ crd, 0 ≤ d.1 ∧ d.1 < 6) (hn : ∀ d ∈ crd, d.1 ≠ c.1) (v : Int) :
    (crd.map hp2).filter (fun p => !(Txt.lower p.1 == Txt.lower (nmS c.1 v))) = crd.map hp2 := by
  rw [List.filter_eq_self]
  intro p hp
  obtain ⟨d, hd, rfl⟩ := List.mem_map.mp hp
  show (!(Txt.lower (nmS d.1 d.2) == Txt.lower (nmS c.1 v))) = true
  rw [nm_beq (hb d hd) hc, decide_eq_false (hn d hd)]
  rfl
theorem filter_at {c : Int × Int} {pre post : List (Int × Int)} (h : Okc (pre ++ c :: post)) (v : Int) :
    ((pre ++ c :: post).map hp2).filter (fun p => !(Txt.lower p.1 == Txt.lower (nmS c.1 v))) = (pre ++ post).map hp2 := by
  obtain ⟨hb, hn⟩ := h
  have hc := hb c (by simp)
  rw [List.map_append, List.map_cons] at hn
  have hn1 : ∀ d ∈ pre, d.1 ≠ c.1 := fun d hd e => (List.nodup_append.mp hn).2.2 _ (List.mem_map_of_mem hd) _ List.mem_cons_self e
  have hn2 : ∀ d ∈ post, d.1 ≠ c.1 := fun d hd e => (List.nodup_cons.mp (List.nodup_append.mp hn).2.1).1 (e ▸ List.mem_map_of_mem hd)
  rw [List.map_append, List.map_cons, List.filter_append, filter_all hc (fun d hd => hb d (by simp [hd])) hn1, List.filter_cons_of_neg, filter_all hc (fun d hd => hb d (by simp [hd])) hn2, List.map_append]
  show ¬ (!(Txt.lower (nmS c.1 c.2) == Txt.lower (nmS c.1 v))) = true
  rw [nm_beq hc hc, decide_eq_true rfl]
  decide
theorem find_at {c : Int × Int} {pre post : List (Int × Int)} (h : Okc (pre ++ c :: post)) (v : Int) :
    ((pre ++ c :: post).map hp2).find? (fun p => Txt.lower p.1 == Txt.lower (nmS c.1 v)) = some (hp2 c) := by
  obtain ⟨hb, hn⟩ := h
  have hc := hb c (by simp)
  rw [List.map_append, List.map_cons] at hn
  have hn1 : ∀ d ∈ pre, d.1 ≠ c.1 := fun d hd e => (List.nodup_append.mp hn).2.2 _ (List.mem_map_of_mem hd) _ List.mem_cons_self e
  rw [List.map_append, List.map_cons, List.find?_append, List.find?_eq_none.mpr, Option.none_or, List.find?_cons_of_pos]
  · show (Txt.lower (nmS c.1 c.2) == Txt.lower (nmS c.1 v)) = true
    rw [nm_beq hc hc, decide_eq_true rfl]
  · intro p hp
    obtain ⟨d, hd, rfl⟩ := List.mem_map.mp hp
    show ¬ (Txt.lower (nmS d.1 d.2) == Txt.lower (nmS c.1 v)) = true
    rw [nm_beq (hb d (by simp [hd])) hc, decide_eq_false (hn1 d hd)]
    exact Bool.false_ne_true
theorem Okc.perm {l l' : List (Int × Int)} (h : Okc l) (p : (l'.map (·.1)).Perm (l.map (·.1))) : Okc l' := by
  refine ⟨fun c hc => ?_, p.nodup_iff.mpr h.2⟩
  obtain ⟨d, hd, e⟩ := List.mem_map.mp (p.mem_iff.mp (List.mem_map_of_mem hc))
  rw [← e]
  exact h.1 d hd
theorem okc_turn1 {c d : Int × Int} {crd : List (Int × Int)} (h : Okc (c :: d :: crd)) (v : Int) : Okc (c :: (crd ++ [(d.1, v)])) := by
  refine h.perm ?_
  simp only [List.map_cons, List.map_append, List.map_nil]
  exact List.Perm.cons _ (List.perm_append_singleton _ _)
theorem okc_turn2 {c d : Int × Int} {crd : List (Int × Int)} (h : Okc (c :: d :: crd)) (v u : Int) : Okc (crd ++ [(d.1, v), (c.1, u)]) := by
  refine h.perm ?_
  simp only [List.map_cons, List.map_append, List.map_nil]
  exact (List.perm_append_comm).trans (List.Perm.swap _ _ _)
theorem okc_cut {c : Int × Int} {crd : List (Int × Int)} (h : Okc (c :: crd)) : Okc (crd ++ [c]) := by
  refine h.perm ?_
  simp only [List.map_cons, List.map_append, List.map_nil]
  exact List.perm_append_singleton _ _
end
theorem rest_15 : True := by
  w_top off
  try walk1
  first | done | exact True.intro
section
def DeckPost (hl : Addr) (rest : List (Addr × Obj)) (crd : List (Int × Int)) (r : Value) (news' : List (Addr × Obj)) : Prop :=
  ∃ tl vs' e' ca' cvs' k', news' = (hl, W.listOf (List.toArray vs') e') :: (tl ++ rest) ∧ r = .ref ca' ∧ (∀ t ∈ tl, t.1 ≠ hl ∧ ∀ q ∈ rest, q.1 ≠ t.1) ∧ DatAll (tl ++ rest) vs' ((crd.map hp2).map hdr2) ∧ (ca', W.listOf (List.toArray cvs') k') ∈ tl ++ rest ∧ DatAll (tl ++ rest) cvs' (crd.map card2)
theorem hp_len {crd : List (Int × Int)} (h : ∀ c ∈ crd, 0 ≤ c.1 ∧ c.1 < 6) : ∀ p ∈ crd.map hp2, p.1.length ≤ 8 := fun p hp => by
  obtain ⟨d, hd, rfl⟩ := List.mem_map.mp hp
  exact nmS_len (h d hd)
theorem news_two {h₀ h : Heap} {L : Addr} {a b c d e : Addr × Obj} {news : List (Addr × Obj)} (N : News h₀ L h (a :: b :: c :: d :: e :: news)) : News h₀ L h (d :: a :: e :: news) := fun p hp => by
  refine N p ?_
  simp only [List.mem_cons] at hp ⊢
  rcases hp with h | h | h | h <;> simp [h]
set_option maxRecDepth 100000 in
set_option maxHeartbeats 8000000 in
theorem cut_run {w : World} {p : Program} {loose : List Str} {mean : ExcName → Option Value} {mg mb : Str → Option Value} {tk : Tok} {xa dx hl ca : Addr} {n e k : Nat} {vs cvs : List Value} {c : Int × Int} {crd : List (Int × Int)} {rest : List (Addr × Obj)}
     (m1 : (xa, instObj 184 dx) ∈ rest) (m2 : (dx, dictOf (hdrEs w tk hl) n) ∈ rest) (m3 : (ca, W.listOf cvs.toArray k) ∈ rest) (hr : ∀ q ∈ rest, q.1 ≠ hl) (hD : DatAll rest vs (((c :: crd).map hp2).map hdr2)) (hC : DatAll rest cvs ((c :: crd).map card2)) (hok : Okc (c :: crd)) (hz : crd.length ≤ 40)
     : Run w p loose mean mg mb 5 60 221 [.ref xa, .ref ca] [] ((hl, W.listOf vs.toArray e) :: rest) (DeckPost hl rest (crd ++ [c])) := by
  have hlv : vs.length ≤ 41 := by rw [hD.length]; simp; omega
  have hlc : cvs.length ≤ 41 := by rw [hC.length]; simp; omega
  cases hD with
  | @cons v0 vr _ _ hd0 hDr =>
  cases hC with
  | @cons w0 wr _ _ hc0 hCr =>
  obtain ⟨T, t1, t2, k9, rfl, hT⟩ := pair_obj hd0
  have hc6 := hok.1 c List.mem_cons_self
  simp only [List.length_cons] at hlv hlc
  walk_at "m_enter"
  walk_at "m_steps"
  k_dflt (refine' Run.use (setitem_run (items := (c :: crd).map hp2) (rest := rest) (nml_clean hc6) (nm_clean hc6) (vl_clean hc6) (nmS_len hc6) m1 m2 hr (fun _ h => h) (.cons hd0 hDr) (hp_len hok.1) ?c1) ?k1 ?k2 ?k3 (news_tail ?k4) ?k5 ?kK ?kd ?ku ?_)
  walk_at "m_use"
  (case c1 => walk_at "m_len")
  intro r9 h9 tk9 news9 F9 N9 P9
  obtain ⟨q, vs', e', rfl, hq1, hq2, hD', hl'⟩ := P9
  have hfil := filter_at (pre := []) (c := c) (post := crd) hok c.2
  rw [List.nil_append, List.nil_append] at hfil
  rw [hfil] at hD'
  dsimp only
  walk_at "m_steps"
  rename News _ _ _ (_ :: _ :: _ :: (hl, _) :: q :: rest) => Nz
  rename _ ∧ _ ∧ hl < _ ∧ q.1 < _ ∧ AllLt _ rest => lz
  obtain ⟨-, -, z3, z4, z5⟩ := lz
  refine hret _ _ _ _ (by k_asm) (news_two Nz) ⟨[_, q], vs', e', _, _, _, rfl, rfl, ?_, ?_, List.mem_cons_self, ?_⟩
  · intro t ht
    rcases List.mem_cons.mp ht with rfl | ht
    · exact ⟨Nat.ne_of_gt z3, fun r hr' => Nat.ne_of_lt (tb_ltOf z5 r hr')⟩
    · rw [List.mem_singleton.mp ht]
      exact ⟨hq1, hq2⟩
  · rw [List.map_append]
    exact hD'.mono fun r hr' => List.mem_cons_of_mem _ hr'
  · rw [List.map_append]
    exact (DatAll.mono (fun r hr' => List.mem_cons_of_mem _ (List.mem_cons_of_mem _ hr')) hCr).append (.cons (DatIn.mono (fun r hr' => List.mem_cons_of_mem _ (List.mem_cons_of_mem _ hr')) hc0) .nil)
theorem news_rot {h₀ h : Heap} {L : Addr} {a b c : Addr × Obj} {news : List (Addr × Obj)} (N : News h₀ L h (a :: b :: c :: news)) : News h₀ L h (c :: a :: b :: news) := fun p hp => by
  refine N p ?_
  simp only [List.mem_cons] at hp ⊢
  rcases hp with h | h | h | h <;> simp [h]
theorem news_rot4 {h₀ h : Heap} {L : Addr} {a b c d : Addr × Obj} {news : List (Addr × Obj)} (N : News h₀ L h (a :: b :: c :: d :: news)) : News h₀ L h (b :: a :: c :: d :: news) := fun p hp => by
  refine N p ?_
  simp only [List.mem_cons] at hp ⊢
  rcases hp with h | h | h | h | h <;> simp [h]
end
theorem rest_16 : True := by
  w_top off
  try walk1
  first | done | exact True.intro
section
section
variable {prog : Program} {w : World} {A : Around} {E : Value → Shared → Prop} {h₀ : Heap} {L : Addr} {m : Str → Option Value} {env : Env}
/-- an element is reckoned: objects are only added to the ledger -/
def AddEnd (h₀ : Heap) (L : Addr) (m : Str → Option Value) (s₁ : Shared) (led : List (Addr × Obj)) (R : Value → List (Addr × Obj) → Prop) (y : Value) (s₂ : Shared) : Prop :=
  ∃ h' tk add, s₂ = { s₁ with heap := h', toks := tk } ∧ Fr h₀ L h' m ∧ News h₀ L h' (add ++ led) ∧ (∀ a ∈ add, ∀ q ∈ led, q.1 ≠ a.1) ∧ R y add

theorem comp_turns {elt iter : PySem.Expr} {elts : List PySem.Expr} {kk : Nat} {tp : Pos} {scope : Scope} {cl : List (Str × Addr)} {pos : Pos} {s₂ : Shared} {I : Addr} {fp wr : List Addr} {n : Nat} {P Md : Nat → Value → Heap → Prop} {St : Nat → Heap → Prop} {news : List (Addr × Obj)} {Q : Value → Shared → Prop}
    (W : KTurns prog w A (.Tuple elts kk tp) I fp wr n P Md St) (Got : Nat → (Str → Option Value) → Prop) (Inv : Nat → List Value → List (Addr × Obj) → Prop)
    (hself : ∀ (Q : Value → Shared → Prop) (E : Value → Shared → Prop) (s : Shared), St 0 s.heap → Q (.ref I) s → wpAny (model prog w) A (pyIter (.ref I)) Q E s)
    (hsz : n ≤ sizeLine) (hcell : ∀ y ∈ scope.names, y.2 ≠ .cell) (hkind : scope.kind = .function)
    (hst : St 0 s₂.heap) (hfp : ∀ b ∈ fp, b < s₂.heap.objs.size) (hfo : ∀ b ∈ fp, b ∈ wr ∨ ∃ o, (b, o) ∈ news) (hwo : ∀ i h, St i h → ∀ b ∈ wr, ∃ o, h.get? b = some o)
    (hwr : ∀ b ∈ wr, h₀.get? b = none) (hLw : L ∉ wr) (hnw : ∀ p ∈ news, p.1 ∉ wr) (F : Fr h₀ L s₂.heap m) (N : News h₀ L s₂.heap news) (h0 : Inv 0 [] news)
    (hkeep : ∀ i ys nw, Inv i ys nw → ∀ p ∈ news, p ∈ nw)
    (asg : ∀ i v h tk C m' (Q' : Unit → Shared → Prop) (E' : Value → Shared → Prop), i < n → P i v h → (∀ p ∈ news, h.get? p.1 = some p.2) → h.Ns C m' →
      (∀ h' tk' m'', h'.Ns C m'' → Got i m'' → (∀ b o, b ≠ C → h.get? b = some o → h'.get? b = some o) → Q' () { s₂ with heap := h', toks := tk' }) →
      wpAny (model prog w) A (assign (.Tuple elts kk tp) (compEnvC scope cl C env) v) Q' E' { s₂ with heap := h, toks := tk })
    (step : ∀ i ys nw own C oC D m₂ h tk (E' : Value → Shared → Prop), i < n → Inv i ys nw → Got i m₂ → LCg.NsObj oC m₂ → Fr h₀ L h m → News h₀ L h ((C, oC) :: (D, LCg.lst ys) :: (nw ++ own)) →
      wpAny (model prog w) A (eval elt (compEnvC scope cl C env)) (AddEnd h₀ L m { s₂ with heap := h, toks := tk } ((C, oC) :: (D, LCg.lst ys) :: (nw ++ own)) (fun y add => Inv (i + 1) (ys ++ [y]) (add ++ nw))) E' { s₂ with heap := h, toks := tk })
    (fin : ∀ D h tk ys nw, Inv n ys nw → Fr h₀ L h m → News h₀ L h ((D, LCg.lst ys) :: nw) → (∀ p ∈ nw, p.1 ≠ D) → Q (.ref D) { s₂ with heap := h, toks := tk }) :
    wpAny (model prog w) A (newList []) (fun acc s₃ => wpAny (model prog w) A (newFunctionEnv scope env.globals cl [] env.qual none .none (some env)) (fun cenv s₄ =>
      codeAny (model prog w) A (.compStart (.ListComp elt [⟨.Tuple elts kk tp, iter, [], 0⟩] scope pos) 0 (.ref I) acc { cenv with scope := relabel scope env }) (compPost (model prog w) A E none Q acc cenv.locals) s₄) E s₃) E s₂ := by
  refine wpAny_newObj_type (wpAny_newFunctionEnv hcell (by intro y hy; simp at hy) (fun h₁ hns hsb => ?_) hkind)
  dsimp only at hns hsb ⊢
  generalize hB : s₂.heap.push { cls := .type "list", dict := none, data := .seq ([] : List Value).toArray } = B at hns hsb ⊢
  generalize hCe : B.objs.size = C at hns hsb ⊢
  generalize hDe : s₂.heap.objs.size = D at *
  have hCD : C = D + 1 := by rw [← hCe, ← hB, Heap.size_push, hDe]
  have up : ∀ b o, s₂.heap.get? b = some o → h₁.get? b = some o := fun b o e => by
    have hb : b < s₂.heap.objs.size := Heap.lt_size e
    refine hsb.extBut b o ?_ (Heap.get?_push_of_some _ (hB ▸ Heap.get?_push_of_some _ e))
    rw [hCD]
    rw [hDe] at hb
    exact Nat.ne_of_lt (Nat.lt_succ_of_lt hb)
  have nD : D ≠ C := by rw [hCD]; exact Nat.ne_of_lt (Nat.lt_succ_self _)
  have hacc : h₁.get? D = some (LCg.lst []) := by
    have e : B.get? D = some (LCg.lst []) := by rw [← hB, ← hDe]; exact Heap.get?_push_size _ rfl
    exact hsb.extBut D _ nD (Heap.get?_push_of_some _ e)
  have none₀ : ∀ a, D ≤ a → h₀.get? a = none := fun a ha => by
    cases e : h₀.get? a with
    | none => rfl
    | some o' =>
      have := Heap.lt_size (F.keep a o' e)
      rw [hDe] at this
      exact absurd this (Nat.not_lt.mpr ha)
  have hD₀ := none₀ D (Nat.le_refl _)
  have hC₀ := none₀ C (by rw [hCD]; exact Nat.le_succ _)
  have ltD : ∀ b, b < D → b ≠ C ∧ b ≠ D := fun b hb => ⟨by rw [hCD]; exact Nat.ne_of_lt (Nat.lt_succ_of_lt hb), Nat.ne_of_lt hb⟩
  have fpC : ∀ b ∈ fp, b ≠ C := fun b hb => (ltD b (hfp b hb)).1
  have fpD : ∀ b ∈ fp, b ≠ D := fun b hb => (ltD b (hfp b hb)).2
  have wrC : C ∉ wr := fun hb => fpC C (W.sub C hb) rfl
  have wrD : D ∉ wr := fun hb => fpD D (W.sub D hb) rfl
  have hLt : L < D := hDe ▸ F.ns.lt
  have hCL : C ≠ L := fun e => (ltD L hLt).1 e.symm
  have hDL : D ≠ L := fun e => (ltD L hLt).2 e.symm
  have newsLt : ∀ p ∈ news, p.1 < D := fun p hp => hDe ▸ Heap.lt_size (N p hp).1
  have loop : ∀ s₃ : Shared, s₃ = { s₂ with heap := h₁, toks := s₂.toks + ([] : List (Str × Value)).length } →
      codeAny (model prog w) A (.compLoop (.ListComp elt [⟨.Tuple elts kk tp, iter, [], 0⟩] scope pos) 0 (.ref I) (.ref D) (compEnvC scope cl C env)) (compPost (model prog w) A E none Q (.ref D) C) s₃ := by
    rintro s₃ rfl
    refine LCp.codeAny_compLoop_pair (fun k s' => ∃ h' tk i ys m' nw, s' = { s₂ with heap := h', toks := tk } ∧ i ≤ n ∧ k = n + 1 - i ∧ ys.length = i ∧ St i h' ∧ Fr h₀ L h' m ∧ h'.Ns C m' ∧ News h₀ L h' ((D, LCg.lst ys) :: nw) ∧ (∀ p ∈ nw, p.1 ≠ C ∧ p.1 ≠ D ∧ p.1 ∉ wr) ∧ Inv i ys nw) ?_ (n + 1)
      ⟨h₁, _, 0, [], _, news, rfl, Nat.zero_le _, rfl, rfl, W.frame _ _ _ hst (fun b _ o e => up b o e), F.keeps up, hns, ?_, fun p hp => ⟨(ltD _ (newsLt p hp)).1, (ltD _ (newsLt p hp)).2, hnw p hp⟩, h0⟩
    · rintro k s' ⟨h', tk, i, ys, m', nw, rfl, hi, rfl, hyl, hst', F', hn', N', off, hI⟩
      have Nnw : News h₀ L h' nw := fun p hp => N' p (List.mem_cons_of_mem _ hp)
      have offw : ∀ b o, h₀.get? b = some o → b ∉ wr := fun b o e hb => by rw [hwr b hb] at e; cases e
      by_cases hlt : i < n
      · refine W.item i _ _ _ hlt hst' fun v h₂ tk₂ hMd hk₂ => ?_
        dsimp only
        refine W.go i v _ _ _ hMd fun h₃ hP hst₃ hk₃ => ?_
        have hk : ∀ b o, b ∉ wr → h'.get? b = some o → h₃.get? b = some o := fun b o hb e => hk₃ b o hb (hk₂ b o hb e)
        have N₃ : ∀ p ∈ nw, h₃.get? p.1 = some p.2 := fun p hp => hk _ _ (off p hp).2.2 (Nnw p hp).1
        refine asg i v h₃ _ C m' _ _ hlt hP (fun p hp => N₃ p (hkeep _ _ _ hI p hp)) (hn'.at' fun o e => hk C o wrC e) fun h₄ tk₄ m₄ hn₄ hG hk₄ => ?_
        obtain ⟨oC, heC, hoC⟩ := LCg.ns_obj hn₄
        have F₄ : Fr h₀ L h₄ m := ⟨F'.ns.at' fun o e => hk₄ L o (fun e' => hCL e'.symm) (hk L o hLw e), fun b o e => hk₄ b o (fun e' => by rw [e', hC₀] at e; cases e) (hk b o (offw b o e) (F'.keep b o e)), F'.above⟩
        have N₄ : News h₀ L h₄ ((C, oC) :: (D, LCg.lst ys) :: (nw ++ PyProof.Rows.ownOf h₀ wr h₄)) := by
          intro p hp
          rcases List.mem_cons.mp hp with rfl | hp
          · exact ⟨heC, hCL, hC₀⟩
          · rcases List.mem_cons.mp hp with rfl | hp
            · exact ⟨hk₄ _ _ nD (hk _ _ wrD (N' _ List.mem_cons_self).1), hDL, hD₀⟩
            · rcases List.mem_append.mp hp with hp | hp
              · exact ⟨hk₄ _ _ (off p hp).1 (N₃ p hp), (Nnw p hp).2⟩
              · exact news_ownOf hLw p hp
        have hst₄ : St (i + 1) h₄ := W.frame _ _ _ hst₃ fun b hb o e => hk₄ b o (fpC b hb) e
        refine wpAny_mono (step i ys nw _ C oC D m₄ h₄ tk₄ _ hlt hI hG hoC F₄ N₄) (fun y s₅ h₅' => ?_) fun _ _ e => e
        obtain ⟨h₅, tk₅, add, rfl, F₅, N₅, apart, hI₅⟩ := h₅'
        have led : ∀ p ∈ (C, oC) :: (D, LCg.lst ys) :: (nw ++ PyProof.Rows.ownOf h₀ wr h₄), h₅.get? p.1 = some p.2 := fun p hp => (N₅ p (List.mem_append_right _ hp)).1
        have zC := led _ List.mem_cons_self
        have zD := led _ (List.mem_cons_of_mem _ List.mem_cons_self)
        have hst₅ : St (i + 1) h₅ := W.frame _ _ _ hst₄ fun b hb o e => by
          rcases hfo b hb with hw | ⟨o', ho'⟩
          · exact led (b, o) (List.mem_cons_of_mem _ (List.mem_cons_of_mem _ (List.mem_append_right _ (mem_ownOf hw (hwr b hw) e))))
          · have hm' := hkeep _ _ _ hI _ ho'
            have e1 : h₄.get? b = some o' := (N₄ (b, o') (List.mem_cons_of_mem _ (List.mem_cons_of_mem _ (List.mem_append_left _ hm')))).1
            rw [e] at e1
            cases e1
            exact led (b, o) (List.mem_cons_of_mem _ (List.mem_cons_of_mem _ (List.mem_append_left _ hm')))
        refine append_at (hsz := by show ys.toArray.size ≤ sizeLine; rw [List.size_toArray, hyl]; exact Nat.le_trans hi hsz) zD fun h₆ hs₆ hD₆ => ?_
        have off₆ : ∀ p ∈ add ++ nw, p.1 ≠ C ∧ p.1 ≠ D ∧ p.1 ∉ wr := by
          intro p hp
          rcases List.mem_append.mp hp with hp | hp
          · refine ⟨fun e => apart p hp _ List.mem_cons_self e.symm, fun e => apart p hp _ (List.mem_cons_of_mem _ List.mem_cons_self) e.symm, fun hb => ?_⟩
            obtain ⟨o, ho⟩ := hwo _ _ hst₄ _ hb
            exact apart p hp (p.1, o) (List.mem_cons_of_mem _ (List.mem_cons_of_mem _ (List.mem_append_right _ (mem_ownOf hb (hwr _ hb) ho)))) rfl
          · exact off p hp
        refine ⟨n + 1 - (i + 1), by omega, h₆, tk₅, i + 1, ys ++ [y], m₄, add ++ nw, rfl, hlt, rfl, by rw [List.length_append, List.length_singleton, hyl], W.frame _ _ _ hst₅ fun b hb o e => hs₆.extBut b o (fpD b hb) e, F₅.change hs₆ hDL hD₀, ?_, ?_, off₆, hI₅⟩
        · exact (hoC.ns zC).sameBut hs₆ (Ne.symm nD)
        · intro p hp
          rcases List.mem_cons.mp hp with rfl | hp
          · exact ⟨hD₆.trans (congrArg some (LCg.lst_snoc ys y)), hDL, hD₀⟩
          · have q : News h₀ L h₅ (add ++ nw) := fun p hp => by
              rcases List.mem_append.mp hp with hp | hp
              · exact N₅ p (List.mem_append_left _ hp)
              · exact N₅ p (List.mem_append_right _ (List.mem_cons_of_mem _ (List.mem_cons_of_mem _ (List.mem_append_left _ hp))))
            exact ⟨hs₆.extBut _ _ (off₆ p hp).2.1 (q p hp).1, (q p hp).2⟩
      · obtain rfl : i = n := Nat.le_antisymm hi (Nat.not_lt.mp hlt)
        refine W.done _ _ _ hst' fun h₂ tk₂ hk₂ => ?_
        refine ⟨m', hn'.at' fun o e => hk₂ C o wrC e, fun h'' hs'' => ?_⟩
        have F₂ : Fr h₀ L h₂ m := ⟨F'.ns.at' fun o e => hk₂ L o hLw e, fun b o e => hk₂ b o (offw b o e) (F'.keep b o e), F'.above⟩
        refine fin D h'' tk₂ ys nw hI (F₂.change hs'' hCL hC₀) (fun p hp => ?_) fun p hp => (off p hp).2.1
        rcases List.mem_cons.mp hp with rfl | hp
        · exact ⟨hs''.extBut _ _ nD (hk₂ _ _ wrD (N' _ List.mem_cons_self).1), hDL, hD₀⟩
        · exact ⟨hs''.extBut _ _ (off p hp).1 (hk₂ _ _ (off p hp).2.2 (Nnw p hp).1), (Nnw p hp).2⟩
    · intro p hp
      rcases List.mem_cons.mp hp with rfl | hp
      · exact ⟨hacc, hDL, hD₀⟩
      · exact ⟨up _ _ (N p hp).1, (N p hp).2⟩
  exact codeAny_compStart_list (loop _ rfl) (hself _ _ _ (W.frame _ _ _ hst fun b _ o e => up b o e) (loop _ rfl))
end
section
variable {prog : Program} {w : World} {A : Around} {E : Value → Shared → Prop} {h₀ : Heap} {L : Addr} {m : Str → Option Value} {env : Env}
/-- a comprehension over a tuple of pairs -/
theorem tup_comp {elt iter : PySem.Expr} {x x₂ : Str} {px px₂ tp : Pos} {kk : Nat} {scope : Scope} {cl : List (Str × Addr)} {pos : Pos} {s₁ : Shared} {ax : Addr} {lo : Obj} {vs : List Value} {k : Nat} {prs : List (Value × Value)} {news : List (Addr × Obj)} {Q : Value → Shared → Prop}
    (hh : A.handled = none) (hcell : ∀ y ∈ scope.names, y.2 ≠ .cell) (hkind : scope.kind = .function) (hx : scope.names.lookup x = some .local) (hx₂ : scope.names.lookup x₂ = some .local) (hxx : x ≠ x₂)
    (F : Fr h₀ L s₁.heap m) (N : News h₀ L s₁.heap news) (hm : (ax, lo) ∈ news) (hc : lo.cls = .type "tuple") (hd : lo.data = .seq vs.toArray k) (hP : PairsAt news vs prs) (hz : vs.length ≤ sizeLine)
    (Inv : Nat → List Value → List (Addr × Obj) → Prop) (h0 : Inv 0 [] news) (hkeep : ∀ i ys nw, Inv i ys nw → ∀ p ∈ news, p ∈ nw)
    (step : ∀ i ys nw own a b C oC D m₂ h tk (E' : Value → Shared → Prop), prs[i]? = some (a, b) → m₂ x = some a → m₂ x₂ = some b → Inv i ys nw → LCg.NsObj oC m₂ → Fr h₀ L h m → News h₀ L h ((C, oC) :: (D, LCg.lst ys) :: (nw ++ own)) →
      wpAny (model prog w) A (eval elt (compEnvC scope cl C env)) (AddEnd h₀ L m { s₁ with heap := h, toks := tk } ((C, oC) :: (D, LCg.lst ys) :: (nw ++ own)) (fun y add => Inv (i + 1) (ys ++ [y]) (add ++ nw))) E' { s₁ with heap := h, toks := tk })
    (fin : ∀ D h tk ys nw, Inv vs.length ys nw → Fr h₀ L h m → News h₀ L h ((D, LCg.lst ys) :: nw) → (∀ p ∈ nw, p.1 ≠ D) → Q (.ref D) { s₁ with heap := h, toks := tk }) :
    wpAny (model prog w) A (pyIter (.ref ax)) (fun it s₂ => wpAny (model prog w) A (newList []) (fun acc s₃ => wpAny (model prog w) A (newFunctionEnv scope env.globals cl [] env.qual none .none (some env)) (fun cenv s₄ =>
      codeAny (model prog w) A (.compStart (.ListComp elt [⟨.Tuple [.Name x px, .Name x₂ px₂] kk tp, iter, [], 0⟩] scope pos) 0 it acc { cenv with scope := relabel scope env }) (compPost (model prog w) A E none Q acc cenv.locals) s₄) E s₃) E s₂) E s₁ := by
  have hax := N _ hm
  have hl : s₁.heap.IsTuple ax vs.toArray := ⟨lo, hax.1, hc, k, hd⟩
  have hlt : ax < s₁.heap.objs.size := Heap.lt_size hax.1
  have hne : ax ≠ s₁.heap.objs.size := Nat.ne_of_lt hlt
  refine wpAny_pyIter_tuple hl ?_
  have W := Walks.tuple (prog := prog) (w := w) hh s₁.heap.objs.size ax hne vs.toArray
  have hnsz : vs.toArray.size = vs.length := List.size_toArray
  rw [hnsz] at W
  refine comp_turns (KTurns.ofWalks W fun i v s Q E st q => letGo_tupleiter st.1 q) (fun i m'' => ∃ a b, prs[i]? = some (a, b) ∧ m'' x = some a ∧ m'' x₂ = some b) Inv (fun Q E s st q => W.self 0 s Q E st q) hz hcell hkind
    ⟨⟨_, Heap.get?_push_size _ rfl, rfl, rfl⟩, hl.at fun o e => Heap.get?_push_of_some _ e⟩ ?_ ?_ ?_ ?_ ?_ ?_ (F.push _) (fun p hp => ⟨Heap.get?_push_of_some _ (N p hp).1, (N p hp).2⟩) h0 hkeep ?_ ?_ ?_
  · intro b hb
    show b < (s₁.heap.push _).objs.size
    rw [Heap.size_push]
    rcases List.mem_cons.mp hb with rfl | hb
    · exact Nat.lt_succ_self _
    · rw [List.mem_singleton.mp hb]; exact Nat.lt_succ_of_lt hlt
  · intro b hb
    rcases List.mem_cons.mp hb with rfl | hb
    · exact .inl List.mem_cons_self
    · exact .inr ⟨lo, by rw [List.mem_singleton.mp hb]; exact hm⟩
  · intro i h st b hb
    rw [List.mem_singleton.mp hb]
    obtain ⟨o, e, _⟩ := st.1
    exact ⟨o, e⟩
  · intro b hb
    rw [List.mem_singleton.mp hb]
    exact next_is_new F
  · intro hb
    exact absurd F.ns.lt ((List.mem_singleton.mp hb) ▸ Nat.lt_irrefl _)
  · intro p hp hb
    exact absurd (Heap.lt_size (N p hp).1) ((List.mem_singleton.mp hb) ▸ Nat.lt_irrefl _)
  · intro i v h tk C m' Q' E' hi hPv hN hC hq
    have hv : vs[i]? = some v := by simpa using hPv
    obtain ⟨T, a, b, k', rfl, hp, hT⟩ := hP.2 i v hv
    refine kcp_assign hh ⟨_, hN _ hT, rfl, k', rfl⟩ (lookup_relabel_local hx) (lookup_relabel_local hx₂) (by simp [compEnvC, relabel, hkind]) hC fun h' tk' hn' hk' => ?_
    exact hq h' tk' _ hn' ⟨a, b, hp, by simp [hxx], by simp⟩ hk'
  · rintro i ys nw own C oC D m₂ h tk E' hi hI ⟨a, b, hp, h1, h2⟩ hC F' N'
    exact step i ys nw own a b C oC D m₂ h tk E' hp h1 h2 hI hC F' N'
  · exact fin
end
section
variable {prog : Program} {w : World} {A : Around} {E : Value → Shared → Prop} {h₀ : Heap} {L : Addr} {m : Str → Option Value} {env : Env}
/-- the same, told by what is added -/
theorem tup_comp2 {elt iter : PySem.Expr} {x x₂ : Str} {px px₂ tp : Pos} {kk : Nat} {scope : Scope} {cl : List (Str × Addr)} {pos : Pos} {s₁ : Shared} {ax : Addr} {lo : Obj} {vs : List Value} {k : Nat} {prs : List (Value × Value)} {news : List (Addr × Obj)} {Q : Value → Shared → Prop}
    (hh : A.handled = none) (hcell : ∀ y ∈ scope.names, y.2 ≠ .cell) (hkind : scope.kind = .function) (hx : scope.names.lookup x = some .local) (hx₂ : scope.names.lookup x₂ = some .local) (hxx : x ≠ x₂)
    (F : Fr h₀ L s₁.heap m) (N : News h₀ L s₁.heap news) (hm : (ax, lo) ∈ news) (hc : lo.cls = .type "tuple") (hd : lo.data = .seq vs.toArray k) (hP : PairsAt news vs prs) (hz : vs.length ≤ sizeLine)
    (R : Nat → List Value → List (Addr × Obj) → Prop) (h0 : R 0 [] [])
    (step : ∀ i ys tl own a b C oC D m₂ h tk (E' : Value → Shared → Prop), prs[i]? = some (a, b) → m₂ x = some a → m₂ x₂ = some b → R i ys tl → LCg.NsObj oC m₂ → Fr h₀ L h m → News h₀ L h ((C, oC) :: (D, LCg.lst ys) :: ((tl ++ news) ++ own)) →
      wpAny (model prog w) A (eval elt (compEnvC scope cl C env)) (AddEnd h₀ L m { s₁ with heap := h, toks := tk } ((C, oC) :: (D, LCg.lst ys) :: ((tl ++ news) ++ own)) (fun y add => R (i + 1) (ys ++ [y]) (add ++ tl))) E' { s₁ with heap := h, toks := tk })
    (fin : ∀ D h tk ys tl, R vs.length ys tl → Fr h₀ L h m → News h₀ L h ((D, LCg.lst ys) :: (tl ++ news)) → (∀ p ∈ tl, p.1 ≠ D) → (∀ p ∈ news, p.1 ≠ D) → (∀ t ∈ tl, ∀ q ∈ news, q.1 ≠ t.1) → Q (.ref D) { s₁ with heap := h, toks := tk }) :
    wpAny (model prog w) A (pyIter (.ref ax)) (fun it s₂ => wpAny (model prog w) A (newList []) (fun acc s₃ => wpAny (model prog w) A (newFunctionEnv scope env.globals cl [] env.qual none .none (some env)) (fun cenv s₄ =>
      codeAny (model prog w) A (.compStart (.ListComp elt [⟨.Tuple [.Name x px, .Name x₂ px₂] kk tp, iter, [], 0⟩] scope pos) 0 it acc { cenv with scope := relabel scope env }) (compPost (model prog w) A E none Q acc cenv.locals) s₄) E s₃) E s₂) E s₁ := by
  refine tup_comp hh hcell hkind hx hx₂ hxx F N hm hc hd hP hz (fun i ys nw => ∃ tl, nw = tl ++ news ∧ (∀ t ∈ tl, ∀ q ∈ news, q.1 ≠ t.1) ∧ R i ys tl) ⟨[], rfl, fun _ h => (nomatch h), h0⟩ (fun i ys nw h r hr' => by obtain ⟨tl, rfl, _⟩ := h; exact List.mem_append_right _ hr') ?_ ?_
  · rintro i ys nw own a b C oC D m₂ h tk E' hp h1 h2 ⟨tl, rfl, hap, hR⟩ hC F' N'
    refine wpAny_mono (step i ys tl own a b C oC D m₂ h tk E' hp h1 h2 hR hC F' N') (fun y s₅ h₅' => ?_) fun _ _ e => e
    obtain ⟨h₅, tk₅, add, rfl, F₅, N₅, apart, hR₅⟩ := h₅'
    refine ⟨h₅, tk₅, add, rfl, F₅, N₅, apart, add ++ tl, (List.append_assoc ..).symm, fun t ht q hq => ?_, hR₅⟩
    rcases List.mem_append.mp ht with ht | ht
    · exact apart t ht q (List.mem_cons_of_mem _ (List.mem_cons_of_mem _ (List.mem_append_left _ (List.mem_append_right _ hq))))
    · exact hap t ht q hq
  · rintro D h tk ys nw ⟨tl, rfl, hap, hR⟩ F' N' o'
    exact fin D h tk ys tl hR F' N' (fun p hp => o' p (List.mem_append_left _ hp)) (fun p hp => o' p (List.mem_append_right _ hp)) hap
end
theorem listComp_any {prog : Program} {w : World} {A : Around} {E : Value → Shared → Prop} {s : Shared} {env : Env} {elt target iter : PySem.Expr} {scope : Scope} {cl : List (Str × Addr)} {pos : Pos} {Q : Value → Shared → Prop}
    (hclos : closureFor scope env = pure cl) (hkind : scope.kind = .function) (hnames : ∀ y ∈ scope.names, y.2 = .local → scope.names.lookup y.1 = some .local)
    (h : wpAny (model prog w) A (eval iter env) (fun xv s₁ => wpAny (model prog w) A (pyIter xv) (fun it s₂ => wpAny (model prog w) A (newList []) (fun acc s₃ => wpAny (model prog w) A (newFunctionEnv scope env.globals cl [] env.qual none .none (some env)) (fun cenv s₄ =>
      codeAny (model prog w) A (.compStart (.ListComp elt [⟨target, iter, [], 0⟩] scope pos) 0 it acc { cenv with scope := relabel scope env }) (compPost (model prog w) A E none Q acc cenv.locals) s₄) E s₃) E s₂) E s₁) E s)
    (hs : ∀ x, foldedSetIterable iter env x = pure x := by intro _; rfl) :
    wpAny (model prog w) A (eval (.ListComp elt [⟨target, iter, [], 0⟩] scope pos) env) Q E s := by
  rw [eval_ListComp]
  exact wpAny_comprehension_free (use := none) rfl hs hclos hkind hnames h
theorem news_fin {h₀ h : Heap} {L : Addr} {a b c d e f g : Addr × Obj} {tl rest : List (Addr × Obj)} (N : News h₀ L h (a :: (tl ++ b :: c :: d :: e :: f :: g :: rest))) : News h₀ L h (c :: a :: d :: e :: f :: (rest ++ tl)) := fun p hp => by
  refine N p ?_
  simp only [List.mem_cons, List.mem_append] at hp ⊢
  rcases hp with h | h | h | h | h | h | h <;> simp [h]
theorem news_fin2 {h₀ h : Heap} {L : Addr} {a b c d e f : Addr × Obj} {tl rest : List (Addr × Obj)} (N : News h₀ L h (a :: b :: c :: d :: e :: f :: (rest ++ tl))) : News h₀ L h (d :: ((a :: e :: f :: tl) ++ rest)) := fun p hp => by
  refine N p ?_
  simp only [List.mem_cons, List.mem_append] at hp ⊢
  rcases hp with h | (h | h | h | h) | h <;> simp [h]
end
theorem rest_18 : True := by
  w_top off
  try walk1
  first | done | exact True.intro
section
set_option maxRecDepth 100000 in
set_option maxHeartbeats 8000000 in
theorem turned_run {w : World} {p : Program} {loose : List Str} {mean : ExcName → Option Value} {mg mb : Str → Option Value} {tk : Tok} {xa dx hl ca : Addr} {n e k : Nat} {vs cvs : List Value} {c d : Int × Int} {crd : List (Int × Int)} {rest : List (Addr × Obj)}
     (m1 : (xa, instObj 184 dx) ∈ rest) (m2 : (dx, dictOf (hdrEs w tk hl) n) ∈ rest) (m3 : (ca, W.listOf cvs.toArray k) ∈ rest) (hr : ∀ q ∈ rest, q.1 ≠ hl) (hD : DatAll rest vs (((c :: d :: crd).map hp2).map hdr2)) (hC : DatAll rest cvs ((c :: d :: crd).map card2)) (hok : Okc (c :: d :: crd)) (hz : crd.length ≤ 40)
     : Run w p loose mean mg mb 5 60 226 [.ref xa, .ref ca] [] ((hl, W.listOf vs.toArray e) :: rest) (DeckPost hl rest (crd ++ [(d.1, 1 - d.2), (c.1, 1 - c.2)])) := by
  have hlv : vs.length ≤ 42 := by rw [hD.length]; simp; omega
  have hlc : cvs.length ≤ 42 := by rw [hC.length]; simp; omega
  cases hC with
  | @cons w0 wr0 _ _ hc0 hCr0 =>
  cases hCr0 with
  | @cons w1 wr _ _ hc1 hCr =>
  obtain ⟨T0, t1, t2, k9, rfl, hT0⟩ := ipair_obj hc0
  obtain ⟨T1, u1, u2, k8, rfl, hT1⟩ := ipair_obj hc1
  have hc6 := hok.1 c List.mem_cons_self
  have hd6 := hok.1 d (List.mem_cons_of_mem _ List.mem_cons_self)
  simp only [List.length_cons] at hlc
  clear hc0 hc1
  replace hD := Kept.mk hD
  replace hCr := Kept.mk hCr
  walk_at "m_enter"
  walk_at "m_steps"
  rename Fr _ _ _ _ => lF'
  (with_unfolding_all refine' For_turns lF' ?_)
  k_whole
  walk_at "m_steps"
  rename Fr _ _ _ _ => tF
  rename News _ _ _ (_ :: (hl, _) :: rest) => tN
  refine iter_tupTurns (vs := [_, _]) rfl tF tN List.mem_cons_self rfl rfl fun I hI => ?_
  have hID := hI _ List.mem_cons_self
  have hIh := hI _ (List.mem_cons_of_mem _ List.mem_cons_self)
  have hIr : ∀ r ∈ rest, r.1 ≠ I := fun r hr' => Nat.ne_of_lt (hI r (List.mem_cons_of_mem _ (List.mem_cons_of_mem _ hr')))
  rename hl < _ ∧ AllLt _ rest => lz
  obtain ⟨lz1, lz2⟩ := lz
  have hTr := tb_ltOf lz2
  clear lz2
  refine ItemsRest.val fun h1 tk1 F1 => ?_
  intro o1 ho1 N1
  refine turn_gen ?_
  intro Q1 hQ1
  walk_at "m_steps"
  have hokA : Okc ([c] ++ d :: crd) := hok
  k_dflt (refine' Run.use (get_run (items := (c :: d :: crd).map hp2) (nml_clean hd6) (nmS_len hd6) ?m1 ?m2 ?m3 ?c1 (hp_len hok.1)) ?k1 ?k2 ?k3 ?k4 ?k5 ?kK ?kd ?ku ?_)
  walk_at "m_use"
  (case m1 => exact List.mem_cons_of_mem _ (List.mem_cons_of_mem _ (List.mem_cons_of_mem _ m1)))
  (case m2 => exact List.mem_cons_of_mem _ (List.mem_cons_of_mem _ (List.mem_cons_of_mem _ m2)))
  (case m3 => exact List.mem_cons_of_mem _ (List.mem_cons_of_mem _ List.mem_cons_self))
  (case c1 => exact hD.out.mono fun r hr' => List.mem_cons_of_mem _ (List.mem_cons_of_mem _ (List.mem_cons_of_mem _ hr')))
  intro r9 h9 tk9 news9 F9 N9 P9
  obtain ⟨e9, hf9⟩ := P9
  subst news9
  have hfd := find_at hokA (1 - d.2)
  rw [List.singleton_append] at hfd
  rw [hfd] at hf9
  obtain ⟨tg, rfl⟩ := hf9
  dsimp only
  walk_at "m_steps"
  k_dflt (refine' Run.use (setitem_run (items := (c :: d :: crd).map hp2) (base0 := rest) (nml_clean hd6) (nm_clean hd6) (vl_clean hd6) (nmS_len hd6) ?m1 ?m2 ?hr ?hs hD.out (hp_len hok.1) ?c1) ?k1 ?k2 ?k3 (news_rot ?k4) ?k5 ?kK ?kd ?ku ?_)
  walk_at "m_use"
  (case m1 => exact List.mem_cons_of_mem _ (List.mem_cons_of_mem _ m1))
  (case m2 => exact List.mem_cons_of_mem _ (List.mem_cons_of_mem _ m2))
  (case hs => exact fun r hr' => List.mem_cons_of_mem _ (List.mem_cons_of_mem _ hr'))
  (case hr => exact List.forall_mem_cons.mpr ⟨Nat.ne_of_gt hIh, List.forall_mem_cons.mpr ⟨Nat.ne_of_gt lz1, hr⟩⟩)
  (case c1 => walk_at "m_len")
  intro r9 h9 tk9 news9 F9 N9 P9
  obtain ⟨q, vs', e', rfl, hq1, hq2, hD', hl'⟩ := P9
  have hfil := filter_at hokA (1 - d.2)
  rw [List.singleton_append, List.singleton_append] at hfil
  rw [hfil] at hD'
  dsimp only
  walk_at "m_steps"
  have hqI := hq2 _ List.mem_cons_self
  have hqD := hq2 _ (List.mem_cons_of_mem _ List.mem_cons_self)
  have hqr : ∀ r ∈ rest, r.1 ≠ q.1 := fun r hr' => hq2 r (List.mem_cons_of_mem _ (List.mem_cons_of_mem _ hr'))
  refine hQ1 _ ⟨_, _, _, (hl, W.listOf vs'.toArray e') :: q :: _ :: rest, rfl, by k_asm, news_rot N9, ?off, ⟨List.mem_cons_of_mem _ (List.mem_cons_of_mem _ List.mem_cons_self), trivial⟩, ?next⟩
  case off =>
    intro r hr' r' hr''
    rw [List.mem_singleton.mp hr'']
    rcases List.mem_cons.mp hr' with rfl | hr'
    · exact Nat.ne_of_lt hIh
    · rcases List.mem_cons.mp hr' with rfl | hr'
      · exact fun e => hqI e.symm
      · rcases List.mem_cons.mp hr' with rfl | hr'
        · exact Nat.ne_of_lt hID
        · exact hIr r hr'
  case next =>
    clear F9 N9
    refine ItemsRest.val fun h2 tk2 F2 => ?_
    intro o2 ho2 N2
    refine turn_gen ?_
    intro Q2 hQ2
    walk_at "m_steps"
    have hok2 := okc_turn1 hok (1 - d.2)
    have hD2 : Kept (DatAll (q :: rest) vs' (((c :: (crd ++ [(d.1, 1 - d.2)])).map hp2).map hdr2)) := ⟨by rw [show (c :: (crd ++ [(d.1, 1 - d.2)])).map hp2 = (c :: crd).map hp2 ++ [(nmS d.1 (1 - d.2), vlS d.1)] from by simp]; exact hD'⟩
    clear hD'
    k_dflt (refine' Run.use (get_run (items := (c :: (crd ++ [(d.1, 1 - d.2)])).map hp2) (nml_clean hc6) (nmS_len hc6) ?m1 ?m2 ?m3 ?c1 (hp_len hok2.1)) ?k1 ?k2 ?k3 ?k4 ?k5 ?kK ?kd ?ku ?_)
    walk_at "m_use"
    (case m1 => exact List.mem_cons_of_mem _ (List.mem_cons_of_mem _ (List.mem_cons_of_mem _ (List.mem_cons_of_mem _ m1))))
    (case m2 => exact List.mem_cons_of_mem _ (List.mem_cons_of_mem _ (List.mem_cons_of_mem _ (List.mem_cons_of_mem _ m2))))
    (case m3 => exact List.mem_cons_of_mem _ List.mem_cons_self)
    (case c1 =>
      refine hD2.out.mono fun r hr' => ?_
      rcases List.mem_cons.mp hr' with rfl | hr'
      · exact List.mem_cons_of_mem _ (List.mem_cons_of_mem _ List.mem_cons_self)
      · exact List.mem_cons_of_mem _ (List.mem_cons_of_mem _ (List.mem_cons_of_mem _ (List.mem_cons_of_mem _ hr'))))
    intro r9 h9 tk9 news9 F9 N9 P9
    obtain ⟨e9, hf9⟩ := P9
    subst news9
    have hfd2 := find_at (pre := []) hok2 (1 - c.2)
    rw [List.nil_append] at hfd2
    rw [hfd2] at hf9
    obtain ⟨tg2, rfl⟩ := hf9
    dsimp only
    walk_at "m_steps"
    k_dflt (refine' Run.use (setitem_run (items := (c :: (crd ++ [(d.1, 1 - d.2)])).map hp2) (base0 := q :: rest) (nml_clean hc6) (nm_clean hc6) (vl_clean hc6) (nmS_len hc6) ?m1 ?m2 ?hr ?hs hD2.out (hp_len hok2.1) ?c1) ?k1 ?k2 ?k3 (news_swap ?k4) ?k5 ?kK ?kd ?ku ?_)
    walk_at "m_use"
    (case m1 => exact List.mem_cons_of_mem _ (List.mem_cons_of_mem _ (List.mem_cons_of_mem _ m1)))
    (case m2 => exact List.mem_cons_of_mem _ (List.mem_cons_of_mem _ (List.mem_cons_of_mem _ m2)))
    (case hs =>
      intro r hr'
      rcases List.mem_cons.mp hr' with rfl | hr'
      · exact List.mem_cons_of_mem _ List.mem_cons_self
      · exact List.mem_cons_of_mem _ (List.mem_cons_of_mem _ (List.mem_cons_of_mem _ hr')))
    (case hr => exact List.forall_mem_cons.mpr ⟨Nat.ne_of_gt hIh, List.forall_mem_cons.mpr ⟨hq1, List.forall_mem_cons.mpr ⟨Nat.ne_of_gt lz1, hr⟩⟩⟩)
    (case c1 => walk_at "m_len")
    intro r9 h9 tk9 news9 F9 N9 P9
    obtain ⟨q2, vs2, e2, rfl, hp1, hp2', hD3, hl3⟩ := P9
    have hfil2 := filter_at (pre := []) hok2 (1 - c.2)
    rw [List.nil_append, List.nil_append] at hfil2
    rw [hfil2] at hD3
    replace hD3 := Kept.mk hD3
    dsimp only
    walk_at "m_steps"
    have hpI := hp2' _ List.mem_cons_self
    have hpq := hp2' _ (List.mem_cons_of_mem _ List.mem_cons_self)
    have hpD := hp2' _ (List.mem_cons_of_mem _ (List.mem_cons_of_mem _ List.mem_cons_self))
    have hpr : ∀ r ∈ rest, r.1 ≠ q2.1 := fun r hr' => hp2' r (List.mem_cons_of_mem _ (List.mem_cons_of_mem _ (List.mem_cons_of_mem _ hr')))
    refine hQ2 _ ⟨_, _, _, (hl, W.listOf vs2.toArray e2) :: q2 :: q :: _ :: rest, rfl, by k_asm, news_rot N9, ?off2, ⟨List.mem_cons_of_mem _ (List.mem_cons_of_mem _ (List.mem_cons_of_mem _ List.mem_cons_self)), trivial⟩, ?next2⟩
    case off2 =>
      intro r hr' r' hr''
      rw [List.mem_singleton.mp hr'']
      rcases List.mem_cons.mp hr' with rfl | hr'
      · exact Nat.ne_of_lt hIh
      · rcases List.mem_cons.mp hr' with rfl | hr'
        · exact fun e => hpI e.symm
        · rcases List.mem_cons.mp hr' with rfl | hr'
          · exact fun e => hqI e.symm
          · rcases List.mem_cons.mp hr' with rfl | hr'
            · exact Nat.ne_of_lt hID
            · exact hIr r hr'
    case next2 =>
      clear F9 N9
      refine ItemsRest.zero fun h3 tk3 F3 N3 => ?_
      walk_at "m_steps"
      k_dflt (refine listComp_any (by with_unfolding_all rfl) (by rfl) (by decide) ?_)
      walk_at "m_steps"
      rename Fr _ _ _ _ => cF
      rename News _ _ _ (_ :: _ :: (hl, _) :: q2 :: q :: _ :: rest) => cN
      refine tup_comp2 (vs := [.ref T1, .ref T0]) (prs := [(.int d.1 u1, .int d.2 u2), (.int c.1 t1, .int c.2 t2)]) rfl (by decide) (by rfl) (by rfl) (by rfl) (by decide) cF cN List.mem_cons_self rfl rfl (.cons (List.mem_cons_of_mem _ (List.mem_cons_of_mem _ (List.mem_cons_of_mem _ (List.mem_cons_of_mem _ (List.mem_cons_of_mem _ (List.mem_cons_of_mem _ hT1)))))) (.cons (List.mem_cons_of_mem _ (List.mem_cons_of_mem _ (List.mem_cons_of_mem _ (List.mem_cons_of_mem _ (List.mem_cons_of_mem _ (List.mem_cons_of_mem _ hT0)))))) .nil)) (by show 2 ≤ _; decide)
        (fun i ys tl => DatAll tl ys ((([d, c] : List (Int × Int)).take i).map fun z => card2 (z.1, 1 - z.2))) .nil ?cstep ?cfin
      case cstep =>
        rintro i ys tl own a b C oC D m₂ h tk9 E' hp h1 h2 hY hC F1 N1
        have hS : IntPrs [(Value.int d.1 u1, Value.int d.2 u2), (Value.int c.1 t1, Value.int c.2 t2)] [d, c] := ⟨⟨_, _, rfl⟩, ⟨_, _, rfl⟩, trivial⟩
        obtain ⟨z, t, u, hz', rfl, rfl⟩ := hS.get hp
        walk_at "m_steps"
        rename Fr _ _ _ _ => fF
        rename News _ _ _ (_ :: (C, oC) :: (D, _) :: _) => fN
        rename C < _ ∧ D < _ ∧ AllLt _ _ => fl
        obtain ⟨fl1, fl2, fl3⟩ := fl
        refine ⟨_, _, [_], rfl, fF, fN, ?_, ?_⟩
        · intro x hx y hy
          rw [List.mem_singleton.mp hx]
          rcases List.mem_cons.mp hy with rfl | hy
          · exact Nat.ne_of_lt fl1
          · rcases List.mem_cons.mp hy with rfl | hy
            · exact Nat.ne_of_lt fl2
            · exact Nat.ne_of_lt (tb_ltOf fl3 y hy)
        · have hi2 : ([d, c] : List (Int × Int)).take (i + 1) = [d, c].take i ++ [z] := by
            rw [List.take_add_one, hz']
            rfl
          rw [hi2, List.map_append]
          refine (hY.mono fun r hr' => List.mem_cons_of_mem _ hr').append (.cons (.tuple List.mem_cons_self (.cons (.int _ _) (.cons (.int _ _) .nil))) .nil)
      case cfin =>
        rintro D h tk9 ys tl hY F1 N1 o1 o2' hap
        have hY' : DatAll tl ys [card2 (d.1, 1 - d.2), card2 (c.1, 1 - c.2)] := hY
        have hyl : ys.length = 2 := hY'.length
        replace hY := Kept.mk hY'
        clear hY'
        have hhl := o2' _ (List.mem_cons_of_mem _ (List.mem_cons_of_mem _ List.mem_cons_self))
        replace N1 := news_fin N1
        walk_at "m_steps"
        rename News _ _ _ (_ :: _ :: _ :: (hl, _) :: q2 :: q :: _) => Nz
        rename _ ∧ _ ∧ hl < _ ∧ _ ∧ _ ∧ AllLt _ (rest ++ tl) => lz
        obtain ⟨-, -, z3, z4, z5, z6⟩ := lz
        refine hret _ _ _ _ (by k_asm) (news_fin2 Nz) ⟨_ :: q2 :: q :: tl, vs2, e2, _, _, _, rfl, rfl, ?_, ?_, List.mem_cons_self, ?_⟩
        · intro x hx
          rcases List.mem_cons.mp hx with rfl | hx
          · exact ⟨Nat.ne_of_gt z3, fun r hr' => Nat.ne_of_lt (tb_ltOf z6 r (List.mem_append_left _ hr'))⟩
          · rcases List.mem_cons.mp hx with rfl | hx
            · exact ⟨hp1, hpr⟩
            · rcases List.mem_cons.mp hx with rfl | hx
              · exact ⟨hq1, hqr⟩
              · exact ⟨fun e => hap x hx _ (List.mem_cons_of_mem _ (List.mem_cons_of_mem _ List.mem_cons_self)) e.symm, fun r hr' => hap x hx r (List.mem_cons_of_mem _ (List.mem_cons_of_mem _ (List.mem_cons_of_mem _ (List.mem_cons_of_mem _ (List.mem_cons_of_mem _ (List.mem_cons_of_mem _ hr'))))))⟩
        · rw [show (crd ++ [(d.1, 1 - d.2), (c.1, 1 - c.2)]).map hp2 = (crd ++ [(d.1, 1 - d.2)]).map hp2 ++ [(nmS c.1 (1 - c.2), vlS c.1)] from by simp]
          refine hD3.out.mono fun r hr' => List.mem_cons_of_mem _ ?_
          rcases List.mem_cons.mp hr' with rfl | hr'
          · exact List.mem_cons_self
          · rcases List.mem_cons.mp hr' with rfl | hr'
            · exact List.mem_cons_of_mem _ List.mem_cons_self
            · exact List.mem_cons_of_mem _ (List.mem_cons_of_mem _ (List.mem_append_right _ hr'))
        · rw [List.map_append]
          exact (hCr.out.mono fun r hr' => List.mem_append_right _ hr').append (hY.out.mono fun r hr' => List.mem_append_left _ (List.mem_cons_of_mem _ (List.mem_cons_of_mem _ (List.mem_cons_of_mem _ hr'))))
end
theorem rest_19 : True := by
  w_top off
  try walk1
  first | done | exact True.intro
section
section
variable {prog : Program} {w : World} {A : Around} {E : Value → Shared → Prop} {s : Shared} {h₀ : Heap} {L a b : Addr} {news : List (Addr × Obj)} {X Y : Array Value} {xs ys : List Value} {ka kb : Nat} {ds es : List Dat} {Q : Value → Shared → Prop}
open Classical in
theorem eq_any (N : News h₀ L s.heap news) (ma : (a, W.listOf X ka) ∈ news) (hX : X = xs.toArray) (Da : DatAll news xs ds) (mb : (b, W.listOf Y kb) ∈ news) (hY : Y = ys.toArray) (Db : DatAll news ys es)
    (ha : ∀ d ∈ ds, kqdOk 8 d = true) (hb : ∀ d ∈ es, kqdOk 8 d = true) (hu : A.units + 64 < cLine) (h : Q (.bool (decide (ds = es))) s) : wpAny (model prog w) A (compareOp .Eq (.ref a) (.ref b)) Q E s := by
  subst hX
  subst hY
  exact kqd_eq N ma rfl rfl Da (fun _ h => h) mb rfl rfl Db (fun _ h => h) ha hb hu h
open Classical in
theorem ne_any (N : News h₀ L s.heap news) (ma : (a, W.listOf X ka) ∈ news) (hX : X = xs.toArray) (Da : DatAll news xs ds) (mb : (b, W.listOf Y kb) ∈ news) (hY : Y = ys.toArray) (Db : DatAll news ys es)
    (ha : ∀ d ∈ ds, kqdOk 8 d = true) (hb : ∀ d ∈ es, kqdOk 8 d = true) (hu : A.units + 64 < cLine) (h : Q (.bool (!decide (ds = es))) s) : wpAny (model prog w) A (compareOp .NotEq (.ref a) (.ref b)) Q E s := by
  subst hX
  subst hY
  exact kqd_ne N ma rfl rfl Da (fun _ h => h) mb rfl rfl Db (fun _ h => h) ha hb hu h
open Classical in
theorem eq_same (N : News h₀ L s.heap news) (ma : (a, W.listOf X ka) ∈ news) (hX : X = xs.toArray) (Da : DatAll news xs ds) (mb : (b, W.listOf Y kb) ∈ news) (hY : Y = ys.toArray) (Db : DatAll news ys ds)
    (ha : ∀ d ∈ ds, kqdOk 8 d = true) (hu : A.units + 64 < cLine) (h : Q (.bool true) s) : wpAny (model prog w) A (compareOp .Eq (.ref a) (.ref b)) Q E s :=
  eq_any N ma hX Da mb hY Db ha ha hu (by rw [decide_eq_true rfl]; exact h)
open Classical in
theorem ne_same (N : News h₀ L s.heap news) (ma : (a, W.listOf X ka) ∈ news) (hX : X = xs.toArray) (Da : DatAll news xs ds) (mb : (b, W.listOf Y kb) ∈ news) (hY : Y = ys.toArray) (Db : DatAll news ys ds)
    (ha : ∀ d ∈ ds, kqdOk 8 d = true) (hu : A.units + 64 < cLine) (h : Q (.bool false) s) : wpAny (model prog w) A (compareOp .NotEq (.ref a) (.ref b)) Q E s :=
  ne_any N ma hX Da mb hY Db ha ha hu (by rw [decide_eq_true rfl]; exact h)
end
theorem hp2_ok {c : Int × Int} (h : 0 ≤ c.1 ∧ c.1 < 6) : PyData.strOk (hp2 c).1 = true ∧ PyData.strOk (hp2 c).2 = true := by
  obtain ⟨n, u⟩ := c
  show PyData.strOk (nmS n u) = true ∧ PyData.strOk (vlS n) = true
  dsimp only at h
  refine ⟨?_, by rcases six h with rfl | rfl | rfl | rfl | rfl | rfl <;> decide +kernel⟩
  by_cases hu : u = 0
  · subst hu
    rcases six h with rfl | rfl | rfl | rfl | rfl | rfl <;> decide +kernel
  · rw [nmS_up hu]
    rcases six h with rfl | rfl | rfl | rfl | rfl | rfl <;> decide +kernel
theorem ok_hdrs {crd : List (Int × Int)} (hc : ∀ c ∈ crd, 0 ≤ c.1 ∧ c.1 < 6) : ∀ d ∈ (crd.map hp2).map hdr2, kqdOk 8 d = true := fun d hd => by
  obtain ⟨x, hx, rfl⟩ := List.mem_map.mp hd
  obtain ⟨c, hc', rfl⟩ := List.mem_map.mp hx
  have q := hp2_ok (hc c hc')
  simp only [kqdOk, List.all_cons, List.all_nil, Bool.and_true, q.1, q.2]
theorem ok_names {crd : List (Int × Int)} (hc : ∀ c ∈ crd, 0 ≤ c.1 ∧ c.1 < 6) : ∀ d ∈ (crd.map hp2).map (fun p => Dat.str p.1), kqdOk 8 d = true := fun d hd => by
  obtain ⟨x, hx, rfl⟩ := List.mem_map.mp hd
  obtain ⟨c, hc', rfl⟩ := List.mem_map.mp hx
  exact (hp2_ok (hc c hc')).1
theorem ok_nil : kqdOk 8 (hdr2 (Str.ofString "", Str.ofString "")) = true := by decide +kernel
theorem news_sub7 {h₀ h : Heap} {L : Addr} {a b c d e f g : Addr × Obj} {rest : List (Addr × Obj)} (N : News h₀ L h (a :: b :: c :: d :: e :: f :: g :: r8 :: rest)) : News h₀ L h (a :: r8 :: rest) := fun p hp => by
  refine N p ?_
  simp only [List.mem_cons] at hp ⊢
  rcases hp with h | h | h <;> simp [h]
set_option maxRecDepth 100000 in
set_option maxHeartbeats 8000000 in
theorem right_run {w : World} {p : Program} {loose : List Str} {mean : ExcName → Option Value} {mg mb : Str → Option Value} {tk : Tok} {xa dx hl ca : Addr} {n e k : Nat} {vs cvs : List Value} {crd : List (Int × Int)} {news : List (Addr × Obj)}
     (m1 : (xa, instObj 184 dx) ∈ news) (m2 : (dx, dictOf (hdrEs w tk hl) n) ∈ news) (m3 : (hl, W.listOf vs.toArray e) ∈ news) (m4 : (ca, W.listOf cvs.toArray k) ∈ news) (hD : DatAll news vs ((crd.map hp2).map hdr2)) (hC : DatAll news cvs (crd.map card2)) (hc : ∀ c ∈ crd, 0 ≤ c.1 ∧ c.1 < 6) (hz : crd.length ≤ 40)
     : Run w p loose mean mg mb 4 120 231 [.ref xa, .ref hl, .ref ca] [] news (fun r news' => news' = news ∧ r = .bool true) := by
  have hlv : vs.length ≤ 40 := by rw [hD.length]; simp; omega
  have hlc : cvs.length ≤ 40 := by rw [hC.length]; simp; omega
  replace hD := Kept.mk hD
  walk_at "m_enter"
  walk_at "m_steps"
  k_dflt (refine' Run.use (seen_run m4 hC hc ?c1) ?k1 ?k2 ?k3 ?k4 ?k5 ?kK ?kd ?ku ?_)
  walk_at "m_use"
  (case c1 => walk_at "m_len")
  intro r9 h9 tk9 news9 F9 N9 P9
  obtain ⟨sa, ys, ky, tl, rfl, e9, hyl, hap, hsa, hY⟩ := P9
  subst news9
  have hsubl : ∀ q ∈ news, q ∈ tl ++ news := fun q hq => List.mem_append_right _ hq
  replace hD : Kept (DatAll (tl ++ news) vs ((crd.map hp2).map hdr2)) := ⟨hD.out.mono hsubl⟩
  replace hY : Kept (DatAll (tl ++ news) ys ((crd.map hp2).map hdr2)) := ⟨hY.mono fun q hq => List.mem_append_left _ hq⟩
  replace m1 := hsubl _ m1
  replace m2 := hsubl _ m2
  replace m3 := hsubl _ m3
  clear hap m4 hC
  generalize tl ++ news = rst at *
  dsimp only
  walk_at "m_steps"
  replace hD := hD.out
  walk_at "m_steps"
  dsimp only
  k_dflt (refine' Run.use (keys_run ?m1 ?m2 ?m3 (hD.mono ?c2) ?c1) ?k1 ?k2 ?k3 ?k4 ?k5 ?kK ?kd ?ku ?_)
  walk_at "m_use"
  (case m1 => exact (List.mem_cons_of_mem _ (List.mem_cons_of_mem _ (List.mem_cons_of_mem _ m1))))
  (case m2 => exact (List.mem_cons_of_mem _ (List.mem_cons_of_mem _ (List.mem_cons_of_mem _ m2))))
  (case m3 => exact (List.mem_cons_of_mem _ (List.mem_cons_of_mem _ (List.mem_cons_of_mem _ m3))))
  (case c2 => exact fun q hq => (List.mem_cons_of_mem _ (List.mem_cons_of_mem _ (List.mem_cons_of_mem _ hq))))
  (case c1 => exact Nat.le_trans hlv (by decide))
  intro r9 h9 tk9 news9 F9 N9 P9
  obtain ⟨a8, ks8, kk8, q8, q7, l8, D8, b8⟩ := P9
  subst news9
  subst r9
  replace D8 := Kept.mk D8
  dsimp only
  walk_at "m_steps"
  rename Fr g' L' _ _ => fF
  rename News g' L' _ ((_, W.listOf (ys ++ _).toArray 0) :: _) => fN
  k_dflt (refine' eq_same (xs := vs ++ [_]) (ds := (crd.map hp2).map hdr2 ++ [hdr2 (Str.ofString "", Str.ofString "")]) fN ?m1 ?c1 ?c2 ?m2 rfl ?c3 ?c4 ?ku ?_)
  (case m1 => k_mem)
  (case c1 => exact List.push_toArray ..)
  (case m2 => exact List.mem_cons_self)
  (case c2 => exact (DatAll.mono (fun q hq => by repeat (first | exact hq | apply List.mem_cons_of_mem)) hD).append (.cons (.tuple (by k_mem) (.cons (.str _ _) (.cons (.str _ _) .nil))) .nil))
  (case c3 => exact (DatAll.mono (fun q hq => by repeat (first | exact hq | apply List.mem_cons_of_mem)) hY.out).append (.cons (.tuple (by k_mem) (.cons (.str _ _) (.cons (.str _ _) .nil))) .nil))
  (case c4 => exact fun d hd => (List.mem_append.mp hd).elim (ok_hdrs hc d) fun h => by rw [List.mem_singleton.mp h]; exact ok_nil)
  (case ku => ktr_units)
  walk_at "m_steps"
  rename Fr g' L' _ _ => fF
  rename News g' L' _ ((_, W.listOf (ys ++ _).toArray 0) :: _) => fN
  k_dflt (refine' eq_same (xs := vs) (ds := (crd.map hp2).map hdr2) fN ?m1 rfl ?c2 ?m2 rfl ?c3 ?c4 ?ku ?_)
  (case m1 => k_mem)
  (case m2 => k_mem)
  (case c2 => exact (DatAll.mono (fun q hq => by repeat (first | exact hq | apply List.mem_cons_of_mem)) hD))
  (case c3 => exact (DatAll.mono (fun q hq => by repeat (first | exact hq | apply List.mem_cons_of_mem)) hY.out))
  (case c4 => exact ok_hdrs hc)
  (case ku => ktr_units)
  walk_at "m_steps"
  dsimp only
  k_dflt (refine' Run.use (keys_run ?m1 ?m2 ?m3 (hD.mono ?c2) ?c1) ?k1 ?k2 ?k3 ?k4 ?k5 ?kK ?kd ?ku ?_)
  walk_at "m_use"
  (case m1 => k_mem)
  (case m2 => k_mem)
  (case m3 => k_mem)
  (case c2 => exact fun q hq => by repeat (first | exact hq | apply List.mem_cons_of_mem))
  (case c1 => exact Nat.le_trans hlv (by decide))
  intro r9 h9 tk9 news9 F9 N9 P9
  obtain ⟨a7, ks7, kk7, q8, q7, l7, D7, b7⟩ := P9
  subst news9
  subst r9
  replace D7 := Kept.mk D7
  dsimp only
  walk_at "m_steps"
  replace N9 := news_sub7 N9
  have hsa7 : sa ≠ a7 := b7 (sa, _) (by k_mem)
  have m3s : (sa, W.listOf ys.toArray ky) ∈ (a7, W.listOf ks7.toArray kk7) :: (sa, W.listOf ys.toArray ky) :: rst := List.mem_cons_of_mem _ List.mem_cons_self
  have hY7 : DatAll ((a7, W.listOf ks7.toArray kk7) :: (sa, W.listOf ys.toArray ky) :: rst) ys ((crd.map hp2).map hdr2) := hY.out.mono fun q hq => List.mem_cons_of_mem _ (List.mem_cons_of_mem _ hq)
  obtain ⟨prs, hP, hS⟩ := strPrs_of hY7
  clear hY7 m1 m2 m3
  k_dflt (refine LCp.ListComp_P (F₀ := by k_asm) (by with_unfolding_all rfl) (by decide) (by rfl) (by decide) (by rfl) (by rfl) (by decide) ?_)
  walk_at "m_steps"
  refine LCp.SrcLP.ledger (by rfl) (by k_asm) (by k_asm) m3s (by walk_at "m_size") fun g => ?_
  rw [List.size_toArray]
  refine comp_inv (fun i ys nw => nw = (a7, W.listOf ks7.toArray kk7) :: (sa, W.listOf _ ky) :: rst ∧ DatAll [] ys (((crd.map hp2).take i).map fun p => Dat.str p.1)) hP (fun _ _ _ h q hq => h.1 ▸ hq) ?_ ?_ ys.length 0 [] _ (by omega) ⟨rfl, .nil⟩
  · rintro i ys2 nw v₁ v₂ I oI C oC D m₂ h tk9 E' ⟨e1, hI⟩ hp hC h1 h2 F1 N1 o3 hne
    subst nw
    walk_at "m_steps"
    refine LCg.CompEnd.intro (by k_asm) (by k_asm) _ (fun q hq => hq) o3 (srcAt_of m3s) ⟨rfl, ?_⟩
    obtain ⟨q, t, u, hq, rfl, rfl⟩ := hS.get hp
    rw [List.take_add_one, hq, List.map_append]
    exact hI.append (.cons (.str _ _) .nil)
  · rintro ys2 nw ⟨e1, hI⟩
    subst nw
    intro D h tk9 F1 N1 o1
    walk_at "m_steps"
    have hl2 : ys.length = (crd.map hp2).length := by rw [hY.out.length, List.length_map]
    rw [hl2, List.take_length] at hI
    k_dflt (refine' eq_same (xs := ks7) (ys := ys2) (ds := (crd.map hp2).map (fun p => Dat.str p.1)) (by k_asm) ?m1 rfl ?c2 ?m2 rfl ?c3 ?c4 ?ku ?_)
    (case m1 => exact List.mem_cons_of_mem _ List.mem_cons_self)
    (case m2 => exact List.mem_cons_self)
    (case c2 => exact D7.out.mono fun q hq => (List.not_mem_nil hq).elim)
    (case c3 => exact hI.mono fun q hq => (List.not_mem_nil hq).elim)
    (case c4 => exact ok_names hc)
    (case ku => ktr_units)
    walk_at "m_steps"
    rename News h₀ L _ ((D, _) :: _) => Nz
    exact hret _ _ _ _ (by k_asm) (news_sub Nz fun q hq => List.mem_cons_of_mem _ (List.mem_cons_of_mem _ (List.mem_cons_of_mem _ (hsubl q hq)))) ⟨rfl, rfl⟩
end
theorem rest_20 : True := by
  w_top off
  try walk1
  first | done | exact True.intro
section
section
variable {prog : Program} {w : World} {A : Around} {E : Value → Shared → Prop} {s : Shared} {env : Env} {h₀ : Heap} {target : PySem.Expr} {body : List Stmt} {Q : Flow → Shared → Prop}
theorem AllObj.up : ∀ {ws : List (Addr × String)} {k k' : List (Addr × Obj) → Prop}, (∀ its, k its → k' its) → AllObj ws k → AllObj ws k'
  | [], _, _, hk, x => hk _ x
  | _ :: _, _, _, hk, x => fun o ho => AllObj.up (fun its => hk _) (x o ho)
theorem enum_inv {ws : List (Addr × String)} {keep : List (Addr × Obj)} (Inv : (Str → Option Value) → List (Addr × Obj) → Prop) (ok : Value → Prop)
    (step : ∀ (i : Nat) v m news, ok v → Inv m news → ∀ T t h tk, IsTup h T #[.int (i : Int) t, v] → Fr h₀ env.locals h m → AllObj ws (fun its => News h₀ env.locals h (its ++ news) →
      wpAny (model prog w) A (assign target env (.ref T)) (fun _ s₂ => wpAny (model prog w) A (execs body env) (UnrPostW h₀ env.locals { s with heap := h, toks := tk } its (fun m' n' => SubL keep n' ∧ Inv m' n') Q) E s₂) E { s with heap := h, toks := tk }))
    (done : ∀ m news, Inv m news → ∀ h tk, Fr h₀ env.locals h m → News h₀ env.locals h news → Q .next { s with heap := h, toks := tk }) :
    ∀ post i m news, (∀ v ∈ post, ok v) → Inv m news → ItemsRest prog w A E h₀ env target body Q s ws keep (enumItems i post) m news := by
  intro post
  induction post with
  | nil => exact fun i m news _ hi => ItemsRest.zero (done m news hi)
  | cons v post ih =>
    intro i m news hv hi
    refine ItemsRest.pair fun T t h tk hT F => ?_
    refine AllObj.up (fun its st N => ?_) (step i v m news (hv v List.mem_cons_self) hi T t h tk hT F)
    refine wpAny_mono (st N) (fun _ s₂ h₂ => wpAny_mono h₂ (fun f s₃ p => ?_) fun _ _ x => x) fun _ _ x => x
    have up : UnrEndW h₀ env.locals { s with heap := h, toks := tk } its (fun m' n' => SubL keep n' ∧ Inv m' n') s₃ →
        UnrEndW h₀ env.locals { s with heap := h, toks := tk } its (fun m' n' => SubL keep n' ∧ ItemsRest prog w A E h₀ env target body Q s ws keep (enumItems (i + 1) post) m' n') s₃ := by
      rintro ⟨h', tk', m', news', e', F', N', ho, hk, hI⟩
      exact ⟨h', tk', m', news', e', F', N', ho, hk, ih (i + 1) m' news' (fun u hu => hv u (List.mem_cons_of_mem _ hu)) hI⟩
    cases f with
    | ret v => exact p
    | brk => exact p
    | next => exact up p
    | cont => exact up p
end
theorem news_swap2 {h₀ h : Heap} {L : Addr} {a b : Addr × Obj} {news : List (Addr × Obj)} (N : News h₀ L h (a :: b :: news)) : News h₀ L h (b :: a :: news) := fun p hp => by
  refine N p ?_
  simp only [List.mem_cons] at hp ⊢
  rcases hp with h | h | h <;> simp [h]
def CellInv (sl : Addr × Obj) (l' : Addr) (news : List (Addr × Obj)) (m : Str → Option Value) (nw : List (Addr × Obj)) : Prop :=
  ∃ cur ds k, nw = sl :: (l', W.listOf (List.toArray cur) k) :: news ∧ IntsAre cur ds ∧ ds.length = 12 ∧ (∀ d ∈ ds, 0 ≤ d) ∧ m (Str.ofString "cells") = some (.ref l')
theorem ints_ok {vs : List Value} {ns : List Int} (h : IntsAre vs ns) : ∀ v ∈ vs, ∃ n t, v = Value.int n t := by
  induction h with
  | nil => exact fun v hv => (List.not_mem_nil hv).elim
  | cons n t _ ih => exact List.forall_mem_cons.mpr ⟨⟨n, t, rfl⟩, ih⟩
section
variable {prog : Program} {w : World} {A : Around} {E : Value → Shared → Prop} {s : Shared} {env : Env} {h₀ : Heap} {target : PySem.Expr} {body : List Stmt} {Q : Flow → Shared → Prop}
theorem enum_cells {ws : List (Addr × String)} {keep : List (Addr × Obj)} {sl : Addr × Obj} {lc : Addr} {news : List (Addr × Obj)} {cur : List Value} {ds : List Int} {k : Nat}
    (step : ∀ (i : Nat) v m nw, (∃ n t, v = Value.int n t) → CellInv sl lc news m nw → ∀ T t h tk, IsTup h T #[.int (i : Int) t, v] → Fr h₀ env.locals h m → AllObj ws (fun its => News h₀ env.locals h (its ++ nw) →
      wpAny (model prog w) A (assign target env (.ref T)) (fun _ s₂ => wpAny (model prog w) A (execs body env) (UnrPostW h₀ env.locals { s with heap := h, toks := tk } its (fun m' n' => SubL keep n' ∧ CellInv sl lc news m' n') Q) E s₂) E { s with heap := h, toks := tk }))
    (done : ∀ m nw, CellInv sl lc news m nw → ∀ h tk, Fr h₀ env.locals h m → News h₀ env.locals h nw → Q .next { s with heap := h, toks := tk }) (post : List Value) (i : Nat) (m : Str → Option Value)
    (hv : ∀ v ∈ post, ∃ n t, v = Value.int n t) (hI : IntsAre cur ds) (hl : ds.length = 12) (h0 : ∀ d ∈ ds, 0 ≤ d) (hm : m (Str.ofString "cells") = some (.ref lc)) :
    ItemsRest prog w A E h₀ env target body Q s ws keep (enumItems i post) m (sl :: (lc, W.listOf cur.toArray k) :: news) :=
  enum_inv (CellInv sl lc news) _ step done post i m _ hv ⟨_, _, _, rfl, hI, hl, h0, hm⟩
end
/-- a contract over a list of the ground -/
abbrev RunS (w : World) (p : Program) (loose : List Str) (mean : ExcName → Option Value) (mg mb : Str → Option Value) (dpN unN : Nat) (sa : Addr) (vs : List Value)
    (f : Addr) (pos : List Value) (kw : List (Str × Value)) (news : List (Addr × Obj)) (Post : Value → List (Addr × Obj) → Prop) : Prop :=
  ∀ (dp un : Nat) (gd : Option (List Code)) (cn : Str) (cs : Scope) (a : Addr) (ccd : Value) (cl : List (Str × Addr)) (outer : List Env) (A₀ : Around) (base h₀ : Heap) (L : Addr) (m : Str → Option Value) (s : Shared) (Q E : Value → Shared → Prop),
    h₀.IsList sa vs.toArray → Below A₀ base outer h₀ → Fr h₀ L s.heap m → (Mine.hd.heap_39 w.params).In h₀ → News h₀ L s.heap news → Top p loose mean mg mb h₀ → cs.kind = .function →
    dp + dpN < recursionLimit → un + unN < cLine →
    (∀ r h' tk' news', Fr h₀ L h' m → News h₀ L h' news' → Post r news' → Q r { s with heap := h', toks := tk' }) →
    wpAny (model PySem.Challenge.rw_wb0122_01.prog w) (ktrTop dp un gd cn cs L a ccd cl outer) (call (.ref f) pos kw) Q E s
theorem RunS.use {w : World} {p : Program} {loose : List Str} {mean : ExcName → Option Value} {mg mb : Str → Option Value} {dpN unN : Nat} {sa : Addr} {vs : List Value} {f : Addr} {pos : List Value} {kw : List (Str × Value)} {news : List (Addr × Obj)} {Post : Value → List (Addr × Obj) → Prop}
    {dp un : Nat} {gd : Option (List Code)} {cn : Str} {cs : Scope} {a : Addr} {ccd : Value} {cl : List (Str × Addr)} {outer : List Env} {A₀ : Around} {base h₀ : Heap} {L : Addr} {m : Str → Option Value} {s : Shared} {Q E : Value → Shared → Prop}
    (R : RunS w p loose mean mg mb dpN unN sa vs f pos kw news Post) (hS : h₀.IsList sa vs.toArray) (B : Below A₀ base outer h₀) (F : Fr h₀ L s.heap m) (X : (Mine.hd.heap_39 w.params).In h₀) (N : News h₀ L s.heap news) (T : Top p loose mean mg mb h₀) (hk : cs.kind = .function)
    (hd : dp + dpN < recursionLimit) (hu : un + unN < cLine) (ret : ∀ r h' tk' news', Fr h₀ L h' m → News h₀ L h' news' → Post r news' → Q r { s with heap := h', toks := tk' }) :
    wpAny (model PySem.Challenge.rw_wb0122_01.prog w) (ktrTop dp un gd cn cs L a ccd cl outer) (call (.ref f) pos kw) Q E s :=
  R _ _ _ _ _ _ _ _ _ _ _ _ _ _ _ _ _ hS B F X N T hk hd hu ret
set_option maxRecDepth 100000 in
set_option maxHeartbeats 8000000 in
theorem cells_run {w : World} {p : Program} {loose : List Str} {mean : ExcName → Option Value} {mg mb : Str → Option Value} {sa : Addr} {vs : List Value} {ns : List Int} {news : List (Addr × Obj)}
     (hI : IntsAre vs ns) (hz : vs.length ≤ 63)
     : RunS w p loose mean mg mb 4 40 sa vs 195 [.ref sa] [] news (fun r news' => ∃ a xs k ds, r = .ref a ∧ (∃ q, news' = (a, W.listOf xs.toArray k) :: q :: news ∧ q.1 ≠ a ∧ (∀ r ∈ news, r.1 ≠ q.1)) ∧ (∀ r ∈ news, r.1 ≠ a) ∧ IntsAre xs ds ∧ ds.length = 12 ∧ ∀ d ∈ ds, 0 ≤ d) := by
  (delta RunS; k_fill; intro dp un gd cn cs a ccd cl outer A₀ base h₀ L m s Q E hS B F X N T hk hd hu hret; refine wpAny_call ?_; k_dflt (refine' code_def ?k1 ?k2 ?k3 ?k4 ?k5 ?kA ?kF ?kK ?k6 ?k7 ?k8 ?k9 ?kB ?_ ?c2 ?c3 ?c4 ?c5; (case kA | kF => exact rfl); (case kK => assumption); (case k1 | k2 | k3 | k4 | k5 => k_asm); (case k6 | k7 => k_is); (case k8 => ktr_room); (case k9 => first | exact BindsTo.of_eq rfl | exact binds_K (by k_in) rfl (by k_is) rfl rfl rfl); (case c5 => decide); (case kB => exact locs rfl); (case c2 | c3 | c4 => exact rfl); k_whole; intro g' L' h' FG' F' N' B' X' T'; (try dsimp only); (try k_lift B'); (try k_fold)))
  have hS' : Heap.IsList g' sa vs.toArray := Heap.IsList.at hS fun o e => FG'.keep _ _ e
  walk_at "m_steps"
  rename Fr _ _ _ _ => lF'
  (with_unfolding_all refine' For_turns lF' ?_)
  k_whole
  walk_at "m_steps"
  rename Fr g' L' _ _ => tF
  rename News g' L' _ ((_, W.listOf _ 0) :: (_, W.listOf _ 0) :: news) => tN
  rename IntsAre _ (List.take 60 ns) => tI
  rename _ < _ ∧ AllLt _ news => tl1
  obtain ⟨tz1, tz2⟩ := tl1
  rename ∀ p ∈ news, p.1 < _ => tz3
  refine ktu_enum rfl tF tN List.mem_cons_self rfl rfl rfl fun I hI => ?_
  refine enum_cells ?step ?done _ _ _ (ints_ok tI) (.cons 0 _ (.cons 6 _ (.cons 1 _ (.cons 3 _ (.cons 2 _ (.cons 5 _ (.cons 9 _ (.cons 1 _ (.cons 2 _ (.cons 3 _ (.cons 6 _ (.cons 5 _ .nil)))))))))))) rfl (by decide) (by simp)
  case done =>
    rintro m2 nw ⟨cur, ds, k2, rfl, hcI, hcl, hc0, hm2⟩ h tk9 F1 N1
    walk_at "m_steps"
    exact hret _ _ _ _ (by k_asm) (news_swap2 (by k_asm)) ⟨_, _, _, _, rfl, ⟨_, rfl, Nat.ne_of_gt tz1, fun r hr => Nat.ne_of_lt (tb_ltOf tz2 r hr)⟩, fun r hr => Nat.ne_of_lt (tz3 r hr), hcI, hcl, hc0⟩
  case step =>
    rintro i v m2 nw ⟨n2, t2, rfl⟩ ⟨cur, ds, k2, rfl, hcI, hcl, hc0, hm2⟩ T t h tk9 hT F1
    intro o1 ho1 o2 ho2 N1
    walk_at "m_steps"
    have hIs := hI _ List.mem_cons_self
    have hIl := hI _ (List.mem_cons_of_mem _ List.mem_cons_self)
    have hIn : ∀ r ∈ news, r.1 < I := fun r hr => hI r (List.mem_cons_of_mem _ (List.mem_cons_of_mem _ hr))
    have hfm : (i : Int).fmod 12 = (i : Int) % 12 := Int.fmod_eq_emod_of_nonneg _ (by decide)
    k_dflt (refine' ksa_set ?k1 ?k2 ?k3 hcI ?k5 ?k6 ?k7 ?_)
    (case k1 => k_asm)
    (case k2 => k_asm)
    (case k3 => exact .tail (Nat.ne_of_gt (Nat.lt_succ_of_lt hIl)) (.tail (Nat.ne_of_gt hIl) (.tail (Nat.ne_of_gt tz1) (.head fun p hp => Nat.ne_of_lt (tz3 p hp)))))
    (case k5 => rw [hfm]; omega)
    (case k6 => rw [hfm, hcl]; omega)
    (case k7 => rw [hfm]; omega)
    intro h5 F5 N5 hi5 hl5 hs5
    walk_at "m_steps"
    refine ⟨_, _, _, _ :: (_, _) :: news, rfl, by k_asm, N5, ?off, ⟨List.mem_cons_self, trivial⟩, ⟨_, _, _, rfl, hi5, hl5.trans hcl, ?nn, by walk_at "m_look"⟩⟩
    case nn =>
      intro d hd
      rcases List.mem_or_eq_of_mem_set hd with hd | rfl
      · exact hc0 d hd
      · have a1 : 0 ≤ ds.getD ((i : Int).fmod 12).toNat 0 := by
          rw [List.getD_eq_getElem?_getD]
          cases hg : ds[((i : Int).fmod 12).toNat]? with
          | none => exact Int.le_refl 0
          | some d => exact hc0 d (List.mem_of_getElem? hg)
        have a2 : 0 ≤ n2.fmod (10 ^ Int.toNat 6) := Int.fmod_nonneg_of_pos _ (by decide)
        exact Int.add_nonneg a1 a2
    case off =>
      intro r hr r' hr'
      have hr9 : r.1 < I := by
        rcases List.mem_cons.mp hr with rfl | hr
        · exact hIs
        · rcases List.mem_cons.mp hr with rfl | hr
          · exact hIl
          · exact hIn r hr
      rcases List.mem_cons.mp hr' with rfl | hr'
      · exact Nat.ne_of_lt (Nat.lt_succ_of_lt hr9)
      · rw [List.mem_singleton.mp hr']
        exact Nat.ne_of_lt hr9
end
theorem rest_21 : True := by
  w_top off
  try walk1
  first | done | exact True.intro
section
/-- what is laid and what is left -/
def LaidSt (size : Int) (crd : List (Int × Int)) (ls : List Int) : Prop :=
  (crd.map (·.1) ++ ls).Perm (rangeKs 0 (size - 0).toNat) ∧ ∀ c ∈ crd, c.2 = 0 ∨ c.2 = 1
theorem laid_start {size : Int} (_ : size = 4 ∨ size = 6) : LaidSt size [] (rangeKs 0 (size - 0).toNat) := ⟨List.Perm.refl _, fun _ h => (List.not_mem_nil h).elim⟩
def LaidInv (I : Nat) (sl : Addr × Obj) (news : List (Addr × Obj)) (size : Int) (pre : List Value) (m : Str → Option Value) (nw : List (Addr × Obj)) : Prop :=
  ∃ (tl : List (Addr × Obj)) (ct lt : Addr) (cv lv : List Value) (kc kl : Nat) (crd : List (Int × Int)) (ls : List Int),
    nw = sl :: (ct, W.listOf cv.toArray kc) :: (lt, W.listOf lv.toArray kl) :: (tl ++ news) ∧ (∀ t ∈ tl, ∀ q ∈ news, q.1 ≠ t.1) ∧ (∀ q ∈ tl ++ news, q.1 < ct) ∧ (∀ q ∈ tl, I < q.1) ∧ DatAll tl cv (crd.map card2) ∧ IntsAre lv ls ∧ crd.length = pre.length ∧ LaidSt size crd ls ∧
    m (Str.ofString "cards") = some (.ref ct) ∧ m (Str.ofString "left") = some (.ref lt)
section
variable {prog : Program} {w : World} {A : Around} {E : Value → Shared → Prop} {s : Shared} {env : Env} {h₀ : Heap} {target : PySem.Expr} {body : List Stmt} {Q : Flow → Shared → Prop}
theorem laid_inv {I : Nat} {ws : List (Addr × String)} {keep : List (Addr × Obj)} {sl : Addr × Obj} {ct lt : Addr} {news : List (Addr × Obj)} {size : Int} {all lv : List Value} {ls : List Int} {kc kl : Nat} {m : Str → Option Value}
    (step : ∀ pre v post m nw, all = pre ++ v :: post → (∃ n t, v = Value.int n t) → LaidInv I sl news size pre m nw → ∀ h tk, Fr h₀ env.locals h m → AllObj ws (fun its => News h₀ env.locals h (its ++ nw) →
      wpAny (model prog w) A (assign target env v) (fun _ s₂ => wpAny (model prog w) A (execs body env) (UnrPostW h₀ env.locals { s with heap := h, toks := tk } its (fun m' n' => SubL keep n' ∧ LaidInv I sl news size (pre ++ [v]) m' n') Q) E s₂) E { s with heap := h, toks := tk }))
    (done : ∀ m nw, LaidInv I sl news size all m nw → ∀ h tk, Fr h₀ env.locals h m → News h₀ env.locals h nw → Q .next { s with heap := h, toks := tk })
    (hv : ∀ v ∈ all, ∃ n t, v = Value.int n t) (hR : IntsAre lv ls) (hs : LaidSt size [] ls) (_ : (all.length : Int) ≤ 6) (hc : ∀ q ∈ news, q.1 < ct)
    (h1 : m (Str.ofString "cards") = some (.ref ct)) (h2 : m (Str.ofString "left") = some (.ref lt)) :
    ItemsRest prog w A E h₀ env target body Q s ws keep (all.map .val) m (sl :: (ct, W.listOf ([] : List Value).toArray kc) :: (lt, W.listOf lv.toArray kl) :: news) :=
  items_inv (LaidInv I sl news size) all (fun pre v post m nw e => step pre v post m nw e (hv v (by rw [e]; simp))) done all [] m _ rfl
    ⟨[], ct, lt, [], lv, kc, kl, [], ls, rfl, fun _ h => (List.not_mem_nil h).elim, hc, fun _ h => (List.not_mem_nil h).elim, .nil, hR, rfl, hs, h1, h2⟩
end
theorem pick_upto {l : List Value} {k : Int} (h : 0 ≤ k) : kms_pick l.toArray.toList none (some k) = l.take k.toNat := by
  unfold kms_pick kms_lo kms_hi
  simp only [if_neg (Int.not_lt.mpr h)]
  rw [List.drop_zero, Nat.sub_zero]
  rcases Nat.le_total k.toNat l.length with q | q
  · rw [Nat.min_eq_left q]
  · rw [Nat.min_eq_right q, List.take_length, List.take_of_length_le q]
theorem pick_from {l : List Value} {k : Int} (h : 0 ≤ k) : kms_pick l.toArray.toList (some k) none = l.drop k.toNat := by
  unfold kms_pick kms_lo kms_hi
  simp only [if_neg (Int.not_lt.mpr h)]
  rcases Nat.le_total k.toNat l.length with q | q
  · rw [Nat.min_eq_left q, List.take_of_length_le (by rw [List.length_drop]; exact Nat.le_refl _)]
  · rw [Nat.min_eq_right q, List.drop_length, List.take_nil, List.drop_of_length_le q]
local macro_rules | `(tactic| walk_at "subscriptTail Name Slice ref ref") => `(tactic| (k_here; (first | (show wpAny _ _ (subscriptTail _ (PySem.Expr.Slice none (some (PySem.Expr.Name (Str.ofString "pick") _)) none _) (Value.ref _) (Value.ref _)) _ _ _) | (show wpAny _ _ (subscriptTail _ (PySem.Expr.Slice (some (PySem.Expr.BinOp _ _ _ _)) none none _) (Value.ref _) (Value.ref _)) _ _ _)); k_dflt (refine' kms_slice_lit ?F ?N ?l ?p ?q ?e ?_ ?s ?t ?z; (case F => k_asm); (case N => k_asm); (case l => kmk_list); (case p => kmk_part); (case q => kmk_part); (case e => first | with_reducible exact pick_upto (by omega) | with_reducible exact pick_from (by omega)); (case s => with_unfolding_all rfl); (case t => kmk_pure); (case z => walk_at "m_size")); intro D' h' F' N' l1; (try k_lt l1); (try k_sweep)))
theorem laid_fin {h₀ h : Heap} {L : Addr} {a b c : Addr × Obj} {tl news : List (Addr × Obj)} (N : News h₀ L h (a :: b :: c :: (tl ++ news))) : News h₀ L h (b :: (tl ++ news)) := fun p hp => by
  refine N p ?_
  simp only [List.mem_cons, List.mem_append] at hp ⊢
  rcases hp with h | h | h <;> simp [h]
theorem laid_next {h₀ h : Heap} {L : Addr} {d1 d2 d3 d4 d5 d6 i sl c l : Addr × Obj} {tl news : List (Addr × Obj)} (N : News h₀ L h (d1 :: d2 :: d3 :: d4 :: d5 :: d6 :: ([i] ++ sl :: c :: l :: (tl ++ news)))) : News h₀ L h (i :: sl :: d4 :: d1 :: ((d6 :: tl) ++ news)) := fun p hp => by
  refine N p ?_
  simp only [List.mem_cons, List.mem_append, List.cons_append, List.nil_append, List.mem_nil_iff, or_false] at hp ⊢
  rcases hp with h | h | h | h | h | h | h <;> simp [h]
theorem ints_take {vs : List Value} {ns : List Int} (h : IntsAre vs ns) : ∀ n, IntsAre (vs.take n) (ns.take n) := by
  induction h with
  | nil => intro n; rw [List.take_nil, List.take_nil]; exact .nil
  | cons n t _ ih =>
    intro k
    cases k with
    | zero => exact .nil
    | succ k => exact .cons _ _ (ih k)
theorem ints_drop {vs : List Value} {ns : List Int} (h : IntsAre vs ns) : ∀ n, IntsAre (vs.drop n) (ns.drop n) := by
  induction h with
  | nil => intro n; rw [List.drop_nil, List.drop_nil]; exact .nil
  | cons n t r ih =>
    intro k
    cases k with
    | zero => exact .cons n t r
    | succ k => exact ih k
theorem ints_app {vs ws : List Value} {ns ms : List Int} (h : IntsAre vs ns) (k : IntsAre ws ms) : IntsAre (vs ++ ws) (ns ++ ms) := by
  induction h with
  | nil => exact k
  | cons n t _ ih => exact .cons n t ih
theorem laid_step {size : Int} {crd : List (Int × Int)} {ls : List Int} (h : LaidSt size crd ls) {k u : Int} (k0 : 0 ≤ k) (k1 : k < (ls.length : Int)) (hu : u = 0 ∨ u = 1) :
    LaidSt size (crd ++ [(ls.getD k.toNat 0, u)]) (ls.take k.toNat ++ ls.drop (k + 1).toNat) := by
  have hk : k.toNat < ls.length := by omega
  have e1 : ls.getD k.toNat 0 = ls[k.toNat] := by simp [hk]
  have e2 : (k + 1).toNat = k.toNat + 1 := by omega
  refine ⟨?_, fun c hc => ?_⟩
  · rw [List.map_append, e1, e2, List.append_assoc]
    refine (List.Perm.append_left _ ?_).trans h.1
    show (ls[k.toNat] :: (ls.take k.toNat ++ ls.drop (k.toNat + 1))).Perm ls
    have e3 : ls = ls.take k.toNat ++ (ls[k.toNat] :: ls.drop (k.toNat + 1)) := by rw [List.getElem_cons_drop, List.take_append_drop]
    refine List.Perm.trans ?_ (List.Perm.of_eq e3.symm)
    exact List.perm_middle.symm
  · rcases List.mem_append.mp hc with hc | hc
    · exact h.2 c hc
    · rw [List.mem_singleton.mp hc]; exact hu
theorem laid_len {size : Int} {crd : List (Int × Int)} {ls : List Int} (h : LaidSt size crd ls) : crd.length + ls.length = (size - 0).toNat := by
  have q := h.1.length_eq
  rw [List.length_append, List.length_map] at q
  rw [q]
  exact rangeKs_length _ _
theorem range_nodup (n : Nat) : (rangeKs 0 n).Nodup := by
  unfold rangeKs
  refine List.Pairwise.map _ (fun a b hab => ?_) List.nodup_range
  omega
theorem laid_end {size : Int} {crd : List (Int × Int)} {ls : List Int} (h : LaidSt size crd ls) (hl : (crd.length : Int) = size) : (∀ c ∈ crd, 0 ≤ c.1 ∧ c.1 < size ∧ (c.2 = 0 ∨ c.2 = 1)) ∧ (crd.map (·.1)).Perm (rangeKs 0 size.toNat) := by
  have e := laid_len h
  have e0 : ls = [] := List.eq_nil_of_length_eq_zero (by omega)
  have hp := h.1
  rw [e0, List.append_nil, Int.sub_zero] at hp
  refine ⟨fun c hc => ?_, hp⟩
  have hb := mem_rangeKs (hp.subset (List.mem_map.mpr ⟨c, hc, rfl⟩))
  exact ⟨hb.1, by omega, h.2 c hc⟩
theorem min6 {size : Int} (h : size = 4 ∨ size = 6) : ((min size.toNat 6 : Nat) : Int) = size := by
  rcases h with rfl | rfl <;> rfl
theorem ls_b {size : Int} {a b c d : Nat} (h : size = 4 ∨ size = 6) (h1 : c + b = (size - 0).toNat) (h2 : d + (a + 1) = min size.toNat 6) (h3 : c = d) : b ≤ 6 ∧ 0 < b := by
  subst h3
  rcases h with rfl | rfl
  · have e1 : c + b = 4 := h1
    have e2 : c + (a + 1) = 4 := h2
    exact ⟨Nat.le_trans (Nat.le_trans (Nat.le_add_left b c) (Nat.le_of_eq e1)) (by decide), Nat.add_lt_add_iff_left.mp (Nat.lt_of_lt_of_eq (Nat.lt_of_lt_of_eq (Nat.lt_add_of_pos_right (Nat.succ_pos a)) e2) e1.symm)⟩
  · have e1 : c + b = 6 := h1
    have e2 : c + (a + 1) = 6 := h2
    exact ⟨Nat.le_trans (Nat.le_add_left b c) (Nat.le_of_eq e1), Nat.add_lt_add_iff_left.mp (Nat.lt_of_lt_of_eq (Nat.lt_of_lt_of_eq (Nat.lt_add_of_pos_right (Nat.succ_pos a)) e2) e1.symm)⟩
theorem pick_in (n : Int) {k : Nat} (h : 0 < k) : 0 ≤ n.fmod (k : Int) ∧ n.fmod (k : Int) < (k : Int) := ⟨Int.fmod_nonneg_of_pos _ (by omega), Int.fmod_lt_of_pos _ (by omega)⟩
set_option maxRecDepth 100000 in
set_option maxHeartbeats 8000000 in
theorem laid_run {w : World} {p : Program} {loose : List Str} {mean : ExcName → Option Value} {mg mb : Str → Option Value} {ca : Addr} {k : Nat} {vs : List Value} {ds : List Int} {size : Int} {ts : Tok} {news : List (Addr × Obj)}
     (m1 : (ca, W.listOf vs.toArray k) ∈ news) (hI : IntsAre vs ds) (hl : ds.length = 6) (h0 : ∀ d ∈ ds, 0 ≤ d) (hsz : size = 4 ∨ size = 6)
     : Run w p loose mean mg mb 4 40 202 [.ref ca, .int size ts] [] news (fun r news' => ∃ (a : Addr) (xs : List Value) (k : Nat) (crd : List (Int × Int)) (tl : List (Addr × Obj)), r = .ref a ∧ news' = (a, W.listOf xs.toArray k) :: (tl ++ news) ∧ (∀ t ∈ tl, ∀ q ∈ news, q.1 ≠ t.1) ∧ (∀ q ∈ tl ++ news, q.1 ≠ a) ∧ DatAll tl xs (crd.map card2) ∧ (crd.length : Int) = size ∧ (∀ c ∈ crd, 0 ≤ c.1 ∧ c.1 < size ∧ (c.2 = 0 ∨ c.2 = 1)) ∧ (crd.map (·.1)).Perm (rangeKs 0 size.toNat)) := by
  have hvl : vs.length = 6 := hI.length.trans hl
  walk_at "m_enter"
  walk_at "m_steps"
  rename Fr _ _ _ _ => lF'
  (with_unfolding_all refine' For_turns lF' ?_)
  k_whole
  walk_at "m_steps"
  rename Fr g' L' _ _ => tF
  rename News g' L' _ ((_, W.listOf _ 0) :: (_, W.listOf _ 0) :: _) => tN
  rename IntsAre _ (List.take size.toNat ds) => tI
  rename IntsAre _ (rangeKs 0 _) => tR
  rename _ < _ ∧ _ < _ ∧ AllLt _ news => tl1
  obtain ⟨tz1, tz2, tz3⟩ := tl1
  rename _ < _ ∧ AllLt _ news => tl2
  obtain ⟨tz4, tz5⟩ := tl2
  refine iter_listTurns rfl tF tN List.mem_cons_self rfl rfl fun I hI => ?_
  refine laid_inv (I := I) ?step ?done (ints_ok tI) tR (laid_start hsz) (by rw [tI.length, List.length_take, hl]; omega) (tb_ltOf tz5) (by walk_at "m_look") (by walk_at "m_look")
  case done =>
    rintro m2 nw ⟨tl, ct, lt, cv, lv, kc, kl, crd, ls, rfl, hap, hct, hIt, hD, hls, hlen, hst, hmc, hml⟩ h tk9 F1 N1
    walk_at "m_steps"
    have hsl : (crd.length : Int) = size := by
      rw [hlen, tI.length, List.length_take, hl]
      exact min6 hsz
    exact hret _ _ _ _ (by k_asm) (laid_fin (by k_asm)) ⟨ct, cv, kc, crd, tl, rfl, rfl, hap, fun q hq => Nat.ne_of_lt (hct q hq), hD, hsl, laid_end hst hsl⟩
  case step =>
    rintro pre v post m2 nw hpre ⟨n2, t2, rfl⟩ ⟨tl, ct, lt, cv, lv, kc, kl, crd, ls, rfl, hap, hct, hIt, hD, hls, hlen, hst, hmc, hml⟩ h tk9 F1
    intro o1 ho1 N1
    refine turn_gen ?_
    intro Q1 hQ1
    have hsum := laid_len hst
    have hal := congrArg List.length hpre
    rw [List.length_append, List.length_cons, tI.length, List.length_take, hl] at hal
    obtain ⟨hls6, hls0⟩ := ls_b hsz hsum hal.symm hlen
    have hlv := hls.length
    have hpk := pick_in n2 hls0
    have hcvl := hD.length
    rw [List.length_map] at hcvl
    have hcv6 : cv.length ≤ 6 := by omega
    clear hsum hal
    generalize hrst : tl ++ news = rst at *
    walk_at "m_steps"
    rename AllLt _ ([(I, o1)] ++ (_, _) :: (_, _) :: (_, _) :: rst) => u1
    rename _ < _ ∧ _ < _ ∧ _ < _ ∧ _ < _ ∧ _ < _ ∧ AllLt _ ([(I, o1)] ++ (_, _) :: (_, _) :: (_, _) :: rst) => u6
    rename _ < _ ∧ _ < _ ∧ AllLt _ ([(I, o1)] ++ (_, _) :: (_, _) :: (_, _) :: rst) => u3
    rename News _ _ _ ((_, _) :: (_, _) :: (_, _) :: (_, _) :: (_, _) :: (_, _) :: _) => N9
    obtain ⟨u31, u32, u33⟩ := u3
    obtain ⟨u61, u62, u63, u64, u65, u66⟩ := u6
    subst hrst
    have hup : (n2.fdiv (ls.length : Int)).fmod 2 = 0 ∨ (n2.fdiv (ls.length : Int)).fmod 2 = 1 := by
      rw [Int.fmod_eq_emod_of_nonneg _ (by decide)]; omega
    have u1' := tb_ltOf u1
    have iD := u1' _ List.mem_cons_self
    have uN : ∀ q ∈ tl ++ news, q.1 < _ := fun q hq => u1' q (List.mem_cons_of_mem _ (List.mem_cons_of_mem _ (List.mem_cons_of_mem _ (List.mem_cons_of_mem _ hq))))
    have u3' := tb_ltOf u33
    have uM : ∀ q ∈ tl ++ news, q.1 < _ := fun q hq => u3' q (List.mem_cons_of_mem _ (List.mem_cons_of_mem _ (List.mem_cons_of_mem _ (List.mem_cons_of_mem _ hq))))
    have hIn : ∀ r ∈ news, r.1 < I := fun r hr => hI r (List.mem_cons_of_mem _ (List.mem_cons_of_mem _ (List.mem_cons_of_mem _ hr)))
    refine hQ1 _ ⟨_, _, _, (_, _) :: (_, _) :: (_, _) :: ((_ :: tl) ++ news), rfl, by k_asm, laid_next N9, ?off, ⟨List.mem_cons_self, trivial⟩, ⟨_ :: tl, _, _, _, _, _, _, crd ++ [(_, _)], _, rfl, ?ap, ?ct, ?it, ?dd, ints_app (ints_take hls _) (ints_drop hls _), ?ln, laid_step hst hpk.1 hpk.2 hup, by walk_at "m_look", by walk_at "m_look"⟩⟩
    case off =>
      intro r hr r' hr'
      rw [List.mem_singleton.mp hr']
      rcases List.mem_cons.mp hr with rfl | hr
      · exact Nat.ne_of_lt (hI _ List.mem_cons_self)
      rcases List.mem_cons.mp hr with rfl | hr
      · exact Nat.ne_of_gt (Nat.lt_trans iD u32)
      rcases List.mem_cons.mp hr with rfl | hr
      · exact Nat.ne_of_gt (Nat.lt_trans iD u65)
      rcases List.mem_append.mp hr with hr | hr
      · rcases List.mem_cons.mp hr with rfl | hr
        · exact Nat.ne_of_gt iD
        · exact Nat.ne_of_gt (hIt r hr)
      · exact Nat.ne_of_lt (hIn r hr)
    case ap =>
      intro t ht q hq
      rcases List.mem_cons.mp ht with rfl | ht
      · exact Nat.ne_of_lt (uN q (List.mem_append_right _ hq))
      · exact hap t ht q hq
    case ct =>
      intro q hq
      rcases List.mem_cons.mp hq with rfl | hq
      · exact u32
      · exact uM q hq
    case it =>
      intro q hq
      rcases List.mem_cons.mp hq with rfl | hq
      · exact iD
      · exact hIt q hq
    case dd =>
      rw [List.map_append]
      exact (DatAll.mono (fun _ h => List.mem_cons_of_mem _ h) hD).append (.cons (.tuple List.mem_cons_self (.cons (.int _ _) (.cons (.int _ _) .nil))) .nil)
    case ln =>
      rw [List.length_append, List.length_append, hlen]
      rfl
end
theorem rest_22 : True := by
  w_top off
  try walk1
  first | done | exact True.intro
section
/-- a sort's questions, answered by lt -/
def kRun {α : Type} (lt : Nat → Nat → Bool) (n : Nat) : KasT α → Option α
  | .ret a => some a
  | .ask i j k => if i < n ∧ j < n then kRun lt n (k (lt i j)) else none
theorem kRun_wp {α : Type} {lt : Nat → Nat → Bool} {n : Nat} {cmp : Nat → Nat → (Bool → Shared → Prop) → Shared → Prop} {Q : α → Shared → Prop} {s : Shared}
    (hc : ∀ i j (C : Bool → Shared → Prop), i < n → j < n → C (lt i j) s → cmp i j C s) : ∀ (t : KasT α) (a : α), kRun lt n t = some a → Q a s → t.kasWp cmp Q s
  | .ret b, a, h, q => by
    have e : b = a := by simpa [kRun] using h
    show Q b s
    rw [e]; exact q
  | .ask i j k, a, h, q => by
    unfold kRun at h
    by_cases hb : i < n ∧ j < n
    · rw [if_pos hb] at h
      exact hc i j _ hb.1 hb.2 (kRun_wp hc (k (lt i j)) a h q)
    · rw [if_neg hb] at h
      exact absurd h (by simp)
def perms : Nat → List Nat → List (List Nat)
  | 0, _ => [[]]
  | k + 1, xs => xs.flatMap fun x => (perms k (xs.erase x)).map (x :: ·)
theorem mem_perms : ∀ {l xs : List Nat}, l.Perm xs → l ∈ perms l.length xs
  | [], _, _ => List.mem_singleton.mpr rfl
  | x :: l, xs, h => by
    have hx : x ∈ xs := h.subset List.mem_cons_self
    have h' : l.Perm (xs.erase x) := (List.cons_perm_iff_perm_erase.mp h).2
    exact List.mem_flatMap.mpr ⟨x, hx, List.mem_map.mpr ⟨l, mem_perms h', rfl⟩⟩
def sortOk (n : Nat) (l : List Nat) : Bool :=
  match kRun (fun i j => Nat.blt (l.getD i 0) (l.getD j 0)) n (kas_sort n) with
  | some p => p.toList.all (fun i => Nat.blt i n) && p.toList.map (fun i => l.getD i 0) == List.range n
  | none => false
set_option maxRecDepth 100000 in
theorem sort4 : (perms 4 (List.range 4)).all (sortOk 4) = true := by decide +kernel
theorem all_perms {k : Nat} {xs : List Nat} {f : List Nat → Bool} (h : ∀ x ∈ xs, (perms k (xs.erase x)).all (fun l => f (x :: l)) = true) : (perms (k + 1) xs).all f = true := by
  refine List.all_eq_true.mpr fun l hl => ?_
  obtain ⟨x, hx, hl⟩ := List.mem_flatMap.mp hl
  obtain ⟨r, hr, rfl⟩ := List.mem_map.mp hl
  exact List.all_eq_true.mp (h x hx) r hr
theorem six_first {P : Nat → Prop} (h0 : P 0) (h1 : P 1) (h2 : P 2) (h3 : P 3) (h4 : P 4) (h5 : P 5) : ∀ x ∈ List.range 6, P x := fun x hx => by
  match x, List.mem_range.mp hx with
  | 0, _ => exact h0
  | 1, _ => exact h1
  | 2, _ => exact h2
  | 3, _ => exact h3
  | 4, _ => exact h4
  | 5, _ => exact h5
set_option maxRecDepth 100000 in
theorem sort6at0 : (perms 5 ((List.range 6).erase 0)).all (fun l => sortOk 6 (0 :: l)) = true := by decide +kernel
set_option maxRecDepth 100000 in
theorem sort6at1 : (perms 5 ((List.range 6).erase 1)).all (fun l => sortOk 6 (1 :: l)) = true := by decide +kernel
set_option maxRecDepth 100000 in
theorem sort6at2 : (perms 5 ((List.range 6).erase 2)).all (fun l => sortOk 6 (2 :: l)) = true := by decide +kernel
set_option maxRecDepth 100000 in
theorem sort6at3 : (perms 5 ((List.range 6).erase 3)).all (fun l => sortOk 6 (3 :: l)) = true := by decide +kernel
set_option maxRecDepth 100000 in
theorem sort6at4 : (perms 5 ((List.range 6).erase 4)).all (fun l => sortOk 6 (4 :: l)) = true := by decide +kernel
set_option maxRecDepth 100000 in
theorem sort6at5 : (perms 5 ((List.range 6).erase 5)).all (fun l => sortOk 6 (5 :: l)) = true := by decide +kernel
theorem sort6 : (perms 6 (List.range 6)).all (sortOk 6) = true := all_perms (six_first sort6at0 sort6at1 sort6at2 sort6at3 sort6at4 sort6at5)
theorem sort_some {n : Nat} (hn : n = 4 ∨ n = 6) {l : List Nat} (h : l.Perm (List.range n)) :
    ∃ p : Array Nat, kRun (fun i j => Nat.blt (l.getD i 0) (l.getD j 0)) n (kas_sort n) = some p ∧ (∀ i ∈ p.toList, i < n) ∧ p.toList.map (fun i => l.getD i 0) = List.range n := by
  have hl : l.length = n := by rw [h.length_eq, List.length_range]
  have hm := mem_perms h
  rw [hl] at hm
  have ok : sortOk n l = true := by
    rcases hn with rfl | rfl
    · exact List.all_eq_true.mp sort4 l hm
    · exact List.all_eq_true.mp sort6 l hm
  unfold sortOk at ok
  cases hr : kRun (fun i j => Nat.blt (l.getD i 0) (l.getD j 0)) n (kas_sort n) with
  | none => rw [hr] at ok; exact absurd ok (by simp)
  | some p =>
    rw [hr] at ok
    simp only [Bool.and_eq_true, List.all_eq_true, beq_iff_eq] at ok
    exact ⟨p, rfl, fun i hi => Nat.blt_eq.mp (ok.1 i hi), ok.2⟩
theorem ints_ok' {vs : List Value} {ns : List Int} (h : IntsAre vs ns) : ∀ v ∈ vs, ∃ n t, v = Value.int n t := by
  induction h with
  | nil => exact fun v hv => (List.not_mem_nil hv).elim
  | cons n t _ ih => exact List.forall_mem_cons.mpr ⟨⟨n, t, rfl⟩, ih⟩
theorem tups_of {h₀ h : Heap} {L : Addr} {news : List (Addr × Obj)} (N : News h₀ L h news) : ∀ {prs : List (Int × Int)} {vs : List Value}, DatAll news vs (prs.map card2) → ∃ fs, KatTups h vs fs ∧ IntsAre fs (prs.map (·.1))
  | [], _, hD => by cases hD; exact ⟨[], .nil, .nil⟩
  | p :: prs, _, hD => by
    cases hD with
    | cons h1 h2 =>
      obtain ⟨fs, i1, i2⟩ := tups_of N h2
      obtain ⟨T, t1, t2, n, rfl, hT⟩ := ipair_obj h1
      exact ⟨_, .cons (N _ hT).1 rfl rfl rfl i1, .cons _ _ i2⟩
theorem pairs_get {news : List (Addr × Obj)} {prs : List (Int × Int)} {vs : List Value} (hD : DatAll news vs (prs.map card2)) {i : Nat} (hi : i < prs.length) :
    ∃ T t1 t2 n, vs.getD i Value.none = .ref T ∧ (T, tup2 (.int (prs.getD i (0, 0)).1 t1) (.int (prs.getD i (0, 0)).2 t2) n) ∈ news := by
  have hi' : i < (prs.map card2).length := by rw [List.length_map]; exact hi
  obtain ⟨v, hv, hd⟩ := hD.get hi'
  rw [List.getElem_map] at hd
  obtain ⟨T, t1, t2, n, rfl, hT⟩ := ipair_obj hd
  have e : prs.getD i (0, 0) = prs[i] := by simp [hi]
  refine ⟨T, t1, t2, n, ?_, ?_⟩
  · rw [List.getD_eq_getElem?_getD, hv]; rfl
  · rw [e]; exact hT
theorem pairs_pick {news : List (Addr × Obj)} {prs : List (Int × Int)} {vs : List Value} (hD : DatAll news vs (prs.map card2)) : ∀ {p : List Nat}, (∀ i ∈ p, i < prs.length) →
    DatAll news (p.map fun i => vs.getD i Value.none) ((p.map fun i => prs.getD i (0, 0)).map card2)
  | [], _ => .nil
  | i :: p, h => by
    refine .cons ?_ (pairs_pick hD fun j hj => h j (List.mem_cons_of_mem _ hj))
    have hi := h i List.mem_cons_self
    have hi' : i < (prs.map card2).length := by rw [List.length_map]; exact hi
    obtain ⟨v, hv, hd⟩ := hD.get hi'
    rw [List.getElem_map] at hd
    have e : prs.getD i (0, 0) = prs[i] := by simp [hi]
    show DatIn news (vs.getD i Value.none) (card2 (prs.getD i (0, 0)))
    rw [List.getD_eq_getElem?_getD, hv, e]
    exact hd
def numsOf (prs : List (Int × Int)) : List Nat := prs.map fun p => p.1.toNat
theorem numsOf_get {prs : List (Int × Int)} (h0 : ∀ p ∈ prs, 0 ≤ p.1) {i : Nat} (hi : i < prs.length) : (prs.getD i (0, 0)).1 = ((numsOf prs).getD i 0 : Int) := by
  have e : prs.getD i (0, 0) = prs[i] := by simp [hi]
  have e2 : (numsOf prs).getD i 0 = (prs[i]).1.toNat := by simp [numsOf, hi]
  rw [e, e2, Int.toNat_of_nonneg (h0 _ (List.getElem_mem hi))]
section
variable {prog : Program} {w : World} {A : Around} {E : Value → Shared → Prop} {s : Shared} {h₀ : Heap} {L : Addr} {m : Str → Option Value} {news : List (Addr × Obj)} {vs : List Value} {prs : List (Int × Int)}
theorem ask_pairs {n : Nat} (N : News h₀ L s.heap news) (hD : DatAll news vs (prs.map card2)) (hn : prs.length = n) (h0 : ∀ p ∈ prs, 0 ≤ p.1) (hnd : (numsOf prs).Nodup) {i j : Nat} {C : Bool → Shared → Prop} (hi : i < n) (hj : j < n)
    (h : C (Nat.blt ((numsOf prs).getD i 0) ((numsOf prs).getD j 0)) s) : kas_ask prog w A (tuples' (Value.type "int" != Value.type "tuple")) vs i j C s := by
  subst hn
  unfold kas_ask
  obtain ⟨T, t1, t2, n1, e1, m1⟩ := pairs_get hD hi
  obtain ⟨U, t3, t4, n2, e2, m2⟩ := pairs_get hD hj
  rw [e1, e2]
  refine kat_lt (N _ m1).1 rfl (N _ m2).1 rfl ?_
  refine kat_cons (wpAny_eqBool_int ?_)
  have q1 := numsOf_get h0 hi
  have q2 := numsOf_get h0 hj
  have hln : (numsOf prs).length = prs.length := List.length_map ..
  by_cases hij : i = j
  · subst hij
    rw [beq_self_eq_true]
    refine kat_yes (kat_cons (wpAny_eqBool_int ?_))
    rw [beq_self_eq_true]
    refine kat_yes (kat_nil ?_)
    have e : Nat.blt ((numsOf prs).getD i 0) ((numsOf prs).getD i 0) = false := by
      cases hb : Nat.blt ((numsOf prs).getD i 0) ((numsOf prs).getD i 0) with
      | false => rfl
      | true => exact absurd (Nat.blt_eq.mp hb) (Nat.lt_irrefl _)
    rw [e] at h
    exact h
  · have hne : (numsOf prs).getD i 0 ≠ (numsOf prs).getD j 0 := by
      intro e
      rw [List.getD_eq_getElem?_getD, List.getD_eq_getElem?_getD, List.getElem?_eq_getElem (by rw [hln]; exact hi), List.getElem?_eq_getElem (by rw [hln]; exact hj)] at e
      exact hij ((List.getElem_inj hnd).mp e)
    have e : ((prs.getD i (0, 0)).1 == (prs.getD j (0, 0)).1) = false := by
      rw [beq_eq_false_iff_ne, q1, q2]
      omega
    rw [e]
    refine kat_no (oneLt_int ?_)
    have e2 : decide ((prs.getD i (0, 0)).1 < (prs.getD j (0, 0)).1) = Nat.blt ((numsOf prs).getD i 0) ((numsOf prs).getD j 0) := by
      rw [q1, q2]
      by_cases hlt : (numsOf prs).getD i 0 < (numsOf prs).getD j 0
      · rw [Nat.blt_eq.mpr hlt]
        exact decide_eq_true (by omega)
      · have e3 : Nat.blt ((numsOf prs).getD i 0) ((numsOf prs).getD j 0) = false := by
          cases hb : Nat.blt ((numsOf prs).getD i 0) ((numsOf prs).getD j 0) with
          | false => rfl
          | true => exact absurd (Nat.blt_eq.mp hb) hlt
        rw [e3]
        exact decide_eq_false (by omega)
    rw [e2]
    exact h
theorem sorted_pairs {l : Addr} {Q : Value → Shared → Prop} (F : Fr h₀ L s.heap m) (N : News h₀ L s.heap news) (hl : s.heap.IsList l vs.toArray) (hD : DatAll news vs (prs.map card2)) (h0 : ∀ p ∈ prs, 0 ≤ p.1) (hz : prs.length = 4 ∨ prs.length = 6) (hp : (numsOf prs).Perm (List.range prs.length))
    (h : ∀ D c h' ys qs, Fr h₀ L h' m → News h₀ L h' ((D, W.listOf (List.toArray ys) c) :: news) → (∀ q ∈ news, q.1 < D) → DatAll news ys (qs.map card2) → numsOf qs = List.range prs.length → (∀ q ∈ qs, q ∈ prs) → Q (.ref D) { s with heap := h' }) :
    wpAny (model prog w) A (call (.builtin "sorted") [.ref l]) Q E s := by
  have hlen : vs.length = prs.length := by rw [hD.length, List.length_map]
  refine kat_sorted F N hl (by omega) (by omega) fun D e1 h' F' N' lD => ?_
  obtain ⟨fs, kt, fi⟩ := tups_of (news_tail N') hD
  have hfl : fs.length = prs.length := by rw [fi.length, List.length_map]
  refine kat_kind (T := .type "int") kt (by omega) (fun v hv => ?_) rfl ?_
  · obtain ⟨n, t, rfl⟩ := ints_ok' fi v hv
    exact Looks.of_pure rfl
  obtain ⟨p, hr, hpl, hpm⟩ := sort_some hz hp
  rw [hlen]
  have hnd : (numsOf prs).Nodup := hp.nodup_iff.mpr List.nodup_range
  refine kRun_wp (fun i j C hi hj hC => ask_pairs (news_tail N') hD rfl h0 hnd hi hj hC) _ p hr ?_
  refine KasFin.intro F' N' (.head fun q hq => Nat.ne_of_lt (lD q hq)) fun h2 c F2 N2 => ?_
  refine h D c h2 _ (p.toList.map fun i => prs.getD i (0, 0)) F2 N2 lD (pairs_pick hD hpl) ?_ ?_
  · rw [← hpm]
    unfold numsOf
    rw [List.map_map]
    refine List.map_congr_left fun i hi => ?_
    have hi' := hpl i hi
    have e : prs.getD i (0, 0) = prs[i] := by simp [hi']
    simp [hi', e]
  · intro q hq
    obtain ⟨i, hi, rfl⟩ := List.mem_map.mp hq
    have hi' := hpl i hi
    have e : prs.getD i (0, 0) = prs[i] := by simp [hi']
    rw [e]
    exact List.getElem_mem hi'
end
end
theorem rest_23 : True := by
  w_top off
  try walk1
  first | done | exact True.intro
section
section
variable {prog : Program} {w : World} {A : Around} {E : Value → Shared → Prop} {s : Shared}
theorem kcp_assign2 {env : Env} {a b c : Str} {pa pb pc tp tp2 : Pos} {kk kk2 : Nat} {T U : Addr} {x y z : Value} {m : Str → Option Value} {Q : Unit → Shared → Prop} (hh : A.handled = none) (ht : s.heap.IsTuple T #[x, .ref U]) (hU : s.heap.IsTuple U #[y, z])
    (ha : env.kindOf a = some .local) (hb : env.kindOf b = some .local) (hc : env.kindOf c = some .local) (hp : (env.scope.kind == .class || (env.scope.kind == .module && env.locals != env.globals)) = false) (hn : s.heap.Ns env.locals m) (hUL : U ≠ env.locals)
    (h : ∀ (h' : Heap) (tk : Nat), h'.Ns env.locals (fun r => if r = c then some z else if r = b then some y else if r = a then some x else m r) → (∀ d o, d ≠ env.locals → s.heap.get? d = some o → h'.get? d = some o) → Q () { s with heap := h', toks := tk }) :
    wpAny (model prog w) A (assign (.Tuple [.Name a pa, .Tuple [.Name b pb, .Name c pc] kk2 tp2] kk tp) env (.ref T)) Q E s := by
  refine wpAny_assign_Tuple hh ht rfl rfl fun h₁ he₁ => ?_
  have hL : env.locals ≠ s.heap.objs.size := Nat.ne_of_lt hn.lt
  have hn₁ : h₁.Ns env.locals m := hn.at' fun o e => he₁ _ o hL e
  have up₁ : ∀ c o, s.heap.get? c = some o → h₁.get? c = some o := fun c o e => he₁ c o (Nat.ne_of_lt (Heap.lt_size e)) e
  show wpAny _ _ (assignInOrder [assign (.Name a pa) env, assign (.Tuple [.Name b pb, .Name c pc] kk2 tp2) env] [x, .ref U]) _ _ _
  refine assignInOrder_cons ?_
  refine wpAny_assign_Name (wpAny_storeName_local ha hn₁ (fun h₂ hn₂ hs₂ => ?_) hp)
  refine assignInOrder_cons ?_
  refine kcp_assign hh (hU.at fun o e => hs₂.extBut U o hUL (up₁ U o e)) hb hc hp hn₂ fun h₃ tk hn₃ hk₃ => ?_
  refine assignInOrder_nil ?_
  exact h h₃ tk hn₃ fun c o hc e => hk₃ c o hc (hs₂.extBut c o hc (up₁ c o e))
end
section
variable {prog : Program} {w : World} {A : Around} {E : Value → Shared → Prop} {h₀ : Heap} {L : Addr} {m : Str → Option Value} {env : Env}
/-- a comprehension over an enumerated list of pairs -/
theorem enum_comp {elt iter : PySem.Expr} {x x₂ x₃ : Str} {px px₂ px₃ tp tp2 : Pos} {kk kk2 : Nat} {scope : Scope} {cl : List (Str × Addr)} {pos : Pos} {s₁ : Shared} {ax : Addr} {vs : List Value} {k : Nat} {prs : List (Value × Value)} {news : List (Addr × Obj)} {Q : Value → Shared → Prop}
    (hh : A.handled = none) (hcell : ∀ y ∈ scope.names, y.2 ≠ .cell) (hkind : scope.kind = .function) (hx : scope.names.lookup x = some .local) (hx₂ : scope.names.lookup x₂ = some .local) (hx₃ : scope.names.lookup x₃ = some .local) (h12 : x ≠ x₂) (h13 : x ≠ x₃) (h23 : x₂ ≠ x₃)
    (F : Fr h₀ L s₁.heap m) (N : News h₀ L s₁.heap news) (hm : (ax, W.listOf vs.toArray k) ∈ news) (hP : PairsAt news vs prs) (hz : vs.length ≤ sizeLine)
    (Inv : Nat → List Value → List (Addr × Obj) → Prop) (h0 : Inv 0 [] news) (hkeep : ∀ i ys nw, Inv i ys nw → ∀ p ∈ news, p ∈ nw)
    (step : ∀ i ys nw own a b t C oC D m₂ h tk (E' : Value → Shared → Prop), prs[i]? = some (a, b) → m₂ x = some (.int (i : Int) t) → m₂ x₂ = some a → m₂ x₃ = some b → Inv i ys nw → LCg.NsObj oC m₂ → Fr h₀ L h m → News h₀ L h ((C, oC) :: (D, LCg.lst ys) :: (nw ++ own)) →
      wpAny (model prog w) A (eval elt (compEnvC scope cl C env)) (AddEnd h₀ L m { s₁ with heap := h, toks := tk } ((C, oC) :: (D, LCg.lst ys) :: (nw ++ own)) (fun y add => Inv (i + 1) (ys ++ [y]) (add ++ nw))) E' { s₁ with heap := h, toks := tk })
    (fin : ∀ D h tk ys nw, Inv vs.length ys nw → Fr h₀ L h m → News h₀ L h ((D, LCg.lst ys) :: nw) → (∀ p ∈ nw, p.1 ≠ D) → Q (.ref D) { s₁ with heap := h, toks := tk }) :
    wpAny (model prog w) A (call (.type "enumerate") [.ref ax]) (fun xv s₂ => wpAny (model prog w) A (pyIter xv) (fun it s₂ => wpAny (model prog w) A (newList []) (fun acc s₃ => wpAny (model prog w) A (newFunctionEnv scope env.globals cl [] env.qual none .none (some env)) (fun cenv s₄ =>
      codeAny (model prog w) A (.compStart (.ListComp elt [⟨.Tuple [.Name x px, .Tuple [.Name x₂ px₂, .Name x₃ px₃] kk2 tp2] kk tp, iter, [], 0⟩] scope pos) 0 it acc { cenv with scope := relabel scope env }) (compPost (model prog w) A E none Q acc cenv.locals) s₄) E s₃) E s₂) E s₂) E s₁ := by
  have hax := N _ hm
  have hl : s₁.heap.IsList ax vs.toArray := ⟨_, hax.1, rfl, k, rfl⟩
  have hlt : ax < s₁.heap.objs.size := Heap.lt_size hax.1
  have hLs : L < s₁.heap.objs.size := F.ns.lt
  refine call_enumerate_list hl fun h' hE hI hsz hk => ?_
  refine wpAny_pyIter_enum hE ?_
  have W := (WalksT.enumerate (prog := prog) (w := w) hh (s₁.heap.objs.size + 1) s₁.heap.objs.size ax (Nat.succ_ne_self _) (ktu_ne 1 hlt) (Nat.ne_of_lt hlt) vs.toArray).toU
  have hnsz : vs.toArray.size = vs.length := List.size_toArray
  rw [hnsz] at W
  refine comp_turns (KTurns.ofWalksU W) (fun i m'' => ∃ a b t, prs[i]? = some (a, b) ∧ m'' x = some (.int (i : Int) t) ∧ m'' x₂ = some a ∧ m'' x₃ = some b) Inv (fun Q E s st q => W.self 0 s Q E st q) hz hcell hkind
    ⟨⟨.none, hE⟩, hI, hl.at fun o e => hk ax o e⟩ ?_ ?_ ?_ ?_ ?_ ?_ (F.keeps hk) (N.grown hk) h0 hkeep ?_ ?_ ?_
  · intro b hb
    have hb' : b = s₁.heap.objs.size + 1 ∨ b = s₁.heap.objs.size ∨ b = ax := by simpa using hb
    show b < h'.objs.size
    rcases hb' with rfl | rfl | rfl
    · obtain ⟨_, q⟩ : ∃ o, h'.get? (s₁.heap.objs.size + 1) = some o := ⟨_, hE⟩
      exact Heap.lt_size q
    · obtain ⟨_, q, _⟩ := hI
      exact Heap.lt_size q
    · exact Heap.lt_size (hk _ _ hax.1)
  · intro b hb
    have hb' : b = s₁.heap.objs.size + 1 ∨ b = s₁.heap.objs.size ∨ b = ax := by simpa using hb
    rcases hb' with rfl | rfl | rfl
    · exact .inl (by simp)
    · exact .inl (by simp)
    · exact .inr ⟨_, hm⟩
  · rintro i h ⟨⟨old, he⟩, ⟨oi, hoi, _⟩, _⟩ b hb
    have hb' : b = s₁.heap.objs.size + 1 ∨ b = s₁.heap.objs.size := by simpa using hb
    rcases hb' with rfl | rfl
    · exact ⟨_, he⟩
    · exact ⟨_, hoi⟩
  · intro b hb
    have hb' : b = s₁.heap.objs.size + 1 ∨ b = s₁.heap.objs.size := by simpa using hb
    rcases hb' with rfl | rfl
    · exact ktu_new F (Nat.le_add_right _ _)
    · exact ktu_new F (Nat.le_refl _)
  · intro hI'
    have hb' : L = s₁.heap.objs.size + 1 ∨ L = s₁.heap.objs.size := by simpa using hI'
    rcases hb' with e | e
    · exact ktu_ne 1 hLs e
    · exact Nat.ne_of_lt hLs e
  · intro p hp hI'
    have hb' : p.1 = s₁.heap.objs.size + 1 ∨ p.1 = s₁.heap.objs.size := by simpa using hI'
    have hlp := Heap.lt_size (N p hp).1
    rcases hb' with e | e
    · exact ktu_ne 1 hlp e
    · exact Nat.ne_of_lt hlp e
  · rintro i v h tk C m' Q' E' hi ⟨T, vals, rfl, ⟨t, u, hu, rfl⟩, hT⟩ hN hC hq
    have hv : vs[i]? = some u := by simpa using hu
    obtain ⟨U, a, b, k', rfl, hp, hU⟩ := hP.2 i u hv
    have hUo := hN _ hU
    have hUC : U ≠ C := by
      rintro rfl
      obtain ⟨oC, es, ep, ho, hd, _⟩ := hC
      rw [hUo] at ho
      cases ho
      cases hd
    refine kcp_assign2 hh hT ⟨_, hUo, rfl, k', rfl⟩ (lookup_relabel_local hx) (lookup_relabel_local hx₂) (lookup_relabel_local hx₃) (by simp [compEnvC, relabel, hkind]) hC hUC fun h' tk' hn' hk' => ?_
    exact hq h' tk' _ hn' ⟨a, b, t, hp, by simp [h12, h13], by simp [h23], by simp⟩ hk'
  · rintro i ys nw own C oC D m₂ h tk E' hi hI ⟨a, b, t, hp, h1, h2, h3⟩ hC F' N'
    exact step i ys nw own a b t C oC D m₂ h tk E' hp h1 h2 h3 hI hC F' N'
  · exact fin
end
section
variable {prog : Program} {w : World} {A : Around} {E : Value → Shared → Prop} {h₀ : Heap} {L : Addr} {m : Str → Option Value} {env : Env}
theorem enum_comp2 {elt iter : PySem.Expr} {x x₂ x₃ : Str} {px px₂ px₃ tp tp2 : Pos} {kk kk2 : Nat} {scope : Scope} {cl : List (Str × Addr)} {pos : Pos} {s₁ : Shared} {ax : Addr} {vs : List Value} {k : Nat} {prs : List (Value × Value)} {news : List (Addr × Obj)} {Q : Value → Shared → Prop}
    (hh : A.handled = none) (hcell : ∀ y ∈ scope.names, y.2 ≠ .cell) (hkind : scope.kind = .function) (hx : scope.names.lookup x = some .local) (hx₂ : scope.names.lookup x₂ = some .local) (hx₃ : scope.names.lookup x₃ = some .local) (h12 : x ≠ x₂) (h13 : x ≠ x₃) (h23 : x₂ ≠ x₃)
    (F : Fr h₀ L s₁.heap m) (N : News h₀ L s₁.heap news) (hm : (ax, W.listOf vs.toArray k) ∈ news) (hP : PairsAt news vs prs) (hz : vs.length ≤ sizeLine)
    (R : Nat → List Value → List (Addr × Obj) → Prop) (h0 : R 0 [] [])
    (step : ∀ i ys tl own a b t C oC D m₂ h tk (E' : Value → Shared → Prop), prs[i]? = some (a, b) → m₂ x = some (.int (i : Int) t) → m₂ x₂ = some a → m₂ x₃ = some b → R i ys tl → LCg.NsObj oC m₂ → Fr h₀ L h m → News h₀ L h ((C, oC) :: (D, LCg.lst ys) :: ((tl ++ news) ++ own)) →
      wpAny (model prog w) A (eval elt (compEnvC scope cl C env)) (AddEnd h₀ L m { s₁ with heap := h, toks := tk } ((C, oC) :: (D, LCg.lst ys) :: ((tl ++ news) ++ own)) (fun y add => R (i + 1) (ys ++ [y]) (add ++ tl))) E' { s₁ with heap := h, toks := tk })
    (fin : ∀ D h tk ys tl, R vs.length ys tl → Fr h₀ L h m → News h₀ L h ((D, LCg.lst ys) :: (tl ++ news)) → (∀ p ∈ tl, p.1 ≠ D) → (∀ p ∈ news, p.1 ≠ D) → (∀ t ∈ tl, ∀ q ∈ news, q.1 ≠ t.1) → Q (.ref D) { s₁ with heap := h, toks := tk }) :
    wpAny (model prog w) A (call (.type "enumerate") [.ref ax]) (fun xv s₂ => wpAny (model prog w) A (pyIter xv) (fun it s₂ => wpAny (model prog w) A (newList []) (fun acc s₃ => wpAny (model prog w) A (newFunctionEnv scope env.globals cl [] env.qual none .none (some env)) (fun cenv s₄ =>
      codeAny (model prog w) A (.compStart (.ListComp elt [⟨.Tuple [.Name x px, .Tuple [.Name x₂ px₂, .Name x₃ px₃] kk2 tp2] kk tp, iter, [], 0⟩] scope pos) 0 it acc { cenv with scope := relabel scope env }) (compPost (model prog w) A E none Q acc cenv.locals) s₄) E s₃) E s₂) E s₂) E s₁ := by
  refine enum_comp hh hcell hkind hx hx₂ hx₃ h12 h13 h23 F N hm hP hz (fun i ys nw => ∃ tl, nw = tl ++ news ∧ (∀ t ∈ tl, ∀ q ∈ news, q.1 ≠ t.1) ∧ R i ys tl) ⟨[], rfl, fun _ h => (nomatch h), h0⟩ (fun i ys nw h r hr' => by obtain ⟨tl, rfl, _⟩ := h; exact List.mem_append_right _ hr') ?_ ?_
  · rintro i ys nw own a b t C oC D m₂ h tk E' hp h1 h2 h3 ⟨tl, rfl, hap, hR⟩ hC F' N'
    refine wpAny_mono (step i ys tl own a b t C oC D m₂ h tk E' hp h1 h2 h3 hR hC F' N') (fun y s₅ h₅' => ?_) fun _ _ e => e
    obtain ⟨h₅, tk₅, add, rfl, F₅, N₅, apart, hR₅⟩ := h₅'
    refine ⟨h₅, tk₅, add, rfl, F₅, N₅, apart, add ++ tl, (List.append_assoc ..).symm, fun t ht q hq => ?_, hR₅⟩
    rcases List.mem_append.mp ht with ht | ht
    · exact apart t ht q (List.mem_cons_of_mem _ (List.mem_cons_of_mem _ (List.mem_append_left _ (List.mem_append_right _ hq))))
    · exact hap t ht q hq
  · rintro D h tk ys nw ⟨tl, rfl, hap, hR⟩ F' N' o'
    exact fin D h tk ys tl hR F' N' (fun p hp => o' p (List.mem_append_left _ hp)) (fun p hp => o' p (List.mem_append_right _ hp)) hap
theorem add_one {T C D : Addr} {oT oC oD : Obj} {s₁ : Shared} {h : Heap} {tk : Nat} {led : List (Addr × Obj)} {R : Value → List (Addr × Obj) → Prop} {y : Value} (F : Fr h₀ L h m) (N : News h₀ L h ((T, oT) :: (C, oC) :: (D, oD) :: led)) (l : @LT.lt Nat _ C T ∧ @LT.lt Nat _ D T ∧ AllLt T led) (hR : R y [(T, oT)]) :
    AddEnd h₀ L m s₁ ((C, oC) :: (D, oD) :: led) R y { s₁ with heap := h, toks := tk } := by
  refine ⟨h, tk, [(T, oT)], rfl, F, N, fun x hx q hq => ?_, hR⟩
  rw [List.mem_singleton.mp hx]
  rcases List.mem_cons.mp hq with rfl | hq
  · exact Nat.ne_of_lt l.1
  · rcases List.mem_cons.mp hq with rfl | hq
    · exact Nat.ne_of_lt l.2.1
    · exact Nat.ne_of_lt (tb_ltOf l.2.2 q hq)
end
section
variable {prog : Program} {w : World} {A : Around} {s : Shared} {h₀ : Heap} {L : Addr} {m : Str → Option Value} {env : Env}
theorem comp_same {elt : PySem.Expr} {x x₂ : Str} {scope : Scope} {cl : List (Str × Addr)} {S : List (Addr × Obj) → Prop} {Fin : List Value → List (Addr × Obj) → Prop} {vs : List Value} {prs : List (Value × Value)} {news : List (Addr × Obj)}
    (R : Nat → List Value → Prop) (hP : PairsAt news vs prs)
    (step : ∀ i ys v₁ v₂ I oI C oC D m₂ h tk (E' : Value → Shared → Prop), R i ys → prs[i]? = some (v₁, v₂) → LCg.NsObj oC m₂ → m₂ x = some v₁ → m₂ x₂ = some v₂ → Fr h₀ L h m → News h₀ L h ((I, oI) :: (C, oC) :: (D, LCg.lst ys) :: news) → LCg.Off3 I C D news → ((@Ne Nat I C) ∧ (@Ne Nat I D) ∧ (@Ne Nat C D)) →
      wpAny (model prog w) A (eval elt (compEnvC scope cl C env)) (LCg.CompEnd h₀ L m { s with heap := h, toks := tk } I oI C oC D (LCg.lst ys) S (fun y nw' => nw' = news ∧ R (i + 1) (ys ++ [y]))) E' { s with heap := h, toks := tk })
    (fin : ∀ ys, R vs.length ys → Fin ys news) (h0 : R 0 []) :
    LCp.CompRestP prog w A h₀ L m env elt x x₂ scope cl s S (fun i v => vs.toArray[i]? = some v) Fin vs.length 0 [] news := by
  refine comp_inv (fun i ys nw => nw = news ∧ R i ys) hP (fun _ _ _ h q hq => h.1 ▸ hq) ?_ ?_ vs.length 0 [] news (by omega) ⟨rfl, h0⟩
  · rintro i ys nw v₁ v₂ I oI C oC D m₂ h tk E' ⟨rfl, hR⟩
    exact step i ys v₁ v₂ I oI C oC D m₂ h tk E' hR
  · rintro ys nw ⟨rfl, hR⟩
    exact fin ys hR
end
theorem head_mem {h₀ h : Heap} {L : Addr} {p : Addr × Obj} {l : List (Addr × Obj)} (_ : News h₀ L h (p :: l)) : p ∈ p :: l := List.mem_cons_self
section
variable {prog : Program} {w : World} {A : Around} {s : Shared} {h₀ : Heap} {L : Addr} {m : Str → Option Value} {env : Env}
theorem compU_inv {elt : PySem.Expr} {x : Str} {scope : Scope} {cl : List (Str × Addr)} {S : List (Addr × Obj) → Prop} {P : Nat → Value → Prop} {Fin : List Value → List (Addr × Obj) → Prop} (n : Nat)
    (Inv : Nat → List Value → List (Addr × Obj) → Prop)
    (step : ∀ i ys nw v I oI C oC D m₂ h tk (E' : Value → Shared → Prop), i < n → Inv i ys nw → P i v → LCg.NsObj oC m₂ → m₂ x = some v → Fr h₀ L h m → News h₀ L h ((I, oI) :: (C, oC) :: (D, LCg.lst ys) :: nw) → LCg.Off3 I C D nw → ((@Ne Nat I C) ∧ (@Ne Nat I D) ∧ (@Ne Nat C D)) →
      wpAny (model prog w) A (eval elt (compEnvC scope cl C env)) (LCg.CompEnd h₀ L m { s with heap := h, toks := tk } I oI C oC D (LCg.lst ys) S (fun y nw' => Inv (i + 1) (ys ++ [y]) nw')) E' { s with heap := h, toks := tk })
    (fin : ∀ ys nw, Inv n ys nw → Fin ys nw) :
    ∀ k i ys nw, i + k = n → Inv i ys nw → LCg.CompRest prog w A h₀ L m env elt x scope cl s S P Fin k i ys nw := by
  intro k
  induction k with
  | zero =>
    intro i ys nw e hi
    have e' : i = n := by omega
    subst e'
    exact LCg.CompRest.zero (fin ys nw hi)
  | succ k ih =>
    intro i ys nw e hi
    refine LCg.CompRest.succ fun v I oI C oC D m₂ h tk E' hv h1 h2 F N o3 hne => ?_
    exact wpAny_mono (step i ys nw v I oI C oC D m₂ h tk E' (by omega) hi hv h1 h2 F N o3 hne) (fun y s₂ c => compEnd_mono (fun nw' hI => ih (i + 1) (ys ++ [y]) nw' (by omega) hI) c) fun _ _ x => x
theorem compU_same {elt : PySem.Expr} {x : Str} {scope : Scope} {cl : List (Str × Addr)} {S : List (Addr × Obj) → Prop} {P : Nat → Value → Prop} {Fin : List Value → List (Addr × Obj) → Prop} {n : Nat} {news : List (Addr × Obj)}
    (R : Nat → List Value → Prop)
    (step : ∀ i ys v I oI C oC D m₂ h tk (E' : Value → Shared → Prop), i < n → R i ys → P i v → LCg.NsObj oC m₂ → m₂ x = some v → Fr h₀ L h m → News h₀ L h ((I, oI) :: (C, oC) :: (D, LCg.lst ys) :: news) → LCg.Off3 I C D news → ((@Ne Nat I C) ∧ (@Ne Nat I D) ∧ (@Ne Nat C D)) →
      wpAny (model prog w) A (eval elt (compEnvC scope cl C env)) (LCg.CompEnd h₀ L m { s with heap := h, toks := tk } I oI C oC D (LCg.lst ys) S (fun y nw' => nw' = news ∧ R (i + 1) (ys ++ [y]))) E' { s with heap := h, toks := tk })
    (fin : ∀ ys, R n ys → Fin ys news) (h0 : R 0 []) :
    LCg.CompRest prog w A h₀ L m env elt x scope cl s S P Fin n 0 [] news := by
  refine compU_inv n (fun i ys nw => nw = news ∧ R i ys) ?_ ?_ n 0 [] news (by omega) ⟨rfl, h0⟩
  · rintro i ys nw v I oI C oC D m₂ h tk E' hi ⟨rfl, hR⟩ hv h1 h2 F N o3 hne
    exact step i ys v I oI C oC D m₂ h tk E' hi hR hv h1 h2 F N o3 hne
  · rintro ys nw ⟨rfl, hR⟩
    exact fin ys hR
end
end
theorem rest_24 : True := by
  w_top off
  try walk1
  first | done | exact True.intro
section
/-- number and charge of each card laid -/
def chg (crd : List (Int × Int)) : List (Int × Int) := crd.mapIdx fun i c => (c.1, (i : Int) + c.2)
theorem chg_get {crd : List (Int × Int)} {i : Nat} {c : Int × Int} (h : crd[i]? = some c) : (chg crd)[i]? = some (c.1, (i : Int) + c.2) := by simp [chg, h]
theorem chg_take {crd : List (Int × Int)} {i : Nat} {c : Int × Int} (h : crd[i]? = some c) : (chg crd).take (i + 1) = (chg crd).take i ++ [(c.1, (i : Int) + c.2)] := by
  rw [List.take_add_one, chg_get h]; rfl
theorem chg_len (crd : List (Int × Int)) : (chg crd).length = crd.length := by simp [chg]
theorem chg_mem {crd : List (Int × Int)} {q : Int × Int} (h : q ∈ chg crd) : ∃ (j : Nat) (u : Int), crd[j]? = some (q.1, u) ∧ q.2 = (j : Int) + u := by
  obtain ⟨j, hj, e⟩ := List.mem_mapIdx.mp h
  exact ⟨j, (crd[j]).2, by rw [← e, List.getElem?_eq_getElem hj], by rw [← e]⟩
theorem nums_chg (crd : List (Int × Int)) : numsOf (chg crd) = numsOf crd := by
  unfold numsOf chg
  apply List.ext_getElem?
  intro i
  simp only [List.getElem?_map, List.getElem?_mapIdx, Option.map_map]
  rfl
theorem nums_of_map (crd : List (Int × Int)) : numsOf crd = (crd.map (·.1)).map Int.toNat := by simp [numsOf]
theorem nums_range {crd : List (Int × Int)} {n : Nat} (hp : (crd.map (·.1)).Perm (rangeKs 0 n)) : (numsOf crd).Perm (List.range n) := by
  rw [nums_of_map]
  refine (hp.map Int.toNat).trans (List.Perm.of_eq ?_)
  unfold rangeKs
  rw [List.map_map]
  conv => rhs; rw [← List.map_id (List.range n)]
  refine List.map_congr_left fun i _ => ?_
  simp
theorem nums_get {qs : List (Int × Int)} {k : Nat} {q : Int × Int} (h : qs[k]? = some q) : (numsOf qs)[k]? = some q.1.toNat := by simp [numsOf, h]
theorem charge_at {crd qs : List (Int × Int)} {n : Nat} (hq : numsOf qs = List.range n) (hs : ∀ q ∈ qs, q ∈ chg crd) (h0 : ∀ c ∈ crd, 0 ≤ c.1) {k : Nat} (hk : k < n) :
    ∃ (j : Nat) (u : Int), crd[j]? = some ((k : Int), u) ∧ (qs.map (·.2))[k]? = some ((j : Int) + u) := by
  have hl : qs.length = n := by
    have e := congrArg List.length hq
    rw [List.length_range] at e
    rw [← e]; simp [numsOf]
  have hk' : k < qs.length := by omega
  have e1 : qs[k]? = some qs[k] := List.getElem?_eq_getElem hk'
  obtain ⟨j, u, e2, e3⟩ := chg_mem (hs _ (List.getElem_mem hk'))
  have e4 := nums_get e1
  rw [hq, List.getElem?_range hk] at e4
  have e5 : k = (qs[k]).1.toNat := by simpa using e4
  have e6 := h0 _ (List.mem_of_getElem? e2)
  have e7 : (qs[k]).1 = (k : Int) := by
    dsimp only at e6
    omega
  rw [e7] at e2
  exact ⟨j, u, e2, by rw [List.getElem?_map, e1, ← e3]; rfl⟩
/-- the deck behind deeds -/
structure DeckSt (crd cs : List (Int × Int)) (cuts : Int) : Prop where
  perm : (cs.map (·.1)).Perm (crd.map (·.1))
  ups : ∀ c ∈ cs, c.2 = 0 ∨ c.2 = 1
  par : ∀ (i : Nat) (c : Int × Int), cs[i]? = some c → ∃ (j : Nat) (u : Int), crd[j]? = some (c.1, u) ∧ ((i : Int) + c.2 + cuts - ((j : Int) + u)) % 2 = 0
theorem DeckSt.start {crd : List (Int × Int)} (h : ∀ c ∈ crd, c.2 = 0 ∨ c.2 = 1) : DeckSt crd crd 0 :=
  ⟨List.Perm.refl _, h, fun i c e => ⟨i, c.2, e, by omega⟩⟩
theorem DeckSt.len {crd cs : List (Int × Int)} {cuts : Int} (h : DeckSt crd cs cuts) : cs.length = crd.length := by
  have e := h.perm.length_eq
  rwa [List.length_map, List.length_map] at e
theorem DeckSt.cut {crd r : List (Int × Int)} {c : Int × Int} {cuts : Int} (h : DeckSt crd (c :: r) cuts) (he : crd.length % 2 = 0) : DeckSt crd (r ++ [c]) (cuts + 1) := by
  have hl := h.len
  rw [List.length_cons] at hl
  refine ⟨?_, fun x hx => ?_, fun i x hx => ?_⟩
  · refine List.Perm.trans ?_ h.perm
    rw [List.map_append, List.map_cons]
    exact List.perm_append_comm
  · rcases List.mem_append.mp hx with hx | hx
    · exact h.ups x (List.mem_cons_of_mem _ hx)
    · rw [List.mem_singleton.mp hx]; exact h.ups c List.mem_cons_self
  · by_cases hi : i < r.length
    · rw [List.getElem?_append_left hi] at hx
      obtain ⟨j, u, e1, e2⟩ := h.par (i + 1) x (by simpa using hx)
      exact ⟨j, u, e1, by omega⟩
    · rw [List.getElem?_append_right (by omega)] at hx
      have hi0 : i - r.length = 0 := by
        cases hq : i - r.length with
        | zero => rfl
        | succ m => rw [hq] at hx; simp at hx
      rw [hi0] at hx
      obtain rfl : c = x := by simpa using hx
      obtain ⟨j, u, e1, e2⟩ := h.par 0 c rfl
      have : i = r.length := by omega
      exact ⟨j, u, e1, by omega⟩
theorem DeckSt.turn {crd r : List (Int × Int)} {c d : Int × Int} {cuts : Int} (h : DeckSt crd (c :: d :: r) cuts) (he : crd.length % 2 = 0) : DeckSt crd (r ++ [(d.1, 1 - d.2), (c.1, 1 - c.2)]) cuts := by
  have hl := h.len
  rw [List.length_cons, List.length_cons] at hl
  refine ⟨?_, fun x hx => ?_, fun i x hx => ?_⟩
  · refine List.Perm.trans ?_ h.perm
    rw [List.map_append]
    refine List.perm_append_comm.trans ?_
    exact List.Perm.swap _ _ _
  · rcases List.mem_append.mp hx with hx | hx
    · exact h.ups x (List.mem_cons_of_mem _ (List.mem_cons_of_mem _ hx))
    · rcases List.mem_cons.mp hx with rfl | hx
      · have := h.ups d (List.mem_cons_of_mem _ List.mem_cons_self)
        dsimp only
        omega
      · rw [List.mem_singleton.mp hx]
        have := h.ups c List.mem_cons_self
        dsimp only
        omega
  · by_cases hi : i < r.length
    · rw [List.getElem?_append_left hi] at hx
      obtain ⟨j, u, e1, e2⟩ := h.par (i + 2) x (by simpa using hx)
      exact ⟨j, u, e1, by omega⟩
    · rw [List.getElem?_append_right (by omega)] at hx
      cases hq : i - r.length with
      | zero =>
        rw [hq] at hx
        have e : (d.1, 1 - d.2) = x := by simpa using hx
        subst e
        obtain ⟨j, u, e1, e2⟩ := h.par 1 d rfl
        exact ⟨j, u, e1, by dsimp only; omega⟩
      | succ m =>
        rw [hq] at hx
        cases m with
        | zero =>
          have e : (c.1, 1 - c.2) = x := by simpa using hx
          subst e
          obtain ⟨j, u, e1, e2⟩ := h.par 0 c rfl
          exact ⟨j, u, e1, by dsimp only; omega⟩
        | succ m => simp at hx
/-- what the law reckons is the deck in order -/
theorem due_eq {crd cs qs : List (Int × Int)} {cuts : Int} {n : Nat} (h : DeckSt crd cs cuts) (hp : (crd.map (·.1)).Perm (rangeKs 0 n)) (hq : numsOf qs = List.range n) (hs : ∀ q ∈ qs, q ∈ chg crd) (ho : numsOf cs = List.range n) :
    (List.range n).map (fun k : Nat => ((k : Int), ((qs.map (·.2)).getD k 0 + (k : Int) + cuts).fmod 2)) = cs := by
  have h0 : ∀ c ∈ crd, 0 ≤ c.1 := fun c hc => (mem_rangeKs (hp.subset (List.mem_map.mpr ⟨c, hc, rfl⟩))).1
  have h0' : ∀ c ∈ cs, 0 ≤ c.1 := fun c hc => (mem_rangeKs ((h.perm.trans hp).subset (List.mem_map.mpr ⟨c, hc, rfl⟩))).1
  have hnd : (crd.map (·.1)).Nodup := hp.nodup_iff.mpr (range_nodup n)
  have hl : cs.length = n := by
    have e := congrArg List.length ho
    rw [List.length_range] at e
    rw [← e]; simp [numsOf]
  apply List.ext_getElem?
  intro k
  by_cases hk : k < n
  · have hk' : k < cs.length := by omega
    have e1 : cs[k]? = some cs[k] := List.getElem?_eq_getElem hk'
    rw [e1, List.getElem?_map, List.getElem?_range hk]
    obtain ⟨j, u, a1, a2⟩ := h.par k _ e1
    obtain ⟨j', u', b1, b2⟩ := charge_at hq hs h0 hk
    have e2 := nums_get e1
    rw [ho, List.getElem?_range hk] at e2
    have e3 : k = (cs[k]).1.toNat := by simpa using e2
    have e4 := h0' _ (List.getElem_mem hk')
    have e5 : (cs[k]).1 = (k : Int) := by omega
    rw [e5] at a1
    have hj : j < crd.length := (List.getElem?_eq_some_iff.mp a1).1
    have hj' : j' < crd.length := (List.getElem?_eq_some_iff.mp b1).1
    have c1 : (crd.map (·.1))[j]? = some (k : Int) := by rw [List.getElem?_map, a1]; rfl
    have c2 : (crd.map (·.1))[j']? = some (k : Int) := by rw [List.getElem?_map, b1]; rfl
    obtain ⟨d1, d2⟩ := List.getElem?_eq_some_iff.mp c1
    obtain ⟨d3, d4⟩ := List.getElem?_eq_some_iff.mp c2
    have hjj : j = j' := (List.getElem_inj hnd).mp (d2.trans d4.symm)
    subst hjj
    rw [a1] at b1
    obtain rfl : u = u' := by simpa using b1
    have hu := h.ups _ (List.getElem_mem hk')
    show some ((k : Int), ((qs.map (·.2)).getD k 0 + (k : Int) + cuts).fmod 2) = some cs[k]
    rw [List.getD_eq_getElem?_getD, b2]
    refine congrArg some (Prod.ext e5.symm ?_)
    show ((j : Int) + u + (k : Int) + cuts).fmod 2 = (cs[k]).2
    rw [Int.fmod_eq_emod_of_nonneg _ (by decide)]
    omega
  · rw [List.getElem?_eq_none (by rw [List.length_map, List.length_range]; omega), List.getElem?_eq_none (by omega)]
/-- the rounds, on the numbers -/
def cutN (l : List Nat) : List Nat := l.drop 1 ++ l.take 1
def turnN : List Nat → List Nat
  | a :: b :: r => r ++ [b, a]
  | l => l
def isAlone (h lap step : Nat) : Bool := lap % 2 == 1 && step % h == 0
def stepN (h lap : Nat) (l : List Nat) (step : Nat) : List Nat :=
  if isAlone h lap step then cutN l else match l with
    | a :: b :: r => if Nat.blt b a then turnN (a :: b :: r) else cutN (cutN (a :: b :: r))
    | l => l
def lapN (h : Nat) (l : List Nat) (lap : Nat) : List Nat := (List.range (h + lap % 2)).foldl (stepN h lap) l
def roundsN (h : Nat) (l : List Nat) : List Nat := (List.range (2 * h)).foldl (lapN h) l
set_option maxRecDepth 100000 in
theorem rounds4 : (perms 4 (List.range 4)).all (fun l => roundsN 2 l == List.range 4) = true := by decide +kernel
set_option maxRecDepth 100000 in
theorem rounds6at0 : (perms 5 ((List.range 6).erase 0)).all (fun l => roundsN 3 (0 :: l) == List.range 6) = true := by decide +kernel
set_option maxRecDepth 100000 in
theorem rounds6at1 : (perms 5 ((List.range 6).erase 1)).all (fun l => roundsN 3 (1 :: l) == List.range 6) = true := by decide +kernel
set_option maxRecDepth 100000 in
theorem rounds6at2 : (perms 5 ((List.range 6).erase 2)).all (fun l => roundsN 3 (2 :: l) == List.range 6) = true := by decide +kernel
set_option maxRecDepth 100000 in
theorem rounds6at3 : (perms 5 ((List.range 6).erase 3)).all (fun l => roundsN 3 (3 :: l) == List.range 6) = true := by decide +kernel
set_option maxRecDepth 100000 in
theorem rounds6at4 : (perms 5 ((List.range 6).erase 4)).all (fun l => roundsN 3 (4 :: l) == List.range 6) = true := by decide +kernel
set_option maxRecDepth 100000 in
theorem rounds6at5 : (perms 5 ((List.range 6).erase 5)).all (fun l => roundsN 3 (5 :: l) == List.range 6) = true := by decide +kernel
theorem rounds6 : (perms 6 (List.range 6)).all (fun l => roundsN 3 l == List.range 6) = true := all_perms (six_first rounds6at0 rounds6at1 rounds6at2 rounds6at3 rounds6at4 rounds6at5)
theorem rounds_ok {n h : Nat} (hn : n = 4 ∧ h = 2 ∨ n = 6 ∧ h = 3) {l : List Nat} (hp : l.Perm (List.range n)) : roundsN h l = List.range n := by
  have hl : l.length = n := by rw [hp.length_eq, List.length_range]
  have hm := mem_perms hp
  rw [hl] at hm
  rcases hn with ⟨rfl, rfl⟩ | ⟨rfl, rfl⟩
  · exact beq_iff_eq.mp (List.all_eq_true.mp rounds4 l hm)
  · exact beq_iff_eq.mp (List.all_eq_true.mp rounds6 l hm)
end
theorem rest_25 : True := by
  w_top off
  try walk1
  first | done | exact True.intro
section
/-- no data -/
def NoDat (o : Obj) : Prop := (∀ a n, o ≠ { cls := .type "tuple", data := .seq a n }) ∧ ∀ a n, o ≠ W.listOf a n
theorem noDat_cls {o : Obj} {c : String} (h : o.cls = .type c) (h1 : c ≠ "tuple") (h2 : c ≠ "list") : NoDat o :=
  ⟨fun a n e => by rw [e] at h; exact h1 (by injection h with q; exact q.symm), fun a n e => by rw [e] at h; exact h2 (by injection h with q; exact q.symm)⟩
theorem noDat_cell {o : Obj} {v : Option Value} (h : o.data = .cell v) : NoDat o :=
  ⟨(fun a n e => by rw [e] at h; cases h), (fun a n e => by rw [e] at h; cases h)⟩
theorem noDat_fields {o : Obj} {v : Array Value} (h : o.data = .fields v) : NoDat o :=
  ⟨(fun a n e => by rw [e] at h; cases h), (fun a n e => by rw [e] at h; cases h)⟩
mutual
theorem DatIn.sub {news news' : List (Addr × Obj)} (hs : ∀ p ∈ news, NoDat p.2 ∨ p ∈ news') : ∀ {v : Value} {d : Dat}, DatIn news v d → DatIn news' v d
  | _, _, .none => .none
  | _, _, .bool b => .bool b
  | _, _, .int i t => .int i t
  | _, _, .str x t => .str x t
  | _, _, .bytes b t => .bytes b t
  | _, _, .tuple h r => .tuple ((hs _ h).resolve_left fun n => n.1 _ _ rfl) (DatAll.sub hs r)
  | _, _, .list h r => .list ((hs _ h).resolve_left fun n => n.2 _ _ rfl) (DatAll.sub hs r)
theorem DatAll.sub {news news' : List (Addr × Obj)} (hs : ∀ p ∈ news, NoDat p.2 ∨ p ∈ news') : ∀ {vs : List Value} {ds : List Dat}, DatAll news vs ds → DatAll news' vs ds
  | _, _, .nil => .nil
  | _, _, .cons h r => .cons (DatIn.sub hs h) (DatAll.sub hs r)
end
theorem Run.conv {w : World} {p : Program} {loose : List Str} {mean : ExcName → Option Value} {mg mb : Str → Option Value} {dpN unN : Nat} {f : Addr} {pos : List Value} {kw : List (Str × Value)} {news news2 : List (Addr × Obj)} {Post Post2 : Value → List (Addr × Obj) → Prop}
    (R : Run w p loose mean mg mb dpN unN f pos kw news Post) (hs : ∀ q ∈ news, q ∈ news2) (hp : ∀ r nw, Post r nw → ∃ nw2, (∀ q ∈ nw2, q ∈ nw) ∧ Post2 r nw2) : Run w p loose mean mg mb dpN unN f pos kw news2 Post2 := by
  intro dp un gd cn cs a ccd cl outer A₀ base h₀ L m s Q E B F X N T hk hd hu ret
  refine R dp un gd cn cs a ccd cl outer A₀ base h₀ L m s Q E B F X (news_sub N hs) T hk hd hu fun r h' tk' nw F' N' P => ?_
  obtain ⟨nw2, hsub, P2⟩ := hp r nw P
  exact ret r h' tk' nw2 F' (news_sub N' hsub) P2
/-- the ledger of the law, and what a deed leaves of it -/
abbrev lawLed (its : List (Addr × Obj)) (c1 c2 c3 c4 c5 g hx : Addr × Obj) (rst : List (Addr × Obj)) : List (Addr × Obj) := its ++ (c1 :: c2 :: c3 :: c4 :: c5 :: g :: hx :: rst)
def DeckOut (its : List (Addr × Obj)) (c1 c2 c3 c4 c5 g : Addr × Obj) (hl : Addr) (rst : List (Addr × Obj)) (crd : List (Int × Int)) (r : Value) (nw : List (Addr × Obj)) : Prop :=
  ∃ tl vs' e' ca' cvs' k', nw = lawLed its c1 c2 c3 c4 c5 g (hl, W.listOf (List.toArray vs') e') (tl ++ rst) ∧ r = .ref ca' ∧ (∀ t ∈ tl, ∀ q ∈ lawLed its c1 c2 c3 c4 c5 g (hl, W.listOf (List.toArray vs') e') rst, q.1 ≠ t.1) ∧
    DatAll (tl ++ rst) vs' ((crd.map hp2).map hdr2) ∧ (ca', W.listOf (List.toArray cvs') k') ∈ tl ++ rst ∧ DatAll (tl ++ rst) cvs' (crd.map card2)
structure LedOk (its : List (Addr × Obj)) (c1 c2 c3 c4 c5 g : Addr × Obj) (hl : Addr) (rst : List (Addr × Obj)) : Prop where
  no : ∀ q ∈ its ++ [c1, c2, c3, c4, c5, g], NoDat q.2
  ne : ∀ q ∈ its ++ (c1 :: c2 :: c3 :: c4 :: c5 :: g :: rst), q.1 ≠ hl
theorem deck_out {its : List (Addr × Obj)} {c1 c2 c3 c4 c5 g : Addr × Obj} {hl : Addr} {rst : List (Addr × Obj)} {crd : List (Int × Int)} {r : Value} {nw : List (Addr × Obj)} (ok : LedOk its c1 c2 c3 c4 c5 g hl rst)
    (h : DeckPost hl (its ++ (c1 :: c2 :: c3 :: c4 :: c5 :: g :: rst)) crd r nw) : ∃ nw2, (∀ q ∈ nw2, q ∈ nw) ∧ DeckOut its c1 c2 c3 c4 c5 g hl rst crd r nw2 := by
  obtain ⟨tl, vs', e', ca', cvs', k', rfl, hr, hap, hD, hm, hC⟩ := h
  have hsub : ∀ p ∈ tl ++ (its ++ (c1 :: c2 :: c3 :: c4 :: c5 :: g :: rst)), NoDat p.2 ∨ p ∈ tl ++ rst := by
    intro p hp
    simp only [List.mem_append, List.mem_cons] at hp
    rcases hp with hp | hp | hp | hp | hp | hp | hp | hp | hp
    · exact .inr (List.mem_append_left _ hp)
    · exact .inl (ok.no p (List.mem_append_left _ hp))
    · exact .inl (ok.no p (List.mem_append_right _ (by simp [hp])))
    · exact .inl (ok.no p (List.mem_append_right _ (by simp [hp])))
    · exact .inl (ok.no p (List.mem_append_right _ (by simp [hp])))
    · exact .inl (ok.no p (List.mem_append_right _ (by simp [hp])))
    · exact .inl (ok.no p (List.mem_append_right _ (by simp [hp])))
    · exact .inl (ok.no p (List.mem_append_right _ (by simp [hp])))
    · exact .inr (List.mem_append_right _ hp)
  refine ⟨_, fun q hq => ?_, tl, vs', e', ca', cvs', k', rfl, hr, fun t ht q hq => ?_, DatAll.sub hsub hD, (hsub _ hm).resolve_left fun n => n.2 _ _ rfl, DatAll.sub hsub hC⟩
  · simp only [lawLed, List.mem_append, List.mem_cons] at hq ⊢
    rcases hq with h | h | h | h | h | h | h | h | h | h <;> simp [h]
  · simp only [lawLed, List.mem_append, List.mem_cons] at hq
    have a := hap t ht
    rcases hq with h | h | h | h | h | h | h | h | h
    · exact a.2 q (by simp [h])
    · exact a.2 q (by simp [h])
    · exact a.2 q (by simp [h])
    · exact a.2 q (by simp [h])
    · exact a.2 q (by simp [h])
    · exact a.2 q (by simp [h])
    · exact a.2 q (by simp [h])
    · rw [h]; exact a.1.symm
    · exact a.2 q (by simp [h])
section
variable {w : World} {p : Program} {loose : List Str} {mean : ExcName → Option Value} {mg mb : Str → Option Value} {tk : Tok} {xa dx hl ca : Addr} {n e k : Nat} {vs cvs : List Value} {c d : Int × Int} {crd : List (Int × Int)} {its rst : List (Addr × Obj)} {c1 c2 c3 c4 c5 g : Addr × Obj}
theorem led_in : ∀ q ∈ (hl, W.listOf vs.toArray e) :: (its ++ (c1 :: c2 :: c3 :: c4 :: c5 :: g :: rst)), q ∈ lawLed its c1 c2 c3 c4 c5 g (hl, W.listOf vs.toArray e) rst := fun q hq => by
  simp only [lawLed, List.mem_append, List.mem_cons] at hq ⊢
  rcases hq with h | h | h | h | h | h | h | h | h <;> simp [h]
theorem led_up {q : Addr × Obj} (h : q ∈ rst) : q ∈ its ++ (c1 :: c2 :: c3 :: c4 :: c5 :: g :: rst) := List.mem_append_right _ (by simp [h])
theorem cut_law (ok : LedOk its c1 c2 c3 c4 c5 g hl rst) (m1 : (xa, instObj 184 dx) ∈ rst) (m2 : (dx, dictOf (hdrEs w tk hl) n) ∈ rst) (m3 : (ca, W.listOf cvs.toArray k) ∈ rst) (hD : DatAll rst vs (((c :: crd).map hp2).map hdr2)) (hC : DatAll rst cvs ((c :: crd).map card2)) (hok : Okc (c :: crd)) (hz : crd.length ≤ 40)
     : Run w p loose mean mg mb 5 60 221 [.ref xa, .ref ca] [] (lawLed its c1 c2 c3 c4 c5 g (hl, W.listOf vs.toArray e) rst) (DeckOut its c1 c2 c3 c4 c5 g hl rst (crd ++ [c])) :=
  Run.conv (cut_run (led_up m1) (led_up m2) (led_up m3) ok.ne (hD.mono fun _ h => led_up h) (hC.mono fun _ h => led_up h) hok hz) led_in fun _ _ h => deck_out ok h
theorem turned_law (ok : LedOk its c1 c2 c3 c4 c5 g hl rst) (m1 : (xa, instObj 184 dx) ∈ rst) (m2 : (dx, dictOf (hdrEs w tk hl) n) ∈ rst) (m3 : (ca, W.listOf cvs.toArray k) ∈ rst) (hD : DatAll rst vs (((c :: d :: crd).map hp2).map hdr2)) (hC : DatAll rst cvs ((c :: d :: crd).map card2)) (hok : Okc (c :: d :: crd)) (hz : crd.length ≤ 40)
     : Run w p loose mean mg mb 5 60 226 [.ref xa, .ref ca] [] (lawLed its c1 c2 c3 c4 c5 g (hl, W.listOf vs.toArray e) rst) (DeckOut its c1 c2 c3 c4 c5 g hl rst (crd ++ [(d.1, 1 - d.2), (c.1, 1 - c.2)])) :=
  Run.conv (turned_run (led_up m1) (led_up m2) (led_up m3) ok.ne (hD.mono fun _ h => led_up h) (hC.mono fun _ h => led_up h) hok hz) led_in fun _ _ h => deck_out ok h
theorem led_mid {q : Addr × Obj} {hx : Addr × Obj} (h : q ∈ rst) : q ∈ lawLed its c1 c2 c3 c4 c5 g hx rst := List.mem_append_right _ (by simp [h])
theorem right_law (m1 : (xa, instObj 184 dx) ∈ rst) (m2 : (dx, dictOf (hdrEs w tk hl) n) ∈ rst) (m3 : (ca, W.listOf cvs.toArray k) ∈ rst) (hD : DatAll rst vs ((crd.map hp2).map hdr2)) (hC : DatAll rst cvs (crd.map card2)) (hc : ∀ c ∈ crd, 0 ≤ c.1 ∧ c.1 < 6) (hz : crd.length ≤ 40)
     : Run w p loose mean mg mb 4 120 231 [.ref xa, .ref hl, .ref ca] [] (lawLed its c1 c2 c3 c4 c5 g (hl, W.listOf vs.toArray e) rst) (fun r nw => nw = lawLed its c1 c2 c3 c4 c5 g (hl, W.listOf vs.toArray e) rst ∧ r = .bool true) :=
  right_run (led_mid m1) (led_mid m2) (List.mem_append_right _ (.tail _ (.tail _ (.tail _ (.tail _ (.tail _ (.tail _ (.head _)))))))) (led_mid m3) (hD.mono fun _ h => led_mid h) (hC.mono fun _ h => led_mid h) hc hz
end
section
variable {prog : Program} {w : World} {A : Around} {E : Value → Shared → Prop} {s : Shared} {env : Env} {h₀ : Heap} {target : PySem.Expr} {body : List Stmt} {Q : Flow → Shared → Prop}
theorem tok_inv {ws : List (Addr × String)} {keep : List (Addr × Obj)} (Inv : Nat → (Str → Option Value) → List (Addr × Obj) → Prop) (n : Nat)
    (step : ∀ (i : Nat) m nw, i < n → Inv i m nw → ∀ t h tk, Fr h₀ env.locals h m → AllObj ws (fun its => News h₀ env.locals h (its ++ nw) →
      wpAny (model prog w) A (assign target env (.int (i : Int) t)) (fun _ s₂ => wpAny (model prog w) A (execs body env) (UnrPostW h₀ env.locals { s with heap := h, toks := tk } its (fun m' n' => SubL keep n' ∧ Inv (i + 1) m' n') Q) E s₂) E { s with heap := h, toks := tk }))
    (done : ∀ m nw, Inv n m nw → ∀ h tk, Fr h₀ env.locals h m → News h₀ env.locals h nw → Q .next { s with heap := h, toks := tk }) :
    ∀ k i m nw, i + k = n → Inv i m nw → ItemsRest prog w A E h₀ env target body Q s ws keep ((List.range' i k).map fun (j : Nat) => .tok fun t => .int (j : Int) t) m nw := by
  intro k
  induction k with
  | zero =>
    intro i m nw e hi
    have e' : i = n := by omega
    subst e'
    exact ItemsRest.zero (done m nw hi)
  | succ k ih =>
    intro i m nw e hi
    rw [List.range'_succ, List.map_cons]
    refine ItemsRest.tok fun t h tk F => ?_
    refine AllObj.up (fun its st N => ?_) (step i m nw (by omega) hi t h tk F)
    refine wpAny_mono (st N) (fun _ s₂ h₂ => wpAny_mono h₂ (fun f s₃ p => ?_) fun _ _ x => x) fun _ _ x => x
    have up : UnrEndW h₀ env.locals { s with heap := h, toks := tk } its (fun m' n' => SubL keep n' ∧ Inv (i + 1) m' n') s₃ →
        UnrEndW h₀ env.locals { s with heap := h, toks := tk } its (fun m' n' => SubL keep n' ∧ ItemsRest prog w A E h₀ env target body Q s ws keep ((List.range' (i + 1) k).map fun (j : Nat) => .tok fun t => .int (j : Int) t) m' n') s₃ := by
      rintro ⟨h', tk', m', news', e', F', N', ho, hk, hI⟩
      exact ⟨h', tk', m', news', e', F', N', ho, hk, ih (i + 1) m' news' (by omega) hI⟩
    cases f with
    | ret v => exact p
    | brk => exact p
    | next => exact up p
    | cont => exact up p
theorem range_inv {x : Str} {px : Pos} {r : Addr} {b : Int} {t₀ u₀ v₀ : Tok} {n : Nat} {m₀ : Str → Option Value} {news : List (Addr × Obj)} (Inv : Addr → Nat → (Str → Option Value) → List (Addr × Obj) → Prop)
    (hh : A.handled = none) (hr : IsRange s.heap r 0 b 1 t₀ u₀ v₀) (hsmall : Builtin.Range.small 0 b 1 = true) (hn : Builtin.Range.rangeSize 0 b 1 = (n : Int)) (F : Fr h₀ env.locals s.heap m₀) (N : News h₀ env.locals s.heap news)
    (h0 : ∀ I, (∀ p ∈ news, p.1 < I) → Inv I 0 m₀ news)
    (step : ∀ I (i : Nat) m nw, (∀ p ∈ news, p.1 < I) → i < n → Inv I i m nw → ∀ t h tk o, o.cls = .type "range_iterator" → Fr h₀ env.locals h m → News h₀ env.locals h ([(I, o)] ++ nw) →
      wpAny (model prog w) A (assign (.Name x px) env (.int (i : Int) t)) (fun _ s₂ => wpAny (model prog w) A (execs body env) (UnrPostW h₀ env.locals { s with heap := h, toks := tk } [(I, o)] (fun m' n' => True ∧ Inv I (i + 1) m' n') Q) E s₂) E { s with heap := h, toks := tk })
    (done : ∀ I m nw, (∀ p ∈ news, p.1 < I) → Inv I n m nw → ∀ h tk, Fr h₀ env.locals h m → News h₀ env.locals h nw → Q .next { s with heap := h, toks := tk }) :
    wpAny (model prog w) A (pyIter (.ref r)) (fun it s₂ => TurnsAt prog w A h₀ env (.Name x px) body Q E it s₂) E s := by
  refine wpAny_pyIter_range hr hsmall ?_
  have hlt : ∀ p ∈ news, p.1 < s.heap.objs.size := fun p hp => Heap.lt_size (N p hp).1
  have W := (Walks.range (prog := prog) (w := w) hh s.heap.objs.size 0 1 n).bound
  refine ktu_core (tk0 := s.toks) (ws := [(s.heap.objs.size, "range_iterator")]) (keep := []) (xs := (List.range' 0 n).map fun (j : Nat) => .tok fun t => .int (j : Int) t) (KTurns.ofWalks W fun i v s Q E st q => by unfold letOwnedTupleGo; exact wpAny_pure q) (by simp) ?_ ?_ ?_ (fun b hb => by simpa using hb) ?_ ?_ ?_ ?_ (F.push _) (fun p hp => ⟨Heap.get?_push_of_some _ (N p hp).1, (N p hp).2⟩) trivial ?_
  · rintro i v h ⟨hi, t, rfl⟩
    refine ⟨.tok fun t => .int (i : Int) t, ?_, t, ?_⟩
    · rw [List.getElem?_map, List.getElem?_range' hi]
      simp
    · show Value.int (0 + (i : Int) * 1) t = Value.int (i : Int) t
      rw [Int.zero_add, Int.mul_one]
  · intro i h st
    exact ⟨[(s.heap.objs.size, _)], ⟨⟨rfl, rfl⟩, trivial⟩, fun p hp => by rw [List.mem_singleton.mp hp]; exact st⟩
  · intro b hb
    have hb' : b = s.heap.objs.size := by simpa using hb
    rw [hb']
    exact ⟨List.mem_cons_self .., next_is_new F⟩
  · intro b hb
    exact .inl (by simpa using hb)
  · intro hI
    exact absurd F.ns.lt ((List.mem_singleton.mp hI) ▸ Nat.lt_irrefl _)
  · intro p hp hI
    exact absurd (hlt p hp) ((List.mem_singleton.mp hI) ▸ Nat.lt_irrefl _)
  · show IsRangeIter _ _ _ _ _
    rw [hn]
    simpa using Heap.get?_push_size _ rfl
  · exact tok_inv (ws := [(s.heap.objs.size, "range_iterator")]) (keep := []) (s := s) (A := A) (prog := prog) (w := w) (Q := Q) (E := E) (body := body) (target := .Name x px) (fun i => Inv s.heap.objs.size i) n (fun i m nw hi hI t h tk F' o ho N' => step _ i m nw hlt hi hI t h tk o ho F' N') (fun m nw hI h tk F' N' => done _ m nw hlt hI h tk F' N') n 0 m₀ news (by omega) (h0 _ hlt)
end
end
theorem rest_26 : True := by
  w_top off
  try walk1
  first | done | exact True.intro
section
/-- the addresses of the law's own objects -/
abbrev lawAd (c1 c2 c3 c5 g : Addr × Obj) (cu hl : Addr) (fix : List Addr) : List Addr := c1.1 :: c2.1 :: c3.1 :: cu :: c5.1 :: g.1 :: hl :: fix
/-- the state of the law between deeds -/
def LawInv (c1 c2 c3 c5 g : Addr × Obj) (cu hl : Addr) (rst0 : List (Addr × Obj)) (fix : List Addr) (M : (Str → Option Value) → Prop) (P : List (Int × Int) → Int → Prop) (m : Str → Option Value) (nw : List (Addr × Obj)) : Prop :=
  ∃ (tl : List (Addr × Obj)) (oc : Obj) (t : Tok) (vs : List Value) (e : Nat) (ca : Addr) (cvs : List Value) (k : Nat) (cs : List (Int × Int)) (cuts : Int),
    nw = c1 :: c2 :: c3 :: (cu, oc) :: c5 :: g :: (hl, W.listOf vs.toArray e) :: (tl ++ rst0) ∧ oc.data = .cell (some (.int cuts t)) ∧ (∀ q ∈ tl, ∀ r ∈ rst0, r.1 ≠ q.1) ∧ (∀ q ∈ tl, ∀ a ∈ lawAd c1 c2 c3 c5 g cu hl fix, q.1 ≠ a) ∧
    Kept (DatAll (tl ++ rst0) vs ((cs.map hp2).map hdr2)) ∧ (ca, W.listOf cvs.toArray k) ∈ tl ++ rst0 ∧ Kept (DatAll (tl ++ rst0) cvs (cs.map card2)) ∧ m (Str.ofString "cards") = some (.ref ca) ∧ M m ∧ P cs cuts
structure LawFix (c1 c2 c3 c5 g : Addr × Obj) (cu hl : Addr) (rst0 : List (Addr × Obj)) (fix : List Addr) : Prop where
  no : ∀ p ∈ [c1, c2, c3, c5, g], NoDat p.2
  nhl : ∀ a ∈ [c1.1, c2.1, c3.1, cu, c5.1, g.1], a ≠ hl
  arst : ∀ q ∈ rst0, ∀ a ∈ lawAd c1 c2 c3 c5 g cu hl fix, q.1 ≠ a
  afix : ∀ a ∈ fix, ∀ b ∈ lawAd c1 c2 c3 c5 g cu hl [], b ≠ a
section
variable {c1 c2 c3 c5 g : Addr × Obj} {cu hl : Addr} {rst0 tl : List (Addr × Obj)} {fix : List Addr}
theorem LawFix.ok (X : LawFix c1 c2 c3 c5 g cu hl rst0 fix) (ht : ∀ q ∈ tl, ∀ a ∈ lawAd c1 c2 c3 c5 g cu hl fix, q.1 ≠ a) {oc : Obj} {v : Option Value} (hoc : oc.data = .cell v) {I : Addr} {o : Obj} (hI : I ∈ fix) (ho : NoDat o) :
    LedOk [(I, o)] c1 c2 c3 (cu, oc) c5 g hl (tl ++ rst0) := by
  refine ⟨fun q hq => ?_, fun q hq => ?_⟩
  · simp only [List.mem_append, List.mem_cons, List.not_mem_nil, or_false] at hq
    rcases hq with rfl | rfl | rfl | rfl | rfl | rfl | rfl
    · exact ho
    · exact X.no _ (by repeat (first | exact List.mem_cons_self | assumption | apply List.mem_cons_of_mem))
    · exact X.no _ (by repeat (first | exact List.mem_cons_self | assumption | apply List.mem_cons_of_mem))
    · exact X.no _ (by repeat (first | exact List.mem_cons_self | assumption | apply List.mem_cons_of_mem))
    · exact noDat_cell hoc
    · exact X.no _ (by repeat (first | exact List.mem_cons_self | assumption | apply List.mem_cons_of_mem))
    · exact X.no _ (by repeat (first | exact List.mem_cons_self | assumption | apply List.mem_cons_of_mem))
  · simp only [List.mem_append, List.mem_cons, List.not_mem_nil, or_false] at hq
    rcases hq with rfl | rfl | rfl | rfl | rfl | rfl | rfl | hq | hq
    · exact (X.afix I hI hl (by repeat (first | exact List.mem_cons_self | assumption | apply List.mem_cons_of_mem))).symm
    · exact X.nhl _ (by repeat (first | exact List.mem_cons_self | assumption | apply List.mem_cons_of_mem))
    · exact X.nhl _ (by repeat (first | exact List.mem_cons_self | assumption | apply List.mem_cons_of_mem))
    · exact X.nhl _ (by repeat (first | exact List.mem_cons_self | assumption | apply List.mem_cons_of_mem))
    · exact X.nhl _ (by repeat (first | exact List.mem_cons_self | assumption | apply List.mem_cons_of_mem))
    · exact X.nhl _ (by repeat (first | exact List.mem_cons_self | assumption | apply List.mem_cons_of_mem))
    · exact X.nhl _ (by repeat (first | exact List.mem_cons_self | assumption | apply List.mem_cons_of_mem))
    · exact ht q hq hl (by repeat (first | exact List.mem_cons_self | assumption | apply List.mem_cons_of_mem))
    · exact X.arst q hq hl (by repeat (first | exact List.mem_cons_self | assumption | apply List.mem_cons_of_mem))
theorem LawFix.loop (X : LawFix c1 c2 c3 c5 g cu hl rst0 []) {oc e : Obj} {I : Addr} (hI : ∀ p ∈ c1 :: c2 :: c3 :: (cu, oc) :: c5 :: g :: (hl, e) :: rst0, p.1 < I) : LawFix c1 c2 c3 c5 g cu hl rst0 [I] := by
  have lo : ∀ b ∈ lawAd c1 c2 c3 c5 g cu hl [], b < I := by
    intro b hb
    simp only [lawAd, List.mem_cons, List.not_mem_nil, or_false] at hb
    rcases hb with rfl | rfl | rfl | rfl | rfl | rfl | rfl
    · exact hI c1 (by repeat (first | exact List.mem_cons_self | assumption | apply List.mem_cons_of_mem))
    · exact hI c2 (by repeat (first | exact List.mem_cons_self | assumption | apply List.mem_cons_of_mem))
    · exact hI c3 (by repeat (first | exact List.mem_cons_self | assumption | apply List.mem_cons_of_mem))
    · exact hI (b, oc) (by repeat (first | exact List.mem_cons_self | assumption | apply List.mem_cons_of_mem))
    · exact hI c5 (by repeat (first | exact List.mem_cons_self | assumption | apply List.mem_cons_of_mem))
    · exact hI g (by repeat (first | exact List.mem_cons_self | assumption | apply List.mem_cons_of_mem))
    · exact hI (b, e) (by repeat (first | exact List.mem_cons_self | assumption | apply List.mem_cons_of_mem))
  refine ⟨X.no, X.nhl, fun q hq a ha => ?_, fun a ha b hb => ?_⟩
  · simp only [lawAd, List.mem_cons, List.not_mem_nil, or_false] at ha
    rcases ha with h | h | h | h | h | h | h | rfl
    · exact X.arst q hq a (by simp [h])
    · exact X.arst q hq a (by simp [h])
    · exact X.arst q hq a (by simp [h])
    · exact X.arst q hq a (by simp [h])
    · exact X.arst q hq a (by simp [h])
    · exact X.arst q hq a (by simp [h])
    · exact X.arst q hq a (by simp [h])
    · exact Nat.ne_of_lt (hI q (by repeat (first | exact List.mem_cons_self | assumption | apply List.mem_cons_of_mem)))
  · rw [List.mem_singleton.mp ha]
    exact Nat.ne_of_lt (lo b hb)
/-- the state within a turn of an outer loop, for the loop within -/
theorem LawFix.into (X : LawFix c1 c2 c3 c5 g cu hl rst0 [I]) (ht : ∀ q ∈ tl, ∀ a ∈ lawAd c1 c2 c3 c5 g cu hl [I], q.1 ≠ a) (o : Obj) : LawFix c1 c2 c3 c5 g cu hl ((I, o) :: (tl ++ rst0)) [] := by
  refine ⟨X.no, X.nhl, fun q hq a ha => ?_, fun a ha => nomatch ha⟩
  have ha' : a ∈ lawAd c1 c2 c3 c5 g cu hl [I] := by
    simp only [lawAd, List.mem_cons, List.not_mem_nil, or_false] at ha ⊢
    rcases ha with h | h | h | h | h | h | h <;> simp [h]
  rcases List.mem_cons.mp hq with rfl | hq
  · exact (X.afix _ List.mem_cons_self a ha).symm
  · rcases List.mem_append.mp hq with hq | hq
    · exact ht q hq a ha'
    · exact X.arst q hq a ha'
theorem LawFix.add (X : LawFix c1 c2 c3 c5 g cu hl rst0 fix) {e : Addr × Obj} (he : ∀ a ∈ lawAd c1 c2 c3 c5 g cu hl fix, e.1 ≠ a) : LawFix c1 c2 c3 c5 g cu hl (e :: rst0) fix :=
  ⟨X.no, X.nhl, fun q hq => by
    rcases List.mem_cons.mp hq with rfl | hq
    · exact he
    · exact X.arst q hq, X.afix⟩
end
/-- what a deed of the law leaves -/
def LawOut (I : Addr) (o : Obj) (c1 c2 c3 c4 c5 g : Addr × Obj) (hl : Addr) (rst0 : List (Addr × Obj)) (cs : List (Int × Int)) (r : Value) (nw : List (Addr × Obj)) : Prop :=
  ∃ (tl : List (Addr × Obj)) (vs : List Value) (e : Nat) (ca : Addr) (cvs : List Value) (k : Nat), nw = [(I, o)] ++ (c1 :: c2 :: c3 :: c4 :: c5 :: g :: (hl, W.listOf (List.toArray vs) e) :: (tl ++ rst0)) ∧ r = .ref ca ∧ (∀ q ∈ tl, ∀ r ∈ rst0, r.1 ≠ q.1) ∧ (∀ q ∈ tl, ∀ a ∈ lawAd c1 c2 c3 c5 g c4.1 hl [I], q.1 ≠ a) ∧
    Kept (DatAll (tl ++ rst0) vs ((cs.map hp2).map hdr2)) ∧ (ca, W.listOf (List.toArray cvs) k) ∈ tl ++ rst0 ∧ Kept (DatAll (tl ++ rst0) cvs (cs.map card2))
section
variable {w : World} {p : Program} {loose : List Str} {mean : ExcName → Option Value} {mg mb : Str → Option Value} {tk : Tok} {xa dx hl cu ca I : Addr} {o oc : Obj} {n e k : Nat} {vs cvs : List Value} {c d : Int × Int} {crd : List (Int × Int)} {tl rst0 : List (Addr × Obj)} {c1 c2 c3 c5 g : Addr × Obj} {v : Option Value}
theorem law_out {cs : List (Int × Int)} {r : Value} {nw : List (Addr × Obj)} (hap : ∀ q ∈ tl, ∀ r ∈ rst0, r.1 ≠ q.1) (ht : ∀ q ∈ tl, ∀ a ∈ lawAd c1 c2 c3 c5 g cu hl [I], q.1 ≠ a) (h : DeckOut [(I, o)] c1 c2 c3 (cu, oc) c5 g hl (tl ++ rst0) cs r nw) :
    ∃ nw2, (∀ q ∈ nw2, q ∈ nw) ∧ LawOut I o c1 c2 c3 (cu, oc) c5 g hl rst0 cs r nw2 := by
  obtain ⟨tn, vs', e', ca', cvs', k', rfl, hr, ha, hD, hm, hC⟩ := h
  rw [← List.append_assoc] at hD hm hC
  refine ⟨_, fun q hq => ?_, tn ++ tl, vs', e', ca', cvs', k', rfl, hr, fun q hq r hr' => ?_, fun q hq a haa => ?_, ⟨hD⟩, hm, ⟨hC⟩⟩
  · rw [List.append_assoc] at hq
    exact hq
  · rcases List.mem_append.mp hq with hq | hq
    · exact ha q hq r (by simp only [List.mem_append, List.mem_cons]; simp [hr'])
    · exact hap q hq r hr'
  · rcases List.mem_append.mp hq with hq | hq
    · simp only [lawAd, List.mem_cons, List.not_mem_nil, or_false] at haa
      rcases haa with rfl | rfl | rfl | rfl | rfl | rfl | rfl | rfl
      · exact (ha q hq c1 (by repeat (first | exact List.mem_cons_self | assumption | apply List.mem_cons_of_mem))).symm
      · exact (ha q hq c2 (by repeat (first | exact List.mem_cons_self | assumption | apply List.mem_cons_of_mem))).symm
      · exact (ha q hq c3 (by repeat (first | exact List.mem_cons_self | assumption | apply List.mem_cons_of_mem))).symm
      · exact (ha q hq (a, oc) (by repeat (first | exact List.mem_cons_self | assumption | apply List.mem_cons_of_mem))).symm
      · exact (ha q hq c5 (by repeat (first | exact List.mem_cons_self | assumption | apply List.mem_cons_of_mem))).symm
      · exact (ha q hq g (by repeat (first | exact List.mem_cons_self | assumption | apply List.mem_cons_of_mem))).symm
      · exact (ha q hq (a, _) (.tail _ (.tail _ (.tail _ (.tail _ (.tail _ (.tail _ (.tail _ (.head _))))))))).symm
      · exact (ha q hq (a, o) (by repeat (first | exact List.mem_cons_self | assumption | apply List.mem_cons_of_mem))).symm
    · exact ht q hq a haa
theorem cutL (X : LawFix c1 c2 c3 c5 g cu hl rst0 [I]) (hap : ∀ q ∈ tl, ∀ r ∈ rst0, r.1 ≠ q.1) (ht : ∀ q ∈ tl, ∀ a ∈ lawAd c1 c2 c3 c5 g cu hl [I], q.1 ≠ a) (hoc : oc.data = .cell v) (ho : NoDat o) (m1 : (xa, instObj 184 dx) ∈ rst0) (m2 : (dx, dictOf (hdrEs w tk hl) n) ∈ rst0) (m3 : (ca, W.listOf cvs.toArray k) ∈ tl ++ rst0)
     (hD : Kept (DatAll (tl ++ rst0) vs (((c :: crd).map hp2).map hdr2))) (hC : Kept (DatAll (tl ++ rst0) cvs ((c :: crd).map card2))) (hok : Okc (c :: crd)) (hz : crd.length ≤ 40)
     : Run w p loose mean mg mb 5 60 221 [.ref xa, .ref ca] [] ([(I, o)] ++ (c1 :: c2 :: c3 :: (cu, oc) :: c5 :: g :: (hl, W.listOf vs.toArray e) :: (tl ++ rst0))) (LawOut I o c1 c2 c3 (cu, oc) c5 g hl rst0 (crd ++ [c])) :=
  Run.conv (cut_law (X.ok ht hoc List.mem_cons_self ho) (List.mem_append_right _ m1) (List.mem_append_right _ m2) m3 hD.out hC.out hok hz) (fun _ h => h) fun _ _ h => law_out hap ht h
theorem turnL (X : LawFix c1 c2 c3 c5 g cu hl rst0 [I]) (hap : ∀ q ∈ tl, ∀ r ∈ rst0, r.1 ≠ q.1) (ht : ∀ q ∈ tl, ∀ a ∈ lawAd c1 c2 c3 c5 g cu hl [I], q.1 ≠ a) (hoc : oc.data = .cell v) (ho : NoDat o) (m1 : (xa, instObj 184 dx) ∈ rst0) (m2 : (dx, dictOf (hdrEs w tk hl) n) ∈ rst0) (m3 : (ca, W.listOf cvs.toArray k) ∈ tl ++ rst0)
     (hD : Kept (DatAll (tl ++ rst0) vs (((c :: d :: crd).map hp2).map hdr2))) (hC : Kept (DatAll (tl ++ rst0) cvs ((c :: d :: crd).map card2))) (hok : Okc (c :: d :: crd)) (hz : crd.length ≤ 40)
     : Run w p loose mean mg mb 5 60 226 [.ref xa, .ref ca] [] ([(I, o)] ++ (c1 :: c2 :: c3 :: (cu, oc) :: c5 :: g :: (hl, W.listOf vs.toArray e) :: (tl ++ rst0))) (LawOut I o c1 c2 c3 (cu, oc) c5 g hl rst0 (crd ++ [(d.1, 1 - d.2), (c.1, 1 - c.2)])) :=
  Run.conv (turned_law (X.ok ht hoc List.mem_cons_self ho) (List.mem_append_right _ m1) (List.mem_append_right _ m2) m3 hD.out hC.out hok hz) (fun _ h => h) fun _ _ h => law_out hap ht h
theorem rightL (m1 : (xa, instObj 184 dx) ∈ rst0) (m2 : (dx, dictOf (hdrEs w tk hl) n) ∈ rst0) (m3 : (ca, W.listOf cvs.toArray k) ∈ tl ++ rst0)
     (hD : Kept (DatAll (tl ++ rst0) vs ((crd.map hp2).map hdr2))) (hC : Kept (DatAll (tl ++ rst0) cvs (crd.map card2))) (hok : Okc crd) (hz : crd.length ≤ 40)
     : Run w p loose mean mg mb 4 120 231 [.ref xa, .ref hl, .ref ca] [] ([(I, o)] ++ (c1 :: c2 :: c3 :: (cu, oc) :: c5 :: g :: (hl, W.listOf vs.toArray e) :: (tl ++ rst0))) (fun r nw => nw = [(I, o)] ++ (c1 :: c2 :: c3 :: (cu, oc) :: c5 :: g :: (hl, W.listOf vs.toArray e) :: (tl ++ rst0)) ∧ r = .bool true) :=
  right_law (List.mem_append_right _ m1) (List.mem_append_right _ m2) m3 hD.out hC.out hok.1 hz
end
section
variable {prog : Program} {w : World} {A : Around} {E : Value → Shared → Prop} {s : Shared} {env : Env} {h₀ : Heap} {target : PySem.Expr} {body : List Stmt} {Q : Flow → Shared → Prop}
theorem law_items {I hl cu ca : Addr} {keep : List (Addr × Obj)} {c1 c2 c3 c5 g : Addr × Obj} {oc : Obj} {rst0 : List (Addr × Obj)} {t : Tok} {vs cvs all : List Value} {e k : Nat} {cs : List (Int × Int)} {cuts : Int} {m : Str → Option Value} (M : (Str → Option Value) → Prop) (P : List (Int × Int) → Int → Prop)
    (step : ∀ v m nw, (∃ n t, v = Value.int n t) → LawInv c1 c2 c3 c5 g cu hl rst0 [I] M P m nw → ∀ h tk, Fr h₀ env.locals h m → ∀ o, o.cls = .type "list_iterator" → News h₀ env.locals h ([(I, o)] ++ nw) →
      ∀ (Q' : Flow → Shared → Prop), (∀ s', UnrEndW h₀ env.locals { s with heap := h, toks := tk } [(I, o)] (fun m' n' => SubL keep n' ∧ LawInv c1 c2 c3 c5 g cu hl rst0 [I] M P m' n') s' → Q' .next s') →
      wpAny (model prog w) A (assign target env v) (fun _ s₂ => wpAny (model prog w) A (execs body env) Q' (fun _ _ => False) s₂) (fun _ _ => False) { s with heap := h, toks := tk })
    (done : ∀ m nw, LawInv c1 c2 c3 c5 g cu hl rst0 [I] M P m nw → ∀ h tk, Fr h₀ env.locals h m → News h₀ env.locals h nw → Q .next { s with heap := h, toks := tk })
    (hv : ∀ v ∈ all, ∃ n t, v = Value.int n t) (hoc : oc.data = .cell (some (.int cuts t))) (hD : Kept (DatAll rst0 vs ((cs.map hp2).map hdr2))) (hm : (ca, W.listOf cvs.toArray k) ∈ rst0) (hC : Kept (DatAll rst0 cvs (cs.map card2))) (h1 : m (Str.ofString "cards") = some (.ref ca)) (h2 : M m) (h3 : P cs cuts) :
    ItemsRest prog w A E h₀ env target body Q s [(I, "list_iterator")] keep (all.map .val) m (c1 :: c2 :: c3 :: (cu, oc) :: c5 :: g :: (hl, W.listOf vs.toArray e) :: rst0) :=
  items_inv (ws := [(I, "list_iterator")]) (keep := keep) (s := s) (A := A) (prog := prog) (w := w) (Q := Q) (E := E) (body := body) (target := target) (env := env) (h₀ := h₀) (fun _ => LawInv c1 c2 c3 c5 g cu hl rst0 [I] M P) all (fun pre v post m nw e hI h tk F o ho N => no_flow (step v m nw (hv v (by rw [e]; simp)) hI h tk F o ho N _ fun _ h => h)) done all [] m _ rfl
    ⟨[], oc, t, vs, e, ca, cvs, k, cs, cuts, rfl, hoc, fun _ h => (List.not_mem_nil h).elim, fun _ h => (List.not_mem_nil h).elim, hD, hm, hC, h1, h2, h3⟩
theorem law_range {x : Str} {px : Pos} {r hl cu ca : Addr} {b : Int} {t₀ u₀ v₀ : Tok} {n : Nat} {c1 c2 c3 c5 g : Addr × Obj} {oc : Obj} {rst0 : List (Addr × Obj)} {t : Tok} {vs cvs : List Value} {e k : Nat} {cs : List (Int × Int)} {cuts : Int} {m : Str → Option Value} (M : (Str → Option Value) → Prop) (P : Nat → List (Int × Int) → Int → Prop)
    (hh : A.handled = none) (hr : IsRange s.heap r 0 b 1 t₀ u₀ v₀) (hn : b = (n : Int)) (hn1 : n ≤ 100) (F : Fr h₀ env.locals s.heap m) (N : News h₀ env.locals s.heap (c1 :: c2 :: c3 :: (cu, oc) :: c5 :: g :: (hl, W.listOf vs.toArray e) :: rst0))
    (step : ∀ I (i : Nat) m nw, (∀ p ∈ c1 :: c2 :: c3 :: (cu, oc) :: c5 :: g :: (hl, W.listOf vs.toArray e) :: rst0, p.1 < I) → i < n → LawInv c1 c2 c3 c5 g cu hl rst0 [I] M (P i) m nw → ∀ t h tk o, o.cls = .type "range_iterator" → Fr h₀ env.locals h m → News h₀ env.locals h ([(I, o)] ++ nw) →
      ∀ (Q' : Flow → Shared → Prop), (∀ s', UnrEndW h₀ env.locals { s with heap := h, toks := tk } [(I, o)] (fun m' n' => True ∧ LawInv c1 c2 c3 c5 g cu hl rst0 [I] M (P (i + 1)) m' n') s' → Q' .next s') →
      wpAny (model prog w) A (assign (.Name x px) env (.int (i : Int) t)) (fun _ s₂ => wpAny (model prog w) A (execs body env) Q' (fun _ _ => False) s₂) (fun _ _ => False) { s with heap := h, toks := tk })
    (done : ∀ I m nw, LawInv c1 c2 c3 c5 g cu hl rst0 [I] M (P n) m nw → ∀ h tk, Fr h₀ env.locals h m → News h₀ env.locals h nw → Q .next { s with heap := h, toks := tk })
    (hoc : oc.data = .cell (some (.int cuts t))) (hD : Kept (DatAll rst0 vs ((cs.map hp2).map hdr2))) (hm : (ca, W.listOf cvs.toArray k) ∈ rst0) (hC : Kept (DatAll rst0 cvs (cs.map card2))) (h1 : m (Str.ofString "cards") = some (.ref ca)) (h2 : M m) (h3 : P 0 cs cuts) :
    wpAny (model prog w) A (pyIter (.ref r)) (fun it s₂ => TurnsAt prog w A h₀ env (.Name x px) body Q E it s₂) E s :=
  range_inv (fun I i => LawInv c1 c2 c3 c5 g cu hl rst0 [I] M (P i)) hh hr (small_one (by decide) (by decide) (by omega) (by omega)) (by rw [rangeSize_one]; split <;> omega) F N (fun I _ => ⟨[], oc, t, vs, e, ca, cvs, k, cs, cuts, rfl, hoc, fun _ h => (List.not_mem_nil h).elim, fun _ h => (List.not_mem_nil h).elim, hD, hm, hC, h1, h2, h3⟩) (fun I i m nw hI hi L t h tk o ho F N => no_flow (step I i m nw hI hi L t h tk o ho F N _ fun _ h => h)) (fun I m nw _ => done I m nw)
end
theorem law_led5 {h₀ h : Heap} {L : Addr} {x e c1 c2 c3 c4 c5 g : Addr × Obj} {rst : List (Addr × Obj)} (N : News h₀ L h (x :: c1 :: c2 :: c3 :: c4 :: c5 :: g :: e :: rst)) : News h₀ L h (c1 :: c2 :: c3 :: c4 :: c5 :: g :: e :: x :: rst) := fun p hp => by
  refine N p ?_
  simp only [List.mem_cons] at hp ⊢
  rcases hp with h | h | h | h | h | h | h | h | h <;> simp [h]
theorem deck_okc {crd cs : List (Int × Int)} {cuts : Int} {n : Nat} (h : DeckSt crd cs cuts) (hp : (crd.map (·.1)).Perm (rangeKs 0 n)) (hn : n ≤ 6) : Okc cs := by
  refine ⟨fun c hc => ?_, ?_⟩
  · have hb := mem_rangeKs ((h.perm.trans hp).subset (List.mem_map.mpr ⟨c, hc, rfl⟩))
    exact ⟨hb.1, by omega⟩
  · exact (h.perm.trans hp).nodup_iff.mpr (range_nodup n)
theorem law_fix0 {a1 a2 a3 cu a5 a6 hl : Addr} {o1 o2 o3 o5 o6 p1 p2 p3 p4 p5 p6 : Obj} {rst : List (Addr × Obj)} (n1 : NoDat o1) (n2 : NoDat o2) (n3 : NoDat o3) (n5 : NoDat o5) (n6 : NoDat o6)
    (hx : (∀ p ∈ [(a1, p1), (a2, p2), (a3, p3), (cu, p4), (a5, p5), (a6, p6)], p.1 ≠ hl ∧ ∀ q ∈ rst, q.1 ≠ p.1) ∧ ∀ q ∈ rst, q.1 ≠ hl) : LawFix (a1, o1) (a2, o2) (a3, o3) (a5, o5) (a6, o6) cu hl rst [] := by
  have h1 := hx.1 _ List.mem_cons_self
  have h2 := hx.1 _ (List.mem_cons_of_mem _ List.mem_cons_self)
  have h3 := hx.1 _ (List.mem_cons_of_mem _ (List.mem_cons_of_mem _ List.mem_cons_self))
  have h4 := hx.1 _ (List.mem_cons_of_mem _ (List.mem_cons_of_mem _ (List.mem_cons_of_mem _ List.mem_cons_self)))
  have h5 := hx.1 _ (List.mem_cons_of_mem _ (List.mem_cons_of_mem _ (List.mem_cons_of_mem _ (List.mem_cons_of_mem _ List.mem_cons_self))))
  have h6 := hx.1 _ (List.mem_cons_of_mem _ (List.mem_cons_of_mem _ (List.mem_cons_of_mem _ (List.mem_cons_of_mem _ (List.mem_cons_of_mem _ List.mem_cons_self)))))
  refine ⟨fun p hp => ?_, fun a ha => ?_, fun q hq a ha => ?_, fun a ha => nomatch ha⟩
  · simp only [List.mem_cons, List.not_mem_nil, or_false] at hp
    rcases hp with rfl | rfl | rfl | rfl | rfl <;> assumption
  · simp only [List.mem_cons, List.not_mem_nil, or_false] at ha
    rcases ha with h | h | h | h | h | h
    · rw [h]; exact h1.1
    · rw [h]; exact h2.1
    · rw [h]; exact h3.1
    · rw [h]; exact h4.1
    · rw [h]; exact h5.1
    · rw [h]; exact h6.1
  · simp only [lawAd, List.mem_cons, List.not_mem_nil, or_false] at ha
    rcases ha with h | h | h | h | h | h | h
    · rw [h]; exact h1.2 q hq
    · rw [h]; exact h2.2 q hq
    · rw [h]; exact h3.2 q hq
    · rw [h]; exact h4.2 q hq
    · rw [h]; exact h5.2 q hq
    · rw [h]; exact h6.2 q hq
    · rw [h]; exact hx.2 q hq
theorem law_lt {D a1 a2 a3 cu a5 a6 hl : Nat} {o1 o2 o3 o5 o6 : Obj} {rst : List (Addr × Obj)} (l : a1 < D ∧ a2 < D ∧ a3 < D ∧ cu < D ∧ a5 < D ∧ a6 < D ∧ hl < D ∧ AllLt D rst) : ∀ a ∈ lawAd (a1, o1) (a2, o2) (a3, o3) (a5, o5) (a6, o6) cu hl [], @Ne Nat D a := by
  obtain ⟨l1, l2, l3, l4, l5, l6, l7, -⟩ := l
  intro a ha
  simp only [lawAd, List.mem_cons, List.not_mem_nil, or_false] at ha
  rcases ha with h | h | h | h | h | h | h <;> (rw [h]; exact Nat.ne_of_gt (by assumption))
theorem law_fix1 {h₀ h : Heap} {L D a1 a2 a3 cu a5 a6 hl : Addr} {od o1 o2 o3 o4 o5 o6 oh p1 p2 p3 p4 p5 p6 : Obj} {rst : List (Addr × Obj)} (_ : News h₀ L h ((D, od) :: (a1, o1) :: (a2, o2) :: (a3, o3) :: (cu, o4) :: (a5, o5) :: (a6, o6) :: (hl, oh) :: rst)) (n1 : NoDat o1) (n2 : NoDat o2) (n3 : NoDat o3) (n5 : NoDat o5) (n6 : NoDat o6)
    (hx : (∀ p ∈ [(a1, p1), (a2, p2), (a3, p3), (cu, p4), (a5, p5), (a6, p6)], p.1 ≠ hl ∧ ∀ q ∈ rst, q.1 ≠ p.1) ∧ ∀ q ∈ rst, q.1 ≠ hl) (l : @LT.lt Nat _ a1 D ∧ @LT.lt Nat _ a2 D ∧ @LT.lt Nat _ a3 D ∧ @LT.lt Nat _ cu D ∧ @LT.lt Nat _ a5 D ∧ @LT.lt Nat _ a6 D ∧ @LT.lt Nat _ hl D ∧ AllLt D rst) :
    LawFix (a1, o1) (a2, o2) (a3, o3) (a5, o5) (a6, o6) cu hl ((D, od) :: rst) [] := (law_fix0 n1 n2 n3 n5 n6 hx).add (law_lt l)
theorem law_led6 {h₀ h : Heap} {L : Addr} {x e c1 c2 c3 c4 c5 g : Addr × Obj} {rst : List (Addr × Obj)} (N : News h₀ L h ([x] ++ (c1 :: c2 :: c3 :: c4 :: c5 :: g :: e :: rst))) : News h₀ L h (c1 :: c2 :: c3 :: c4 :: c5 :: g :: e :: x :: rst) := law_led5 N
theorem LawFix.off {c1 c2 c3 c5 g : Addr × Obj} {cu hl I : Addr} {o oc e : Obj} {rst0 tl : List (Addr × Obj)} (X : LawFix c1 c2 c3 c5 g cu hl rst0 [I]) (ht : ∀ q ∈ tl, ∀ a ∈ lawAd c1 c2 c3 c5 g cu hl [I], q.1 ≠ a) :
    ∀ p ∈ c1 :: c2 :: c3 :: (cu, oc) :: c5 :: g :: (hl, e) :: (tl ++ rst0), ∀ q ∈ [(I, o)], p.1 ≠ q.1 := by
  intro p hp q hq
  rw [List.mem_singleton.mp hq]
  have f := X.afix I List.mem_cons_self
  simp only [List.mem_cons, List.mem_append] at hp
  rcases hp with rfl | rfl | rfl | rfl | rfl | rfl | rfl | hp | hp
  · exact f _ (.head _)
  · exact f _ (.tail _ (.head _))
  · exact f _ (.tail _ (.tail _ (.head _)))
  · exact f _ (.tail _ (.tail _ (.tail _ (.head _))))
  · exact f _ (.tail _ (.tail _ (.tail _ (.tail _ (.head _)))))
  · exact f _ (.tail _ (.tail _ (.tail _ (.tail _ (.tail _ (.head _))))))
  · exact f _ (.tail _ (.tail _ (.tail _ (.tail _ (.tail _ (.tail _ (.head _)))))))
  · exact ht p hp I (by simp [lawAd])
  · exact X.arst p hp I (by simp [lawAd])
theorem LawFix.cu1 {c1 c2 c3 c5 g : Addr × Obj} {cu hl I : Addr} {rst0 tl : List (Addr × Obj)} (X : LawFix c1 c2 c3 c5 g cu hl rst0 [I]) (ht : ∀ q ∈ tl, ∀ a ∈ lawAd c1 c2 c3 c5 g cu hl [I], q.1 ≠ a) : I ≠ cu ∧ ∀ q ∈ tl ++ rst0, q.1 ≠ cu := by
  refine ⟨(X.afix I List.mem_cons_self cu (by simp [lawAd])).symm, fun q hq => ?_⟩
  rcases List.mem_append.mp hq with hq | hq
  · exact ht q hq cu (by simp [lawAd])
  · exact X.arst q hq cu (by simp [lawAd])
theorem two_of {cs : List (Int × Int)} (h : 2 ≤ cs.length) : ∃ c d r, cs = c :: d :: r := by
  match cs, h with
  | c :: d :: r, _ => exact ⟨c, d, r, rfl⟩
theorem led_lift {h₀ h : Heap} {L : Addr} {x e c1 c2 c3 c4 c5 g : Addr × Obj} {rst : List (Addr × Obj)} (_ : News h₀ L h (c1 :: c2 :: c3 :: c4 :: c5 :: g :: e :: x :: rst)) {q : Addr × Obj} (h : q ∈ rst) : q ∈ x :: rst := List.mem_cons_of_mem _ h
section
variable {h₀ h' : Heap} {L : Addr} {s₁ : Shared} {tk : Nat} {m' : Str → Option Value} {c1 c2 c3 c5 g sl : Addr × Obj} {cu hl ca I J : Addr} {o oc : Obj} {rst0 tl tl3 : List (Addr × Obj)} {t : Tok} {vs cvs : List Value} {e k : Nat} {cs : List (Int × Int)} {cuts : Int} {M : (Str → Option Value) → Prop} {P : List (Int × Int) → Int → Prop}
theorem law_endR (X : LawFix c1 c2 c3 c5 g cu hl rst0 [I]) (F : Fr h₀ L h' m') (N : News h₀ L h' (lawLed [(I, o)] c1 c2 c3 (cu, oc) c5 g (hl, W.listOf vs.toArray e) (tl ++ rst0))) (hoc : oc.data = .cell (some (.int cuts t))) (hap : ∀ q ∈ tl, ∀ r ∈ rst0, r.1 ≠ q.1) (ht : ∀ q ∈ tl, ∀ a ∈ lawAd c1 c2 c3 c5 g cu hl [I], q.1 ≠ a)
    (hD : Kept (DatAll (tl ++ rst0) vs ((cs.map hp2).map hdr2))) (hm : (ca, W.listOf cvs.toArray k) ∈ tl ++ rst0) (hC : Kept (DatAll (tl ++ rst0) cvs (cs.map card2))) (h1 : m' (Str.ofString "cards") = some (.ref ca)) (h2 : M m') (h3 : P cs cuts) :
    UnrEndW h₀ L s₁ [(I, o)] (fun m' n' => True ∧ LawInv c1 c2 c3 c5 g cu hl rst0 [I] M P m' n') { s₁ with heap := h', toks := tk } :=
  ⟨h', tk, m', c1 :: c2 :: c3 :: (cu, oc) :: c5 :: g :: (hl, W.listOf vs.toArray e) :: (tl ++ rst0), rfl, F, N, X.off ht, trivial, tl, oc, t, vs, e, ca, cvs, k, cs, cuts, rfl, hoc, hap, ht, hD, hm, hC, h1, h2, h3⟩
/-- the end of a turn of an outer loop, behind the loop within -/
theorem law_outer (X : LawFix c1 c2 c3 c5 g cu hl rst0 [I]) (ho : NoDat o) (hap : ∀ q ∈ tl, ∀ r ∈ rst0, r.1 ≠ q.1) (ht : ∀ q ∈ tl, ∀ a ∈ lawAd c1 c2 c3 c5 g cu hl [I], q.1 ≠ a) (F : Fr h₀ L h' m') (N : News h₀ L h' (c1 :: c2 :: c3 :: (cu, oc) :: c5 :: g :: (hl, W.listOf vs.toArray e) :: (tl3 ++ (I, o) :: (tl ++ rst0)))) (hoc : oc.data = .cell (some (.int cuts t)))
    (hap3 : ∀ q ∈ tl3, ∀ r ∈ (I, o) :: (tl ++ rst0), r.1 ≠ q.1) (ht3 : ∀ q ∈ tl3, ∀ a ∈ lawAd c1 c2 c3 c5 g cu hl [J], q.1 ≠ a)
    (hD : Kept (DatAll (tl3 ++ (I, o) :: (tl ++ rst0)) vs ((cs.map hp2).map hdr2))) (hm : (ca, W.listOf cvs.toArray k) ∈ tl3 ++ (I, o) :: (tl ++ rst0)) (hC : Kept (DatAll (tl3 ++ (I, o) :: (tl ++ rst0)) cvs (cs.map card2))) (h1 : m' (Str.ofString "cards") = some (.ref ca)) (h2 : M m') (h3 : P cs cuts) {keep : List (Addr × Obj)} (hk : ∀ n', (∀ q ∈ rst0, q ∈ n') → SubL keep n') :
    UnrEndW h₀ L s₁ [(I, o)] (fun m' n' => SubL keep n' ∧ LawInv c1 c2 c3 c5 g cu hl rst0 [I] M P m' n') { s₁ with heap := h', toks := tk } := by
  have hsub : ∀ p ∈ tl3 ++ (I, o) :: (tl ++ rst0), NoDat p.2 ∨ p ∈ (tl3 ++ tl) ++ rst0 := by
    intro p hp
    simp only [List.mem_append, List.mem_cons] at hp ⊢
    rcases hp with h | h | h | h
    · exact .inr (.inl (.inl h))
    · rw [h]; exact .inl ho
    · exact .inr (.inl (.inr h))
    · exact .inr (.inr h)
  have ht' : ∀ q ∈ tl3 ++ tl, ∀ a ∈ lawAd c1 c2 c3 c5 g cu hl [I], q.1 ≠ a := by
    intro q hq a ha
    rcases List.mem_append.mp hq with hq | hq
    · simp only [lawAd, List.mem_cons, List.not_mem_nil, or_false] at ha
      rcases ha with h | h | h | h | h | h | h | h
      · exact ht3 q hq a (by simp [lawAd, h])
      · exact ht3 q hq a (by simp [lawAd, h])
      · exact ht3 q hq a (by simp [lawAd, h])
      · exact ht3 q hq a (by simp [lawAd, h])
      · exact ht3 q hq a (by simp [lawAd, h])
      · exact ht3 q hq a (by simp [lawAd, h])
      · exact ht3 q hq a (by simp [lawAd, h])
      · rw [h]; exact (hap3 q hq _ List.mem_cons_self).symm
    · exact ht q hq a ha
  refine ⟨h', tk, m', c1 :: c2 :: c3 :: (cu, oc) :: c5 :: g :: (hl, W.listOf vs.toArray e) :: ((tl3 ++ tl) ++ rst0), rfl, F, fun p hp => N p ?_, X.off ht', hk _ fun q hq => ?_, tl3 ++ tl, oc, t, vs, e, ca, cvs, k, cs, cuts, rfl, hoc, ?_, ht', ⟨DatAll.sub hsub hD.out⟩, (hsub _ hm).resolve_left fun n => n.2 _ _ rfl, ⟨DatAll.sub hsub hC.out⟩, h1, h2, h3⟩
  · simp only [List.mem_append, List.mem_cons, List.not_mem_nil, or_false] at hp ⊢
    rcases hp with h | h | h | h | h | h | h | h | (h | h) | h <;> simp [h]
  · repeat (first | exact List.mem_append_right _ hq | apply List.mem_cons_of_mem)
  · intro q hq r hr
    rcases List.mem_append.mp hq with hq | hq
    · exact hap3 q hq r (List.mem_cons_of_mem _ (List.mem_append_right _ hr))
    · exact hap q hq r hr
theorem LawFix.out (X : LawFix c1 c2 c3 c5 g cu hl rst0 [I]) (ht : ∀ q ∈ tl, ∀ a ∈ lawAd c1 c2 c3 c5 g cu hl [I], q.1 ≠ a) : LawFix c1 c2 c3 c5 g cu hl (tl ++ rst0) [] := by
  refine ⟨X.no, X.nhl, fun q hq a ha => ?_, fun a ha => nomatch ha⟩
  have ha' : a ∈ lawAd c1 c2 c3 c5 g cu hl [I] := by
    simp only [lawAd, List.mem_cons, List.not_mem_nil, or_false] at ha ⊢
    rcases ha with h | h | h | h | h | h | h <;> simp [h]
  rcases List.mem_append.mp hq with hq | hq
  · exact ht q hq a ha'
  · exact X.arst q hq a ha'
end
theorem LawFix.into2 {c1 c2 c3 c5 g : Addr × Obj} {cu hl I : Addr} {rst0 tl : List (Addr × Obj)} (X : LawFix c1 c2 c3 c5 g cu hl rst0 []) (ht : ∀ q ∈ tl, ∀ a ∈ lawAd c1 c2 c3 c5 g cu hl [I], q.1 ≠ a) : LawFix c1 c2 c3 c5 g cu hl (tl ++ rst0) [] := by
  refine ⟨X.no, X.nhl, fun q hq a ha => ?_, fun a ha => nomatch ha⟩
  rcases List.mem_append.mp hq with hq | hq
  · refine ht q hq a ?_
    simp only [lawAd, List.mem_cons, List.not_mem_nil, or_false] at ha ⊢
    rcases ha with h | h | h | h | h | h | h <;> simp [h]
  · exact X.arst q hq a ha
end
theorem rest_27 : True := by
  w_top off
  try walk1
  first | done | exact True.intro
section
set_option maxRecDepth 100000 in
theorem nm_lt {n m : Int} (hn : 0 ≤ n ∧ n < 6) (hm : 0 ≤ m ∧ m < 6) : (nmS n 0).cps.toList < (nmS m 0).cps.toList ↔ n < m := by
  rcases six hn with rfl | rfl | rfl | rfl | rfl | rfl <;> rcases six hm with rfl | rfl | rfl | rfl | rfl | rfl <;> decide +kernel
theorem lt_names {c d : Int × Int} (hc : 0 ≤ c.1 ∧ c.1 < 6) (hd : 0 ≤ d.1 ∧ d.1 < 6) : (Txt.lower (hp2 d).fst).cps.toList < (Txt.lower (hp2 c).fst).cps.toList ↔ d.1 < c.1 := by
  show (Txt.lower (nmS d.1 d.2)).cps.toList < (Txt.lower (nmS c.1 c.2)).cps.toList ↔ _
  rw [nmS_lower hc, nmS_lower hd]
  exact nm_lt hd hc
theorem fm2 (i : Nat) : (i : Int).fmod 2 = 1 ↔ i % 2 = 1 := by
  rw [Int.fmod_eq_emod_of_nonneg _ (by decide)]; omega
theorem fmh {size : Int} (hsz : size = 4 ∨ size = 6) (j : Nat) : (j : Int).fmod (size.fdiv 2) = 0 ↔ j % (size.toNat / 2) = 0 := by
  rcases hsz with rfl | rfl
  · have e : (4 : Int).fdiv 2 = 2 := rfl
    have e2 : (4 : Int).toNat / 2 = 2 := rfl
    rw [e, e2, Int.fmod_eq_emod_of_nonneg _ (by decide)]; omega
  · have e : (6 : Int).fdiv 2 = 3 := rfl
    have e2 : (6 : Int).toNat / 2 = 3 := rfl
    rw [e, e2, Int.fmod_eq_emod_of_nonneg _ (by decide)]; omega
theorem fold_next {h i j : Nat} {l0 l l' : List Nat} (hn : l = (List.range j).foldl (stepN h i) l0) (e : stepN h i l j = l') : l' = (List.range (j + 1)).foldl (stepN h i) l0 := by
  rw [List.range_succ, List.foldl_append, ← hn]
  exact e.symm
section
variable {crd r : List (Int × Int)} {c d : Int × Int} {cuts : Int} {h i j : Nat} {l0 : List Nat}
theorem end_alone (hst : DeckSt crd (c :: d :: r) cuts) (he : crd.length % 2 = 0) (hnum : numsOf (c :: d :: r) = (List.range j).foldl (stepN h i) l0) (ha : i % 2 = 1) (hb : j % h = 0) :
    DeckSt crd (d :: r ++ [c]) (cuts + 1) ∧ numsOf (d :: r ++ [c]) = (List.range (j + 1)).foldl (stepN h i) l0 := by
  refine ⟨hst.cut he, fold_next hnum ?_⟩
  unfold stepN isAlone
  simp [ha, hb, cutN, numsOf]
theorem not_alone (hna : ¬ (i % 2 = 1 ∧ j % h = 0)) : isAlone h i j = false := by
  unfold isAlone
  by_cases h1 : i % 2 = 1
  · by_cases h2 : j % h = 0
    · exact absurd ⟨h1, h2⟩ hna
    · simp [h2]
  · simp [h1]
theorem end_turn (hst : DeckSt crd (c :: d :: r) cuts) (he : crd.length % 2 = 0) (hnum : numsOf (c :: d :: r) = (List.range j).foldl (stepN h i) l0) (hna : ¬ (i % 2 = 1 ∧ j % h = 0)) (hlt : d.1 < c.1) (h0 : 0 ≤ d.1) :
    DeckSt crd (r ++ [(d.1, 1 - d.2), (c.1, 1 - c.2)]) cuts ∧ numsOf (r ++ [(d.1, 1 - d.2), (c.1, 1 - c.2)]) = (List.range (j + 1)).foldl (stepN h i) l0 := by
  refine ⟨hst.turn he, fold_next hnum ?_⟩
  have hb : Nat.blt d.1.toNat c.1.toNat = true := Nat.blt_eq.mpr (by omega)
  unfold stepN
  rw [not_alone hna]
  show (if false = true then _ else if Nat.blt d.1.toNat c.1.toNat then turnN (c.1.toNat :: d.1.toNat :: numsOf r) else _) = _
  rw [hb]
  simp [turnN, numsOf]
theorem end_cut2 (hst : DeckSt crd (c :: d :: r) cuts) (he : crd.length % 2 = 0) (hnum : numsOf (c :: d :: r) = (List.range j).foldl (stepN h i) l0) (hna : ¬ (i % 2 = 1 ∧ j % h = 0)) (hge : ¬ d.1 < c.1) (h0 : 0 ≤ c.1) :
    DeckSt crd (r ++ [c] ++ [d]) (cuts + 2) ∧ numsOf (r ++ [c] ++ [d]) = (List.range (j + 1)).foldl (stepN h i) l0 := by
  have h1 : DeckSt crd (d :: (r ++ [c])) (cuts + 1) := hst.cut he
  have h2 := h1.cut he
  rw [Int.add_assoc] at h2
  refine ⟨h2, fold_next hnum ?_⟩
  have hb : Nat.blt d.1.toNat c.1.toNat = false := by
    cases hq : Nat.blt d.1.toNat c.1.toNat with
    | false => rfl
    | true =>
      have := Nat.blt_eq.mp hq
      omega
  unfold stepN
  rw [not_alone hna]
  show (if false = true then _ else if Nat.blt d.1.toNat c.1.toNat then turnN (c.1.toNat :: d.1.toNat :: numsOf r) else cutN (cutN (c.1.toNat :: d.1.toNat :: numsOf r))) = _
  rw [hb]
  simp [cutN, numsOf]
end
theorem news_drop2 {h₀ h : Heap} {L : Addr} {a b : Addr × Obj} {l : List (Addr × Obj)} (N : News h₀ L h (a :: b :: l)) : News h₀ L h l := fun p hp => N p (List.mem_cons_of_mem _ (List.mem_cons_of_mem _ hp))
theorem fdz {size : Int} (hsz : size = 4 ∨ size = 6) : size.fdiv 2 ≠ 0 := by
  rcases hsz with rfl | rfl <;> decide
end
theorem rest_28 : True := by
  w_top off
  try walk1
  first | done | exact True.intro
section
section
variable {prog : Program} {w : World} {A : Around} {s : Shared} {h₀ : Heap} {L : Addr} {m : Str → Option Value} {env : Env}
/-- a comprehension within the law: what its elements add lies behind the law's own objects -/
theorem compU_law {elt : PySem.Expr} {x : Str} {scope : Scope} {cl : List (Str × Addr)} {S : List (Addr × Obj) → Prop} {P : Nat → Value → Prop} {Fin : List Value → List (Addr × Obj) → Prop} {n : Nat} {p1 p2 p3 p4 p5 p6 p7 : Addr × Obj} {rst : List (Addr × Obj)}
    (R : Nat → List Value → List (Addr × Obj) → Prop)
    (step : ∀ i ys tl v I oI C oC D m₂ h tk (E' : Value → Shared → Prop), i < n → R i ys tl → P i v → LCg.NsObj oC m₂ → m₂ x = some v → Fr h₀ L h m → News h₀ L h ((I, oI) :: (C, oC) :: (D, LCg.lst ys) :: p1 :: p2 :: p3 :: p4 :: p5 :: p6 :: p7 :: (tl ++ rst)) → LCg.Off3 I C D (p1 :: p2 :: p3 :: p4 :: p5 :: p6 :: p7 :: (tl ++ rst)) → ((@Ne Nat I C) ∧ (@Ne Nat I D) ∧ (@Ne Nat C D)) →
      wpAny (model prog w) A (eval elt (compEnvC scope cl C env)) (LCg.CompEnd h₀ L m { s with heap := h, toks := tk } I oI C oC D (LCg.lst ys) S (fun y nw' => ∃ T, nw' = p1 :: p2 :: p3 :: p4 :: p5 :: p6 :: p7 :: (T :: (tl ++ rst)) ∧ (∀ q ∈ p1 :: p2 :: p3 :: p4 :: p5 :: p6 :: p7 :: (tl ++ rst), q.1 ≠ T.1) ∧ R (i + 1) (ys ++ [y]) (T :: tl))) E' { s with heap := h, toks := tk })
    (fin : ∀ ys tl, R n ys tl → (∀ t ∈ tl, ∀ q ∈ p1 :: p2 :: p3 :: p4 :: p5 :: p6 :: p7 :: rst, q.1 ≠ t.1) → Fin ys (p1 :: p2 :: p3 :: p4 :: p5 :: p6 :: p7 :: (tl ++ rst))) (h0 : R 0 [] []) :
    LCg.CompRest prog w A h₀ L m env elt x scope cl s S P Fin n 0 [] (p1 :: p2 :: p3 :: p4 :: p5 :: p6 :: p7 :: rst) := by
  refine compU_inv n (fun i ys nw => ∃ tl, nw = p1 :: p2 :: p3 :: p4 :: p5 :: p6 :: p7 :: (tl ++ rst) ∧ (∀ t ∈ tl, ∀ q ∈ p1 :: p2 :: p3 :: p4 :: p5 :: p6 :: p7 :: rst, q.1 ≠ t.1) ∧ R i ys tl) ?_ ?_ n 0 [] _ (by omega) ⟨[], rfl, fun _ h => (nomatch h), h0⟩
  · rintro i ys nw v I oI C oC D m₂ h tk E' hi ⟨tl, rfl, hap, hR⟩ hv h1 h2 F N o3 hne
    refine wpAny_mono (step i ys tl v I oI C oC D m₂ h tk E' hi hR hv h1 h2 F N o3 hne) (fun y s₂ c => compEnd_mono (fun nw' hI => ?_) c) fun _ _ x => x
    obtain ⟨T, rfl, hT, hR'⟩ := hI
    refine ⟨T :: tl, rfl, fun t ht q hq => ?_, hR'⟩
    rcases List.mem_cons.mp ht with rfl | ht
    · refine hT q ?_
      simp only [List.mem_cons, List.mem_append] at hq ⊢
      rcases hq with h | h | h | h | h | h | h | h <;> simp [h]
    · exact hap t ht q hq
  · rintro ys nw ⟨tl, rfl, hap, hR⟩
    exact fin ys tl hR hap
end
section
variable {h₀ h' : Heap} {L : Addr} {m : Str → Option Value} {s₁ : Shared} {I C D T a1 a2 a3 a4 a5 a6 a7 : Addr} {oI oC oD oT o1 o2 o3 o4 o5 o6 o7 : Obj} {tl rst rs : List (Addr × Obj)} {tk : Nat}
theorem due_end {R : Value → List (Addr × Obj) → Prop} (F : Fr h₀ L h' m) (N : News h₀ L h' ((T, oT) :: (I, oI) :: (C, oC) :: (D, oD) :: (a1, o1) :: (a2, o2) :: (a3, o3) :: (a4, o4) :: (a5, o5) :: (a6, o6) :: (a7, o7) :: rs))
    (l : @LT.lt Nat _ I T ∧ @LT.lt Nat _ C T ∧ @LT.lt Nat _ D T ∧ @LT.lt Nat _ a1 T ∧ @LT.lt Nat _ a2 T ∧ @LT.lt Nat _ a3 T ∧ @LT.lt Nat _ a4 T ∧ @LT.lt Nat _ a5 T ∧ @LT.lt Nat _ a6 T ∧ @LT.lt Nat _ a7 T ∧ AllLt T rs)
    (o : LCg.Off3 I C D ((a1, o1) :: (a2, o2) :: (a3, o3) :: (a4, o4) :: (a5, o5) :: (a6, o6) :: (a7, o7) :: rs)) (hr : tl ++ rst = rs) (hR : R (.ref T) ((T, oT) :: tl)) :
    LCg.CompEnd h₀ L m s₁ I oI C oC D oD (fun _ => True) (fun y nw' => ∃ Z, nw' = (a1, o1) :: (a2, o2) :: (a3, o3) :: (a4, o4) :: (a5, o5) :: (a6, o6) :: (a7, o7) :: (Z :: (tl ++ rst)) ∧ (∀ q ∈ (a1, o1) :: (a2, o2) :: (a3, o3) :: (a4, o4) :: (a5, o5) :: (a6, o6) :: (a7, o7) :: (tl ++ rst), q.1 ≠ Z.1) ∧ R y (Z :: tl)) (.ref T) { s₁ with heap := h', toks := tk } := by
  subst hr
  obtain ⟨lI, lC, lD, l1, l2, l3, l4, l5, l6, l7, lr⟩ := l
  obtain ⟨q1, q2, q3, q4, q5, q6, q7, qr⟩ := o
  refine LCg.CompEnd.intro F N ((a1, o1) :: (a2, o2) :: (a3, o3) :: (a4, o4) :: (a5, o5) :: (a6, o6) :: (a7, o7) :: ((T, oT) :: (tl ++ rst))) (fun p hp => ?_) ⟨q1, q2, q3, q4, q5, q6, q7, ⟨Nat.ne_of_gt lI, Nat.ne_of_gt lC, Nat.ne_of_gt lD⟩, qr⟩ trivial ⟨(T, oT), rfl, fun q hq => ?_, hR⟩
  · simp only [List.mem_cons, List.mem_append] at hp ⊢
    rcases hp with h | h | h | h | h | h | h | h | h | h | h | h | h <;> simp [h]
  · rcases List.mem_cons.mp hq with rfl | hq
    · exact Nat.ne_of_lt l1
    rcases List.mem_cons.mp hq with rfl | hq
    · exact Nat.ne_of_lt l2
    rcases List.mem_cons.mp hq with rfl | hq
    · exact Nat.ne_of_lt l3
    rcases List.mem_cons.mp hq with rfl | hq
    · exact Nat.ne_of_lt l4
    rcases List.mem_cons.mp hq with rfl | hq
    · exact Nat.ne_of_lt l5
    rcases List.mem_cons.mp hq with rfl | hq
    · exact Nat.ne_of_lt l6
    rcases List.mem_cons.mp hq with rfl | hq
    · exact Nat.ne_of_lt l7
    · exact Nat.ne_of_lt (tb_ltOf lr q hq)
end
theorem sign_is {k : Int} (h : 0 ≤ k ∧ k < 7) : ∃ sg : Int, ([0, 8, 10, 11, 13, 31, 127] : List Int).getD k.toNat 0 = sg ∧ (sg = 0 ∨ sg = 8 ∨ sg = 10 ∨ sg = 11 ∨ sg = 13 ∨ sg = 31 ∨ sg = 127) := by
  have h7 : k = 0 ∨ k = 1 ∨ k = 2 ∨ k = 3 ∨ k = 4 ∨ k = 5 ∨ k = 6 := by omega
  rcases h7 with rfl | rfl | rfl | rfl | rfl | rfl | rfl <;> exact ⟨_, rfl, by decide⟩
theorem law_far {c1 c2 c3 c5 g : Addr × Obj} {cu hl : Addr} {oc e : Obj} {rs3 tl : List (Addr × Obj)} (X : LawFix c1 c2 c3 c5 g cu hl rs3 []) (hap : ∀ t ∈ tl, ∀ q ∈ c1 :: c2 :: c3 :: (cu, oc) :: c5 :: g :: (hl, e) :: rs3, q.1 ≠ t.1) :
    (∀ q ∈ tl ++ rs3, q.1 ≠ c1.1) ∧ (∀ q ∈ tl ++ rs3, q.1 ≠ c2.1) ∧ hl ≠ c1.1 ∧ hl ≠ c2.1 := by
  refine ⟨fun q hq => ?_, fun q hq => ?_, (X.nhl _ (.head _)).symm, (X.nhl _ (.tail _ (.head _))).symm⟩
  · rcases List.mem_append.mp hq with hq | hq
    · exact (hap q hq c1 (.head _)).symm
    · exact X.arst q hq _ (.head _)
  · rcases List.mem_append.mp hq with hq | hq
    · exact (hap q hq c2 (.tail _ (.head _))).symm
    · exact X.arst q hq _ (.tail _ (.head _))
end
theorem rest_29 : True := by
  w_top off
  try walk1
  first | done | exact True.intro
section
end
theorem rest_2A : True := by
  w_top off
  try walk1
  first | done | exact True.intro
local macro_rules | `(tactic| walk_at "m_guardL") => `(tactic| ((walk_at "m_guard"); fail_if_success with_reducible first
  | show LCg.CompSrc _ _ _ _ _ _ _ _ _ _ _ _ _ _
  | show wpAny _ _ (call (Value.ref 195) _ _) _ _ _
  | show wpAny _ _ (call (Value.ref 202) _ _) _ _ _
  | show wpAny _ _ (call (Value.ref 214) _ _) _ _ _
  | show wpAny _ _ (call (Value.ref 184) _ _) _ _ _
  | show wpAny _ _ (call (Value.ref 221) _ _) _ _ _
  | show wpAny _ _ (call (Value.ref 226) _ _) _ _ _
  | show wpAny _ _ (call (Value.ref 231) _ _) _ _ _
  | show wpAny _ _ (call (Value.ref 136) _ _) _ _ _
  | show wpAny _ _ (call (Value.ref 148) _ _) _ _ _))
local macro_rules | `(tactic| walk_at "m_stepsL") => `(tactic| repeat' (first | ((first | k_unfold | (refine strip ?_; k_unfold)); (try dsimp only)) | (walk_at "m_guardL"; walk_at "m_one")))
local macro_rules | `(tactic| walk_at "m_stepL") => `(tactic| (first | ((first | k_unfold | (refine strip ?_; k_unfold)); (try dsimp only)) | (walk_at "m_guardL"; walk_at "m_one")))
local macro_rules | `(tactic| walk_at "m_top") => `(tactic| change wpAny (model PySem.Challenge.rw_wb0122_01.prog _) (ktrTop _ _ _ _ _ _ _ _ _ _) _ _ _ _)
local macro_rules | `(tactic| walk_at "eval Name") => `(tactic| (k_here; k_dflt (refine' nameX_L ?F ?v ?_ ?a ?b; (case F => k_asm); (case a => rfl); (case b => rfl); (case v => first | exact rfl | walk_at "m_look"); k_whole)))
local macro_rules | `(tactic| walk_at "m_cell") => `(tactic| k_dflt (refine' nameX_C ?N ?c ?m ?d ?_ ?a ?b; (case a => rfl); (case b => rfl); (case N => k_asm); (case c => rfl); (case m => k_mem); (case d => assumption); k_whole))
local macro_rules | `(tactic| walk_at "eval Name") => `(tactic| (k_here; (with_reducible first | show wpAny _ _ (eval (PySem.Expr.Name (Str.ofString "deck") _) _) _ _ _ | show wpAny _ _ (eval (PySem.Expr.Name (Str.ofString "cuts") _) _) _ _ _); walk_at "m_cell"))
local macro_rules | `(tactic| walk_at "m_guardT") => `(tactic| ((walk_at "m_guardL"); fail_if_success with_reducible first | show wpAny _ _ (call (Value.ref 245) _ _) _ _ _ | show wpAny _ _ (call (Value.ref 181) _ _) _ _ _ | show wpAny _ _ (call (Value.ref 238) _ _) _ _ _))
local macro_rules | `(tactic| walk_at "m_stepsT") => `(tactic| repeat' (first | ((first | k_unfold | (refine strip ?_; k_unfold)); (try dsimp only)) | (walk_at "m_guardT"; walk_at "m_one")))
local macro_rules | `(tactic| walk_at "m_stepsE") => `(tactic| repeat' (first | ((first | k_unfold | (refine strip ?_; k_unfold)); (try dsimp only)) | (((walk_at "m_guardT"); (fail_if_success (with_reducible show wpAny _ _ (execs _ _) _ _ _))); walk_at "m_one")))
section
section
open PySem.Builtin.Re in
/-- the pattern at P finds something in x (a pattern without groups) -/
noncomputable def hitIn (w : World) (P : Addr) (x : Str) (t : Tok) : Bool :=
  match peek (Mine.hd.heap_39 w.params) ⟨PySem.Challenge.rw_wb0122_01.prog, w.params⟩ (reTarget "re.Pattern.search" "search" ⟨[.ref P, .str x t], []⟩) with
  | none => false
  | some tg =>
    match peek (Mine.hd.heap_39 w.params) ⟨PySem.Challenge.rw_wb0122_01.prog, w.params⟩ (reRunToEnd (Sre.forSearch tg.code tg.text tg.groups tg.pos tg.lim false)) with
    | some (some _) => tg.groups == 0
    | _ => false
def FoundIn (P : Addr) (x : Str) : Prop := ∀ (w : World) (t : Tok), hitIn w P x t = true
theorem noBool_match : typeLookup (.type "re.Match") "__bool__" = pure none := by rw [typeLookup_type, builtinLookup_eq_fast]; kernel_rfl
theorem noLen_match : typeLookup (.type "re.Match") "__len__" = pure none := by rw [typeLookup_type, builtinLookup_eq_fast]; kernel_rfl
section
variable {w : World} {A : Around} {E : Value → Shared → Prop} {s : Shared} {h₀ : Heap} {L P : Addr} {m : Str → Option Value} {news : List (Addr × Obj)}
open PySem.Builtin.Re in
theorem search_found {x : Str} {t : Tok} {Q : Value → Shared → Prop} (F : Fr h₀ L s.heap m) (N : News h₀ L s.heap news) (X : (Mine.hd.heap_39 w.params).In h₀) (hP : typeIn (Mine.hd.heap_39 w.params) (.ref P) = some (.type "re.Pattern")) (hf : FoundIn P x)
    (h : ∀ a b o ob h', Fr h₀ L h' m → News h₀ L h' ((a, o) :: (b, ob) :: news) → o.cls = .type "re.Match" → Q (.ref a) { s with heap := h' }) :
    wpAny (model PySem.Challenge.rw_wb0122_01.prog w) A (call (.builtin "re.Pattern.search") [.ref P, .str x t]) Q E s := by
  have X' := X.keeps F.keep
  obtain ⟨o, ho, hc⟩ := Option.map_eq_some_iff.mp hP
  refine wpAny_call (codeAny_call_builtin slot_search.plain entry_search (slot_search.check _ _ _ _ _ _ _ _ ⟨o, X' _ _ ho, hc⟩ (args_search _ _) ?_))
  have hh := hf w t
  unfold hitIn at hh
  split at hh
  · cases hh
  rename_i tg e1
  split at hh
  · rename_i mm e2
    have hg : tg.groups = 0 := beq_iff_eq.mp hh
    unfold Builtin.«re.Pattern.search»
    refine wpAny_bind ((Looks.of_peek X' e1).here ?_)
    unfold reAnswer
    refine wpAny_bind ((Looks.of_peek X' e2).here ?_)
    dsimp only
    unfold reNewMatch
    rw [hg]
    simp only [List.range_zero, List.flatMap_nil, List.any_nil, Bool.false_eq_true, if_false]
    refine wpAny_bind (wpAny_bind ?_)
    refine wpAny_newTuple ?_ ?z
    case z => simp [PySem.sizeLine_eq]
    refine wpAny_newObj_type ?_ ?z
    case z => first | exact rfl | size_fits
    refine wpAny_pure (h _ _ _ _ _ ((F.push _).push _) (News.push (F.push _) (News.push F N _) _) rfl)
  · cases hh
theorem truthy_match {a : Addr} {o : Obj} {Q : Bool → Shared → Prop} (N : News h₀ L s.heap news) (hm : (a, o) ∈ news) (hc : o.cls = .type "re.Match") (h : Q true s) :
    wpAny (model PySem.Challenge.rw_wb0122_01.prog w) A (truthy (.ref a)) Q E s := by
  have hT : s.TypeIs (.ref a) "re.Match" := ⟨o, N.get hm, hc⟩
  unfold truthy
  refine wpAny_bind (wpAny_callSpecial?_none hT noBool_match ?_)
  dsimp only
  refine wpAny_bind (wpAny_specialOf hT noLen_match ?_)
  exact wpAny_pure h
end
set_option maxRecDepth 100000 in
theorem tab_found : FoundIn 48 (Str.ofString "a\t") := by intro w t; kernel_rfl
set_option maxRecDepth 100000 in
theorem tab_low : FoundIn 48 (Txt.lower (Str.ofString "a\t")) := by intro w t; kernel_rfl
set_option maxRecDepth 100000 in
theorem hash_clean : NotIn 53 (Str.ofString "#") := by intro w t; kernel_rfl
set_option maxRecDepth 100000 in
theorem hashtab_clean : NotIn 53 (Str.ofString "#\t") := by intro w t; kernel_rfl
structure SgOk (g : Str) : Prop where
  name : FoundIn 48 (Str.ofString "a" ++ g)
  value : FoundIn 53 (Str.ofString "#" ++ g)
  len : g.length ≤ 2
set_option maxRecDepth 100000 in
theorem sg_ok {sg : Int} (h : sg = 0 ∨ sg = 8 ∨ sg = 10 ∨ sg = 11 ∨ sg = 13 ∨ sg = 31 ∨ sg = 127) : SgOk ({ cps := #[sg.toNat] } : Str) := by
  rcases h with rfl | rfl | rfl | rfl | rfl | rfl | rfl <;> exact ⟨by intro w t; kernel_rfl, by intro w t; kernel_rfl, by decide⟩
set_option maxRecDepth 100000 in
theorem a_clean : NotIn 48 (Str.ofString "a") := by intro w t; kernel_rfl
end
theorem rest_30 : True := by
  w_top off
  try walk1
  first | done | exact True.intro
section
abbrev errS : Str := Str.ofString "Control characters not allowed in headers"
/-- a call of the text's def that raises ValueError, told once for every state -/
abbrev RunX (w : World) (p : Program) (loose : List Str) (mean : ExcName → Option Value) (mg mb : Str → Option Value) (dpN unN : Nat)
    (f : Addr) (pos : List Value) (kw : List (Str × Value)) (news : List (Addr × Obj)) (PostE : List (Addr × Obj) → Prop) : Prop :=
  ∀ (dp un : Nat) (gd : Option (List Code)) (cn : Str) (cs : Scope) (a : Addr) (ccd : Value) (cl : List (Str × Addr)) (outer : List Env) (A₀ : Around) (base h₀ : Heap) (L : Addr) (m : Str → Option Value) (s : Shared) (Q E : Value → Shared → Prop),
    Below A₀ base outer h₀ → Fr h₀ L s.heap m → (Mine.hd.heap_39 w.params).In h₀ → News h₀ L s.heap news → Top p loose mean mg mb h₀ → cs.kind = .function →
    dp + dpN < recursionLimit → un + unN < cLine →
    (∀ e t tk G h' tk' news', Fr h₀ L G m → RaisedS base G (envX cn cs L a ccd cl :: outer) e (.type "ValueError") t [.str errS tk] news' h' → G.UpToSlots h' → PostE news' → E (.ref e) { s with heap := h', toks := tk' }) →
    wpAny (model PySem.Challenge.rw_wb0122_01.prog w) (ktrTop dp un gd cn cs L a ccd cl outer) (call (.ref f) pos kw) Q E s
theorem RunX.use {w : World} {p : Program} {loose : List Str} {mean : ExcName → Option Value} {mg mb : Str → Option Value} {dpN unN : Nat} {f : Addr} {pos : List Value} {kw : List (Str × Value)} {news : List (Addr × Obj)} {PostE : List (Addr × Obj) → Prop}
    {dp un : Nat} {gd : Option (List Code)} {cn : Str} {cs : Scope} {a : Addr} {ccd : Value} {cl : List (Str × Addr)} {outer : List Env} {A₀ : Around} {base h₀ : Heap} {L : Addr} {m : Str → Option Value} {s : Shared} {Q E : Value → Shared → Prop}
    (R : RunX w p loose mean mg mb dpN unN f pos kw news PostE) (B : Below A₀ base outer h₀) (F : Fr h₀ L s.heap m) (X : (Mine.hd.heap_39 w.params).In h₀) (N : News h₀ L s.heap news) (T : Top p loose mean mg mb h₀) (hk : cs.kind = .function)
    (hd : dp + dpN < recursionLimit) (hu : un + unN < cLine) (ret : ∀ e t tk G h' tk' news', Fr h₀ L G m → RaisedS base G (envX cn cs L a ccd cl :: outer) e (.type "ValueError") t [.str errS tk] news' h' → G.UpToSlots h' → PostE news' → E (.ref e) { s with heap := h', toks := tk' }) :
    wpAny (model PySem.Challenge.rw_wb0122_01.prog w) (ktrTop dp un gd cn cs L a ccd cl outer) (call (.ref f) pos kw) Q E s :=
  R _ _ _ _ _ _ _ _ _ _ _ _ _ _ _ _ _ B F X N T hk hd hu ret
theorem raisedS_sub {base G : Heap} {l : List Env} {e t : Addr} {cls : Value} {vs : List Value} {news news' : List (Addr × Obj)} {h : Heap} (R : RaisedS base G l e cls t vs news h) (hs : ∀ q ∈ news', q ∈ news) : RaisedS base G l e cls t vs news' h := by
  obtain ⟨⟨B, b1, b2, b3, b4, b5⟩, ht⟩ := R
  exact ⟨⟨B, b1, b2, fun q hq => b3 q (hs q hq), b4, b5⟩, ht⟩
section
variable {M : Model} {A : Around} {E : Value → Shared → Prop} {s' : Shared} {base g g₂ : Heap} {outer : List Env} {L e t : Addr} {m : Str → Option Value} {env : Env} {Q : Unit → Shared → Prop} {news : List (Addr × Obj)}
/-- an exception leaves a frame of any kind -/
theorem leaveX {cls : Value} {vs : List Value} (hf : env.frame = some L) (K : Below A base outer g) (F : Fr g L g₂ m) (R : RaisedS base g₂ (env :: outer) e cls t vs news s'.heap) (U : g₂.UpToSlots s'.heap)
    (hQ : ∀ h', RaisedS base g outer e cls t vs news h' → g.UpToSlots h' → Q () { s' with heap := h' }) : wpAny M (A.deeper env) (leaving env (.ref e)) Q E s' := by
  obtain ⟨⟨B, hB, hG, hN, hfly, hT⟩, ht⟩ := R
  refine wpAny_leaves_onW (Around.frames_deeper K.stack) hf hfly fun h' x1 x2 => hQ h' ⟨⟨B, hB, fun b o q no => hG b o (F.keep b o q) fun hm => ?_, fun q hq => ?_, x1, hT⟩, ht.of_slots x2⟩ ((Heap.UpToSlots.of_keeps F.keep).trans (U.trans x2))
  · obtain ⟨env', he, hf'⟩ := List.mem_filterMap.mp hm
    rcases List.mem_cons.mp he with rfl | he
    · rw [hf] at hf'
      have hb : b = L := (Option.some.inj hf').symm
      rw [hb, kts_self F] at q
      cases q
    · exact no (List.mem_filterMap.mpr ⟨env', he, hf'⟩)
  · obtain ⟨n1, n2, n3⟩ := hN q hq
    exact ⟨n1, kts_none F.keep n2, n3⟩
end
end
theorem rest_31 : True := by
  w_top off
  try walk1
  first | done | exact True.intro
set_option hygiene false in
local macro_rules | `(tactic| walk_at "m_enterX") => `(tactic| (delta RunX; k_fill; intro dp un gd cn cs a ccd cl outer A₀ base h₀ L m s Q E B F X N T hk hd hu hret; refine wpAny_call ?_; k_dflt (refine' code_def ?k1 ?k2 ?k3 ?k4 ?k5 ?kA ?kF ?kK ?k6 ?k7 ?k8 ?k9 ?kB ?_ ?c2 ?c3 ?c4 ?c5; (case kA | kF => exact rfl); (case kK => assumption); (case k1 | k2 | k3 | k4 | k5 => k_asm); (case k6 | k7 => k_is); (case k8 => ktr_room); (case k9 => first | exact BindsTo.of_eq rfl | exact binds_K (by k_in) rfl (by k_is) rfl rfl rfl); (case c5 => decide); (case kB => exact locs rfl); (case c2 | c3 | c4 => exact rfl); k_whole; intro g' L' h' FG' F' N' B' X' T'; (try dsimp only); (try k_lift B'); (try k_fold))))
local macro_rules | `(tactic| walk_at "m_guardX") => `(tactic| ((walk_at "m_guard"); (fail_if_success (with_reducible show wpAny _ _ (leaving _ _) _ _ _))))
local macro_rules | `(tactic| walk_at "m_stepsX") => `(tactic| repeat' (first | ((first | k_unfold | (refine strip ?_; k_unfold)); (try dsimp only)) | (walk_at "m_guardX"; walk_at "m_one")))
local macro_rules | `(tactic| walk_at "m_stepsXR") => `(tactic| repeat' (first | ((first | k_unfold | (refine strip ?_; k_unfold)); (try dsimp only)) | (((walk_at "m_guardX"); (fail_if_success (with_reducible show wpAny _ _ (exec (Stmt.Raise _ _ _) _) _ _ _))); walk_at "m_one")))
section
set_option hygiene false in
local macro_rules | `(tactic| walk_at "call builtin:re.Pattern.search") => `(tactic| (k_here; k_dflt (refine' search_found ?k1 ?k5 ?k2 ?k3 ?k4 ?_; (case k1 => k_asm); (case k5 => k_asm); (case k2 => k_asm); (case k3 => k_is); (case k4 => assumption)); intro ma mb9 mo mob mh FM NM hmc))
local macro_rules | `(tactic| walk_at "truthy ref") => `(tactic| (k_here; k_dflt (refine' truthy_match ?k1 ?k2 ?k3 ?_; (case k1 => k_asm); (case k2 => exact List.mem_cons_self); (case k3 => assumption))))
set_option maxRecDepth 100000 in
set_option maxHeartbeats 8000000 in
theorem conv_raises {w : World} {p : Program} {loose : List Str} {mean : ExcName → Option Value} {mg mb : Str → Option Value} {x : Str} {t : Tok} {sv : Value} {b : Bool} {news : List (Addr × Obj)} (hx : FoundIn (if b then 48 else 53) x)
     : RunX w p loose mean mg mb 1 8 83 [sv, .str x t] [(Str.ofString "name", .bool b)] news (fun news' => news' = news) := by
  cases b
  all_goals (
    simp only [if_true, if_false, Bool.false_eq_true] at hx
    delta RunX; k_fill; intro dp un gd cn cs a ccd cl outer A₀ base h₀ L m s Q E B F X N T hk hd hu hret
    refine wpAny_call ?_
    k_dflt cell_enter
    walk_at "m_stepsXR"
    rename Fr h₀ L _ m => FG
    rename Below _ _ (_ :: _) _ => B1
    rename Top _ _ _ _ _ _ => T1
    rename Frag.In _ _ => X1
    k_dflt (refine Raise_madeB PySem.F.excCall_ValueError PySem.F.excRaise_ValueError rfl ?_)
    k_dflt (refine nameX_B FM X1 (topRead_of T1) (by k_is) PyProof.Rows.Boot.«ValueError» (by decide) ⟨rfl, ?_⟩)
    walk_at "m_stepsXR"
    rename Heap.MadeExc _ _ _ _ _ => HX
    k_dflt (refine' leave_raiseS B1 HX.of FM (news_drop2 NM) ?_)
    k_whole
    intro h9 t9 R9 _ U9
    exact hret _ _ _ _ _ _ _ FG R9 U9 rfl)
end
theorem rest_32 : True := by
  w_top off
  try walk1
  first | done | exact True.intro
set_option hygiene false in
local macro_rules | `(tactic| walk_at "m_useX") => `(tactic| ((case k1 | k2 | k3 | k4 | k5 => k_asm); (case kK => first | exact rfl | assumption); (case kd => ktr_room); (case ku => ktr_units)))
set_option hygiene false in
local macro_rules | `(tactic| walk_at "call ref") => `(tactic| (k_here; (with_reducible show wpAny _ _ (call (Value.ref 83) [_, Value.str _ _] _) _ _ _); k_dflt (refine' RunX.use (conv_raises ?c1) ?k1 ?k2 ?k3 ?k4 ?k5 ?kK ?kd ?ku ?_); (case c1 => first | assumption | exact (by assumption)); walk_at "m_useX"; intro e9 t9 tkx9 G9 h9 tk9 news9 FG9 R9 U9 P9; subst news9))
section
set_option maxRecDepth 100000 in
set_option maxHeartbeats 8000000 in
theorem delitem_raises {w : World} {p : Program} {loose : List Str} {mean : ExcName → Option Value} {mg mb : Str → Option Value} {x : Str} {t tk : Tok} {xa dx hl : Addr} {n : Nat} {news : List (Addr × Obj)} (hx : FoundIn 48 (Txt.lower x)) (hxl : x.length ≤ 8)
     (m1 : (xa, instObj 184 dx) ∈ news) (m2 : (dx, dictOf (hdrEs w tk hl) n) ∈ news)
     : RunX w p loose mean mg mb 2 16 102 [.ref xa, .str x t] [] news (fun news' => ∀ q ∈ news, q ∈ news') := by
  delta RunX; k_fill
  intro dp un gd cn cs a ccd cl outer A₀ base h₀ L m s Q E B F X N T hk hd hu hret
  (refine wpAny_call ?_; k_dflt (refine' code_defC ?k1 ?k2 ?k3 ?k4 ?k5 ?kA ?kF ?kK ?k6 ?k7 ?k8 ?k9 ?kB ?kD ?_ ?c2 ?c3 ?c4; (case kA | kF => exact rfl); (case kK => assumption); (case k1 | k2 | k3 | k4 | k5 => k_asm); (case k6 | k7 => k_is); (case k8 => ktr_room); (case k9 => first | exact BindsTo.of_eq rfl | exact binds_K (by k_in) rfl (by k_is) rfl rfl rfl); (case kB => exact rfl); (case kD => decide +kernel); (case c2 | c3 | c4 => exact rfl); k_whole; intro g' L' h' tk' cells' FG' F' N' Y' B' X' T' l1; (try k_lt l1); k_cells Y'; (try simp only [List.cons_append, List.nil_append] at N'); (try dsimp only); (try k_lift B'); (try k_fold)))
  walk_at "m_stepsX"
  k_dflt (refine' leaveX rfl B' FG9 R9 U9 ?_)
  k_whole
  intro h10 R10 U10
  exact hret _ _ _ _ _ _ _ FG' R10 U10 fun q hq => List.mem_cons_of_mem _ hq
end
theorem rest_33 : True := by
  w_top off
  try walk1
  first | done | exact True.intro
set_option hygiene false in
local macro_rules | `(tactic| walk_at "call ref") => `(tactic| (k_here; (with_reducible show wpAny _ _ (call (Value.ref 102) [_, Value.str _ _] _) _ _ _); k_dflt (refine' RunX.use (delitem_raises ?c1 ?c2 ?m1 ?m2) ?k1 ?k2 ?k3 ?k4 ?k5 ?kK ?kd ?ku ?_); (case c1 => assumption); walk_at "m_useX"; (case c2 => first | assumption | omega); (case m1 => k_mem); (case m2 => k_mem); intro e9 t9 tkx9 G9 h9 tk9 news9 FG9 R9 U9 P9))
section
set_option maxRecDepth 100000 in
set_option maxHeartbeats 8000000 in
theorem setitem_raises1 {w : World} {p : Program} {loose : List Str} {mean : ExcName → Option Value} {mg mb : Str → Option Value} {x y : Str} {t u tk : Tok} {xa dx hl : Addr} {n : Nat} {news : List (Addr × Obj)} (hx : FoundIn 48 (Txt.lower x)) (hxl : x.length ≤ 8)
     (m1 : (xa, instObj 184 dx) ∈ news) (m2 : (dx, dictOf (hdrEs w tk hl) n) ∈ news)
     : RunX w p loose mean mg mb 3 24 97 [.ref xa, .str x t, .str y u] [] news (fun news' => ∀ q ∈ news, q ∈ news') := by
  walk_at "m_enterX"
  walk_at "m_stepsX"
  k_dflt (refine' leaveX rfl B' FG9 R9 U9 ?_)
  k_whole
  intro h10 R10 U10
  exact hret _ _ _ _ _ _ _ FG' R10 U10 P9
set_option maxRecDepth 100000 in
set_option maxHeartbeats 8000000 in
theorem setitem_raises2 {w : World} {p : Program} {loose : List Str} {mean : ExcName → Option Value} {mg mb : Str → Option Value} {x y : Str} {t u tk : Tok} {xa dx hl : Addr} {n e : Nat} {vs : List Value} {items : List (Str × Str)} {rest base0 : List (Addr × Obj)} (hx : NotIn 48 (Txt.lower x)) (hxn : NotIn 48 x) (hyn : FoundIn 53 y) (hxl : x.length ≤ 8)
     (m1 : (xa, instObj 184 dx) ∈ rest) (m2 : (dx, dictOf (hdrEs w tk hl) n) ∈ rest) (hr : ∀ q ∈ rest, q.1 ≠ hl) (hs : ∀ q ∈ base0, q ∈ rest) (hD : DatAll base0 vs (items.map hdr2)) (hi : ∀ p ∈ items, p.1.length ≤ 8) (hz : vs.length ≤ 60)
     : RunX w p loose mean mg mb 3 24 97 [.ref xa, .str x t, .str y u] [] ((hl, W.listOf vs.toArray e) :: rest) (fun news' => ∃ vs' e', (∀ q ∈ (hl, W.listOf vs'.toArray e') :: rest, q ∈ news') ∧ DatAll base0 vs' ((items.filter fun p => !(Txt.lower p.1 == Txt.lower x)).map hdr2) ∧ vs'.length ≤ vs.length) := by
  walk_at "m_enterX"
  walk_at "m_stepsX"
  k_dflt (refine' leaveX rfl B' FG9 R9 U9 ?_)
  k_whole
  intro h10 R10 U10
  exact hret _ _ _ _ _ _ _ FG' R10 U10 ⟨_, _, fun q hq => hq, D9, l9⟩
end
theorem rest_34 : True := by
  w_top off
  try walk1
  first | done | exact True.intro
section
set_option hygiene false in
local macro_rules | `(tactic| walk_at "call ref") => `(tactic| (k_here; (with_reducible show wpAny _ _ (call (Value.ref 97) [_, Value.str _ _, Value.str _ _] _) _ _ _); k_dflt (refine' RunX.use (setitem_raises1 ?c1 ?c2 ?m1 ?m2) ?k1 ?k2 ?k3 ?k4 ?k5 ?kK ?kd ?ku ?_); (case c1 => assumption); walk_at "m_useX"; (case c2 => first | assumption | omega); (case m1 => k_mem); (case m2 => k_mem); intro e9 t9 tkx9 G9 h9 tk9 news9 FG9 R9 U9 P9))
set_option maxRecDepth 100000 in
set_option maxHeartbeats 8000000 in
theorem stored_raises1 {w : World} {p : Program} {loose : List Str} {mean : ExcName → Option Value} {mg mb : Str → Option Value} {x y : Str} {t u tk : Tok} {xa dx hl : Addr} {n : Nat} {news : List (Addr × Obj)} (hx : FoundIn 48 (Txt.lower x)) (hxl : x.length ≤ 8)
     (m1 : (xa, instObj 184 dx) ∈ news) (m2 : (dx, dictOf (hdrEs w tk hl) n) ∈ news)
     : RunX w p loose mean mg mb 4 40 238 [.ref xa, .str x t, .str y u] [] news (fun news' => ∀ q ∈ news, q ∈ news') := by
  walk_at "m_enterX"
  walk_at "m_stepsX"
  k_dflt (refine' leaveX rfl B' FG9 R9 U9 ?_)
  k_whole
  intro h10 R10 U10
  exact hret _ _ _ _ _ _ _ FG' R10 U10 P9
set_option hygiene false in
local macro_rules | `(tactic| walk_at "call ref") => `(tactic| (k_here; (with_reducible show wpAny _ _ (call (Value.ref 97) [_, Value.str _ _, Value.str _ _] _) _ _ _); k_dflt (refine' RunX.use (setitem_raises2 ?c1 ?c2 ?c3 ?c4 ?m1 ?m2 ?c5 ?c6 ?c7 ?c8 ?c9) ?k1 ?k2 ?k3 ?k4 ?k5 ?kK ?kd ?ku ?_); (case c3 => assumption); (case c7 => assumption); (case c1 => assumption); (case c2 => assumption); walk_at "m_useX"; (case c4 => first | assumption | omega); (case m1 => k_mem); (case m2 => k_mem); (case c5 => assumption); (case c6 => assumption); (case c8 => assumption); (case c9 => first | assumption | omega); intro e9 t9 tkx9 G9 h9 tk9 news9 FG9 R9 U9 P9))
set_option maxRecDepth 100000 in
set_option maxHeartbeats 8000000 in
theorem stored_raises2 {w : World} {p : Program} {loose : List Str} {mean : ExcName → Option Value} {mg mb : Str → Option Value} {x y : Str} {t u tk : Tok} {xa dx hl : Addr} {n e : Nat} {vs : List Value} {items : List (Str × Str)} {rest base0 : List (Addr × Obj)} (hx : NotIn 48 (Txt.lower x)) (hxn : NotIn 48 x) (hyn : FoundIn 53 y) (hxl : x.length ≤ 8)
     (m1 : (xa, instObj 184 dx) ∈ rest) (m2 : (dx, dictOf (hdrEs w tk hl) n) ∈ rest) (hr : ∀ q ∈ rest, q.1 ≠ hl) (hs : ∀ q ∈ base0, q ∈ rest) (hD : DatAll base0 vs (items.map hdr2)) (hi : ∀ p ∈ items, p.1.length ≤ 8) (hz : vs.length ≤ 60)
     : RunX w p loose mean mg mb 4 40 238 [.ref xa, .str x t, .str y u] [] ((hl, W.listOf vs.toArray e) :: rest) (fun news' => ∃ vs' e', (∀ q ∈ (hl, W.listOf vs'.toArray e') :: rest, q ∈ news') ∧ DatAll base0 vs' ((items.filter fun p => !(Txt.lower p.1 == Txt.lower x)).map hdr2) ∧ vs'.length ≤ vs.length) := by
  walk_at "m_enterX"
  walk_at "m_stepsX"
  k_dflt (refine' leaveX rfl B' FG9 R9 U9 ?_)
  k_whole
  intro h10 R10 U10
  exact hret _ _ _ _ _ _ _ FG' R10 U10 P9
set_option hygiene false in
local macro_rules | `(tactic| walk_at "call ref") => `(tactic| (k_here; (with_reducible show wpAny _ _ (call (Value.ref 97) [_, Value.str _ _, Value.str _ _] _) _ _ _); k_dflt (refine' Run.use (setitem_run ?c1 ?c2 ?c3 ?c4 ?m1 ?m2 ?c5 ?c6 ?c7 ?c8 ?c9) ?k1 ?k2 ?k3 ?k4 ?k5 ?kK ?kd ?ku ?_); (case c3 => assumption); (case c7 => assumption); (case c1 => assumption); (case c2 => assumption); walk_at "m_use"; (case c4 => first | assumption | omega); (case m1 => k_mem); (case m2 => k_mem); (case c5 => assumption); (case c6 => assumption); (case c8 => assumption); (case c9 => first | assumption | omega); intro r9 h9 tk9 news9 F9 N9 P9; (try k_sweep)))
set_option maxRecDepth 100000 in
set_option maxHeartbeats 8000000 in
theorem stored_run {w : World} {p : Program} {loose : List Str} {mean : ExcName → Option Value} {mg mb : Str → Option Value} {x y : Str} {t u tk : Tok} {xa dx hl : Addr} {n e : Nat} {vs : List Value} {items : List (Str × Str)} {rest base0 : List (Addr × Obj)} (hx : NotIn 48 (Txt.lower x)) (hxn : NotIn 48 x) (hyn : NotIn 53 y) (hxl : x.length ≤ 8)
     (m1 : (xa, instObj 184 dx) ∈ rest) (m2 : (dx, dictOf (hdrEs w tk hl) n) ∈ rest) (hr : ∀ q ∈ rest, q.1 ≠ hl) (hs : ∀ q ∈ base0, q ∈ rest) (hD : DatAll base0 vs (items.map hdr2)) (hi : ∀ p ∈ items, p.1.length ≤ 8) (hz : vs.length ≤ 60)
     : Run w p loose mean mg mb 4 40 238 [.ref xa, .str x t, .str y u] [] ((hl, W.listOf vs.toArray e) :: rest) (fun _ news' => ∃ q vs' e', news' = (hl, W.listOf vs'.toArray e') :: q :: rest ∧ q.1 ≠ hl ∧ (∀ p ∈ rest, p.1 ≠ q.1) ∧ DatAll (q :: base0) vs' (((items.filter fun p => !(Txt.lower p.1 == Txt.lower x)) ++ [(x, y)]).map hdr2) ∧ vs'.length ≤ vs.length + 1) := by
  walk_at "m_enter"
  walk_at "m_steps"
  exact hret _ _ _ _ (by k_asm) (by k_asm) P9
end
theorem rest_35 : True := by
  w_top off
  try walk1
  first | done | exact True.intro
section
set_option maxRecDepth 100000 in
set_option maxHeartbeats 8000000 in
theorem new_raises {w : World} {p : Program} {loose : List Str} {mean : ExcName → Option Value} {mg mb : Str → Option Value} {hl : Addr} {e : Nat} {vs : List Value} {x y : Str} {rest : List (Addr × Obj)}
     (m3 : (hl, W.listOf vs.toArray e) ∈ rest) (hD : DatAll rest vs ([(x, y)].map hdr2)) (hi : FoundIn 48 x ∨ (NotIn 48 x ∧ FoundIn 53 y))
     : RunX w p loose mean mg mb 4 24 184 [.ref hl] [] rest (fun news' => ∀ q ∈ rest, q ∈ news') := by
  delta RunX; k_fill; intro dp un gd cn cs a ccd cl outer A₀ base h₀ L m s Q E B F X N T hk hd hu hret
  k_dflt (refine' call_cls ?k1 ?k2 ?k3 ?k4 ?k5 ?k6 ?_; (case k1 => k_asm); (case k2 => k_asm); (case k3 => k_asm); (case k4 => k_is); (case k5 => k_is); (case k6 => k_is); k_whole; intro xa dx h' F' N' hrest l2; replace l2 := ltN l2)
  k_dflt (refine' code_def ?k1 ?k2 ?k3 ?k4 ?k5 ?kA ?kF ?kK ?k6 ?k7 ?k8 ?k9 ?kB ?_ ?c2 ?c3 ?c4 ?c5; (case kA => exact rfl); (case kF => exact rfl); (case kK => assumption); (case k1 => k_asm); (case k2 => k_asm); (case k3 => k_asm); (case k4 => k_asm); (case k5 => k_asm); (case k6 => k_is); (case k7 => k_is); (case k8 => ktr_room); (case k9 => first | exact BindsTo.of_eq rfl | exact binds_K (by k_in) rfl (by k_is) rfl rfl rfl); (case c5 => decide); (case kB => exact locs rfl); (case c2 => exact rfl); (case c3 => exact rfl); (case c4 => exact rfl); k_whole; intro g' L' h' FG' F' N' B' X' T'; (try dsimp only); (try k_lift B'); (try k_fold))
  walk_at "m_stepsX"
  rename Fr _ _ _ _ => lF'
  rename News _ _ _ (_ :: _ :: rest) => lN'
  (with_unfolding_all refine' For_turns lF' ?_)
  k_whole
  walk_at "m_stepsX"
  refine for_pairs (items := [(x, y)]) (fun pre => pre = []) rfl (by k_asm) lN' (List.mem_cons_of_mem _ (List.mem_cons_of_mem _ m3)) (hD.mono fun q hq => List.mem_cons_of_mem _ (List.mem_cons_of_mem _ hq)) rfl rfl rfl rfl ?turn ?done
  case turn =>
    intro pre p post t1 t2 h tk I o he hP ho hI F2 N2
    subst hP
    obtain ⟨rfl, rfl⟩ : p = (x, y) ∧ post = [] := by simpa using he.symm
    rcases hi with hi | ⟨hi, hi2⟩
    · walk_at "m_stepsX"
      k_dflt (refine' leaveX rfl B' FG9 R9 U9 ?_)
      k_whole
      intro h10 R10 U10
      exact hret _ _ _ _ _ _ _ FG' R10 U10 fun q hq => List.mem_cons_of_mem _ (List.mem_cons_of_mem _ (List.mem_cons_of_mem _ hq))
    · walk_at "m_stepsX"
      k_dflt (refine' leaveX rfl B' FG9 R9 U9 ?_)
      k_whole
      intro h10 R10 U10
      exact hret _ _ _ _ _ _ _ FG' R10 U10 fun q hq => List.mem_cons_of_mem _ (List.mem_cons_of_mem _ (List.mem_cons_of_mem _ hq))
  case done =>
    intro u h tk hP F2 N2
    simp at hP
end
theorem rest_36 : True := by
  w_top off
  try walk1
  first | done | exact True.intro
section
set_option maxRecDepth 100000 in
set_option maxHeartbeats 8000000 in
theorem add_raises {w : World} {p : Program} {loose : List Str} {mean : ExcName → Option Value} {mg mb : Str → Option Value} {x y : Str} {t u tk : Tok} {xa dx hl : Addr} {n e : Nat} {vs : List Value} {news : List (Addr × Obj)} (hx : FoundIn 48 x) (hy : NotIn 53 y)
     (m1 : (xa, instObj 184 dx) ∈ news) (m2 : (dx, dictOf (hdrEs w tk hl) n) ∈ news) (m3 : (hl, W.listOf vs.toArray e) ∈ news)
     : RunX w p loose mean mg mb 3 24 181 [.ref xa, .str x t, .str y u] [] news (fun news' => ∀ q ∈ news, q ∈ news') := by
  (delta RunX; k_fill; intro dp un gd cn cs a ccd cl outer A₀ base h₀ L m s Q E B F X N T hk hd hu hret; refine wpAny_call ?_; k_dflt (refine' kpc_more (cl := []) ?k1 ?k2 ?k3 ?k4 ?k5 ?kA ?kF ?kK ?k6 ?k7 ?k8 ?kX ?kM ?kN ?kD ?kR ?kP ?kT ?kB ?_ ?c2 ?c3 ?c4 ?c5; (case kA | kF => exact rfl); (case kK => assumption); (case k1 | k2 | k3 | k4 | k5 => k_asm); (case k6 | k7 => k_is); (case k8 => ktr_room); (case kX => kp_lit); (case kM => exact rfl); (case kN => exact rfl); (case kD => kp_flats); (case kR => exact rfl); (case kP => exact rfl); (case kT => exact fun _ => rfl); (case kB => exact fun _ => locs rfl); (case c5 => decide); (case c2 | c3 | c4 => exact rfl); k_whole; intro D' o' g' L' h' tk' l1 lo' hs' fs' FG' F' N' B' X' T'; (try k_lt l1); (try dsimp only); (try k_lift B'); (try k_fold)))
  walk_at "m_stepsX"
  (repeat' (first | ((first | k_unfold | (refine strip ?_; k_unfold)); (try dsimp only)) | ((fail_if_success (with_reducible show wpAny _ _ (leaving _ _) _ _ _)); first | walk1 | (dsimp only; walk1) | (leave1; try dsimp only))))
  k_dflt (refine' leaveX rfl B' FG9 R9 U9 ?_)
  k_whole
  intro h10 R10 U10
  exact hret _ _ _ _ _ _ _ FG' R10 U10 fun q hq => List.mem_cons_of_mem _ (List.mem_cons_of_mem _ (List.mem_cons_of_mem _ hq))
end
theorem rest_37 : True := by
  w_top off
  try walk1
  first | done | exact True.intro
section
section
variable {prog : Program} {w : World} {A A₀ : Around} {s : Shared} {K : Frag} {L : Addr} {h₀ base : Heap} {m mg mb : Str → Option Value} {news : List (Addr × Obj)} {p : Program} {loose : List Str} {mean : ExcName → Option Value}
theorem code_defW {env : Env} {R : Result → Shared → Prop} {name qual : Str} {params : Arguments} {body : List Stmt} {scope : Scope} {dV kV doc pm cdv ct oc : Value} {an od : Option Addr} {osl : Array (Option Value)} {f : Addr} {args : Args} {binds : List (Str × Value)}
    (B : Below A₀ base [] h₀) (F : Fr h₀ L s.heap m) (X₀ : K.In h₀) (N : News h₀ L s.heap news) (T : Top p loose mean mg mb h₀) (hA : A.frames = some [env]) (hf : env.frame = some L) (hke : env.scope.kind = .function)
    (ho : K.lookup f = some ⟨oc, od, .func (fnOf name qual params body scope dV kV doc pm an cdv ct), osl⟩) (hcd : codeIn K cdv qual = true) (hroom : A.depth < recursionLimit)
    (hbind : BindsTo s (fnOf name qual params body scope dV kV doc pm an cdv ct) args binds) (hloc : ∀ y ∈ binds, scope.names.lookup y.1 = some .local)
    (h : ∀ g L' h₁, Fr h₀ L g m → Fr g L' h₁ (fun y => binds.reverse.lookup y) → News g L' h₁ news → Below A base [env] g → K.In g → Top p loose mean mg mb g → KtsDicts ([env].filterMap (·.frame)) g →
      wpAny (model prog w) (A.deeper (envOf qual scope L' f cdv)) (execs body (envOf qual scope L' f cdv))
        (fun fl s' => LeaveS0 ([env].filterMap (·.frame)) h₀ L m g R (match fl with | .ret v => v | _ => .none) s')
        (fun e s' => wpAny (model prog w) (A.deeper (envOf qual scope L' f cdv)) (leaving (envOf qual scope L' f cdv) e) (fun _ s'' => R (.error e) s'') (fun e' s'' => R (.error e') s'') s')
        { s with heap := h₁, toks := s.toks + binds.length })
    (hco : scope.isCoroutine = false) (hgen : scope.isGenerator = false) (hk : scope.kind = .function)
    (hcell : ∀ x ∈ scope.names, x.2 ≠ .cell) : codeAny (model prog w) A (.call (.ref f) args) R s := by
  obtain ⟨FG, BG, st, -⟩ := groundX (R := R) B F N hA hf hke
  obtain ⟨oL, es, ep, hL, hLd, hLk, hLf⟩ := FG.ns
  have hfs : [env].filterMap (·.frame) = [L] := by simp [hf]
  refine codeAny_call_def (fd := fnOf name qual params body scope dV kV doc pm an cdv ct) (body := body) (binds := binds) hroom ((X₀.keeps F.keep) _ _ ho) rfl (T.nolimit.keeps F.keep) (codeRec_of (X₀.keeps F.keep) hcd) rfl hbind hcell hloc (fun h₁ hns hk₁ => ?_) hco hgen hk
  refine wpAny_mono (h _ s.heap.objs.size h₁ FG ⟨hns, fun b o e => hk₁ b o (of_hideAll _ e), Nat.le_of_eq (hideAll_size _ _)⟩
    (fun p hp => ⟨hk₁ _ _ (N p hp).1, Nat.ne_of_lt (Heap.lt_size (N p hp).1), hideAll_none _ (List.mem_map_of_mem hp)⟩) BG (X₀.keeps st) (T.keeps st) (fun b hb => ?_)) (fun fl s' hl => ?_) fun _ _ y => y
  · rw [hfs, List.mem_singleton] at hb
    exact ⟨oL, es, ep, by rw [hb]; exact hL, hLd⟩
  · obtain ⟨g', L', m', news', T', F', N', k⟩ := hl
    have nL : h₀.get? L = none := kts_self F
    obtain ⟨sl, hs⟩ := T'.up hL
    refine k ⟨⟨_, es, ep, F'.keep _ _ hs, hLd, hLk, hLf⟩, fun b o e => F'.keep b o (T'.other b o (st b o e) fun hm => ?_), F.above⟩ fun q hq => ⟨(N' q hq).1, fun e => ?_, ?_⟩
    · rw [hfs, List.mem_singleton] at hm
      rw [hm, nL] at e
      cases e
    · have z := (N' q hq).2.2
      rw [e, hs] at z
      cases z
    · cases z : h₀.get? q.1 with
      | none => rfl
      | some o =>
        obtain ⟨sl', hs'⟩ := T'.up (st _ _ z)
        have z' := (N' q hq).2.2
        rw [hs'] at z'
        cases z'
end
end
theorem rest_38 : True := by
  w_top off
  try walk1
  first | done | exact True.intro
section
local macro_rules | `(tactic| walk_at "m_stepsW") => `(tactic| repeat' (first | ((first | k_unfold | (refine strip ?_; k_unfold)); (try dsimp only)) | (((fail_if_success (with_reducible show wpAny _ _ (leaving _ _) _ _ _)); (fail_if_success (with_reducible show wpAny _ _ (call (Value.ref _) [] _) _ _ _))); walk_at "m_one")))
set_option maxRecDepth 100000 in
set_option maxHeartbeats 8000000 in
theorem words_raises {w : World} {p : Program} {loose : List Str} {mean : ExcName → Option Value} {mg mb : Str → Option Value} {dN uN : Nat} {f : Addr} {news : List (Addr × Obj)} {PostE : List (Addr × Obj) → Prop} {oc : Value} {od : Option Addr} {fd : FuncData} {sl : Array (Option Value)} (hf : (f, (⟨oc, od, .func fd, sl⟩ : Obj)) ∈ news) (hdN : dN ≤ 40) (huN : uN ≤ 400)
     (hdeed : RunX w p loose mean mg mb dN uN f [] [] news PostE)
     (dp un : Nat) (gd : Option (List Code)) (cn : Str) (cs : Scope) (a : Addr) (ccd : Value) (cl : List (Str × Addr)) (A₀ : Around) (h₀ : Heap) (L : Addr) (m : Str → Option Value) (s : Shared) (Q E : Value → Shared → Prop)
     (B : Below A₀ h₀ [] h₀) (F : Fr h₀ L s.heap m) (X : (Mine.hd.heap_39 w.params).In h₀) (N : News h₀ L s.heap news) (T : Top p loose mean mg mb h₀) (hk : cs.kind = .function) (hd : dp + 50 < recursionLimit) (hu : un + 500 < cLine)
     (hret : ∀ tk h' tk' news', Fr h₀ L h' m → News h₀ L h' news' → PostE news' → Q (.str errS tk) { s with heap := h', toks := tk' }) :
     wpAny (model PySem.Challenge.rw_wb0122_01.prog w) (ktrTop dp un gd cn cs L a ccd cl []) (call (.ref 245) [.ref f] []) Q E s := by
  revert X; k_fill; intro X
  (refine wpAny_call ?_; k_dflt (refine' code_defW ?k1 ?k2 ?k3 ?k4 ?k5 ?kA ?kF ?kK ?k6 ?k7 ?k8 ?k9 ?kB ?_ ?c2 ?c3 ?c4 ?c5; (case kA | kF => exact rfl); (case kK => assumption); (case k1 | k2 | k3 | k4 | k5 => k_asm); (case k6 | k7 => k_is); (case k8 => ktr_room); (case k9 => first | exact BindsTo.of_eq rfl | exact binds_K (by k_in) rfl (by k_is) rfl rfl rfl); (case c5 => decide); (case kB => exact locs rfl); (case c2 | c3 | c4 => exact rfl); k_whole; intro g' L' h' FG' F' N' B' X' T' D'; (try dsimp only); (try k_lift B'); (try k_fold)))
  walk_at "m_stepsW"
  k_dflt (refine' callWith_F0 (FnAt.of N' hf) ?_)
  dsimp only [List.nil_append]
  change wpAny (model PySem.Challenge.rw_wb0122_01.prog w) (ktrTop _ _ _ _ _ _ _ _ _ _) _ _ _ _
  k_dflt (refine' RunX.use hdeed B' F' X' N' T' rfl ?kd ?ku ?_)
  case kd => ktr_room
  case ku => ktr_units
  intro e9 t9 tkx9 G9 h9 tk9 news9 FG9 R9 U9 P9
  dsimp only
  walk_at "m_stepsW"
  rename News h₀ L _ news9 => kN
  rename Fr h₀ L _ m => kF
  exact hret _ _ _ _ kF kN P9
set_option maxRecDepth 100000 in
set_option maxHeartbeats 8000000 in
theorem words_returns {w : World} {p : Program} {loose : List Str} {mean : ExcName → Option Value} {mg mb : Str → Option Value} {dN uN : Nat} {f : Addr} {news : List (Addr × Obj)} {Post : Value → List (Addr × Obj) → Prop} {oc : Value} {od : Option Addr} {fd : FuncData} {sl : Array (Option Value)} (hf : (f, (⟨oc, od, .func fd, sl⟩ : Obj)) ∈ news) (hdN : dN ≤ 40) (huN : uN ≤ 400)
     (hdeed : Run w p loose mean mg mb dN uN f [] [] news Post) :
     Run w p loose mean mg mb 50 500 245 [.ref f] [] news (fun r news' => ∃ tk r', r = .str (Str.ofString "") tk ∧ Post r' news') := by
  walk_at "m_enter"
  walk_at "m_stepsW"
  k_dflt (refine' callWith_F0 (FnAt.of N' hf) ?_)
  dsimp only [List.nil_append]
  change wpAny (model PySem.Challenge.rw_wb0122_01.prog w) (ktrTop _ _ _ _ _ _ _ _ _ _) _ _ _ _
  k_dflt (refine' Run.use hdeed B' F' X' N' T' rfl ?kd ?ku ?_)
  case kd => ktr_room
  case ku => ktr_units
  intro r9 h9 tk9 news9 F9 N9 P9
  dsimp only
  walk_at "m_stepsW"
  rename News h₀ L _ news9 => kN
  rename Fr h₀ L _ m => kF
  exact hret _ _ _ _ kF kN ⟨_, _, rfl, P9⟩
theorem words_keeps {w : World} {p : Program} {loose : List Str} {mean : ExcName → Option Value} {mg mb : Str → Option Value} {f : Addr} {news : List (Addr × Obj)} {oc : Value} {od : Option Addr} {fd : FuncData} {sl : Array (Option Value)} (hf : (f, (⟨oc, od, .func fd, sl⟩ : Obj)) ∈ news)
     {dp un : Nat} {gd : Option (List Code)} {cn : Str} {cs : Scope} {a : Addr} {ccd : Value} {cl : List (Str × Addr)} {A₀ : Around} {h₀ : Heap} {L : Addr} {m : Str → Option Value} {s : Shared} {Q E : Value → Shared → Prop}
     (hdeed : RunX w p loose mean mg mb 20 200 f [] [] news (fun nw => ∀ q ∈ news, q ∈ nw))
     (B : Below A₀ h₀ [] h₀) (F : Fr h₀ L s.heap m) (X : (Mine.hd.heap_39 w.params).In h₀) (N : News h₀ L s.heap news) (T : Top p loose mean mg mb h₀) (hk : cs.kind = .function) (hd : dp + 50 < recursionLimit) (hu : un + 500 < cLine)
     (hret : ∀ tk h' tk', Fr h₀ L h' m → News h₀ L h' news → Q (.str errS tk) { s with heap := h', toks := tk' }) :
     wpAny (model PySem.Challenge.rw_wb0122_01.prog w) (ktrTop dp un gd cn cs L a ccd cl []) (call (.ref 245) [.ref f] []) Q E s :=
  words_raises hf (by decide) (by decide) hdeed _ _ _ _ _ _ _ _ _ _ _ _ _ _ _ B F X N T hk hd hu fun tk h' tk' nw F' N' hs => hret tk h' tk' F' (news_sub N' hs)
end
theorem rest_39 : True := by
  w_top off
  try walk1
  first | done | exact True.intro
set_option hygiene false in
local macro_rules | `(tactic| walk_at "m_enterL") => `(tactic| (delta RunX; k_fill; intro dp un gd cn cs a ccd cl outer A₀ base h₀ L m s Q E B F X N T hk hd hu hret; refine wpAny_call ?_; k_dflt (refine' kla_code ?k1 ?k2 ?k3 ?k4 ?k5 ?kA ?kF ?kK ?k6 ?k7 ?k8 ?k9 ?kB ?_ ?c2 ?c3 ?c4 ?c5; (case kA => exact rfl); (case kF => exact rfl); (case kK => assumption); (case k1 | k2 | k3 | k4 | k5 => k_asm); (case k6 => k_mem); (case k7 => exact codeRec_news (by k_asm) (by k_mem) (by assumption) (by assumption)); (case k8 => ktr_room); (case k9 => exact rfl); (case c5 => decide); (case kB => exact locs rfl); (case c2 | c3 | c4 => exact rfl); k_whole; intro g' L' h' FG' F' N' B' X' T'; (try dsimp only); (try k_lift B'); (try k_fold))))
local macro_rules | `(tactic| walk_at "m_free") => `(tactic| ((with_reducible show wpAny _ _ (eval _ (envX _ { kind := _, names := (_, NameKind.free) :: _, isGenerator := _, isCoroutine := _, more := _ } _ _ _ _)) _ _ _); k_dflt (refine' nameX_F ?N ?c ?m ?d ?_ ?a ?b; (case a => rfl); (case b => rfl); (case N => k_asm); (case c => rfl); (case m => k_mem); (case d => assumption); k_whole)))
section
theorem led_hl {h₀ h : Heap} {L : Addr} {a b c1 c2 c3 c4 c5 g x : Addr × Obj} {rs : List (Addr × Obj)} (N : News h₀ L h (a :: b :: c1 :: c2 :: c3 :: c4 :: c5 :: g :: x :: rs)) : News h₀ L h (x :: a :: b :: c1 :: c2 :: c3 :: c4 :: c5 :: g :: rs) := fun p hp => by
  refine N p ?_
  simp only [List.mem_cons] at hp ⊢
  rcases hp with h | h | h | h | h | h | h | h | h | h <;> simp [h]
theorem led_back {h₀ h : Heap} {L : Addr} {c1 c2 c3 c4 c5 g x : Addr × Obj} {rs : List (Addr × Obj)} (N : News h₀ L h (x :: c1 :: c2 :: c3 :: c4 :: c5 :: g :: rs)) : News h₀ L h (c1 :: c2 :: c3 :: c4 :: c5 :: g :: x :: rs) := fun p hp => by
  refine N p ?_
  simp only [List.mem_cons] at hp ⊢
  rcases hp with h | h | h | h | h | h | h | h <;> simp [h]
theorem led_in8 {a b c1 c2 c3 c4 c5 g x : Addr × Obj} {rs : List (Addr × Obj)} : ∀ q ∈ x :: c1 :: c2 :: c3 :: c4 :: c5 :: g :: rs, q ∈ x :: a :: b :: c1 :: c2 :: c3 :: c4 :: c5 :: g :: rs := fun q hq => by
  simp only [List.mem_cons] at hq ⊢
  rcases hq with h | h | h | h | h | h | h | h <;> simp [h]
theorem far_hl {f c L hl : Addr} {of oc o1 o2 o3 o4 o5 og : Obj} {rs : List (Addr × Obj)} (l1 : @LT.lt Nat _ hl c) (l2 : @LT.lt Nat _ c f) (hL : @Ne Nat hl (L + 1 + 1 + 1 + 1 + 1) ∧ @Ne Nat hl (L + 1 + 1 + 1 + 1) ∧ @Ne Nat hl (L + 1 + 1 + 1) ∧ @Ne Nat hl (L + 1 + 1) ∧ @Ne Nat hl (L + 1)) (h2 : @Ne Nat hl 247) (ahl : ∀ q ∈ rs, q.1 ≠ hl) :
    ∀ q ∈ (f, of) :: (c, oc) :: (L + 1 + 1 + 1 + 1 + 1, o1) :: (L + 1 + 1 + 1 + 1, o2) :: (L + 1 + 1 + 1, o3) :: (L + 1 + 1, o4) :: (L + 1, o5) :: (247, og) :: rs, q.1 ≠ hl := by
  obtain ⟨k0, k1, k2, k3, k4⟩ := hL
  exact List.forall_mem_cons.mpr ⟨Nat.ne_of_gt (Nat.lt_trans l1 l2), List.forall_mem_cons.mpr ⟨Nat.ne_of_gt l1, List.forall_mem_cons.mpr ⟨fun h => k0 h.symm, List.forall_mem_cons.mpr ⟨fun h => k1 h.symm, List.forall_mem_cons.mpr ⟨fun h => k2 h.symm, List.forall_mem_cons.mpr ⟨fun h => k3 h.symm, List.forall_mem_cons.mpr ⟨fun h => k4 h.symm, List.forall_mem_cons.mpr ⟨fun h => h2 h.symm, ahl⟩⟩⟩⟩⟩⟩⟩⟩
theorem mul_four {prog : Program} {w : World} {A : Around} {E : Value → Shared → Prop} {s : Shared} {h₀ : Heap} {L : Addr} {m : Str → Option Value} {news : List (Addr × Obj)} {l : Addr} {v : Value} {u : Tok} {Q : Value → Shared → Prop} (F : Fr h₀ L s.heap m) (N : News h₀ L s.heap news) (hm : (l, W.listOf #[v] 0) ∈ news)
    (h : ∀ D h', Fr h₀ L h' m → News h₀ L h' ((D, W.listOf #[v, v, v, v] 0) :: news) → (∀ p ∈ news, p.1 < D) → Q (.ref D) { s with heap := h' }) : wpAny (model prog w) A (binaryOp .Mult (.ref l) (.int 4 u)) Q E s :=
  KMa.mul (vs := [v]) (ws := [v, v, v, v]) F N (News.isList N hm) (by decide) (by decide) (show 1 * 4 ≤ 256 by decide) rfl h
theorem okE4 : ∀ d ∈ [Dat.str errS, Dat.str errS, Dat.str errS, Dat.str errS], kqdOk 8 d = true := fun d hd => by
  simp only [List.mem_cons, List.not_mem_nil, or_false, or_self] at hd
  subst hd
  decide +kernel
theorem tab_lit4 {x1 x2 x3 x4 x5 x6 x7 x8 x9 x10 x11 x12 : Value} : (#[] ++ #[x1, x2, x3] ++ #[x4, x5, x6] ++ #[x7, x8, x9] ++ #[x10, x11, x12] : Array Value) = #[x1, x2, x3, x4, x5, x6, x7, x8, x9, x10, x11, x12] := by simp
theorem led_in8r {h₀ h : Heap} {L : Addr} {c1 c2 c3 c4 c5 g x r : Addr × Obj} {rs : List (Addr × Obj)} (N : News h₀ L h (r :: c1 :: c2 :: c3 :: c4 :: c5 :: g :: x :: rs)) : News h₀ L h (c1 :: c2 :: c3 :: c4 :: c5 :: g :: x :: r :: rs) := fun p hp => by
  refine N p ?_
  simp only [List.mem_cons] at hp ⊢
  rcases hp with h | h | h | h | h | h | h | h | h <;> simp [h]
end
theorem rest_3A : True := by
  w_top off
  try walk1
  first | done | exact True.intro
local macro_rules | `(tactic| walk_at "eval Name") => `(tactic| (k_here; (with_reducible show wpAny _ _ (eval (PySem.Expr.Name (Str.ofString "other") _) _) _ _ _); walk_at "m_cell"))
local macro_rules | `(tactic| walk_at "eval Name") => `(tactic| (k_here; (with_reducible first | show wpAny _ _ (eval (PySem.Expr.Name (Str.ofString "deck") _) _) _ _ _ | show wpAny _ _ (eval (PySem.Expr.Name (Str.ofString "other") _) _) _ _ _ | show wpAny _ _ (eval (PySem.Expr.Name (Str.ofString "sign") _) _) _ _ _); walk_at "m_free"))
section
/-- the law's own def, as the program holds it -/
def lawDef : Option (List Stmt × Scope) := match PySem.Challenge.pw_wb0122_01.main.body.getLast? with
  | some (.FunctionDef _ _ body _ _ _ scope _ _ _) => some (body, scope)
  | _ => none
def lawBody : List Stmt := (lawDef.getD ([], default)).1
def lawScope : Scope := (lawDef.getD ([], default)).2
abbrev lawEnv (L fa : Addr) : Env := envOfC (Str.ofString "law") lawScope L fa (.ref 249)
/-- a tail of the law's body, run in the law's own frame -/
def LawRun (w : World) (n : Nat) (L fa : Addr) (Q : Flow → Shared → Prop) (E : Value → Shared → Prop) (s : Shared) : Prop :=
  wpAny (model PySem.Challenge.rw_wb0122_01.prog w) (callerA.deeper (lawEnv L fa)) (execs (lawBody.drop n) (lawEnv L fa)) Q E s
theorem lawRun_is {w : World} {n : Nat} {L fa : Addr} {Q : Flow → Shared → Prop} {E : Value → Shared → Prop} {s : Shared} {ns : List (Str × NameKind)} {mo : _} {a : Stmt} {r : List Stmt}
    (hs : lawScope = { kind := .function, names := ns, isGenerator := false, isCoroutine := false, more := mo }) (hb : lawBody.drop n = a :: r)
    (k : wpAny (model PySem.Challenge.rw_wb0122_01.prog w) (callerA.deeper (envOfC (Str.ofString "law") { kind := .function, names := ns, isGenerator := false, isCoroutine := false, more := mo } L fa (.ref 249))) (execs (a :: r) (envOfC (Str.ofString "law") { kind := .function, names := ns, isGenerator := false, isCoroutine := false, more := mo } L fa (.ref 249))) Q E s) : LawRun w n L fa Q E s := by
  unfold LawRun lawEnv
  rw [hs, hb]
  exact k
theorem lawRun_of {w : World} {n : Nat} {L fa : Addr} {Q : Flow → Shared → Prop} {E : Value → Shared → Prop} {s : Shared} {sc : Scope} {b : List Stmt} (k : LawRun w n L fa Q E s) (hs : sc = lawScope) (hb : b = lawBody.drop n) :
    wpAny (model PySem.Challenge.rw_wb0122_01.prog w) (callerA.deeper (envOfC (Str.ofString "law") sc L fa (.ref 249))) (execs b (envOfC (Str.ofString "law") sc L fa (.ref 249))) Q E s := by
  rw [hs, hb]; exact k
end
theorem rest_40 : True := by
  w_top off
  try walk1
  first | done | exact True.intro
section
set_option maxRecDepth 100000 in
set_option maxHeartbeats 8000000 in
theorem law_t11 {w : World} {p : Program} {loose : List Str} {mean : ExcName → Option Value} {mg mb : Str → Option Value} {h₀ : Heap} {L fa : Addr} {m : Str → Option Value} {s : Shared} {Q : Flow → Shared → Prop} {E : Value → Shared → Prop}
    {hl xa dx D : Addr} {tkx : Tok} {e kd : Nat} {vs yd : List Value} {cs : List (Int × Int)} {rs : List (Addr × Obj)} {o1 o2 o3 o4 o5 : Obj} {sgn : Str} {ts : Tok}
    (B : Below callerA h₀ [] h₀) (X : (Mine.hd.heap_39 w.params).In h₀) (T : Top p loose mean mg mb h₀) (C : CodeHd h₀ 249 247) (l0 : @LT.lt Nat _ 247 L)
    (F : Fr h₀ L s.heap m) (N : News h₀ L s.heap ((L + 1 + 1 + 1 + 1 + 1, o1) :: (L + 1 + 1 + 1 + 1, o2) :: (L + 1 + 1 + 1, o3) :: (L + 1 + 1, o4) :: (L + 1, o5) :: (247, tabObj #[]) :: (hl, W.listOf vs.toArray e) :: rs))
    (d1 : o1.data = .cell (some (.str sgn ts))) (d3 : o3.data = .cell (some (.ref xa)))
    (mxa : (xa, instObj 184 dx) ∈ rs) (mdx : (dx, dictOf (hdrEs w tkx hl) 1) ∈ rs) (mD : (D, W.listOf yd.toArray kd) ∈ rs)
    (hDue : Kept (DatAll rs yd (cs.map card2))) (hDat : Kept (DatAll rs vs ((cs.map hp2).map hdr2)))
    (a247 : ∀ q ∈ rs, q.1 ≠ 247) (ahl : ∀ q ∈ rs, q.1 ≠ hl) (ac2 : ∀ q ∈ rs, q.1 ≠ L + 1 + 1 + 1 + 1) (hl247 : @Ne Nat hl 247) (hlc2 : @Ne Nat hl (L + 1 + 1 + 1 + 1))
    (hsg : SgOk sgn) (mdue : m (Str.ofString "due") = some (.ref D)) (hok : Okc cs) (hln : cs.length ≤ 6)
    (hnext : ∀ h' tk' R r1 r2 r3 r4 a1 a2 a3 a4, Fr h₀ L h' (fun y => if y = Str.ofString "refused" then some (.ref R) else m y) → News h₀ L h' ((L + 1 + 1 + 1 + 1 + 1, o1) :: (L + 1 + 1 + 1 + 1, o2) :: (L + 1 + 1 + 1, o3) :: (L + 1 + 1, o4) :: (L + 1, o5) :: (247, tabObj #[rawInt 169, rawInt 0, Value.ref a1, rawInt 170, rawInt 0, Value.ref a2, rawInt 171, rawInt 0, Value.ref a3, rawInt 172, rawInt 0, Value.ref a4]) :: (hl, W.listOf vs.toArray e) :: (R, W.listOf #[Value.str errS r1, Value.str errS r2, Value.str errS r3, Value.str errS r4] 0) :: rs) → (@LT.lt Nat _ hl R ∧ @LT.lt Nat _ (L + 1 + 1 + 1 + 1) R ∧ @LT.lt Nat _ 247 R) → LawRun w 12 L fa Q E { s with heap := h', toks := tk' })
    : LawRun w 11 L fa Q E s := by
  refine lawRun_is (ns := ?ns) (mo := ?mo) (a := ?a) (r := ?r) ?hs ?hb ?k
  case hs => exact rfl
  case hb => exact rfl
  dsimp only
  revert X; k_fill; intro X
  walk_at "m_stepsT"
  rename Fr h₀ L _ m => F1
  rename News _ _ _ (_ :: _ :: _) => N1
  walk_at "m_top"
  k_dflt (refine' words_keeps ?hf ?hdeed B F1 X N1 T rfl ?kd ?ku ?_)
  case hf => exact List.mem_cons_self
  case kd => ktr_room
  case ku => ktr_units
  case hdeed =>
    clear B X T F1 N1 N mxa mdx mD hDue hDat mdue
    walk_at "m_enterL"
    walk_at "m_stepsT"
    rename Fr g' L' _ _ => F2
    rename News g' L' _ _ => N2
    walk_at "m_top"
    k_dflt (refine' RunX.use (new_raises (e := 0) (vs := [_]) ?m3 ?hD ?hi) B' F2 X' N2 T' rfl ?kd ?ku ?_)
    case m3 => exact List.mem_cons_self
    case hD => exact .cons (.tuple (List.mem_cons_of_mem _ List.mem_cons_self) (.cons (.str _ _) (.cons (.str _ _) .nil))) .nil
    case hi => exact .inl tab_found
    case kd => ktr_room
    case ku => ktr_units
    intro e9 t9 tkx9 G9 h9 tk9 news9 FG9 R9 U9 P9
    walk_at "m_stepsX"
    k_dflt (refine' leaveX rfl B' FG9 R9 U9 ?_)
    k_whole
    intro h10 R10 U10
    exact hret _ _ _ _ _ _ _ FG' R10 U10 fun q hq => P9 q (List.mem_cons_of_mem _ (List.mem_cons_of_mem _ hq))
  intro tk1 h9 tk9 F2 N2
  replace N2 := news_drop2 N2
  clear F1 N1
  dsimp only
  walk_at "m_stepsT"
  rename Fr h₀ L _ m => F1
  rename News _ _ _ (_ :: _ :: _) => N1
  walk_at "m_top"
  k_dflt (refine' words_keeps ?hf ?hdeed B F1 X N1 T rfl ?kd ?ku ?_)
  case hf => exact List.mem_cons_self
  case kd => ktr_room
  case ku => ktr_units
  case hdeed =>
    have hv := hsg.value
    have hlg := hsg.len
    clear B X T F1 N1 N mxa mdx mD hDue hDat mdue F2 N2
    walk_at "m_enterL"
    walk_at "m_stepsT"
    rename Fr g' L' _ _ => F2
    rename News g' L' _ _ => N2
    walk_at "m_top"
    k_dflt (refine' RunX.use (new_raises (e := 0) (vs := [_]) ?m3 ?hD ?hi) B' F2 X' N2 T' rfl ?kd ?ku ?_)
    case m3 => exact List.mem_cons_self
    case hD => exact .cons (.tuple (List.mem_cons_of_mem _ List.mem_cons_self) (.cons (.str _ _) (.cons (.str _ _) .nil))) .nil
    case hi => exact .inr ⟨a_clean, hv⟩
    case kd => ktr_room
    case ku => ktr_units
    intro e9 t9 tkx9 G9 h9 tk9 news9 FG9 R9 U9 P9
    walk_at "m_stepsX"
    k_dflt (refine' leaveX rfl B' FG9 R9 U9 ?_)
    k_whole
    intro h10 R10 U10
    exact hret _ _ _ _ _ _ _ FG' R10 U10 fun q hq => P9 q (List.mem_cons_of_mem _ (List.mem_cons_of_mem _ hq))
  clear F2 N2
  intro tk2 h9 tk9 F2 N2
  replace N2 := news_drop2 N2
  clear F1 N1
  dsimp only
  walk_at "m_stepsT"
  rename Fr h₀ L _ m => F1
  rename News _ _ _ (_ :: _ :: _) => N1
  walk_at "m_top"
  k_dflt (refine' words_keeps ?hf ?hdeed B F1 X N1 T rfl ?kd ?ku ?_)
  case hf => exact List.mem_cons_self
  case kd => ktr_room
  case ku => ktr_units
  case hdeed =>
    have hv := hsg.name
    have hlg := hsg.len
    clear B X T F1 N1 N mD hDue hDat mdue F2 N2
    walk_at "m_enterL"
    walk_at "m_stepsT"
    rename Fr g' L' _ _ => F2
    rename News g' L' _ _ => N2
    walk_at "m_top"
    k_dflt (refine' RunX.use (add_raises (vs := vs) (e := e) (hl := hl) (tk := tkx) hv hash_clean ?m1 ?m2 ?m3) B' F2 X' N2 T' rfl ?kd ?ku ?_)
    case m1 => k_mem
    case m2 => k_mem
    case m3 => k_mem
    case kd => ktr_room
    case ku => ktr_units
    intro e9 t9 tkx9 G9 h9 tk9 news9 FG9 R9 U9 P9
    walk_at "m_stepsX"
    k_dflt (refine' leaveX rfl B' FG9 R9 U9 ?_)
    k_whole
    intro h10 R10 U10
    exact hret _ _ _ _ _ _ _ FG' R10 U10 P9
  clear F2 N2
  intro tk3 h9 tk9 F2 N2
  replace N2 := news_drop2 N2
  clear F1 N1
  dsimp only
  walk_at "m_stepsT"
  rename Fr h₀ L _ m => F1
  rename News _ _ _ (_ :: _ :: _) => N1
  walk_at "m_top"
  k_dflt (refine' words_keeps ?hf ?hdeed B F1 X N1 T rfl ?kd ?ku ?_)
  case hf => exact List.mem_cons_self
  case kd => ktr_room
  case ku => ktr_units
  case hdeed =>
    clear B X T F1 N1 N mD hDue hDat mdue F2 N2
    walk_at "m_enterL"
    walk_at "m_stepsT"
    rename Fr g' L' _ _ => F2
    rename News g' L' _ _ => N2
    walk_at "m_top"
    k_dflt (refine' RunX.use (stored_raises1 (hl := hl) (tk := tkx) tab_low (by decide) ?m1 ?m2) B' F2 X' N2 T' rfl ?kd ?ku ?_)
    case m1 => k_mem
    case m2 => k_mem
    case kd => ktr_room
    case ku => ktr_units
    intro e9 t9 tkx9 G9 h9 tk9 news9 FG9 R9 U9 P9
    walk_at "m_stepsX"
    k_dflt (refine' leaveX rfl B' FG9 R9 U9 ?_)
    k_whole
    intro h10 R10 U10
    exact hret _ _ _ _ _ _ _ FG' R10 U10 P9
  clear F2 N2
  intro tk4 h9 tk9 F2 N2
  replace N2 := news_drop2 N2
  clear F1 N1
  dsimp only
  walk_at "m_stepsE"
  rename Fr h₀ L _ _ => F1
  rename News _ _ _ (_ :: _ :: _) => N1
  rename_i lZ hZ
  rw [tab_lit4] at N1
  obtain ⟨-, z2, -, -, -, z3, z1, -⟩ := lZ
  exact lawRun_of (hnext _ _ _ _ _ _ _ _ _ _ _ F1 (led_in8r N1) ⟨z1, z2, z3⟩) rfl rfl
end
theorem rest_41 : True := by
  w_top off
  try walk1
  first | done | exact True.intro
section
set_option maxRecDepth 100000 in
set_option maxHeartbeats 8000000 in
theorem law_t12 {w : World} {p : Program} {loose : List Str} {mean : ExcName → Option Value} {mg mb : Str → Option Value} {h₀ : Heap} {L fa : Addr} {m : Str → Option Value} {s : Shared} {Q : Flow → Shared → Prop} {E : Value → Shared → Prop}
    {hl xa dx D R : Addr} {tkx : Tok} {e kd : Nat} {vs yd : List Value} {cs cr : List (Int × Int)} {c0 : Int × Int} {u1 : Int} {rs : List (Addr × Obj)} {o1 o2 o3 o4 o5 og : Obj} {sgn : Str} {ts r1 r2 r3 r4 : Tok}
    (B : Below callerA h₀ [] h₀) (X : (Mine.hd.heap_39 w.params).In h₀) (T : Top p loose mean mg mb h₀) (C : CodeHd h₀ 249 247) (l0 : @LT.lt Nat _ 247 L)
    (F : Fr h₀ L s.heap m) (N : News h₀ L s.heap ((L + 1 + 1 + 1 + 1 + 1, o1) :: (L + 1 + 1 + 1 + 1, o2) :: (L + 1 + 1 + 1, o3) :: (L + 1 + 1, o4) :: (L + 1, o5) :: (247, og) :: (hl, W.listOf vs.toArray e) :: rs))
    (mxa : (xa, instObj 184 dx) ∈ rs) (mdx : (dx, dictOf (hdrEs w tkx hl) 1) ∈ rs) (mD : (D, W.listOf yd.toArray kd) ∈ rs) (mR : (R, W.listOf #[Value.str errS r1, Value.str errS r2, Value.str errS r3, Value.str errS r4] 0) ∈ rs)
    (d3 : o3.data = .cell (some (.ref xa)))
    (hDue : Kept (DatAll rs yd (cs.map card2))) (hDat : Kept (DatAll rs vs ((cs.map hp2).map hdr2)))
    (mdue : m (Str.ofString "due") = some (.ref D)) (mref : m (Str.ofString "refused") = some (.ref R)) (hok : Okc cs) (hln : cs.length ≤ 6)
    (hnext : ∀ h' tk', Fr h₀ L h' m → News h₀ L h' ((L + 1 + 1 + 1 + 1 + 1, o1) :: (L + 1 + 1 + 1 + 1, o2) :: (L + 1 + 1 + 1, o3) :: (L + 1 + 1, o4) :: (L + 1, o5) :: (247, og) :: (hl, W.listOf vs.toArray e) :: rs) → LawRun w 13 L fa Q E { s with heap := h', toks := tk' })
    : LawRun w 12 L fa Q E s := by
  have hzv : vs.length ≤ 6 := by rw [hDat.out.length]; simpa using hln
  have hzy : yd.length ≤ 6 := by rw [hDue.out.length]; simpa using hln
  refine lawRun_is (ns := ?ns) (mo := ?mo) (a := ?a) (r := ?r) ?hs ?hb ?k
  case hs => exact rfl
  case hb => exact rfl
  (try dsimp only)
  revert X; k_fill; intro X
  walk_at "m_stepsT"
  walk_at "m_top"
  k_dflt (refine' Run.use (items_run (xa := xa) (vs := vs) (dx := dx) (hl := hl) (e := e) (tk := tkx) (n := 1) ?m1 ?m2 ?m3 ?c1) ?k1 ?k2 ?k3 ?k4 ?k5 ?kK ?kd ?ku ?_)
  walk_at "m_use"
  (case m1 => k_mem)
  (case m2 => k_mem)
  (case m3 => k_mem)
  (case c1 => omega)
  intro r9 h9 tk9 news9 F9 N9 P9
  obtain ⟨a9, rfl, rfl, b9⟩ := P9
  (try dsimp only)
  walk_at "m_stepsT"
  walk_at "m_top"
  k_dflt (refine' Run.use (seen_run (ca := D) (vs := yd) (e := kd) (crd := cs) ?m1 ?c1 ?c2 ?c3) ?k1 ?k2 ?k3 ?k4 ?k5 ?kK ?kd ?ku ?_)
  walk_at "m_use"
  (case m1 => k_mem)
  (case c1 => exact hDue.out.mono (fun q hq => by repeat (first | exact hq | apply List.mem_cons_of_mem)))
  (case c2 => exact hok.1)
  (case c3 => omega)
  intro r9 h9 tk9 news9 F9 N9 P9
  obtain ⟨sa, ys, ky, tl, rfl, rfl, hyl, hap, hsa, hY⟩ := P9
  (try dsimp only)
  have ma9 := List.mem_append_right tl (List.mem_cons_self (a := (a9, W.listOf vs.toArray 0)) (l := (L + 1 + 1 + 1 + 1 + 1, o1) :: (L + 1 + 1 + 1 + 1, o2) :: (L + 1 + 1 + 1, o3) :: (L + 1 + 1, o4) :: (L + 1, o5) :: (247, og) :: (hl, W.listOf vs.toArray e) :: rs))
  have hrsT : ∀ q ∈ rs, q ∈ tl ++ (a9, W.listOf vs.toArray 0) :: (L + 1 + 1 + 1 + 1 + 1, o1) :: (L + 1 + 1 + 1 + 1, o2) :: (L + 1 + 1 + 1, o3) :: (L + 1 + 1, o4) :: (L + 1, o5) :: (247, og) :: (hl, W.listOf vs.toArray e) :: rs := fun q hq => List.mem_append_right tl (by repeat (first | exact hq | apply List.mem_cons_of_mem))
  have hY8 := Kept.mk (hY.mono fun q hq => List.mem_append_left ((a9, W.listOf vs.toArray 0) :: (L + 1 + 1 + 1 + 1 + 1, o1) :: (L + 1 + 1 + 1 + 1, o2) :: (L + 1 + 1 + 1, o3) :: (L + 1 + 1, o4) :: (L + 1, o5) :: (247, og) :: (hl, W.listOf vs.toArray e) :: rs) hq)
  have hV8 := Kept.mk (hDat.out.mono hrsT)
  have mR8 := hrsT _ mR
  have hsub : ∀ q ∈ (L + 1 + 1 + 1 + 1 + 1, o1) :: (L + 1 + 1 + 1 + 1, o2) :: (L + 1 + 1 + 1, o3) :: (L + 1 + 1, o4) :: (L + 1, o5) :: (247, og) :: (hl, W.listOf vs.toArray e) :: rs, q ∈ tl ++ (a9, W.listOf vs.toArray 0) :: (L + 1 + 1 + 1 + 1 + 1, o1) :: (L + 1 + 1 + 1 + 1, o2) :: (L + 1 + 1 + 1, o3) :: (L + 1 + 1, o4) :: (L + 1, o5) :: (247, og) :: (hl, W.listOf vs.toArray e) :: rs := fun q hq => List.mem_append_right tl (List.mem_cons_of_mem _ hq)
  clear hap hsa hrsT hY mR mD hDue hDat mxa mdx N
  generalize tl ++ (_ :: _) = rst at N9 ma9 hY8 hV8 mR8 hsub
  walk_at "m_stepsT"
  k_dflt (refine' ne_same (xs := vs) (ys := ys) (ds := (cs.map hp2).map hdr2) (by k_asm) ?m1 rfl ?c2 ?m2 rfl ?c3 ?c4 ?ku ?_)
  (case m1 => exact List.mem_cons_of_mem _ ma9)
  (case m2 => exact List.mem_cons_self)
  (case c2 => exact hV8.out.mono (fun q hq => by repeat (first | exact hq | apply List.mem_cons_of_mem)))
  (case c3 => exact hY8.out.mono (fun q hq => by repeat (first | exact hq | apply List.mem_cons_of_mem)))
  (case c4 => exact ok_hdrs hok.1)
  (case ku => ktr_units)
  walk_at "m_stepsT"
  rename Fr h₀ L _ m => F4
  rename News _ _ _ (_ :: _ :: rst) => N4
  refine mul_four F4 N4 List.mem_cons_self fun D4 h4 F5 N5 l4 => ?_
  clear F4 N4 l4
  walk_at "m_stepsT"
  k_dflt (refine' ne_same (xs := [Value.str errS r1, Value.str errS r2, Value.str errS r3, Value.str errS r4]) (ds := [Dat.str errS, Dat.str errS, Dat.str errS, Dat.str errS]) (by k_asm) ?m1 rfl (.cons (.str _ _) (.cons (.str _ _) (.cons (.str _ _) (.cons (.str _ _) .nil)))) ?m2 rfl (.cons (.str _ _) (.cons (.str _ _) (.cons (.str _ _) (.cons (.str _ _) .nil)))) okE4 ?ku ?_)
  (case m1 => exact List.mem_cons_of_mem _ (List.mem_cons_of_mem _ (List.mem_cons_of_mem _ mR8)))
  (case m2 => exact List.mem_cons_self)
  (case ku => ktr_units)
  walk_at "m_stepsE"
  refine wpAny_execs_nil ?_
  dsimp only
  rename Fr h₀ L _ m => F3
  rename News _ _ _ (_ :: _ :: _) => N3
  exact lawRun_of (hnext _ _ F3 (news_sub N3 fun q hq => List.mem_cons_of_mem _ (List.mem_cons_of_mem _ (List.mem_cons_of_mem _ (hsub q hq))))) rfl rfl
end
theorem rest_42 : True := by
  w_top off
  try walk1
  first | done | exact True.intro
section
set_option maxRecDepth 100000 in
set_option maxHeartbeats 8000000 in
theorem law_t13 {w : World} {p : Program} {loose : List Str} {mean : ExcName → Option Value} {mg mb : Str → Option Value} {h₀ : Heap} {L fa : Addr} {m : Str → Option Value} {s : Shared} {Q : Flow → Shared → Prop} {E : Value → Shared → Prop}
    {hl xa dx D R : Addr} {tkx : Tok} {e kd : Nat} {vs yd : List Value} {cs cr : List (Int × Int)} {c0 : Int × Int} {u1 : Int} {rs : List (Addr × Obj)} {o1 o2 o3 o4 o5 og : Obj} {sgn : Str} {ov : Option Value} {ts r1 r2 r3 r4 : Tok}
    (B : Below callerA h₀ [] h₀) (X : (Mine.hd.heap_39 w.params).In h₀) (T : Top p loose mean mg mb h₀) (C : CodeHd h₀ 249 247) (l0 : @LT.lt Nat _ 247 L)
    (F : Fr h₀ L s.heap m) (N : News h₀ L s.heap ((L + 1 + 1 + 1 + 1 + 1, o1) :: (L + 1 + 1 + 1 + 1, o2) :: (L + 1 + 1 + 1, o3) :: (L + 1 + 1, o4) :: (L + 1, o5) :: (247, og) :: (hl, W.listOf vs.toArray e) :: rs))
    (mxa : (xa, instObj 184 dx) ∈ rs) (mdx : (dx, dictOf (hdrEs w tkx hl) 1) ∈ rs) (mD : (D, W.listOf yd.toArray kd) ∈ rs) (mR : (R, W.listOf #[Value.str errS r1, Value.str errS r2, Value.str errS r3, Value.str errS r4] 0) ∈ rs)
    (hDue : Kept (DatAll rs yd ((c0 :: (1, u1) :: cr).map card2)))
    (mdue : m (Str.ofString "due") = some (.ref D))
    (d2 : o2.data = .cell ov) (ac2 : ∀ q ∈ rs, q.1 ≠ L + 1 + 1 + 1 + 1) (hL : @Ne Nat hl (L + 1 + 1 + 1 + 1 + 1) ∧ @Ne Nat hl (L + 1 + 1 + 1 + 1) ∧ @Ne Nat hl (L + 1 + 1 + 1) ∧ @Ne Nat hl (L + 1 + 1) ∧ @Ne Nat hl (L + 1))
    (hnext : ∀ h' tk' o2' t', Fr h₀ L h' m → o2'.data = .cell (some (.str (nmS 1 (1 - u1)) t')) → News h₀ L h' ((L + 1 + 1 + 1 + 1 + 1, o1) :: (L + 1 + 1 + 1 + 1, o2') :: (L + 1 + 1 + 1, o3) :: (L + 1 + 1, o4) :: (L + 1, o5) :: (247, og) :: (hl, W.listOf vs.toArray e) :: rs) → LawRun w 14 L fa Q E { s with heap := h', toks := tk' })
    : LawRun w 13 L fa Q E s := by
  obtain ⟨y0, y1, yr, rfl⟩ : ∃ y0 y1 yr, yd = y0 :: y1 :: yr := by
    have := hDue.out.length
    match yd, this with
    | a :: b :: r, _ => exact ⟨a, b, r, rfl⟩
  obtain ⟨T1, t1, t2, k1, rfl, mT1⟩ : ∃ T1 t1 t2 k1, y1 = .ref T1 ∧ (T1, tup2 (.int 1 t1) (.int u1 t2) k1) ∈ rs := by
    cases hDue.out with
    | cons _ h => cases h with
      | cons h _ => exact ipair_obj h
  have hlc2 : @Ne Nat hl (L + 1 + 1 + 1 + 1) := hL.2.1
  refine lawRun_is (ns := ?ns) (mo := ?mo) (a := ?a) (r := ?r) ?hs ?hb ?k
  case hs => exact rfl
  case hb => exact rfl
  dsimp only
  revert X; k_fill; intro X
  walk_at "m_stepsE"
  (first | ((first | k_unfold | (refine strip ?_; k_unfold)); (try dsimp only)) | (walk_at "m_guardT"; walk_at "m_one"))
  walk_at "m_stepsE"
  rename Fr h₀ L _ m => F3
  rename News _ _ _ (_ :: _ :: _) => N3
  rename_i dA
  exact lawRun_of (hnext _ _ _ _ F3 dA N3) rfl rfl
end
theorem rest_43 : True := by
  w_top off
  try walk1
  first | done | exact True.intro
section
set_option maxRecDepth 100000 in
set_option maxHeartbeats 8000000 in
theorem law_t14 {w : World} {p : Program} {loose : List Str} {mean : ExcName → Option Value} {mg mb : Str → Option Value} {h₀ : Heap} {L fa : Addr} {m : Str → Option Value} {s : Shared} {Q : Flow → Shared → Prop} {E : Value → Shared → Prop}
    {hl xa dx D R : Addr} {tkx : Tok} {e kd : Nat} {vs yd : List Value} {cs cr : List (Int × Int)} {c0 : Int × Int} {u1 : Int} {rs : List (Addr × Obj)} {a1 a2 a3 a4 : Addr} {o1 o2 o3 o4 o5 : Obj} {sgn : Str} {ts tO r1 r2 r3 r4 : Tok}
    (B : Below callerA h₀ [] h₀) (X : (Mine.hd.heap_39 w.params).In h₀) (T : Top p loose mean mg mb h₀) (C : CodeHd h₀ 249 247) (l0 : @LT.lt Nat _ 247 L)
    (F : Fr h₀ L s.heap m) (N : News h₀ L s.heap ((L + 1 + 1 + 1 + 1 + 1, o1) :: (L + 1 + 1 + 1 + 1, o2) :: (L + 1 + 1 + 1, o3) :: (L + 1 + 1, o4) :: (L + 1, o5) :: (247, tabObj #[rawInt 169, rawInt 0, Value.ref a1, rawInt 170, rawInt 0, Value.ref a2, rawInt 171, rawInt 0, Value.ref a3, rawInt 172, rawInt 0, Value.ref a4]) :: (hl, W.listOf vs.toArray e) :: rs))
    (mxa : (xa, instObj 184 dx) ∈ rs) (mdx : (dx, dictOf (hdrEs w tkx hl) 1) ∈ rs) (mD : (D, W.listOf yd.toArray kd) ∈ rs) (mR : (R, W.listOf #[Value.str errS r1, Value.str errS r2, Value.str errS r3, Value.str errS r4] 0) ∈ rs)
    (d1 : o1.data = .cell (some (.str sgn ts))) (d2 : o2.data = .cell (some (.str (nmS 1 (1 - u1)) tO))) (d3 : o3.data = .cell (some (.ref xa)))
    (hDat : Kept (DatAll rs vs (((c0 :: (1, u1) :: cr).map hp2).map hdr2))) (hok : Okc (c0 :: (1, u1) :: cr)) (hln : (c0 :: (1, u1) :: cr).length ≤ 6)
    (a247 : ∀ q ∈ rs, q.1 ≠ 247) (hl247 : @Ne Nat hl 247) (ahl : ∀ q ∈ rs, q.1 ≠ hl) (hL : @Ne Nat hl (L + 1 + 1 + 1 + 1 + 1) ∧ @Ne Nat hl (L + 1 + 1 + 1 + 1) ∧ @Ne Nat hl (L + 1 + 1 + 1) ∧ @Ne Nat hl (L + 1 + 1) ∧ @Ne Nat hl (L + 1)) (hsg : SgOk sgn)
    (hnext : ∀ h' tk' t' vs' e' a5, Fr h₀ L h' (fun y => if y = Str.ofString "told" then some (.str errS t') else m y) → Kept (DatAll rs vs' (((c0 :: cr).map hp2).map hdr2)) → News h₀ L h' ((L + 1 + 1 + 1 + 1 + 1, o1) :: (L + 1 + 1 + 1 + 1, o2) :: (L + 1 + 1 + 1, o3) :: (L + 1 + 1, o4) :: (L + 1, o5) :: (247, tabObj #[rawInt 169, rawInt 0, Value.ref a1, rawInt 170, rawInt 0, Value.ref a2, rawInt 171, rawInt 0, Value.ref a3, rawInt 172, rawInt 0, Value.ref a4, rawInt 177, rawInt 0, Value.ref a5]) :: (hl, W.listOf vs'.toArray e') :: rs) → LawRun w 15 L fa Q E { s with heap := h', toks := tk' })
    : LawRun w 14 L fa Q E s := by
  have hzv : vs.length ≤ 6 := by rw [hDat.out.length]; simpa using hln
  refine lawRun_is (ns := ?ns) (mo := ?mo) (a := ?a) (r := ?r) ?hs ?hb ?k
  case hs => exact rfl
  case hb => exact rfl
  dsimp only
  revert X; k_fill; intro X
  walk_at "m_stepsT"
  rename_i lA lB
  obtain ⟨-, -, -, -, -, -, lA7, -⟩ := lA
  rename Fr h₀ L _ m => F1
  rename News _ _ _ (_ :: _ :: _) => N1
  walk_at "m_top"
  k_dflt (refine' words_raises (dN := 20) (uN := 200) (PostE := fun nw => ∃ vs' e' a5, (∀ q ∈ (hl, W.listOf vs'.toArray e') :: (L + 1 + 1 + 1 + 1 + 1, o1) :: (L + 1 + 1 + 1 + 1, o2) :: (L + 1 + 1 + 1, o3) :: (L + 1 + 1, o4) :: (L + 1, o5) :: (247, tabObj #[rawInt 169, rawInt 0, Value.ref a1, rawInt 170, rawInt 0, Value.ref a2, rawInt 171, rawInt 0, Value.ref a3, rawInt 172, rawInt 0, Value.ref a4, rawInt 177, rawInt 0, Value.ref a5]) :: rs, q ∈ nw) ∧ DatAll rs vs' (((c0 :: cr).map hp2).map hdr2)) ?hf (by decide) (by decide) ?hdeed _ _ _ _ _ _ _ _ _ _ _ _ _ _ _ B F1 X N1 T rfl ?kd ?ku ?_)
  case hf => exact List.mem_cons_self
  case kd => ktr_room
  case ku => ktr_units
  case hdeed =>
    have hv := hsg.value
    have hlg := hsg.len
    have hc1 := hok.1 (1, u1) (List.mem_cons_of_mem _ List.mem_cons_self)
    clear B X T F1 N1 N
    walk_at "m_enterL"
    walk_at "m_stepsT"
    rename Fr g' L' _ _ => F2
    rename News g' L' _ _ => N2
    walk_at "m_top"
    k_dflt (refine' RunX.use (stored_raises2 (x := nmS 1 (1 - u1)) (y := Str.ofString "#" ++ sgn) (tk := tkx) (xa := xa) (dx := dx) (hl := hl) (n := 1) (e := e) (vs := vs) (items := (c0 :: (1, u1) :: cr).map hp2) (base0 := rs) (nml_clean hc1) (nm_clean hc1) hv (nmS_len hc1) ?m1 ?m2 (far_hl lA7 lB hL hl247 ahl) ?hs hDat.out (hp_len hok.1) ?hz) B' F2 X' (led_hl N2) T' rfl ?kd ?ku ?_)
    case m1 => k_mem
    case m2 => k_mem
    case hs => exact fun q hq => by repeat (first | exact hq | apply List.mem_cons_of_mem)
    case hz => omega
    case kd => ktr_room
    case ku => ktr_units
    intro e9 t9 tkx9 G9 h9 tk9 news9 FG9 R9 U9 P9
    obtain ⟨vs2, e2, hs2, hD2, -⟩ := P9
    have hfil := filter_at (c := (1, u1)) (pre := [c0]) (post := cr) hok (1 - u1)
    rw [List.singleton_append, List.singleton_append] at hfil
    rw [hfil] at hD2
    walk_at "m_stepsX"
    k_dflt (refine' leaveX rfl B' FG9 R9 U9 ?_)
    k_whole
    intro h10 R10 U10
    exact hret _ _ _ _ _ _ _ FG' R10 U10 ⟨vs2, e2, _, fun q hq => hs2 q (led_in8 q hq), hD2⟩
  intro tk1 h9 tk9 nw9 F2 N2 P2
  obtain ⟨vs2, e2, a5, hs2, hD2⟩ := P2
  replace N2 := led_back (news_sub N2 hs2)
  clear F1 N1
  (try dsimp only)
  walk_at "m_stepsE"
  rename Fr h₀ L _ _ => F3
  rename News _ _ _ (_ :: _ :: _) => N3
  exact lawRun_of (hnext _ _ _ _ _ _ F3 (Kept.mk hD2) N3) rfl rfl
end
theorem rest_44 : True := by
  w_top off
  try walk1
  first | done | exact True.intro
section
set_option maxRecDepth 100000 in
set_option maxHeartbeats 8000000 in
theorem law_t15 {w : World} {p : Program} {loose : List Str} {mean : ExcName → Option Value} {mg mb : Str → Option Value} {h₀ : Heap} {L fa : Addr} {m : Str → Option Value} {s : Shared} {Q : Flow → Shared → Prop} {E : Value → Shared → Prop}
    {hl xa dx D R : Addr} {tkx : Tok} {e kd : Nat} {vs yd : List Value} {cs cr : List (Int × Int)} {c0 : Int × Int} {u1 : Int} {rs : List (Addr × Obj)} {o1 o2 o3 o4 o5 og : Obj} {sgn : Str} {ts r1 r2 r3 r4 : Tok}
    (B : Below callerA h₀ [] h₀) (X : (Mine.hd.heap_39 w.params).In h₀) (T : Top p loose mean mg mb h₀) (C : CodeHd h₀ 249 247) (l0 : @LT.lt Nat _ 247 L)
    (F : Fr h₀ L s.heap m) (N : News h₀ L s.heap ((L + 1 + 1 + 1 + 1 + 1, o1) :: (L + 1 + 1 + 1 + 1, o2) :: (L + 1 + 1 + 1, o3) :: (L + 1 + 1, o4) :: (L + 1, o5) :: (247, og) :: (hl, W.listOf vs.toArray e) :: rs))
    (mxa : (xa, instObj 184 dx) ∈ rs) (mdx : (dx, dictOf (hdrEs w tkx hl) 1) ∈ rs) (mD : (D, W.listOf yd.toArray kd) ∈ rs) (mR : (R, W.listOf #[Value.str errS r1, Value.str errS r2, Value.str errS r3, Value.str errS r4] 0) ∈ rs)
    (d3 : o3.data = .cell (some (.ref xa)))
    (hDue : Kept (DatAll rs yd ((c0 :: (1, u1) :: cr).map card2))) (hDat : Kept (DatAll rs vs (((c0 :: cr).map hp2).map hdr2))) (hok : Okc (c0 :: (1, u1) :: cr)) (hln : (c0 :: (1, u1) :: cr).length ≤ 6)
    (mdue : m (Str.ofString "due") = some (.ref D)) (mref : m (Str.ofString "refused") = some (.ref R)) (mtold : m (Str.ofString "told") = some (.str errS ts))
    (hnext : ∀ h' tk', Fr h₀ L h' m → News h₀ L h' ((L + 1 + 1 + 1 + 1 + 1, o1) :: (L + 1 + 1 + 1 + 1, o2) :: (L + 1 + 1 + 1, o3) :: (L + 1 + 1, o4) :: (L + 1, o5) :: (247, og) :: (hl, W.listOf vs.toArray e) :: rs) → LawRun w 16 L fa Q E { s with heap := h', toks := tk' })
    : LawRun w 15 L fa Q E s := by
  have hzv : vs.length ≤ 5 := by rw [hDat.out.length]; simp at hln ⊢; omega
  obtain ⟨y0, y1, yr, rfl⟩ : ∃ y0 y1 yr, yd = y0 :: y1 :: yr := by
    have := hDue.out.length
    match yd, this with
    | a :: b :: r, _ => exact ⟨a, b, r, rfl⟩
  have hzy : (y0 :: y1 :: yr).length ≤ 6 := by rw [hDue.out.length]; simpa using hln
  have hzr : yr.length ≤ 4 := by simp only [List.length_cons] at hzy; omega
  have hDue2 : Kept (DatAll rs ([y0] ++ yr) ((c0 :: cr).map card2)) := by
    cases hDue.out with
    | cons a b => cases b with
      | cons _ c => exact ⟨.cons a c⟩
  have hok2 : ∀ c ∈ c0 :: cr, 0 ≤ c.1 ∧ c.1 < 6 := fun c hc => hok.1 c (by rcases List.mem_cons.mp hc with h | h <;> simp [h])
  refine lawRun_is (ns := ?ns) (mo := ?mo) (a := ?a) (r := ?r) ?hs ?hb ?k
  case hs => exact rfl
  case hb => exact rfl
  dsimp only
  revert X; k_fill; intro X
  walk_at "m_stepsT"
  walk_at "m_top"
  k_dflt (refine' Run.use (items_run (xa := xa) (vs := vs) (dx := dx) (hl := hl) (e := e) (tk := tkx) (n := 1) ?m1 ?m2 ?m3 ?c1) ?k1 ?k2 ?k3 ?k4 ?k5 ?kK ?kd ?ku ?_)
  walk_at "m_use"
  (case m1 => k_mem)
  (case m2 => k_mem)
  (case m3 => k_mem)
  (case c1 => omega)
  intro r9 h9 tk9 news9 F9 N9 P9
  obtain ⟨a9, rfl, rfl, b9⟩ := P9
  (try dsimp only)
  walk_at "m_stepsT"
  rename Fr h₀ L _ m => F1
  rename News _ _ _ ((_, _) :: (_, W.listOf yr.toArray 0) :: _) => N1
  walk_at "m_top"
  k_dflt (refine' Run.use (seen_run (vs := [y0] ++ yr) (e := 0) (crd := c0 :: cr) List.mem_cons_self ?c1 hok2 ?c3) ?k1 F1 ?k3 N1 ?k5 ?kK ?kd ?ku ?_)
  (case k1 => k_asm)
  (case k3 => k_asm)
  (case k5 => k_asm)
  (case kK => exact rfl)
  (case kd => ktr_room)
  (case ku => ktr_units)
  (case c1 => exact hDue2.out.mono fun q hq => by repeat (first | exact hq | apply List.mem_cons_of_mem))
  (case c3 => simp only [List.length_append, List.length_cons, List.length_nil]; omega)
  intro r9 h9 tk9 news9 F9 N9 P9
  obtain ⟨sa, ys, ky, tl, rfl, rfl, hyl, hap, hsa, hY⟩ := P9
  (try dsimp only)
  walk_at "m_stepsT"
  k_dflt (refine' ne_same (xs := vs) (ys := ys) (ds := ((c0 :: cr).map hp2).map hdr2) N9 ?m1 rfl ?c2 ?m2 rfl ?c3 ?c4 ?ku ?_)
  (case m1 => exact List.mem_cons_of_mem _ (List.mem_append_right _ (List.mem_cons_of_mem _ (List.mem_cons_of_mem _ (List.mem_cons_of_mem _ List.mem_cons_self)))))
  (case m2 => exact List.mem_cons_self)
  (case c2 => exact hDat.out.mono fun q hq => List.mem_cons_of_mem _ (List.mem_append_right _ (by repeat (first | exact hq | apply List.mem_cons_of_mem))))
  (case c3 => exact hY.mono fun q hq => List.mem_cons_of_mem _ (List.mem_append_left _ hq))
  (case c4 => exact ok_hdrs hok2)
  (case ku => ktr_units)
  walk_at "m_stepsE"
  refine wpAny_execs_nil ?_
  dsimp only
  exact lawRun_of (hnext _ _ F9 (news_sub N9 fun q hq => List.mem_cons_of_mem _ (List.mem_append_right _ (List.mem_cons_of_mem _ (List.mem_cons_of_mem _ (List.mem_cons_of_mem _ (List.mem_cons_of_mem _ hq))))))) rfl rfl
end
theorem rest_45 : True := by
  w_top off
  try walk1
  first | done | exact True.intro
section
set_option maxRecDepth 100000 in
set_option maxHeartbeats 8000000 in
theorem law_t16 {w : World} {p : Program} {loose : List Str} {mean : ExcName → Option Value} {mg mb : Str → Option Value} {h₀ : Heap} {L fa : Addr} {m : Str → Option Value} {s : Shared} {Q : Flow → Shared → Prop} {E : Value → Shared → Prop}
    {hl xa dx D R : Addr} {tkx : Tok} {e kd : Nat} {vs yd : List Value} {cs cr : List (Int × Int)} {c0 : Int × Int} {u1 : Int} {rs : List (Addr × Obj)} {a1 a2 a3 a4 a5 : Addr} {o1 o2 o3 o4 o5 : Obj} {sgn : Str} {ts tO r1 r2 r3 r4 : Tok}
    (B : Below callerA h₀ [] h₀) (X : (Mine.hd.heap_39 w.params).In h₀) (T : Top p loose mean mg mb h₀) (C : CodeHd h₀ 249 247) (l0 : @LT.lt Nat _ 247 L)
    (F : Fr h₀ L s.heap m) (N : News h₀ L s.heap ((L + 1 + 1 + 1 + 1 + 1, o1) :: (L + 1 + 1 + 1 + 1, o2) :: (L + 1 + 1 + 1, o3) :: (L + 1 + 1, o4) :: (L + 1, o5) :: (247, tabObj #[rawInt 169, rawInt 0, Value.ref a1, rawInt 170, rawInt 0, Value.ref a2, rawInt 171, rawInt 0, Value.ref a3, rawInt 172, rawInt 0, Value.ref a4, rawInt 177, rawInt 0, Value.ref a5]) :: (hl, W.listOf vs.toArray e) :: rs))
    (mxa : (xa, instObj 184 dx) ∈ rs) (mdx : (dx, dictOf (hdrEs w tkx hl) 1) ∈ rs) (mD : (D, W.listOf yd.toArray kd) ∈ rs) (mR : (R, W.listOf #[Value.str errS r1, Value.str errS r2, Value.str errS r3, Value.str errS r4] 0) ∈ rs)
    (d2 : o2.data = .cell (some (.str (nmS 1 (1 - u1)) tO))) (d3 : o3.data = .cell (some (.ref xa)))
    (hDue : Kept (DatAll rs yd ((c0 :: (1, u1) :: cr).map card2))) (hDat : Kept (DatAll rs vs (((c0 :: cr).map hp2).map hdr2))) (hok : Okc (c0 :: (1, u1) :: cr)) (hln : (c0 :: (1, u1) :: cr).length ≤ 6)
    (mdue : m (Str.ofString "due") = some (.ref D))
    (a247 : ∀ q ∈ rs, q.1 ≠ 247) (hl247 : @Ne Nat hl 247) (ahl : ∀ q ∈ rs, q.1 ≠ hl) (hL : @Ne Nat hl (L + 1 + 1 + 1 + 1 + 1) ∧ @Ne Nat hl (L + 1 + 1 + 1 + 1) ∧ @Ne Nat hl (L + 1 + 1 + 1) ∧ @Ne Nat hl (L + 1 + 1) ∧ @Ne Nat hl (L + 1))
    (hret : ∀ h' tk' m' news' gt, Fr h₀ L h' m' → News h₀ L h' news' → (247, tabObj gt) ∈ news' → Q (.ret (.bool true)) { s with heap := h', toks := tk' })
    : LawRun w 16 L fa Q E s := by
  have hzv : vs.length ≤ 5 := by rw [hDat.out.length]; simp at hln ⊢; omega
  obtain ⟨y0, y1, yr, rfl⟩ : ∃ y0 y1 yr, yd = y0 :: y1 :: yr := by
    have := hDue.out.length
    match yd, this with
    | a :: b :: r, _ => exact ⟨a, b, r, rfl⟩
  have hzy : (y0 :: y1 :: yr).length ≤ 6 := by rw [hDue.out.length]; simpa using hln
  have hzr : yr.length ≤ 4 := by simp only [List.length_cons] at hzy; omega
  have hDue2 : Kept (DatAll rs ([y0] ++ yr) ((c0 :: cr).map card2)) := by
    cases hDue.out with
    | cons a b => cases b with
      | cons _ c => exact ⟨.cons a c⟩
  have hok2 : ∀ c ∈ c0 :: cr, 0 ≤ c.1 ∧ c.1 < 6 := fun c hc => hok.1 c (by rcases List.mem_cons.mp hc with h | h <;> simp [h])
  refine lawRun_is (ns := ?ns) (mo := ?mo) (a := ?a) (r := ?r) ?hs ?hb ?k
  case hs => exact rfl
  case hb => exact rfl
  dsimp only
  revert X; k_fill; intro X
  walk_at "m_stepsT"
  rename_i lA lB
  obtain ⟨-, -, -, -, -, -, lA7, -⟩ := lA
  rename Fr h₀ L _ m => F1
  rename News _ _ _ (_ :: _ :: _) => N1
  walk_at "m_top"
  k_dflt (refine' Run.use (words_returns (dN := 20) (uN := 200) (Post := fun _ nw => ∃ q vs' e' fo co gt, nw = (hl, W.listOf vs'.toArray e') :: q :: fo :: co :: (L + 1 + 1 + 1 + 1 + 1, o1) :: (L + 1 + 1 + 1 + 1, o2) :: (L + 1 + 1 + 1, o3) :: (L + 1 + 1, o4) :: (L + 1, o5) :: (247, tabObj gt) :: rs ∧ DatAll (q :: rs) vs' (((c0 :: cr).map hp2 ++ [(nmS 1 (1 - u1), Str.ofString "#\t")]).map hdr2) ∧ vs'.length ≤ vs.length + 1) ?hf (by decide) (by decide) ?hdeed) B F1 X N1 T rfl ?kd ?ku ?_)
  case hf => exact List.mem_cons_self
  case kd => ktr_room
  case ku => ktr_units
  case hdeed =>
    have hc1 := hok.1 (1, u1) (List.mem_cons_of_mem _ List.mem_cons_self)
    clear B X T F1 N1 N
    (delta Run; k_fill; intro dp un gd cn cs a ccd cl outer A₀ base h₀ L m s Q E B F X N T hk hd hu hret; refine wpAny_call ?_; k_dflt (refine' kla_code ?k1 ?k2 ?k3 ?k4 ?k5 ?kA ?kF ?kK ?k6 ?k7 ?k8 ?k9 ?kB ?_ ?c2 ?c3 ?c4 ?c5; (case kA => exact rfl); (case kF => exact rfl); (case kK => assumption); (case k1 | k2 | k3 | k4 | k5 => k_asm); (case k6 => k_mem); (case k7 => exact codeRec_news (by k_asm) (by k_mem) (by assumption) (by assumption)); (case k8 => ktr_room); (case k9 => exact rfl); (case c5 => decide); (case kB => exact locs rfl); (case c2 | c3 | c4 => exact rfl); k_whole; intro g' L' h' FG' F' N' B' X' T'; (try dsimp only); (try k_lift B'); (try k_fold)))
    walk_at "m_stepsT"
    rename Fr g' L' _ _ => F2
    rename News g' L' _ _ => N2
    walk_at "m_top"
    k_dflt (refine' Run.use (stored_run (x := nmS 1 (1 - u1)) (y := Str.ofString "#\t") (tk := tkx) (xa := xa) (dx := dx) (hl := hl) (n := 1) (e := e) (vs := vs) (items := (c0 :: cr).map hp2) (base0 := rs) (nml_clean hc1) (nm_clean hc1) hashtab_clean (nmS_len hc1) ?m1 ?m2 (far_hl lA7 lB hL hl247 ahl) ?hs hDat.out (hp_len fun c hc => hok.1 c ?hi) ?hz) B' F2 X' (led_hl N2) T' rfl ?kd ?ku ?_)
    case m1 => k_mem
    case m2 => k_mem
    case hs => exact fun q hq => by repeat (first | exact hq | apply List.mem_cons_of_mem)
    case hi => rcases List.mem_cons.mp hc with h | h <;> simp [h]
    case hz => omega
    case kd => ktr_room
    case ku => ktr_units
    intro r9 h9 tk9 news9 F9 N9 P9
    obtain ⟨q, vs2, e2, rfl, hq1, hq2, hD2, hl2⟩ := P9
    have hfil := filter_all (c := (1, u1)) (crd := c0 :: cr) hc1 (fun d hd => hok.1 d (by rcases List.mem_cons.mp hd with h | h <;> simp [h])) ?hne (1 - u1)
    case hne =>
      intro d hd e
      have hn := hok.2
      simp only [List.map_cons, List.nodup_cons, List.mem_cons, not_or] at hn
      rcases List.mem_cons.mp hd with rfl | hd
      · exact hn.1.1 e
      · exact hn.2.1 (List.mem_map.mpr ⟨d, hd, e⟩)
    rw [hfil] at hD2
    walk_at "m_stepsT"
    exact hret _ _ _ _ (by k_asm) (by k_asm) ⟨q, vs2, e2, _, _, _, rfl, hD2, hl2⟩
  intro r9 h9 tk9 news9 F9 N9 P9
  obtain ⟨tk1, r2, rfl, q, vs2, e2, fo, co, gt, rfl, hD2, hl2⟩ := P9
  replace hD2 := Kept.mk hD2
  clear F1 N1
  (try dsimp only)
  walk_at "m_stepsT"
  walk_at "m_top"
  k_dflt (refine' Run.use (items_run (xa := xa) (vs := vs2) (dx := dx) (hl := hl) (e := e2) (tk := tkx) (n := 1) ?m1 ?m2 ?m3 ?c1) ?k1 ?k2 ?k3 ?k4 ?k5 ?kK ?kd ?ku ?_)
  walk_at "m_use"
  (case m1 => k_mem)
  (case m2 => k_mem)
  (case m3 => k_mem)
  (case c1 => omega)
  intro r9 h9 tk9 news9 F9 N9 P9
  obtain ⟨a9, rfl, rfl, b9⟩ := P9
  (try dsimp only)
  walk_at "m_stepsT"
  rename Fr h₀ L _ m => F1
  rename News _ _ _ ((_, _) :: (_, W.listOf yr.toArray 0) :: _) => N1
  walk_at "m_top"
  k_dflt (refine' Run.use (seen_run (vs := [y0] ++ yr) (e := 0) (crd := c0 :: cr) List.mem_cons_self ?c1 hok2 ?c3) ?k1 F1 ?k3 N1 ?k5 ?kK ?kd ?ku ?_)
  (case k1 => k_asm)
  (case k3 => k_asm)
  (case k5 => k_asm)
  (case kK => exact rfl)
  (case kd => ktr_room)
  (case ku => ktr_units)
  (case c1 => exact hDue2.out.mono fun q hq => by repeat (first | exact hq | apply List.mem_cons_of_mem))
  (case c3 => simp only [List.length_append, List.length_cons, List.length_nil]; omega)
  intro r9 h9 tk9 news9 F9 N9 P9
  obtain ⟨sa, ys, ky, tl, rfl, rfl, hyl, hap, hsa, hY⟩ := P9
  (try dsimp only)
  have ma9 : ∀ {A1 A2 A3 : Addr × Obj} {W9 : List (Addr × Obj)}, (a9, W.listOf vs2.toArray 0) ∈ tl ++ A1 :: A2 :: A3 :: (a9, W.listOf vs2.toArray 0) :: W9 := fun {_ _ _ _} => List.mem_append_right _ (List.mem_cons_of_mem _ (List.mem_cons_of_mem _ (List.mem_cons_of_mem _ List.mem_cons_self)))
  have mo2 : ∀ {A1 A2 A3 A4 B1 B2 B3 B4 B5 : Addr × Obj} {W9 : List (Addr × Obj)}, (L + 1 + 1 + 1 + 1, o2) ∈ tl ++ A1 :: A2 :: A3 :: A4 :: B1 :: B2 :: B3 :: B4 :: B5 :: (L + 1 + 1 + 1 + 1, o2) :: W9 := fun {_ _ _ _ _ _ _ _ _ _} => List.mem_append_right _ (List.mem_cons_of_mem _ (List.mem_cons_of_mem _ (List.mem_cons_of_mem _ (List.mem_cons_of_mem _ (List.mem_cons_of_mem _ (List.mem_cons_of_mem _ (List.mem_cons_of_mem _ (List.mem_cons_of_mem _ (List.mem_cons_of_mem _ List.mem_cons_self)))))))))
  have mg8 : ∀ {A1 A2 A3 A4 B1 B2 B3 B4 B5 B6 B7 B8 B9 : Addr × Obj} {W9 : List (Addr × Obj)}, (247, tabObj gt) ∈ tl ++ A1 :: A2 :: A3 :: A4 :: B1 :: B2 :: B3 :: B4 :: B5 :: B6 :: B7 :: B8 :: B9 :: (247, tabObj gt) :: W9 := fun {_ _ _ _ _ _ _ _ _ _ _ _ _ _} => List.mem_append_right _ (by repeat (first | exact List.mem_cons_self | apply List.mem_cons_of_mem))
  have hV8 : ∀ {A1 A2 A3 A4 B1 B3 B4 B5 B6 B7 B8 B9 B10 : Addr × Obj}, Kept (DatAll (tl ++ A1 :: A2 :: A3 :: A4 :: B1 :: q :: B3 :: B4 :: B5 :: B6 :: B7 :: B8 :: B9 :: B10 :: rs) vs2 (((c0 :: cr).map hp2 ++ [(nmS 1 (1 - u1), Str.ofString "#\t")]).map hdr2)) := fun {_ _ _ _ _ _ _ _ _ _ _ _ _} => ⟨hD2.out.mono fun r hr => List.mem_append_right _ (by
    rcases List.mem_cons.mp hr with rfl | hr
    · exact List.mem_cons_of_mem _ (List.mem_cons_of_mem _ (List.mem_cons_of_mem _ (List.mem_cons_of_mem _ (List.mem_cons_of_mem _ List.mem_cons_self))))
    · repeat (first | exact hr | apply List.mem_cons_of_mem))⟩
  have hY8 : ∀ {W9 : List (Addr × Obj)}, Kept (DatAll (tl ++ W9) ys (((c0 :: cr).map hp2).map hdr2)) := fun {_} => ⟨hY.mono fun r hr => List.mem_append_left _ hr⟩
  obtain ⟨rst, N9, mg8, ma9, mo2, hV8, hY8⟩ : ∃ rst, News h₀ L h9 ((sa, W.listOf ys.toArray ky) :: rst) ∧ (247, tabObj gt) ∈ rst ∧ (a9, W.listOf vs2.toArray 0) ∈ rst ∧ (L + 1 + 1 + 1 + 1, o2) ∈ rst ∧ Kept (DatAll rst vs2 (((c0 :: cr).map hp2 ++ [(nmS 1 (1 - u1), Str.ofString "#\t")]).map hdr2)) ∧ Kept (DatAll rst ys (((c0 :: cr).map hp2).map hdr2)) := ⟨_, N9, mg8, ma9, mo2, hV8, hY8⟩
  clear hap hsa hY hD2 b9 mxa mdx mD mR N1 F1
  have hyz : ys.length ≤ 5 := by rw [hyl]; simp only [List.length_append, List.length_cons, List.length_nil]; omega
  walk_at "m_stepsT"
  rename Fr h₀ L _ m => F2
  rename News _ _ _ (_ :: _ :: _ :: _ :: rst) => N2
  k_dflt (refine' eq_same (xs := vs2) (ys := ys ++ [_]) (ds := (((c0 :: cr).map hp2 ++ [(nmS 1 (1 - u1), Str.ofString "#\t")]).map hdr2)) N2 ?m1 rfl ?c2 List.mem_cons_self rfl ?c3 ?c4 ?ku ?_)
  (case m1 => exact List.mem_cons_of_mem _ (List.mem_cons_of_mem _ (List.mem_cons_of_mem _ (List.mem_cons_of_mem _ ma9))))
  (case c2 => exact hV8.out.mono fun r hr => List.mem_cons_of_mem _ (List.mem_cons_of_mem _ (List.mem_cons_of_mem _ (List.mem_cons_of_mem _ hr))))
  (case c3 =>
    rw [List.map_append]
    exact (hY8.out.mono fun r hr => List.mem_cons_of_mem _ (List.mem_cons_of_mem _ (List.mem_cons_of_mem _ (List.mem_cons_of_mem _ hr)))).append (.cons (.tuple (List.mem_cons_of_mem _ (List.mem_cons_of_mem _ List.mem_cons_self)) (.cons (.str _ _) (.cons (.str _ _) .nil))) .nil))
  (case c4 =>
    intro d hd
    rw [List.map_append] at hd
    rcases List.mem_append.mp hd with hd | hd
    · exact ok_hdrs hok2 d hd
    · rw [List.mem_singleton.mp hd]
      have q1 := hp2_ok (c := ((1 : Int), 1 - u1)) ⟨show (0 : Int) ≤ 1 by decide, show (1 : Int) < 6 by decide⟩
      have q2 : PyData.strOk (Str.ofString "#\t") = true := by decide +kernel
      simp only [kqdOk, List.all_cons, List.all_nil, Bool.and_true, q1.1, q2])
  (case ku => ktr_units)
  walk_at "m_stepsE"
  exact hret _ _ _ _ gt F2 N2 (List.mem_cons_of_mem _ (List.mem_cons_of_mem _ (List.mem_cons_of_mem _ (List.mem_cons_of_mem _ mg8))))
end
theorem rest_46 : True := by
  w_top off
  try walk1
  first | done | exact True.intro
section
set_option maxRecDepth 100000 in
set_option maxHeartbeats 8000000 in
/-- the law's last six statements, from the list `refused` on -/
theorem law_tail {w : World} {p : Program} {loose : List Str} {mean : ExcName → Option Value} {mg mb : Str → Option Value} {h₀ : Heap} {L fa : Addr} {m : Str → Option Value} {s : Shared} {Q : Flow → Shared → Prop} {E : Value → Shared → Prop}
    {hl xa dx D : Addr} {tkx : Tok} {e kd : Nat} {vs yd : List Value} {c0 : Int × Int} {u1 : Int} {cr : List (Int × Int)} {rs : List (Addr × Obj)} {o1 o2 o3 o4 o5 : Obj} {sgn : Str} {ts : Tok} {ov : Option Value}
    (B : Below callerA h₀ [] h₀) (X : (Mine.hd.heap_39 w.params).In h₀) (T : Top p loose mean mg mb h₀) (C : CodeHd h₀ 249 247) (l0 : @LT.lt Nat _ 247 L)
    (F : Fr h₀ L s.heap m) (N : News h₀ L s.heap ((L + 1 + 1 + 1 + 1 + 1, o1) :: (L + 1 + 1 + 1 + 1, o2) :: (L + 1 + 1 + 1, o3) :: (L + 1 + 1, o4) :: (L + 1, o5) :: (247, tabObj #[]) :: (hl, W.listOf vs.toArray e) :: rs))
    (d1 : o1.data = .cell (some (.str sgn ts))) (d2 : o2.data = .cell ov) (d3 : o3.data = .cell (some (.ref xa)))
    (mxa : (xa, instObj 184 dx) ∈ rs) (mdx : (dx, dictOf (hdrEs w tkx hl) 1) ∈ rs) (mD : (D, W.listOf yd.toArray kd) ∈ rs)
    (hDue : Kept (DatAll rs yd ((c0 :: (1, u1) :: cr).map card2))) (hDat : Kept (DatAll rs vs (((c0 :: (1, u1) :: cr).map hp2).map hdr2)))
    (a247 : ∀ q ∈ rs, q.1 ≠ 247) (ahl : ∀ q ∈ rs, q.1 ≠ hl) (ac2 : ∀ q ∈ rs, q.1 ≠ L + 1 + 1 + 1 + 1) (hl247 : @Ne Nat hl 247) (hL : @Ne Nat hl (L + 1 + 1 + 1 + 1 + 1) ∧ @Ne Nat hl (L + 1 + 1 + 1 + 1) ∧ @Ne Nat hl (L + 1 + 1 + 1) ∧ @Ne Nat hl (L + 1 + 1) ∧ @Ne Nat hl (L + 1))
    (hsg : SgOk sgn) (mdue : m (Str.ofString "due") = some (.ref D)) (hok : Okc (c0 :: (1, u1) :: cr)) (hln : (c0 :: (1, u1) :: cr).length ≤ 6)
    (hret : ∀ h' tk' m' news' gt, Fr h₀ L h' m' → News h₀ L h' news' → (247, tabObj gt) ∈ news' → Q (.ret (.bool true)) { s with heap := h', toks := tk' })
    : LawRun w 11 L fa Q E s := by
  refine law_t11 B X T C l0 F N d1 d3 mxa mdx mD hDue hDat a247 ahl ac2 hl247 (hL.2.1) hsg mdue hok hln ?_
  intro h1 tk1 R r1 r2 r3 r4 a1 a2 a3 a4 F1 N1 z
  obtain ⟨z1, z2, z3⟩ := z
  have mR : (R, W.listOf #[Value.str errS r1, Value.str errS r2, Value.str errS r3, Value.str errS r4] 0) ∈ (R, W.listOf #[Value.str errS r1, Value.str errS r2, Value.str errS r3, Value.str errS r4] 0) :: rs := List.mem_cons_self
  have up : ∀ q ∈ rs, q ∈ (R, W.listOf #[Value.str errS r1, Value.str errS r2, Value.str errS r3, Value.str errS r4] 0) :: rs := fun q hq => List.mem_cons_of_mem _ hq
  have mdue1 : (fun y => if y = Str.ofString "refused" then some (Value.ref R) else m y) (Str.ofString "due") = some (.ref D) := (if_neg (by decide)).trans mdue
  have mref1 : (fun y => if y = Str.ofString "refused" then some (Value.ref R) else m y) (Str.ofString "refused") = some (.ref R) := if_pos rfl
  have hDue1 := Kept.mk (hDue.out.mono up)
  have hDat1 := Kept.mk (hDat.out.mono up)
  have a247' : ∀ q ∈ (R, W.listOf #[Value.str errS r1, Value.str errS r2, Value.str errS r3, Value.str errS r4] 0) :: rs, q.1 ≠ 247 := List.forall_mem_cons.mpr ⟨Nat.ne_of_gt z3, a247⟩
  have ahl' : ∀ q ∈ (R, W.listOf #[Value.str errS r1, Value.str errS r2, Value.str errS r3, Value.str errS r4] 0) :: rs, q.1 ≠ hl := List.forall_mem_cons.mpr ⟨Nat.ne_of_gt z1, ahl⟩
  have ac2' : ∀ q ∈ (R, W.listOf #[Value.str errS r1, Value.str errS r2, Value.str errS r3, Value.str errS r4] 0) :: rs, q.1 ≠ L + 1 + 1 + 1 + 1 := List.forall_mem_cons.mpr ⟨Nat.ne_of_gt z2, ac2⟩
  refine law_t12 (ts := ts) (sgn := sgn) (cs := c0 :: (1, u1) :: cr) (u1 := u1) (c0 := c0) (cr := cr) (r1 := r1) (r2 := r2) (r3 := r3) (r4 := r4) B X T C l0 F1 N1 (up _ mxa) (up _ mdx) (up _ mD) mR d3 hDue1 hDat1 mdue1 mref1 hok hln ?_
  intro h2 tk2 F2 N2
  refine law_t13 (ts := ts) (sgn := sgn) (cs := c0 :: (1, u1) :: cr) (u1 := u1) (c0 := c0) (cr := cr) (r1 := r1) (r2 := r2) (r3 := r3) (r4 := r4) B X T C l0 F2 N2 (up _ mxa) (up _ mdx) (up _ mD) mR hDue1 mdue1 d2 ac2' hL ?_
  intro h3 tk3 o2' t' F3 d2' N3
  refine law_t14 (ts := ts) (sgn := sgn) (cs := c0 :: (1, u1) :: cr) (u1 := u1) (c0 := c0) (cr := cr) (r1 := r1) (r2 := r2) (r3 := r3) (r4 := r4) B X T C l0 F3 N3 (up _ mxa) (up _ mdx) (up _ mD) mR d1 d2' d3 hDat1 hok hln a247' hl247 ahl' hL hsg ?_
  intro h4 tk4 tt vs4 e4 a5 F4 hDat4 N4
  have mdue2 : (fun y => if y = Str.ofString "told" then some (Value.str errS tt) else (fun y => if y = Str.ofString "refused" then some (Value.ref R) else m y) y) (Str.ofString "due") = some (.ref D) := (if_neg (by decide)).trans mdue1
  have mref2 : (fun y => if y = Str.ofString "told" then some (Value.str errS tt) else (fun y => if y = Str.ofString "refused" then some (Value.ref R) else m y) y) (Str.ofString "refused") = some (.ref R) := (if_neg (by decide)).trans mref1
  have mtold2 : (fun y => if y = Str.ofString "told" then some (Value.str errS tt) else (fun y => if y = Str.ofString "refused" then some (Value.ref R) else m y) y) (Str.ofString "told") = some (.str errS tt) := if_pos rfl
  refine law_t15 (ts := tt) (sgn := sgn) (cs := c0 :: (1, u1) :: cr) (u1 := u1) (c0 := c0) (cr := cr) (r1 := r1) (r2 := r2) (r3 := r3) (r4 := r4) B X T C l0 F4 N4 (up _ mxa) (up _ mdx) (up _ mD) mR d3 hDue1 hDat4 hok hln mdue2 mref2 mtold2 ?_
  intro h5 tk5 F5 N5
  refine law_t16 (ts := ts) (sgn := sgn) (cs := c0 :: (1, u1) :: cr) (u1 := u1) (c0 := c0) (cr := cr) (r1 := r1) (r2 := r2) (r3 := r3) (r4 := r4) B X T C l0 F5 N5 (up _ mxa) (up _ mdx) (up _ mD) mR d2' d3 hDue1 hDat4 hok hln mdue2 a247' hl247 ahl' hL ?_
  intro h6 tk6 m6 nw6 gt F6 N6 mg6
  exact hret _ _ _ _ _ F6 N6 mg6
end
theorem rest_47 : True := by
  w_top off
  try walk1
  first | done | exact True.intro
section
theorem cs_shape {cs : List (Int × Int)} {n : Nat} (h : numsOf cs = List.range n) (h2 : 2 ≤ n) (hok : Okc cs) : ∃ c0 u1 cr, cs = c0 :: (1, u1) :: cr := by
  obtain ⟨k, rfl⟩ : ∃ k, n = k + 2 := ⟨n - 2, by omega⟩
  match cs, h, hok with
  | [], h, _ => simp [numsOf] at h
  | [a], h, _ =>
    have := congrArg List.length h
    simp [numsOf] at this
  | a :: (n1, u1) :: r, h, hok =>
    have e : (numsOf (a :: (n1, u1) :: r))[1]? = (List.range (k + 2))[1]? := by rw [h]
    have hb := hok.1 (n1, u1) (by simp)
    simp [numsOf] at e
    have e1 : n1 = 1 := by
      dsimp only at hb
      omega
    subst e1
    exact ⟨a, u1, r, rfl⟩
theorem law_far3 {c1 c2 c3 c5 g : Addr × Obj} {cu hl D : Addr} {oc e : Obj} {rs3 tl : List (Addr × Obj)} (X : LawFix c1 c2 c3 c5 g cu hl rs3 []) (hap : ∀ t ∈ tl, ∀ q ∈ c1 :: c2 :: c3 :: (cu, oc) :: c5 :: g :: (hl, e) :: rs3, q.1 ≠ t.1) (o5 : LCg.Off1 D (c1 :: c2 :: c3 :: (cu, oc) :: c5 :: g :: (hl, e) :: (tl ++ rs3))) :
    ((∀ q ∈ tl ++ rs3, q.1 ≠ c1.1) ∧ (∀ q ∈ tl ++ rs3, q.1 ≠ c2.1) ∧ (∀ q ∈ tl ++ rs3, q.1 ≠ g.1) ∧ (∀ q ∈ tl ++ rs3, q.1 ≠ hl)) ∧ (hl ≠ c1.1 ∧ hl ≠ c2.1 ∧ hl ≠ c3.1 ∧ hl ≠ cu ∧ hl ≠ c5.1 ∧ hl ≠ g.1) ∧ (D ≠ c1.1 ∧ D ≠ c2.1 ∧ D ≠ g.1 ∧ D ≠ hl) := by
  have o := off1_at o5
  refine ⟨⟨fun q hq => ?_, fun q hq => ?_, fun q hq => ?_, fun q hq => ?_⟩, ⟨(X.nhl _ (.head _)).symm, (X.nhl _ (.tail _ (.head _))).symm, (X.nhl _ (.tail _ (.tail _ (.head _)))).symm, (X.nhl _ (.tail _ (.tail _ (.tail _ (.head _))))).symm, (X.nhl _ (.tail _ (.tail _ (.tail _ (.tail _ (.head _)))))).symm, (X.nhl _ (.tail _ (.tail _ (.tail _ (.tail _ (.tail _ (.head _))))))).symm⟩, ⟨(o c1 (.head _)).symm, (o c2 (.tail _ (.head _))).symm, (o g (.tail _ (.tail _ (.tail _ (.tail _ (.tail _ (.head _))))))).symm, (o (hl, e) (.tail _ (.tail _ (.tail _ (.tail _ (.tail _ (.tail _ (.head _)))))))).symm⟩⟩
  · rcases List.mem_append.mp hq with hq | hq
    · exact (hap q hq c1 (.head _)).symm
    · exact X.arst q hq _ (.head _)
  · rcases List.mem_append.mp hq with hq | hq
    · exact (hap q hq c2 (.tail _ (.head _))).symm
    · exact X.arst q hq _ (.tail _ (.head _))
  · rcases List.mem_append.mp hq with hq | hq
    · exact (hap q hq g (.tail _ (.tail _ (.tail _ (.tail _ (.tail _ (.head _))))))).symm
    · exact X.arst q hq _ (.tail _ (.tail _ (.tail _ (.tail _ (.tail _ (.head _))))))
  · rcases List.mem_append.mp hq with hq | hq
    · exact (hap q hq (hl, e) (.tail _ (.tail _ (.tail _ (.tail _ (.tail _ (.tail _ (.head _)))))))).symm
    · exact X.arst q hq _ (.tail _ (.tail _ (.tail _ (.tail _ (.tail _ (.tail _ (.head _)))))))
set_option maxRecDepth 100000 in
set_option maxHeartbeats 8000000 in
/-- the law's end, from the store of `sign` on -/
theorem law_end {w : World} {p : Program} {loose : List Str} {mean : ExcName → Option Value} {mg mb : Str → Option Value} {h₀ : Heap} {L fa : Addr} {m : Str → Option Value} {s : Shared} {Q : Flow → Shared → Prop} {E : Value → Shared → Prop} {sc : Scope} {b : List Stmt}
    {hl xa dx D T0 : Addr} {tkx : Tok} {e kd : Nat} {vs yd : List Value} {cs : List (Int × Int)} {rs : List (Addr × Obj)} {o1 o2 o3 o4 o5 oT : Obj} {sg : Int} {ts : Tok} {ov1 ov : Option Value} {k2 : Nat}
    (hsc : sc = lawScope) (hb : b = lawBody.drop 11) (hcl : (cellsFrom (L + 1) sc.names []).lookup (Str.ofString "sign") = some (L + 1 + 1 + 1 + 1 + 1)) (hk : sc.kind = .function) (hx : (envOfC (Str.ofString "law") sc L fa (.ref 249)).kindOf (Str.ofString "sign") = some .cell)
    (B : Below callerA h₀ [] h₀) (X : (Mine.hd.heap_39 w.params).In h₀) (T : Top p loose mean mg mb h₀) (C : CodeHd h₀ 249 247) (l0 : @LT.lt Nat _ 247 L)
    (F : Fr h₀ L s.heap m) (N : News h₀ L s.heap ((T0, oT) :: (D, W.listOf yd.toArray kd) :: (L + 1 + 1 + 1 + 1 + 1, o1) :: (L + 1 + 1 + 1 + 1, o2) :: (L + 1 + 1 + 1, o3) :: (L + 1 + 1, o4) :: (L + 1, o5) :: (247, tabObj #[]) :: (hl, W.listOf vs.toArray e) :: rs))
    (d1 : o1.data = .cell ov1) (d2 : o2.data = .cell ov) (d3 : o3.data = .cell (some (.ref xa)))
    (mxa : (xa, instObj 184 dx) ∈ rs) (mdx : (dx, dictOf (hdrEs w tkx hl) 1) ∈ rs)
    (hDue : Kept (DatAll rs yd (cs.map card2))) (hDat : Kept (DatAll rs vs ((cs.map hp2).map hdr2)))
    (hfar : ((∀ q ∈ rs, q.1 ≠ L + 1 + 1 + 1 + 1 + 1) ∧ (∀ q ∈ rs, q.1 ≠ L + 1 + 1 + 1 + 1) ∧ (∀ q ∈ rs, q.1 ≠ 247) ∧ (∀ q ∈ rs, q.1 ≠ hl)) ∧ (hl ≠ L + 1 + 1 + 1 + 1 + 1 ∧ hl ≠ L + 1 + 1 + 1 + 1 ∧ hl ≠ L + 1 + 1 + 1 ∧ hl ≠ L + 1 + 1 ∧ hl ≠ L + 1 ∧ hl ≠ 247) ∧ (D ≠ L + 1 + 1 + 1 + 1 + 1 ∧ D ≠ L + 1 + 1 + 1 + 1 ∧ D ≠ 247 ∧ D ≠ hl))
    (hsg : sg = 0 ∨ sg = 8 ∨ sg = 10 ∨ sg = 11 ∨ sg = 13 ∨ sg = 31 ∨ sg = 127) (mdue : m (Str.ofString "due") = some (.ref D)) (hnum : numsOf cs = List.range k2) (hk2 : 2 ≤ k2 ∧ k2 ≤ 6) (hok : Okc cs)
    (hret : ∀ h' tk' m' news' gt, Fr h₀ L h' m' → News h₀ L h' news' → (247, tabObj gt) ∈ news' → Q (.ret (.bool true)) { s with heap := h', toks := tk' }) :
    wpAny (model PySem.Challenge.rw_wb0122_01.prog w) (callerA.deeper (envOfC (Str.ofString "law") sc L fa (.ref 249))) (storeName (envOfC (Str.ofString "law") sc L fa (.ref 249)) (Str.ofString "sign") (.str { cps := #[sg.toNat] } ts))
      (fun _ s' => wpAny (model PySem.Challenge.rw_wb0122_01.prog w) (callerA.deeper (envOfC (Str.ofString "law") sc L fa (.ref 249))) (execs b (envOfC (Str.ofString "law") sc L fa (.ref 249))) Q E s') E s := by
  obtain ⟨⟨f1, f2, f3, f4⟩, ⟨g1, g2, g3, g4, g5, g6⟩, ⟨q1, q2, q3, q4⟩⟩ := hfar
  have hlen : cs.length ≤ 6 := by
    have := congrArg List.length hnum
    simp only [numsOf, List.length_map, List.length_range] at this
    omega
  obtain ⟨c0, u1, cr, rfl⟩ := cs_shape hnum hk2.1 hok
  have N1 := led_in8r (news_tail N)
  have up : ∀ q ∈ rs, q ∈ (D, W.listOf yd.toArray kd) :: rs := fun q hq => List.mem_cons_of_mem _ hq
  have U : UpdF (L + 1 + 1 + 1 + 1 + 1) o1 ((L + 1 + 1 + 1 + 1 + 1, o1) :: (L + 1 + 1 + 1 + 1, o2) :: (L + 1 + 1 + 1, o3) :: (L + 1 + 1, o4) :: (L + 1, o5) :: (247, tabObj #[]) :: (hl, W.listOf vs.toArray e) :: (D, W.listOf yd.toArray kd) :: rs) (fun o' => (L + 1 + 1 + 1 + 1 + 1, o') :: (L + 1 + 1 + 1 + 1, o2) :: (L + 1 + 1 + 1, o3) :: (L + 1 + 1, o4) :: (L + 1, o5) :: (247, tabObj #[]) :: (hl, W.listOf vs.toArray e) :: (D, W.listOf yd.toArray kd) :: rs) := by
    refine .head (List.forall_mem_cons.mpr ⟨Nat.ne_of_lt (Nat.lt_succ_self _), List.forall_mem_cons.mpr ⟨?_, List.forall_mem_cons.mpr ⟨?_, List.forall_mem_cons.mpr ⟨?_, List.forall_mem_cons.mpr ⟨?_, List.forall_mem_cons.mpr ⟨g1, List.forall_mem_cons.mpr ⟨q1, f1⟩⟩⟩⟩⟩⟩⟩)
    · exact Nat.ne_of_lt (show @LT.lt Nat _ (L + 1 + 1 + 1) (L + 1 + 1 + 1 + 1 + 1) from Nat.lt_succ_of_lt (Nat.lt_succ_self _))
    · exact Nat.ne_of_lt (show @LT.lt Nat _ (L + 1 + 1) (L + 1 + 1 + 1 + 1 + 1) from Nat.lt_succ_of_lt (Nat.lt_succ_of_lt (Nat.lt_succ_self _)))
    · exact Nat.ne_of_lt (show @LT.lt Nat _ (L + 1) (L + 1 + 1 + 1 + 1 + 1) from Nat.lt_succ_of_lt (Nat.lt_succ_of_lt (Nat.lt_succ_of_lt (Nat.lt_succ_self _))))
    · exact Nat.ne_of_lt (show @LT.lt Nat _ 247 (L + 1 + 1 + 1 + 1 + 1) from Nat.lt_succ_of_lt (Nat.lt_succ_of_lt (Nat.lt_succ_of_lt (Nat.lt_succ_of_lt (Nat.lt_succ_of_lt l0)))))
  show wpAny _ _ (storeName (envX (Str.ofString "law") sc L fa (.ref 249) (cellsFrom (L + 1) sc.names [])) _ _) _ _ _
  refine storeX_C F N1 hcl U d1 (fun h' o' F' N' d' => ?_) hk hx
  refine lawRun_of ?_ hsc hb
  exact law_tail B X T C l0 F' N' d' d2 d3 (up _ mxa) (up _ mdx) List.mem_cons_self (Kept.mk (hDue.out.mono up)) (Kept.mk (hDat.out.mono up))
    (List.forall_mem_cons.mpr ⟨q3, f3⟩) (List.forall_mem_cons.mpr ⟨q4, f4⟩) (List.forall_mem_cons.mpr ⟨q2, f2⟩) g6 ⟨g1, g2, g3, g4, g5⟩ (sg_ok hsg) mdue hok hlen hret
end
theorem rest_48 : True := by
  w_top off
  try walk1
  first | done | exact True.intro
end
theorem rest_outer : True := by
  w_top off
  try walk1
  first | done | exact True.intro
section
theorem wp_gen {M : Model} {A : Around} {α : Type} {t : Sem α} {Q : α → Shared → Prop} {E : Value → Shared → Prop} {s : Shared} (h : ∀ Q' : α → Shared → Prop, (∀ v s, Q v s → Q' v s) → wpAny M A t Q' (fun _ _ => False) s) : wpAny M A t Q E s := wpAny_mono (h Q fun _ _ h => h) (fun _ _ x => x) fun _ _ x => x.elim
theorem size_facts {size : Int} (h : size = 4 ∨ size = 6) : (size.toNat = 4 ∧ size.toNat / 2 = 2 ∨ size.toNat = 6 ∧ size.toNat / 2 = 3) ∧ size.toNat ≤ 6 ∧ (2 ≤ size.toNat ∧ size.toNat ≤ 6) ∧ 2 * (size.toNat / 2) = size.toNat ∧ size.toNat ≤ 100 ∧ size = ((size.toNat : Nat) : Int) ∧ 0 < size ∧ size ≠ 0 := by
  rcases h with rfl | rfl <;> decide
theorem len46 {n : Nat} {size : Int} (h : size = 4 ∨ size = 6) (e : n = size.toNat) : (n = 4 ∨ n = 6) ∧ n % 2 = 0 ∧ n ≤ 60 := by
  rcases h with rfl | rfl
  · have e : n = 4 := e
    subst e; decide
  · have e : n = 6 := e
    subst e; decide
theorem two46 {n k : Nat} (e : n = k) (h : k = 4 ∨ k = 6) : 2 ≤ n := by omega
theorem len38 {α : Type} {r : List α} {k : Nat} (e : r.length + 1 + 1 = k) (h : k = 4 ∨ k = 6) : r.length ≤ 38 := by omega
section
variable {α : Type} {r : List α} {a b : α}
theorem l40 (h : r.length ≤ 38) : r.length ≤ 40 := Nat.le_trans h (by decide)
theorem l40c (h : r.length ≤ 38) : (a :: r).length ≤ 40 := Nat.le_trans (Nat.succ_le_succ h) (by decide)
theorem l40e (h : r.length ≤ 38) : (r ++ [a]).length ≤ 40 := by rw [List.length_append]; exact Nat.le_trans (Nat.succ_le_succ h) (by decide)
theorem l40ce (h : r.length ≤ 38) : (a :: (r ++ [b])).length ≤ 40 := Nat.succ_le_succ (by rw [List.length_append]; exact Nat.succ_le_succ h)
theorem l40t (h : r.length ≤ 38) : (r ++ [a, b]).length ≤ 40 := by rw [List.length_append]; exact Nat.succ_le_succ (Nat.succ_le_succ h)
theorem l40ee (h : r.length ≤ 38) : (r ++ [a] ++ [b]).length ≤ 40 := by rw [List.length_append, List.length_append]; exact Nat.succ_le_succ (Nat.succ_le_succ h)
end
theorem lap_b {size : Int} (h : size = 4 ∨ size = 6) (i : Nat) : size.fdiv 2 + (i : Int).fmod 2 = ((size.toNat / 2 + i % 2 : Nat) : Int) := by
  rw [Int.fmod_eq_emod_of_nonneg _ (by decide)]
  rcases h with rfl | rfl
  · show (2 : Int) + _ = ((2 + i % 2 : Nat) : Int)
    omega
  · show (3 : Int) + _ = ((3 + i % 2 : Nat) : Int)
    omega
theorem lap_n {size : Int} (h : size = 4 ∨ size = 6) (i : Nat) : size.toNat / 2 + i % 2 ≤ 100 := by
  have e := (size_facts h).2.1
  omega
theorem fm_n {x size : Int} (h : size = 4 ∨ size = 6) (hx : 0 ≤ x ∧ x < size) : x = ((x.toNat : Nat) : Int) ∧ x.toNat ≤ 100 := by omega
theorem range_ok {size : Int} (h : size = 4 ∨ size = 6) : Builtin.Range.small 0 size 1 = true ∧ Builtin.Range.rangeSize 0 size 1 = ((size.toNat : Nat) : Int) ∧ size.toNat ≤ 16777216 := by
  rcases h with rfl | rfl <;> exact ⟨small_one (by decide) (by decide) (by decide) (by decide), by rw [rangeSize_one]; rfl, by decide⟩
theorem sg_b {sg : Int} (h : sg = 0 ∨ sg = 8 ∨ sg = 10 ∨ sg = 11 ∨ sg = 13 ∨ sg = 31 ∨ sg = 127) : 0 ≤ sg ∧ sg ≤ 1114111 := by
  rcases h with rfl | rfl | rfl | rfl | rfl | rfl | rfl <;> decide
theorem ln64 {n k : Nat} (e : n = k + 1 + 1) (h : k ≤ 38) : n ≤ 64 := by rw [e]; exact Nat.le_trans (Nat.succ_le_succ (Nat.succ_le_succ h)) (by decide)
theorem cq_odd {c n : Int} (h : n.fmod 2 ≠ 0) : c + 1 - n.fmod 2 = c := by
  rw [Int.fmod_eq_emod_of_nonneg _ (by decide)] at h ⊢; omega
theorem cq_even {c n : Int} (h : n.fmod 2 = 0) : c + 1 - n.fmod 2 = c + 1 := by rw [h, Int.sub_zero]
theorem law_led1 {h₀ h : Heap} {L : Addr} {ca d la q0 c1 c2 c3 c4 c5 g : Addr × Obj} {tl : List (Addr × Obj)} (N : News h₀ L h (ca :: (tl ++ [d, la, q0, c1, c2, c3, c4, c5, g]))) : News h₀ L h (c1 :: c2 :: c3 :: c4 :: c5 :: g :: (ca :: la :: tl)) := fun p hp => by
  refine N p ?_
  simp only [List.mem_cons, List.mem_append, List.not_mem_nil, or_false] at hp ⊢
  rcases hp with h | h | h | h | h | h | h | h | h <;> simp [h]
theorem law_led2 {h₀ h : Heap} {L : Addr} {e d2 d c1 c2 c3 c4 c5 g : Addr × Obj} {tl rst : List (Addr × Obj)} (N : News h₀ L h (e :: d2 :: d :: (tl ++ c1 :: c2 :: c3 :: c4 :: c5 :: g :: rst))) : News h₀ L h (c1 :: c2 :: c3 :: c4 :: c5 :: g :: (e :: rst)) := fun p hp => by
  refine N p ?_
  simp only [List.mem_cons, List.mem_append] at hp ⊢
  rcases hp with h | h | h | h | h | h | h | h <;> simp [h]
theorem law_off {D3 : Addr} {d2 d c1 c2 c3 c4 c5 g : Addr × Obj} {tl rst : List (Addr × Obj)} (o1 : LCg.Off1 D3 (d2 :: d :: (tl ++ c1 :: c2 :: c3 :: c4 :: c5 :: g :: rst))) : D3 ≠ c1.1 ∧ D3 ≠ c2.1 ∧ D3 ≠ c3.1 ∧ D3 ≠ c4.1 ∧ D3 ≠ c5.1 ∧ D3 ≠ g.1 := by
  have q := off1_at o1
  refine ⟨fun e => q c1 ?_ e.symm, fun e => q c2 ?_ e.symm, fun e => q c3 ?_ e.symm, fun e => q c4 ?_ e.symm, fun e => q c5 ?_ e.symm, fun e => q g ?_ e.symm⟩ <;> simp
theorem law_ext {e : Addr × Obj} {rst : List (Addr × Obj)} {a : Addr} (h : ∀ q ∈ rst, q.1 ≠ a) (he : e.1 ≠ a) : ∀ q ∈ e :: rst, q.1 ≠ a := fun q hq => by
  rcases List.mem_cons.mp hq with rfl | hq
  · exact he
  · exact h q hq
theorem law_led3 {h₀ h : Heap} {L : Addr} {e c1 c2 c3 c4 c5 g : Addr × Obj} {tl rst : List (Addr × Obj)} (N : News h₀ L h (e :: (tl ++ c1 :: c2 :: c3 :: c4 :: c5 :: g :: rst))) : News h₀ L h (c1 :: c2 :: c3 :: c4 :: c5 :: g :: e :: (tl ++ rst)) := fun p hp => by
  refine N p ?_
  simp only [List.mem_cons, List.mem_append] at hp ⊢
  rcases hp with h | h | h | h | h | h | h | h | h <;> simp [h]
theorem law_led4 {h₀ h : Heap} {L : Addr} {x d e c1 c2 c3 c4 c5 g : Addr × Obj} {rst : List (Addr × Obj)} (N : News h₀ L h (x :: d :: c1 :: c2 :: c3 :: c4 :: c5 :: g :: e :: rst)) : News h₀ L h (c1 :: c2 :: c3 :: c4 :: c5 :: g :: e :: x :: d :: rst) := fun p hp => by
  refine N p ?_
  simp only [List.mem_cons] at hp ⊢
  rcases hp with h | h | h | h | h | h | h | h | h | h <;> simp [h]
theorem law_tl {c1 c2 c3 c4 c5 g : Addr × Obj} {hl : Addr} {tl rst : List (Addr × Obj)} (hap : ∀ t ∈ tl, ∀ q ∈ c1 :: c2 :: c3 :: c4 :: c5 :: g :: rst, q.1 ≠ t.1) (hhl : ∀ q ∈ tl ++ c1 :: c2 :: c3 :: c4 :: c5 :: g :: rst, q.1 ≠ hl)
    (hx : ∀ p ∈ [c1, c2, c3, c4, c5, g], ∀ q ∈ rst, q.1 ≠ p.1) : (∀ p ∈ [c1, c2, c3, c4, c5, g], p.1 ≠ hl ∧ ∀ q ∈ tl ++ rst, q.1 ≠ p.1) ∧ ∀ q ∈ tl ++ rst, q.1 ≠ hl := by
  have up : ∀ p ∈ [c1, c2, c3, c4, c5, g], p ∈ c1 :: c2 :: c3 :: c4 :: c5 :: g :: rst := fun p hp => by
    simp only [List.mem_cons, List.not_mem_nil, or_false] at hp ⊢
    rcases hp with h | h | h | h | h | h <;> simp [h]
  refine ⟨fun p hp => ⟨hhl p (List.mem_append_right _ (up p hp)), fun q hq => ?_⟩, fun q hq => ?_⟩
  · rcases List.mem_append.mp hq with hq | hq
    · exact (hap q hq p (up p hp)).symm
    · exact hx p hp q hq
  · rcases List.mem_append.mp hq with hq | hq
    · exact hhl q (List.mem_append_left _ hq)
    · exact hhl q (List.mem_append_right _ (by simp [hq]))
theorem law_xd {c1 c2 c3 c4 c5 g : Addr × Obj} {xa dx : Addr} {ox od e : Obj} {hl : Addr} {rst : List (Addr × Obj)} (b : ∀ q ∈ c1 :: c2 :: c3 :: c4 :: c5 :: g :: (hl, e) :: rst, q.1 < dx) (lt : @LT.lt Nat _ dx xa)
    (hx : (∀ p ∈ [c1, c2, c3, c4, c5, g], p.1 ≠ hl ∧ ∀ q ∈ rst, q.1 ≠ p.1) ∧ ∀ q ∈ rst, q.1 ≠ hl) : (∀ p ∈ [c1, c2, c3, c4, c5, g], p.1 ≠ hl ∧ ∀ q ∈ (xa, ox) :: (dx, od) :: rst, q.1 ≠ p.1) ∧ ∀ q ∈ (xa, ox) :: (dx, od) :: rst, q.1 ≠ hl := by
  have up : ∀ p ∈ [c1, c2, c3, c4, c5, g], p.1 < dx := fun p hp => b p (by
    simp only [List.mem_cons, List.not_mem_nil, or_false] at hp ⊢
    rcases hp with h | h | h | h | h | h <;> simp [h])
  have uh : hl < dx := b (hl, e) (by simp)
  refine ⟨fun p hp => ⟨(hx.1 p hp).1, law_ext (law_ext (hx.1 p hp).2 (Nat.ne_of_gt (up p hp))) (Nat.ne_of_gt (Nat.lt_trans (up p hp) lt))⟩, law_ext (law_ext hx.2 (Nat.ne_of_gt uh)) (Nat.ne_of_gt (Nat.lt_trans uh lt))⟩
theorem six_all {P : Addr → Prop} {a1 a2 a3 a4 a5 a6 : Addr} {o1 o2 o3 o4 o5 o6 : Obj} (h1 : P a1) (h2 : P a2) (h3 : P a3) (h4 : P a4) (h5 : P a5) (h6 : P a6) : ∀ p ∈ [(a1, o1), (a2, o2), (a3, o3), (a4, o4), (a5, o5), (a6, o6)], P p.1 := fun p hp => by
  simp only [List.mem_cons, List.not_mem_nil, or_false] at hp
  rcases hp with rfl | rfl | rfl | rfl | rfl | rfl <;> assumption
theorem clean_items {crd : List (Int × Int)} (hc : ∀ c ∈ crd, 0 ≤ c.1 ∧ c.1 < 6) : ∀ p ∈ crd.map hp2, NotIn 48 p.1 ∧ NotIn 53 p.2 := fun p hp => by
  obtain ⟨c, hc', rfl⟩ := List.mem_map.mp hp
  exact ⟨nm_clean (hc c hc'), vl_clean (hc c hc')⟩
theorem law_apart {d q0 : Addr × Obj} {ca la : Addr} {oc ol : Obj} {cl tl : List (Addr × Obj)} (hap : ∀ t ∈ tl, ∀ q ∈ d :: (la, ol) :: q0 :: cl, q.1 ≠ t.1) (hca : ∀ q ∈ tl ++ d :: (la, ol) :: q0 :: cl, q.1 ≠ ca) (hla : ∀ r ∈ cl, r.1 ≠ la) : ∀ p ∈ cl, ∀ q ∈ (ca, oc) :: (la, ol) :: tl, q.1 ≠ p.1 := by
  intro p hp q hq
  rcases List.mem_cons.mp hq with rfl | hq
  · exact (hca p (List.mem_append_right _ (List.mem_cons_of_mem _ (List.mem_cons_of_mem _ (List.mem_cons_of_mem _ hp))))).symm
  · rcases List.mem_cons.mp hq with rfl | hq
    · exact (hla p hp).symm
    · exact (hap q hq p (List.mem_cons_of_mem _ (List.mem_cons_of_mem _ (List.mem_cons_of_mem _ hp)))).symm
set_option maxRecDepth 100000 in
set_option maxHeartbeats 8000000 in
theorem law_holds : PySem.Challenge.rw_wb0122_01.Holds := by
  refine Mine.hd ?_
  k_go0
  rename World => w
  refine wp_gen ?_
  intro Q0 hQ0
  walk_at "m_stepsL"
  rename (IntsAre _ _) => hI0
  rename Heap.IsList (ghostOf _ _) _ _ => hL0
  rename ¬ _ => hc0
  have hv0 := hI0.length
  walk_at "m_top"
  k_dflt (refine' RunS.use (cells_run hI0 ?c1) hL0 ?k1 ?k2 ?k3 ?k4 ?k5 ?kK ?kd ?ku ?_)
  walk_at "m_use"
  (case c1 => omega)
  intro r9 h9 tk9 news9 F9 N9 P9
  obtain ⟨la, xs, kx, ds, rfl, ⟨q0, rfl, hq0, hqn⟩, hla, hIx, hdl, hd0⟩ := P9
  dsimp only
  walk_at "m_stepsL"
  rename IntsAre _ (List.take (min 7 ds.length - 1) (List.drop 1 ds)) => hI1
  walk_at "m_top"
  have hsz : (4 : Int) + 2 * (ds.getD (0 : Int).toNat 0).fmod 2 = 4 ∨ (4 : Int) + 2 * (ds.getD (0 : Int).toNat 0).fmod 2 = 6 := by
    rw [Int.fmod_eq_emod_of_nonneg _ (by decide)]; omega
  generalize (4 : Int) + 2 * (ds.getD (0 : Int).toNat 0).fmod 2 = size at *
  k_dflt (refine' Run.use (laid_run ?m1 hI1 ?c1 ?c2 hsz) ?k1 ?k2 ?k3 ?k4 ?k5 ?kK ?kd ?ku ?_)
  walk_at "m_use"
  (case m1 => k_mem)
  (case c1 => rw [List.length_take, List.length_drop, hdl]; rfl)
  (case c2 => exact fun d hd => hd0 d (List.mem_of_mem_drop (List.mem_of_mem_take hd)))
  intro r9 h9 tk9 news9 F9 N9 P9
  obtain ⟨ca, cvs, kc, crd, tl, rfl, e9, hap, hca, hC, hcl, hcb, hnd⟩ := P9
  subst news9
  dsimp only
  replace N9 := law_led1 N9
  have hxx := law_apart (oc := W.listOf cvs.toArray kc) hap hca hla
  clear hap hca hla hqn hq0 hI1
  have hx1 := hxx _ List.mem_cons_self
  have hx2 := hxx _ (List.mem_cons_of_mem _ List.mem_cons_self)
  have hx3 := hxx _ (List.mem_cons_of_mem _ (List.mem_cons_of_mem _ List.mem_cons_self))
  have hx4 := hxx _ (List.mem_cons_of_mem _ (List.mem_cons_of_mem _ (List.mem_cons_of_mem _ List.mem_cons_self)))
  have hx5 := hxx _ (List.mem_cons_of_mem _ (List.mem_cons_of_mem _ (List.mem_cons_of_mem _ (List.mem_cons_of_mem _ List.mem_cons_self))))
  have hx6 := hxx _ (List.mem_cons_of_mem _ (List.mem_cons_of_mem _ (List.mem_cons_of_mem _ (List.mem_cons_of_mem _ (List.mem_cons_of_mem _ List.mem_cons_self)))))
  clear hxx
  dsimp only at hx1 hx2 hx3 hx4 hx5 hx6
  replace hC := Kept.mk (hC.mono (fun q hq => List.mem_cons_of_mem (ca, W.listOf cvs.toArray kc) (List.mem_cons_of_mem (la, W.listOf xs.toArray kx) hq)))
  have mca : (ca, W.listOf cvs.toArray kc) ∈ (ca, W.listOf cvs.toArray kc) :: (la, W.listOf xs.toArray kx) :: tl := List.mem_cons_self
  have mla : (la, W.listOf xs.toArray kx) ∈ (ca, W.listOf cvs.toArray kc) :: (la, W.listOf xs.toArray kx) :: tl := List.mem_cons_of_mem _ List.mem_cons_self
  generalize (ca, W.listOf cvs.toArray kc) :: (la, W.listOf xs.toArray kx) :: tl = rst at *
  walk_at "m_stepsL"
  k_dflt (refine wpAny_Assign_Name ?_)
  k_dflt (refine LCp.ListComp_P (F₀ := by k_asm) (by with_unfolding_all rfl) (by decide) (by rfl) (by decide) (by rfl) (by rfl) (by decide) ?_)
  walk_at "m_stepsL"
  k_dflt (refine listComp_any (by with_unfolding_all rfl) (by rfl) (by decide) ?_)
  walk_at "m_stepsL"
  have hcn : crd.length = size.toNat := by omega
  have hc46 := (len46 hsz hcn).1
  have hcv : cvs.length = crd.length := by rw [hC.out.length, List.length_map]
  obtain ⟨prs, hP, hS⟩ := intPrs_of hC.out
  rename Fr _ _ _ _ => cF
  rename News _ _ _ (_ :: _ :: _ :: _ :: _ :: _ :: rst) => cN
  refine enum_comp2 (prs := prs) rfl (by decide) (by rfl) (by rfl) (by rfl) (by rfl) (by decide) (by decide) (by decide) cF cN (by k_mem) (hP.mono fun q hq => by repeat (first | exact hq | apply List.mem_cons_of_mem)) (by rw [PySem.sizeLine_eq]; omega)
    (fun i ys tl => DatAll tl ys (((chg crd).take i).map card2)) .nil ?estep ?efin
  case estep =>
    rintro i ys tl own a b t C oC D m₂ h tk9 E' hp h1 h2 h3 hY hC1 F1 N1
    obtain ⟨z, t, u, hz', rfl, rfl⟩ := hS.get hp
    walk_at "m_stepsL"
    rename Fr _ _ _ _ => fF
    rename News _ _ _ (_ :: (C, oC) :: (D, _) :: _) => fN
    rename C < _ ∧ D < _ ∧ AllLt _ _ => fl
    refine add_one fF fN fl ?_
    rw [chg_take hz', List.map_append]
    exact (hY.mono fun q hq => List.mem_cons_of_mem _ hq).append (.cons (.tuple List.mem_cons_self (.cons (.int _ _) (.cons (.int _ _) .nil))) .nil)
  case efin =>
    rintro D h tk9 ys tl hY F1 N1 hD1 hD2 hap
    clear cN cF
    walk_at "m_stepsL"
    rw [hcv, ← chg_len crd, List.take_length] at hY
    rename Fr _ _ _ _ => cF
    rename News _ _ _ ((D, _) :: _) => cN
    refine sorted_pairs (prs := chg crd) cF cN (News.isList cN List.mem_cons_self) (hY.mono fun q hq => List.mem_cons_of_mem _ (List.mem_append_left _ hq)) ?h0 ?hz ?hp ?_
    case h0 =>
      intro q hq
      obtain ⟨j, u, e, _⟩ := chg_mem hq
      exact (hcb _ (List.mem_of_getElem? e)).1
    case hz => rw [chg_len]; exact hc46
    case hp =>
      rw [nums_chg, chg_len, hcn]
      exact nums_range hnd
    intro D2 c2 h2 ys2 qs F2 N2 lt2 hY2 hq hs
    clear cF cN
    walk_at "m_stepsL"
    have hql : qs.length = crd.length := by
      have e := congrArg List.length hq
      rw [List.length_range, chg_len] at e
      rw [← e]; simp [numsOf]
    have hy2 : ys2.length = qs.length := by rw [hY2.length, List.length_map]
    have hxD : ∀ q ∈ rst, q.1 < D2 := fun q hq => lt2 q (List.mem_cons_of_mem _ (List.mem_append_right _ (by repeat (first | exact hq | apply List.mem_cons_of_mem))))
    obtain ⟨prq, hPq, hSq⟩ := intPrs_of hY2
    replace hPq := hPq.mono fun q hq => List.mem_cons_of_mem (D2, W.listOf ys2.toArray c2) hq
    clear hY2 hD1 hD2 hap lt2 hY
    rename Fr _ _ _ _ => cF
    rename News _ _ _ ((D2, _) :: (D, _) :: _) => cN
    have mD2 := head_mem cN
    refine LCp.SrcLP.ledger (by rfl) cF cN mD2 (by rw [List.size_toArray, PySem.sizeLine_eq]; omega) fun g => ?_
    refine comp_same (fun i zs => IntsAre zs ((qs.take i).map (·.2))) hPq ?_ ?_ .nil
    · rintro i zs v₁ v₂ I oI C oC D m₂ h tk9 E' hI hp hC h1 h2 F1 N1 o3 hne
      walk_at "m_stepsL"
      refine LCg.CompEnd.intro (by k_asm) (by k_asm) _ (fun q hq => hq) o3 (srcAt_of mD2) ⟨rfl, ?_⟩
      obtain ⟨q, t, u, hq, rfl, rfl⟩ := hSq.get hp
      rw [List.take_add_one, hq, List.map_append]
      exact ints_app hI (.cons _ _ .nil)
    · rintro zs hI
      intro D3 h tk9 F1 N1 o1
      replace N1 := law_led2 N1
      obtain ⟨d1, d2, d3, d4, d5, d6⟩ := law_off o1
      clear o1 mD2 hPq hSq cN cF
      dsimp only at d1 d2 d3 d4 d5 d6
      rw [hy2, List.take_length] at hI
      replace hx1 := law_ext (e := (D3, W.listOf zs.toArray zs.length)) hx1 d1
      replace hx2 := law_ext (e := (D3, W.listOf zs.toArray zs.length)) hx2 d2
      replace hx3 := law_ext (e := (D3, W.listOf zs.toArray zs.length)) hx3 d3
      replace hx4 := law_ext (e := (D3, W.listOf zs.toArray zs.length)) hx4 d4
      replace hx5 := law_ext (e := (D3, W.listOf zs.toArray zs.length)) hx5 d5
      replace hx6 := law_ext (e := (D3, W.listOf zs.toArray zs.length)) hx6 d6
      replace mca := List.mem_cons_of_mem (D3, W.listOf zs.toArray zs.length) mca
      replace mla := List.mem_cons_of_mem (D3, W.listOf zs.toArray zs.length) mla
      replace hC := Kept.mk (hC.out.mono fun q hq => List.mem_cons_of_mem (D3, W.listOf zs.toArray zs.length) hq)
      have mch : (D3, W.listOf zs.toArray zs.length) ∈ (D3, W.listOf zs.toArray zs.length) :: rst := List.mem_cons_self
      clear hP hxD
      change News _ _ _ (_ :: _ :: _ :: _ :: _ :: _ :: (D3, W.listOf zs.toArray zs.length) :: rst) at N1
      generalize (D3, W.listOf zs.toArray zs.length) :: rst = rst at *
      walk_at "m_stepsL"
      have hcs : ∀ c ∈ crd, 0 ≤ c.1 ∧ c.1 < 6 := fun c hc => ⟨(hcb c hc).1, Int.lt_of_lt_of_le (hcb c hc).2.1 (hsz.elim (fun e => by rw [e]; decide) fun e => by rw [e]; decide)⟩
      walk_at "m_top"
      k_dflt (refine' Run.use (seen_run ?m1 (hC.out.mono ?c2) hcs ?c1) ?k1 ?k2 ?k3 ?k4 ?k5 ?kK ?kd ?ku ?_)
      walk_at "m_use"
      (case m1 => k_mem)
      (case c2 => exact fun q hq => by repeat (first | exact hq | apply List.mem_cons_of_mem))
      (case c1 => omega)
      intro r9 h9 tk9 news9 F9 N9 P9
      obtain ⟨hl, ys0, ky, tl0, rfl, e9, hyl, hap, hhl, hY⟩ := P9
      subst news9
      dsimp only
      replace N9 := law_led3 N9
      have hx := law_tl hap hhl (six_all (P := fun a => ∀ q ∈ rst, q.1 ≠ a) hx1 hx2 hx3 hx4 hx5 hx6)
      clear hap hhl hx1 hx2 hx3 hx4 hx5 hx6 d1 d2 d3 d4 d5 d6
      replace hY := Kept.mk (hY.mono fun q hq => List.mem_append_left rst hq)
      replace hC := Kept.mk (hC.out.mono fun q hq => List.mem_append_right tl0 hq)
      replace mca := List.mem_append_right tl0 mca
      replace mla := List.mem_append_right tl0 mla
      replace mch := List.mem_append_right tl0 mch
      generalize tl0 ++ rst = rst at *
      walk_at "m_stepsL"
      walk_at "m_top"
      k_dflt (refine' Run.use (new_run ?m3 (hY.out.mono ?c2) (clean_items hcs)) ?k1 ?k2 ?k3 ?k4 ?k5 ?kK ?kd ?ku ?_)
      walk_at "m_use"
      (case m3 => k_mem)
      (case c2 => exact fun q hq => by repeat (first | exact hq | apply List.mem_cons_of_mem))
      intro r9 h9 tk9 news9 F9 N9 P9
      obtain ⟨xa, dx, tkx, rfl, e9, hb1, hb2⟩ := P9
      subst news9
      dsimp only
      replace N9 := law_led4 N9
      replace hx := law_xd (ox := instObj 184 dx) (od := dictOf (hdrEs w tkx hl) 1) hb1 hb2 hx
      clear hb1 hb2
      replace hY := Kept.mk (hY.out.mono fun q hq => List.mem_cons_of_mem (xa, instObj 184 dx) (List.mem_cons_of_mem (dx, dictOf (hdrEs w tkx hl) 1) hq))
      replace hC := Kept.mk (hC.out.mono fun q hq => List.mem_cons_of_mem (xa, instObj 184 dx) (List.mem_cons_of_mem (dx, dictOf (hdrEs w tkx hl) 1) hq))
      replace mca := List.mem_cons_of_mem (xa, instObj 184 dx) (List.mem_cons_of_mem (dx, dictOf (hdrEs w tkx hl) 1) mca)
      replace mla := List.mem_cons_of_mem (xa, instObj 184 dx) (List.mem_cons_of_mem (dx, dictOf (hdrEs w tkx hl) 1) mla)
      replace mch := List.mem_cons_of_mem (xa, instObj 184 dx) (List.mem_cons_of_mem (dx, dictOf (hdrEs w tkx hl) 1) mch)
      have mxa : (xa, instObj 184 dx) ∈ (xa, instObj 184 dx) :: (dx, dictOf (hdrEs w tkx hl) 1) :: rst := List.mem_cons_self
      have mdx : (dx, dictOf (hdrEs w tkx hl) 1) ∈ (xa, instObj 184 dx) :: (dx, dictOf (hdrEs w tkx hl) 1) :: rst := List.mem_cons_of_mem _ List.mem_cons_self
      generalize (xa, instObj 184 dx) :: (dx, dictOf (hdrEs w tkx hl) 1) :: rst = rst at *
      have hx1 := (hx.1 _ List.mem_cons_self).2
      have hx2 := (hx.1 _ (List.mem_cons_of_mem _ List.mem_cons_self)).2
      have hx3 := (hx.1 _ (List.mem_cons_of_mem _ (List.mem_cons_of_mem _ List.mem_cons_self))).2
      have hx4 := (hx.1 _ (List.mem_cons_of_mem _ (List.mem_cons_of_mem _ (List.mem_cons_of_mem _ List.mem_cons_self)))).2
      have hh3 := (hx.1 _ (List.mem_cons_of_mem _ (List.mem_cons_of_mem _ List.mem_cons_self))).1
      have hh4 := (hx.1 _ (List.mem_cons_of_mem _ (List.mem_cons_of_mem _ (List.mem_cons_of_mem _ List.mem_cons_self)))).1
      dsimp only at hx1 hx2 hx3 hx4 hh3 hh4
      replace hh3 := Ne.symm hh3
      replace hh4 := Ne.symm hh4
      walk_at "m_stepsL"
      have hcv1 : crd.length % 2 = 0 := hc46.elim (fun e => by rw [e]) fun e => by rw [e]
      have hcn2 := (size_facts hsz).2.1
      have hst0 := DeckSt.start (crd := crd) fun c hc => (hcb c hc).2.2
      rename Fr _ _ _ _ => lF'
      (with_unfolding_all refine' For_turns lF' ?_)
      k_whole
      walk_at "m_stepsL"
      rename Fr _ _ _ _ => tF
      rename News _ _ _ ((_, W.listOf _ 0) :: _ :: _ :: _ :: _ :: _ :: _ :: _ :: rst) => tN
      rename IntsAre _ (List.drop 7 ds) => tI
      rename _ ∧ _ ∧ _ ∧ _ ∧ _ ∧ _ ∧ _ ∧ AllLt _ rst => tl1
      have X0 := law_fix1 tN (noDat_cell (by assumption)) (noDat_cell (by assumption)) (noDat_cell (by assumption)) (noDat_cell (by assumption)) (noDat_fields rfl) hx tl1
      replace tN := law_led5 tN
      have mxa2 := led_lift tN mxa
      have mdx2 := led_lift tN mdx
      have mla2 := led_lift tN mla
      have mch2 := led_lift tN mch
      refine iter_listTurns rfl tF tN (by k_mem) rfl rfl fun I hI => ?_
      have X := X0.loop hI
      refine law_items (M := fun m => m (Str.ofString "rows") = some (.ref hl) ∧ (∃ t, m (Str.ofString "size") = some (.int size t)) ∧ m (Str.ofString "cells") = some (.ref la)) (P := fun cs cuts => DeckSt crd cs cuts) ?step ?done (ints_ok tI) (by assumption) ⟨hY.out.mono fun q hq => List.mem_cons_of_mem _ hq⟩ (List.mem_cons_of_mem _ mca) ⟨hC.out.mono fun q hq => List.mem_cons_of_mem _ hq⟩ (by walk_at "m_look") ⟨by walk_at "m_look", ⟨_, by walk_at "m_look"⟩, by walk_at "m_look"⟩ hst0
      case done =>
        rintro m2 nw ⟨tl, oc, tc, vs, e, ca2, cvs2, k2, cs, cuts, rfl, hoc, hap, hfx, hD, hm, hC2, hmc, ⟨hmr, ⟨ts, hms⟩, hml⟩, hst⟩ h tk9 F1 N1
        have X2 := X.out hfx
        have mxa3 := List.mem_append_right tl mxa2
        have mdx3 := List.mem_append_right tl mdx2
        have mla3 := List.mem_append_right tl mla2
        have mch3 := List.mem_append_right tl mch2
        clear hap hfx X X0 hI tN tF mxa2 mdx2 mla2 mch2
        generalize tl ++ _ = rs2 at X2 mxa3 mdx3 mla3 mch3 N1 hD hm hC2
        have hf := (size_facts hsz).1
        walk_at "m_stepsL"
        rename Fr _ _ _ _ => lF'
        (with_unfolding_all refine' For_turns lF' ?_)
        k_whole
        walk_at "m_stepsL"
        rename Fr _ _ _ _ => iF
        rename News _ _ _ (_ :: _ :: _ :: _ :: _ :: _ :: _ :: rs2) => iN
        rename IsRange _ _ _ _ _ _ _ _ => iR
        refine law_range (n := size.toNat) (M := fun m => m (Str.ofString "rows") = some (.ref hl) ∧ (∃ t, m (Str.ofString "size") = some (.int size t)) ∧ m (Str.ofString "cells") = some (.ref la)) (P := fun i cs' cuts' => DeckSt crd cs' cuts' ∧ numsOf cs' = (List.range i).foldl (lapN (size.toNat / 2)) (numsOf cs)) rfl iR (size_facts hsz).2.2.2.2.2.1 (size_facts hsz).2.2.2.2.1 iF iN ?lstep ?ldone hoc hD hm hC2 (by walk_at "m_look") ⟨by walk_at "m_look", ⟨_, by walk_at "m_look"⟩, by walk_at "m_look"⟩ ⟨hst, rfl⟩
        case ldone =>
          rintro J m3 nw ⟨tl3, oc3, tc3, vs3, e3, ca3, cvs3, k3, cs3, cuts3, rfl, hoc3, hap3, hfx3, hD3, hm3, hC3, hmc3, ⟨hmr3, ⟨ts3, hms3⟩, hml3⟩, hst3, hnum3⟩ h tk9 F3 N3
          have hord : numsOf cs3 = List.range size.toNat := by
            rw [hnum3]
            have e := rounds_ok hf (nums_range (hst.perm.trans hnd))
            unfold roundsN at e
            rw [(size_facts hsz).2.2.2.1] at e
            exact e
          have hq2 : numsOf qs = List.range size.toNat := by
            rw [hq, chg_len]
            rw [hcn]
          have hdue := due_eq hst3 hnd hq2 hs hord
          have mxa5 := List.mem_append_right tl3 mxa3
          have mdx5 := List.mem_append_right tl3 mdx3
          have mla5 := List.mem_append_right tl3 mla3
          have mch5 := List.mem_append_right tl3 mch3
          have X3 := X2.into2 hfx3
          clear hap3 hfx3 X2 mxa3 mdx3 mla3 mch3
          generalize tl3 ++ _ = rs3 at X3 mxa5 mdx5 mla5 mch5 N3 hD3 hm3 hC3
          walk_at "m_stepsL"
          k_dflt (refine LCg.Assign_ListComp_U (F₀ := by k_asm) rfl (by with_unfolding_all rfl) (by with_unfolding_all rfl) (by decide) (by rfl) (by decide) (by rfl) (by rfl) (by rfl) ?_)
          walk_at "m_stepsL"
          rename Fr _ _ _ _ => cF
          rename News _ _ _ (_ :: _ :: _ :: _ :: _ :: _ :: _ :: rs3) => cN
          rename IsRange _ _ _ _ _ _ _ _ => cR
          have hzl := hI.length
          have hzn : (qs.map (·.2)).length = size.toNat := by rw [List.length_map]; exact hql.trans hcn
          refine LCg.CompSrc.range (n := size.toNat) (by rfl) cF cN cR (range_ok hsz).1 (range_ok hsz).2.1 (by rw [PySem.sizeLine_eq]; exact (range_ok hsz).2.2) fun g => ?_
          refine compU_law (fun i ys tl => DatAll tl ys (((List.range i).map (fun k : Nat => ((k : Int), ((qs.map (·.2)).getD k 0 + (k : Int) + cuts3).fmod 2))).map card2)) ?dstep ?dfin .nil
          case dfin =>
            intro ys tl hR hap
            intro D h tk9 F5 N5 o5
            rw [hdue] at hR
            have mla7 := List.mem_append_right tl mla5
            have mxa7 := List.mem_append_right tl mxa5
            have mdx7 := List.mem_append_right tl mdx5
            have hR7 := Kept.mk (hR.mono fun q hq => List.mem_append_left rs3 hq)
            have hD7 := Kept.mk (hD3.out.mono fun q hq => List.mem_append_right tl hq)
            have hfar := law_far3 X3 hap o5
            dsimp only at hfar
            have hok3 := deck_okc hst3 hnd hcn2
            clear hR hD3 hC3 hm3 mch5 o5
            generalize hrs5 : tl ++ rs3 = rs5 at N5 mla7 mxa7 mdx7 hR7 hD7 hfar
            walk_at "m_stepsL"
            rename Fr _ _ _ _ => sF
            rename News _ _ _ (_ :: (D, _) :: _) => sN
            refine PyProof.Rows.LSm.sum_ints sF sN rfl (News.isList sN (by k_mem)) hIx fun h6 tk6 t6 F6 N6 => ?_
            clear sF sN
            walk_at "m_stepsL"
            obtain ⟨sg, hsg, hsg2⟩ := sign_is (k := ds.sum.fmod 7) ⟨Int.fmod_nonneg_of_pos _ (by decide), Int.fmod_lt_of_pos _ (by decide)⟩
            rw [hsg]
            refine chr_of_range (sg_b hsg2).1 (sg_b hsg2).2 ?_
            walk_at "m_stepsL"
            rename Fr _ _ _ _ => eF
            rename News _ _ _ (_ :: (D, _) :: _) => eN
            k_dflt (refine' law_end (hl := hl) (xa := xa) (dx := dx) (D := D) (tkx := tkx) (vs := vs3) (yd := ys) (kd := ys.length) (cs := cs3) (rs := rs5) (sg := sg) (k2 := size.toNat) ?hsc ?hb ?hcl ?hk ?hx ?B ?X ?T codeHd ?l0 eF eN ?d1 ?d2 ?d3 mxa7 mdx7 hR7 hD7 hfar hsg2 ?due hord ?k2 hok3 ?ret)
            case B => assumption
            case X => assumption
            case T => assumption
            case l0 => assumption
            case hsc => exact rfl
            case hb => exact rfl
            case hcl => exact rfl
            case hk => exact rfl
            case hx => exact rfl
            case d1 => assumption
            case d2 => assumption
            case d3 => assumption
            case due => exact if_pos rfl
            case k2 => exact (size_facts hsz).2.2.1
            case ret =>
              intro h9 tk9 m9 nw9 gt9 F9 N9 mg9
              refine hQ0 _ _ ?_
              refine ⟨?_, ?_⟩
              · kc_close
              · walk_at "GrownAll"
          case dstep =>
            rintro i ys tl v I oI C oC D m₂ h tk9 E' hi hR ⟨t, rfl⟩ hC5 h1 F5 N5 o5 hne
            rw [Int.zero_add] at h1
            have mch6 := List.mem_append_right tl mch5
            generalize hrs : tl ++ rs3 = rs4 at N5 mch6 o5
            walk_at "m_stepsL"
            subst hrs
            rename Fr _ _ _ _ => fF
            rename News _ _ _ (_ :: (I, oI) :: (C, oC) :: (D, _) :: _) => fN
            rename I < _ ∧ C < _ ∧ D < _ ∧ _ ∧ _ ∧ _ ∧ _ ∧ _ ∧ _ ∧ _ ∧ AllLt _ _ => fl
            refine due_end (R := fun y tl' => DatAll tl' (ys ++ [y]) (((List.range (i + 1)).map (fun k : Nat => ((k : Int), ((qs.map (·.2)).getD k 0 + (k : Int) + cuts3).fmod 2))).map card2)) fF fN fl o5 rfl ?_
            rw [List.range_succ, List.map_append, List.map_append]
            exact (hR.mono fun q hq => List.mem_cons_of_mem _ hq).append (.cons (.tuple List.mem_cons_self (.cons (.int _ _) (.cons (.int _ _) .nil))) .nil)
        case lstep =>
          rintro J i m3 nw hJ hi ⟨tl3, oc3, tc3, vs3, e3, ca3, cvs3, k3, cs3, cuts3, rfl, hoc3, hap3, hfx3, hD3, hm3, hC3, hmc3, ⟨hmr3, ⟨ts3, hms3⟩, hml3⟩, hst3, hnum3⟩ t3 h tk9 o3 ho3 F3 N3 Q1 hQ1
          have Y := X2.loop hJ
          simp only [List.cons_append, List.nil_append] at N3
          walk_at "m_stepsL"
          rename Fr _ _ _ _ => lF'
          (with_unfolding_all refine' For_turns lF' ?_)
          k_whole
          walk_at "m_stepsL"
          rename Fr _ _ _ _ => iF
          rename News _ _ _ ((J, o3) :: _ :: _ :: _ :: _ :: _ :: _ :: _ :: _) => iN
          rename IsRange _ _ _ _ _ _ _ _ => iR
          replace iN := law_led5 iN
          refine law_range (n := size.toNat / 2 + i % 2) (M := fun m => m (Str.ofString "rows") = some (.ref hl) ∧ (∃ t, m (Str.ofString "size") = some (.int size t)) ∧ m (Str.ofString "cells") = some (.ref la) ∧ m (Str.ofString "lap") = some (.int (i : Int) t3)) (P := fun j cs' cuts' => DeckSt crd cs' cuts' ∧ numsOf cs' = (List.range j).foldl (stepN (size.toNat / 2) i) (numsOf cs3)) rfl iR (lap_b hsz i) (lap_n hsz i) iF iN ?sstep ?sdone hoc3 ⟨hD3.out.mono fun q hq => List.mem_cons_of_mem _ hq⟩ (List.mem_cons_of_mem _ hm3) ⟨hC3.out.mono fun q hq => List.mem_cons_of_mem _ hq⟩ (by walk_at "m_look") ⟨by walk_at "m_look", ⟨_, by walk_at "m_look"⟩, by walk_at "m_look", by walk_at "m_look"⟩ ⟨hst3, rfl⟩
          case sdone =>
            rintro K m4 nw ⟨tl4, oc4, tc4, vs4, e4, ca4, cvs4, k4, cs4, cuts4, rfl, hoc4, hap4, hfx4, hD4, hm4, hC4, hmc4, ⟨hmr4, hms4, hml4, hmq4⟩, hst4, hnum4⟩ h tk9 F4 N4
            walk_at "m_stepsL"
            have hnum5 : numsOf cs4 = (List.range (i + 1)).foldl (lapN (size.toNat / 2)) (numsOf cs) := by
              rw [List.range_succ, List.foldl_append, ← hnum3]
              exact hnum4
            exact hQ1 _ (law_outer (keep := []) Y (noDat_cls ho3 (by decide) (by decide)) hap3 hfx3 (by k_asm) N4 hoc4 hap4 hfx4 hD4 hm4 hC4 (by assumption) ⟨hmr4, hms4, hml4⟩ ⟨hst4, hnum5⟩ fun n h => trivial)
          case sstep =>
            rintro K j m4 nw hK hj ⟨tl4, oc4, tc4, vs4, e4, ca4, cvs4, k4, cs4, cuts4, rfl, hoc4, hap4, hfx4, hD4, hm4, hC4, hmc4, ⟨hmr4, ⟨ts4, hms4⟩, hml4, hmq4⟩, hst4, hnum4⟩ t4 h tk9 o4 ho4 F4 N4 Q2 hQ2
            have Z := (Y.into hfx3 o3).loop hK
            simp only [List.cons_append, List.nil_append] at N4
            have hl4 := hst4.len
            obtain ⟨c, d, r, rfl⟩ := two_of (cs := cs4) (two46 hl4 hc46)
            simp only [List.length_cons] at hl4
            have a3 := len38 hl4 hc46
            have mx5 := List.mem_cons_of_mem (J, o3) (List.mem_append_right tl3 mxa3)
            have md5 := List.mem_cons_of_mem (J, o3) (List.mem_append_right tl3 mdx3)
            have a1 := noDat_cls ho4 (by decide) (by decide)
            have a2 := deck_okc hst4 hnd hcn2
            have mx4 := List.mem_append_right tl4 (List.mem_cons_of_mem (J, o3) (List.mem_append_right tl3 mxa3))
            have md4 := List.mem_append_right tl4 (List.mem_cons_of_mem (J, o3) (List.mem_append_right tl3 mdx3))
            have hl5 := hD4.out.length
            simp only [List.length_map, List.length_cons] at hl5
            generalize hrs4 : tl4 ++ _ = rs4 at N4 mx4 md4 hm4 hD4 hC4
            walk_at "m_stepsL"
            k_dflt (refine LCg.Assign_ListComp_U (F₀ := by k_asm) rfl (by with_unfolding_all rfl) (by with_unfolding_all rfl) (by decide) (by rfl) (by decide) (by rfl) (by rfl) (by rfl) ?_)
            iterate 3 (walk_at "m_stepL")
            k_dflt (refine' callWith_K0 (K := Mine.hd.heap_39 w.params) ?k1 ?k2 ?_)
            (case k1 => k_in)
            (case k2 => k_is)
            k_whole
            walk_at "m_stepsL"
            walk_at "m_top"
            k_dflt (refine' Run.use (keys_run (vs := vs4) (items := (c :: d :: r).map hp2) ?m1 ?m2 ?m3 (hD4.out.mono ?c2) ?c1) ?k1 ?k2 ?k3 ?k4 ?k5 ?kK ?kd ?ku ?_)
            walk_at "m_use"
            (case m1 => k_mem)
            (case m2 => k_mem)
            (case m3 => k_mem)
            (case c2 => exact fun q hq => by repeat (first | exact hq | apply List.mem_cons_of_mem))
            (case c1 => exact ln64 hl5 a3)
            intro r9 h9 tk9 news9 F9 N9 P9
            obtain ⟨a8, ks8, kk8, rfl, e9, l8, D8, b8⟩ := P9
            subst news9
            dsimp only
            walk_at "m_stepsL"
            rename Fr _ _ _ _ => cF
            rename News _ _ _ ((a8, _) :: _) => cN
            have m8 := head_mem cN
            have l9 := D8.length
            simp only [List.length_map, List.length_cons] at l9
            refine LCg.CompSrc.ledger (by rfl) cF cN m8 (by rw [List.size_toArray, PySem.sizeLine_eq]; exact Nat.le_trans (ln64 l9 a3) (by decide)) fun g => ?_
            refine compU_same (fun i ys => DatAll [] ys ((((c :: d :: r).map hp2).take i).map fun p => Dat.str (Txt.lower p.1))) ?cstep ?cfin .nil
            case cstep =>
              rintro i2 ys v I2 oI C oC D m₂ h tk9 E' hi2 hR hv hC5 h1 F5 N5 o5 hne
              have hi3 : i2 < (((c :: d :: r).map hp2).map fun p => Dat.str p.1).length := by
                rw [← D8.length]; exact hi2
              obtain ⟨v', hv', hdv⟩ := D8.get hi3
              have hvv : v' = v := by
                have e1 : ks8[i2]? = some v := by simpa using hv
                rw [e1] at hv'
                exact (Option.some.inj hv').symm
              subst hvv
              rw [List.getElem_map] at hdv
              have hi4 : i2 < ((c :: d :: r).map hp2).length := by simpa using hi3
              obtain ⟨q, hq⟩ : ∃ q, ((c :: d :: r).map hp2)[i2]? = some q := ⟨_, List.getElem?_eq_getElem hi4⟩
              have e2 : ((c :: d :: r).map hp2)[i2] = q := (List.getElem?_eq_some_iff.mp hq).2
              rw [e2] at hdv
              have hq8 := hp_len a2.1 q (List.mem_of_getElem? hq)
              generalize (c :: d :: r).map hp2 = items at hq hR
              cases hdv with
              | str _ tq =>
                walk_at "m_stepsL"
                show LCg.CompEnd _ _ _ _ _ _ _ _ _ _ _ _ _ _
                refine LCg.CompEnd.intro (by k_asm) (by k_asm) _ (fun q hq => hq) o5 (srcAt_of m8) ⟨rfl, ?_⟩
                rw [List.take_add_one, hq, List.map_append]
                exact hR.append (.cons (.str _ _) .nil)
            case cfin =>
              intro ys hR
              intro D h tk9 F5 N5 o5
              have hR' : DatAll [] ys (((c :: d :: r).map hp2).map fun p => Dat.str (Txt.lower p.1)) := by
                have e : ks8.toArray.size = ((c :: d :: r).map hp2).length := by
                  rw [List.size_toArray, D8.length, List.length_map]
                rw [e, List.take_length] at hR
                exact hR
              cases hR' with
              | cons hn1 hR2 =>
                cases hR2 with
                | cons hn2 hR3 =>
                  cases hn1 with
                  | str _ tn1 =>
                    cases hn2 with
                    | str _ tn2 =>
                      walk_at "m_stepsL"
                      · exact absurd (show size.fdiv 2 = 0 by assumption) (fdz hsz)
                      · skip --"B1"
                        have hodd : i % 2 = 1 := (fm2 i).mp (by assumption)
                        have hj0 : (j : Int).fmod (size.fdiv 2) = 0 := by assumption
                        have hb0 := (fmh hsz j).mp hj0
                        rename News _ _ _ ((D, _) :: (a8, _) :: _) => bN
                        replace bN := news_drop2 bN
                        subst hrs4
                        walk_at "m_top"
                        k_dflt (refine' Run.use (cutL (tk := tkx) (n := 1) Z hap4 hfx4 (by assumption) a1 mx5 md5 hm4 hD4 hC4 a2 ?c1) ?k1 ?k2 ?k3 ?k4 ?k5 ?kK ?kd ?ku ?_)
                        walk_at "m_use"
                        (case c1 => first | exact l40 a3 | exact l40c a3 | exact l40e a3 | exact l40ce a3 | exact l40t a3 | exact l40ee a3)
                        intro r9 h9 tk9 news9 F9 N9 P9
                        obtain ⟨tl5, vs5, e5, ca5, cvs5, k5, rfl, rfl, hap5, hfx5, hD5, hm5, hC5⟩ := P9
                        obtain ⟨hK5, hcu5⟩ := Z.cu1 hfx5
                        try dsimp only at hK5 hcu5
                        have mx56 := List.mem_append_right tl5 mx5
                        have md56 := List.mem_append_right tl5 md5
                        generalize hrs5 : tl5 ++ _ = rs5 at N9 hD5 hm5 hC5 hcu5 mx56 md56
                        simp only [List.cons_append, List.nil_append] at N9
                        dsimp only
                        walk_at "m_stepsL"
                        any_goals (refine absurd hj0 ?_; assumption)
                        have hfin := end_alone hst4 hcv1 hnum4 hodd hb0
                        walk_at "m_top"
                        k_dflt (refine' Run.use (right_law (its := [(K, o4)]) (tk := tkx) (n := 1) mx56 md56 hm5 hD5.out hC5.out (deck_okc hfin.1 hnd hcn2).1 ?c1) ?k1 ?k2 ?k3 ?k4 ?k5 ?kK ?kd ?ku ?_)
                        walk_at "m_use"
                        (case c1 => first | exact l40 a3 | exact l40c a3 | exact l40e a3 | exact l40ce a3 | exact l40t a3 | exact l40ee a3)
                        intro r9 h9 tk9 news9 F9 N9 P9
                        obtain ⟨rfl, rfl⟩ := P9
                        dsimp only
                        walk_at "m_stepsL"
                        subst hrs5
                        exact hQ2 _ (law_endR Z (by k_asm) N9 (by assumption) hap5 hfx5 hD5 hm5 hC5 (by walk_at "m_look") ⟨by walk_at "m_look", ⟨_, by walk_at "m_look"⟩, by walk_at "m_look", by walk_at "m_look"⟩ hfin)
                      · skip --"B2"
                        rename (j : Int).fmod (size.fdiv 2) ≠ 0 => hb0
                        have hna : ¬ (i % 2 = 1 ∧ j % (size.toNat / 2) = 0) := fun q => hb0 ((fmh hsz j).mpr q.2)
                        have hlt := (lt_names (a2.1 c (by simp)) (a2.1 d (by simp))).mp (by assumption)
                        rename News _ _ _ ((D, _) :: (a8, _) :: _) => bN
                        replace bN := news_drop2 bN
                        subst hrs4
                        walk_at "m_top"
                        k_dflt (refine' Run.use (turnL (tk := tkx) (n := 1) Z hap4 hfx4 (by assumption) a1 mx5 md5 hm4 hD4 hC4 a2 ?c1) ?k1 ?k2 ?k3 ?k4 ?k5 ?kK ?kd ?ku ?_)
                        walk_at "m_use"
                        (case c1 => first | exact l40 a3 | exact l40c a3 | exact l40e a3 | exact l40ce a3 | exact l40t a3 | exact l40ee a3)
                        intro r9 h9 tk9 news9 F9 N9 P9
                        obtain ⟨tl5, vs5, e5, ca5, cvs5, k5, rfl, rfl, hap5, hfx5, hD5, hm5, hC5⟩ := P9
                        obtain ⟨hK5, hcu5⟩ := Z.cu1 hfx5
                        try dsimp only at hK5 hcu5
                        have mx56 := List.mem_append_right tl5 mx5
                        have md56 := List.mem_append_right tl5 md5
                        generalize hrs5 : tl5 ++ _ = rs5 at N9 hD5 hm5 hC5 hcu5 mx56 md56
                        simp only [List.cons_append, List.nil_append] at N9
                        dsimp only
                        walk_at "m_stepsL"
                        have hfin := end_turn hst4 hcv1 hnum4 hna hlt (a2.1 d (by simp)).1
                        walk_at "m_top"
                        k_dflt (refine' Run.use (right_law (its := [(K, o4)]) (tk := tkx) (n := 1) mx56 md56 hm5 hD5.out hC5.out (deck_okc hfin.1 hnd hcn2).1 ?c1) ?k1 ?k2 ?k3 ?k4 ?k5 ?kK ?kd ?ku ?_)
                        walk_at "m_use"
                        (case c1 => first | exact l40 a3 | exact l40c a3 | exact l40e a3 | exact l40ce a3 | exact l40t a3 | exact l40ee a3)
                        intro r9 h9 tk9 news9 F9 N9 P9
                        obtain ⟨rfl, rfl⟩ := P9
                        dsimp only
                        walk_at "m_stepsL"
                        subst hrs5
                        exact hQ2 _ (law_endR Z (by k_asm) N9 (by assumption) hap5 hfx5 hD5 hm5 hC5 (by walk_at "m_look") ⟨by walk_at "m_look", ⟨_, by walk_at "m_look"⟩, by walk_at "m_look", by walk_at "m_look"⟩ hfin)
                      · skip --"B3"
                        have hodd : i % 2 = 1 := (fm2 i).mp (by assumption)
                        rename ¬ (Txt.lower (hp2 d).fst).cps.toList < _ => hge0
                        have hge : ¬ d.1 < c.1 := fun q => hge0 ((lt_names (a2.1 c (by simp)) (a2.1 d (by simp))).mpr q)
                        rename News _ _ _ ((D, _) :: (a8, _) :: _) => bN
                        replace bN := news_drop2 bN
                        subst hrs4
                        walk_at "m_top"
                        k_dflt (refine' Run.use (cutL (tk := tkx) (n := 1) Z hap4 hfx4 (by assumption) a1 mx5 md5 hm4 hD4 hC4 a2 ?c1) ?k1 ?k2 ?k3 ?k4 ?k5 ?kK ?kd ?ku ?_)
                        walk_at "m_use"
                        (case c1 => first | exact l40 a3 | exact l40c a3 | exact l40e a3 | exact l40ce a3 | exact l40t a3 | exact l40ee a3)
                        intro r9 h9 tk9 news9 F9 N9 P9
                        obtain ⟨tl5, vs5, e5, ca5, cvs5, k5, rfl, rfl, hap5, hfx5, hD5, hm5, hC5⟩ := P9
                        obtain ⟨hK5, hcu5⟩ := Z.cu1 hfx5
                        try dsimp only at hK5 hcu5
                        have mx56 := List.mem_append_right tl5 mx5
                        have md56 := List.mem_append_right tl5 md5
                        generalize hrs5 : tl5 ++ _ = rs5 at N9 hD5 hm5 hC5 hcu5 mx56 md56
                        simp only [List.cons_append, List.nil_append] at N9
                        dsimp only
                        walk_at "m_stepsL"
                        · have hb0 := (fmh hsz j).mp (by assumption)
                          have hfin := end_alone hst4 hcv1 hnum4 hodd hb0
                          walk_at "m_top"
                          k_dflt (refine' Run.use (right_law (its := [(K, o4)]) (tk := tkx) (n := 1) mx56 md56 hm5 hD5.out hC5.out (deck_okc hfin.1 hnd hcn2).1 ?c1) ?k1 ?k2 ?k3 ?k4 ?k5 ?kK ?kd ?ku ?_)
                          walk_at "m_use"
                          (case c1 => first | exact l40 a3 | exact l40c a3 | exact l40e a3 | exact l40ce a3 | exact l40t a3 | exact l40ee a3)
                          intro r9 h9 tk9 news9 F9 N9 P9
                          obtain ⟨rfl, rfl⟩ := P9
                          dsimp only
                          walk_at "m_stepsL"
                          subst hrs5
                          exact hQ2 _ (law_endR Z (by k_asm) N9 (by assumption) hap5 hfx5 hD5 hm5 hC5 (by walk_at "m_look") ⟨by walk_at "m_look", ⟨_, by walk_at "m_look"⟩, by walk_at "m_look", by walk_at "m_look"⟩ hfin)
                        · exact absurd (show (j : Int).fmod (size.fdiv 2) = 0 by assumption) (by assumption)
                        · rename (j : Int).fmod (size.fdiv 2) ≠ 0 => hb0
                          have hna : ¬ (i % 2 = 1 ∧ j % (size.toNat / 2) = 0) := fun q => hb0 ((fmh hsz j).mpr q.2)
                          subst hrs5
                          have hD5 : Kept (DatAll _ vs5 (((d :: (r ++ [c])).map hp2).map hdr2)) := hD5
                          have hC5 : Kept (DatAll _ cvs5 ((d :: (r ++ [c])).map card2)) := hC5
                          walk_at "m_top"
                          k_dflt (refine' Run.use (cutL (tk := tkx) (n := 1) Z hap5 hfx5 (by assumption) a1 mx5 md5 hm5 hD5 hC5 (deck_okc (hst4.cut hcv1) hnd hcn2) ?c1) ?k1 ?k2 ?k3 ?k4 ?k5 ?kK ?kd ?ku ?_)
                          walk_at "m_use"
                          (case c1 => first | exact l40 a3 | exact l40c a3 | exact l40e a3 | exact l40ce a3 | exact l40t a3 | exact l40ee a3)
                          intro r9 h9 tk9 news9 F9 N9 P9
                          obtain ⟨tl6, vs6, e6, ca6, cvs6, k6, rfl, rfl, hap6, hfx6, hD6, hm6, hC6⟩ := P9
                          obtain ⟨hK6, hcu6⟩ := Z.cu1 hfx6
                          try dsimp only at hK6 hcu6
                          have mx66 := List.mem_append_right tl6 mx5
                          have md66 := List.mem_append_right tl6 md5
                          generalize hrs6 : tl6 ++ _ = rs6 at N9 hD6 hm6 hC6 hcu6 mx66 md66
                          simp only [List.cons_append, List.nil_append] at N9
                          dsimp only
                          walk_at "m_stepsL"
                          any_goals (refine absurd ?_ hb0; assumption)
                          have hfin := end_cut2 hst4 hcv1 hnum4 hna hge (a2.1 c (by simp)).1
                          walk_at "m_top"
                          k_dflt (refine' Run.use (right_law (its := [(K, o4)]) (tk := tkx) (n := 1) mx66 md66 hm6 hD6.out hC6.out (deck_okc hfin.1 hnd hcn2).1 ?c1) ?k1 ?k2 ?k3 ?k4 ?k5 ?kK ?kd ?ku ?_)
                          walk_at "m_use"
                          (case c1 => first | exact l40 a3 | exact l40c a3 | exact l40e a3 | exact l40ce a3 | exact l40t a3 | exact l40ee a3)
                          intro r9 h9 tk9 news9 F9 N9 P9
                          obtain ⟨rfl, rfl⟩ := P9
                          dsimp only
                          walk_at "m_stepsL"
                          subst hrs6
                          exact hQ2 _ (law_endR Z (by k_asm) N9 (by assumption) hap6 hfx6 hD6 hm6 hC6 (by walk_at "m_look") ⟨by walk_at "m_look", ⟨_, by walk_at "m_look"⟩, by walk_at "m_look", by walk_at "m_look"⟩ hfin)
                      · exact absurd (show (i : Int).fmod 2 = 1 by assumption) (by assumption)
                      · skip --"B5"
                        rename (i : Int).fmod 2 ≠ 1 => hev0
                        have hna : ¬ (i % 2 = 1 ∧ j % (size.toNat / 2) = 0) := fun q => hev0 ((fm2 i).mpr q.1)
                        have hlt := (lt_names (a2.1 c (by simp)) (a2.1 d (by simp))).mp (by assumption)
                        rename News _ _ _ ((D, _) :: (a8, _) :: _) => bN
                        replace bN := news_drop2 bN
                        subst hrs4
                        walk_at "m_top"
                        k_dflt (refine' Run.use (turnL (tk := tkx) (n := 1) Z hap4 hfx4 (by assumption) a1 mx5 md5 hm4 hD4 hC4 a2 ?c1) ?k1 ?k2 ?k3 ?k4 ?k5 ?kK ?kd ?ku ?_)
                        walk_at "m_use"
                        (case c1 => first | exact l40 a3 | exact l40c a3 | exact l40e a3 | exact l40ce a3 | exact l40t a3 | exact l40ee a3)
                        intro r9 h9 tk9 news9 F9 N9 P9
                        obtain ⟨tl5, vs5, e5, ca5, cvs5, k5, rfl, rfl, hap5, hfx5, hD5, hm5, hC5⟩ := P9
                        obtain ⟨hK5, hcu5⟩ := Z.cu1 hfx5
                        try dsimp only at hK5 hcu5
                        have mx56 := List.mem_append_right tl5 mx5
                        have md56 := List.mem_append_right tl5 md5
                        generalize hrs5 : tl5 ++ _ = rs5 at N9 hD5 hm5 hC5 hcu5 mx56 md56
                        simp only [List.cons_append, List.nil_append] at N9
                        dsimp only
                        walk_at "m_stepsL"
                        have hfin := end_turn hst4 hcv1 hnum4 hna hlt (a2.1 d (by simp)).1
                        walk_at "m_top"
                        k_dflt (refine' Run.use (right_law (its := [(K, o4)]) (tk := tkx) (n := 1) mx56 md56 hm5 hD5.out hC5.out (deck_okc hfin.1 hnd hcn2).1 ?c1) ?k1 ?k2 ?k3 ?k4 ?k5 ?kK ?kd ?ku ?_)
                        walk_at "m_use"
                        (case c1 => first | exact l40 a3 | exact l40c a3 | exact l40e a3 | exact l40ce a3 | exact l40t a3 | exact l40ee a3)
                        intro r9 h9 tk9 news9 F9 N9 P9
                        obtain ⟨rfl, rfl⟩ := P9
                        dsimp only
                        walk_at "m_stepsL"
                        subst hrs5
                        exact hQ2 _ (law_endR Z (by k_asm) N9 (by assumption) hap5 hfx5 hD5 hm5 hC5 (by walk_at "m_look") ⟨by walk_at "m_look", ⟨_, by walk_at "m_look"⟩, by walk_at "m_look", by walk_at "m_look"⟩ hfin)
                      · skip --"B6"
                        rename (i : Int).fmod 2 ≠ 1 => hev0
                        have hna : ¬ (i % 2 = 1 ∧ j % (size.toNat / 2) = 0) := fun q => hev0 ((fm2 i).mpr q.1)
                        rename ¬ (Txt.lower (hp2 d).fst).cps.toList < _ => hge0
                        have hge : ¬ d.1 < c.1 := fun q => hge0 ((lt_names (a2.1 c (by simp)) (a2.1 d (by simp))).mpr q)
                        rename News _ _ _ ((D, _) :: (a8, _) :: _) => bN
                        replace bN := news_drop2 bN
                        subst hrs4
                        walk_at "m_top"
                        k_dflt (refine' Run.use (cutL (tk := tkx) (n := 1) Z hap4 hfx4 (by assumption) a1 mx5 md5 hm4 hD4 hC4 a2 ?c1) ?k1 ?k2 ?k3 ?k4 ?k5 ?kK ?kd ?ku ?_)
                        walk_at "m_use"
                        (case c1 => first | exact l40 a3 | exact l40c a3 | exact l40e a3 | exact l40ce a3 | exact l40t a3 | exact l40ee a3)
                        intro r9 h9 tk9 news9 F9 N9 P9
                        obtain ⟨tl5, vs5, e5, ca5, cvs5, k5, rfl, rfl, hap5, hfx5, hD5, hm5, hC5⟩ := P9
                        obtain ⟨hK5, hcu5⟩ := Z.cu1 hfx5
                        try dsimp only at hK5 hcu5
                        have mx56 := List.mem_append_right tl5 mx5
                        have md56 := List.mem_append_right tl5 md5
                        generalize hrs5 : tl5 ++ _ = rs5 at N9 hD5 hm5 hC5 hcu5 mx56 md56
                        simp only [List.cons_append, List.nil_append] at N9
                        dsimp only
                        walk_at "m_stepsL"
                        any_goals (refine absurd ?_ hev0; assumption)
                        subst hrs5
                        have hD5 : Kept (DatAll _ vs5 (((d :: (r ++ [c])).map hp2).map hdr2)) := hD5
                        have hC5 : Kept (DatAll _ cvs5 ((d :: (r ++ [c])).map card2)) := hC5
                        walk_at "m_top"
                        k_dflt (refine' Run.use (cutL (tk := tkx) (n := 1) Z hap5 hfx5 (by assumption) a1 mx5 md5 hm5 hD5 hC5 (deck_okc (hst4.cut hcv1) hnd hcn2) ?c1) ?k1 ?k2 ?k3 ?k4 ?k5 ?kK ?kd ?ku ?_)
                        walk_at "m_use"
                        (case c1 => first | exact l40 a3 | exact l40c a3 | exact l40e a3 | exact l40ce a3 | exact l40t a3 | exact l40ee a3)
                        intro r9 h9 tk9 news9 F9 N9 P9
                        obtain ⟨tl6, vs6, e6, ca6, cvs6, k6, rfl, rfl, hap6, hfx6, hD6, hm6, hC6⟩ := P9
                        obtain ⟨hK6, hcu6⟩ := Z.cu1 hfx6
                        try dsimp only at hK6 hcu6
                        have mx66 := List.mem_append_right tl6 mx5
                        have md66 := List.mem_append_right tl6 md5
                        generalize hrs6 : tl6 ++ _ = rs6 at N9 hD6 hm6 hC6 hcu6 mx66 md66
                        simp only [List.cons_append, List.nil_append] at N9
                        dsimp only
                        walk_at "m_stepsL"
                        any_goals (refine absurd ?_ hev0; assumption)
                        have hfin := end_cut2 hst4 hcv1 hnum4 hna hge (a2.1 c (by simp)).1
                        walk_at "m_top"
                        k_dflt (refine' Run.use (right_law (its := [(K, o4)]) (tk := tkx) (n := 1) mx66 md66 hm6 hD6.out hC6.out (deck_okc hfin.1 hnd hcn2).1 ?c1) ?k1 ?k2 ?k3 ?k4 ?k5 ?kK ?kd ?ku ?_)
                        walk_at "m_use"
                        (case c1 => first | exact l40 a3 | exact l40c a3 | exact l40e a3 | exact l40ce a3 | exact l40t a3 | exact l40ee a3)
                        intro r9 h9 tk9 news9 F9 N9 P9
                        obtain ⟨rfl, rfl⟩ := P9
                        dsimp only
                        walk_at "m_stepsL"
                        subst hrs6
                        exact hQ2 _ (law_endR Z (by k_asm) N9 (by assumption) hap6 hfx6 hD6 hm6 hC6 (by walk_at "m_look") ⟨by walk_at "m_look", ⟨_, by walk_at "m_look"⟩, by walk_at "m_look", by walk_at "m_look"⟩ hfin)
      case step =>
        rintro v m2 nw ⟨n2, t2, rfl⟩ ⟨tl, oc, tc, vs, e, ca2, cvs2, k2, cs, cuts, rfl, hoc, hap, hfx, hD, hm, hC2, hmc, ⟨hmr, ⟨ts, hms⟩, hml⟩, hst⟩ h tk9 F1 o1 ho1 N1 Q1 hQ1
        have hs0 := (size_facts hsz).2.2.2.2.2.2.2
        walk_at "m_stepsL"
        rename Fr _ _ _ _ => lF'
        (with_unfolding_all refine' For_turns lF' ?_)
        k_whole
        walk_at "m_stepsL"
        · rename Fr _ _ _ _ => iF
          rename News _ _ _ ([(I, o1)] ++ _ :: _) => iN
          rename IsRange _ _ _ _ _ _ _ _ => iR
          rename n2.fmod 2 ≠ 0 => hpar
          replace iN := law_led6 iN
          refine law_range (n := 1) (M := fun m => m (Str.ofString "rows") = some (.ref hl) ∧ (∃ t, m (Str.ofString "size") = some (.int size t)) ∧ m (Str.ofString "cells") = some (.ref la) ∧ m (Str.ofString "cell") = some (.int n2 t2)) (P := fun _ cs cuts => DeckSt crd cs cuts) rfl iR rfl (by decide) iF iN ?istep ?idone hoc ⟨hD.out.mono fun q hq => List.mem_cons_of_mem _ hq⟩ (List.mem_cons_of_mem _ hm) ⟨hC2.out.mono fun q hq => List.mem_cons_of_mem _ hq⟩ (by walk_at "m_look") ⟨by walk_at "m_look", ⟨_, by walk_at "m_look"⟩, by walk_at "m_look", by walk_at "m_look"⟩ hst
          case istep =>
            rintro J i m3 nw hJ hi ⟨tl3, oc3, tc3, vs3, e3, ca3, cvs3, k3, cs3, cuts3, rfl, hoc3, hap3, hfx3, hD3, hm3, hC3, hmc3, ⟨hmr3, ⟨ts3, hms3⟩, hml3, hmq3⟩, hst3⟩ t3 h tk9 o3 ho3 F3 N3 Q2 hQ2
            have Y := (X.into hfx o1).loop hJ
            have hl3 := hst3.len
            obtain ⟨c, d, r, rfl⟩ := two_of (cs := cs3) (two46 hl3 hc46)
            simp only [List.length_cons] at hl3
            simp only [List.cons_append, List.nil_append] at N3
            iterate 13 (walk_at "m_stepL")
            any_goals (refine absurd ?_ hpar; assumption)
            walk_at "m_stepsL"
            walk_at "m_top"
            have mx3 := List.mem_cons_of_mem (I, o1) (List.mem_append_right tl mxa2)
            have md3 := List.mem_cons_of_mem (I, o1) (List.mem_append_right tl mdx2)
            have a1 := noDat_cls ho3 (by decide) (by decide)
            have a2 := deck_okc hst3 hnd hcn2
            have a3 := len38 hl3 hc46
            k_dflt (refine' Run.use (turnL Y hap3 hfx3 hoc3 a1 mx3 md3 hm3 hD3 hC3 a2 ?c1) ?k1 ?k2 ?k3 ?k4 ?k5 ?kK ?kd ?ku ?_)
            walk_at "m_use"
            (case c1 => first | exact l40 a3 | exact l40c a3 | exact l40e a3 | exact l40ce a3 | exact l40t a3 | exact l40ee a3)
            intro r9 h9 tk9 news9 F9 N9 P9
            obtain ⟨tl4, vs4, e4, ca4, cvs4, k4, rfl, rfl, hap4, hfx4, hD4, hm4, hC4⟩ := P9
            obtain ⟨hJ4, hcu4⟩ := Y.cu1 hfx4
            try dsimp only at hJ4 hcu4
            have hst4 := hst3.turn hcv1
            have hok4 := deck_okc hst4 hnd hcn2
            have hl4 := hst4.len
            generalize hrs : tl4 ++ _ = rs4 at N9 hD4 hm4 hC4 hcu4
            have mx4 : (xa, instObj 184 dx) ∈ rs4 := hrs ▸ List.mem_append_right tl4 mx3
            have md4 : (dx, dictOf (hdrEs w tkx hl) 1) ∈ rs4 := hrs ▸ List.mem_append_right tl4 md3
            simp only [List.cons_append, List.nil_append] at N9
            dsimp only
            walk_at "m_stepsL"
            walk_at "m_top"
            k_dflt (refine' Run.use (right_law (its := [(J, o3)]) (tk := tkx) (n := 1) mx4 md4 hm4 hD4.out hC4.out hok4.1 ?c1) ?k1 ?k2 ?k3 ?k4 ?k5 ?kK ?kd ?ku ?_)
            walk_at "m_use"
            (case c1 => first | exact l40 a3 | exact l40c a3 | exact l40e a3 | exact l40ce a3 | exact l40t a3 | exact l40ee a3)
            intro r9 h9 tk9 news9 F9 N9 P9
            obtain ⟨rfl, rfl⟩ := P9
            dsimp only
            walk_at "m_stepsL"
            subst hrs
            have hcq : cuts3 + 1 - n2.fmod 2 = cuts3 := cq_odd hpar
            rw [← hcq] at hst4
            exact hQ2 _ (law_endR Y (by k_asm) N9 (by assumption) hap4 hfx4 hD4 hm4 hC4 (by walk_at "m_look") ⟨by walk_at "m_look", ⟨_, by walk_at "m_look"⟩, by walk_at "m_look", by walk_at "m_look"⟩ hst4)
          case idone =>
            rintro J m3 nw ⟨tl3, oc3, tc3, vs3, e3, ca3, cvs3, k3, cs3, cuts3, rfl, hoc3, hap3, hfx3, hD3, hm3, hC3, hmc3, ⟨hmr3, hms3, hml3, hmq3⟩, hst3⟩ h tk9 F3 N3
            walk_at "m_stepsL"
            exact hQ1 _ (law_outer X (noDat_cls ho1 (by decide) (by decide)) hap hfx (by k_asm) N3 hoc3 hap3 hfx3 hD3 hm3 hC3 (by assumption) ⟨hmr3, hms3, hml3⟩ hst3 fun n h => ⟨h _ List.mem_cons_self, trivial⟩)
        · rename Fr _ _ _ _ => iF
          rename News _ _ _ ([(I, o1)] ++ _ :: _) => iN
          rename IsRange _ _ _ _ _ _ _ _ => iR
          rename n2.fmod 2 = 0 => hpar
          replace iN := law_led6 iN
          have hfm : 0 ≤ (n2.fdiv 2).fmod size ∧ (n2.fdiv 2).fmod size < size := ⟨Int.fmod_nonneg_of_pos _ (size_facts hsz).2.2.2.2.2.2.1, Int.fmod_lt_of_pos _ (size_facts hsz).2.2.2.2.2.2.1⟩
          refine law_range (n := ((n2.fdiv 2).fmod size).toNat) (M := fun m => m (Str.ofString "rows") = some (.ref hl) ∧ (∃ t, m (Str.ofString "size") = some (.int size t)) ∧ m (Str.ofString "cells") = some (.ref la) ∧ m (Str.ofString "cell") = some (.int n2 t2)) (P := fun _ cs cuts => DeckSt crd cs cuts) rfl iR (fm_n hsz hfm).1 (fm_n hsz hfm).2 iF iN ?istep ?idone hoc ⟨hD.out.mono fun q hq => List.mem_cons_of_mem _ hq⟩ (List.mem_cons_of_mem _ hm) ⟨hC2.out.mono fun q hq => List.mem_cons_of_mem _ hq⟩ (by walk_at "m_look") ⟨by walk_at "m_look", ⟨_, by walk_at "m_look"⟩, by walk_at "m_look", by walk_at "m_look"⟩ hst
          case istep =>
            rintro J i m3 nw hJ hi ⟨tl3, oc3, tc3, vs3, e3, ca3, cvs3, k3, cs3, cuts3, rfl, hoc3, hap3, hfx3, hD3, hm3, hC3, hmc3, ⟨hmr3, ⟨ts3, hms3⟩, hml3, hmq3⟩, hst3⟩ t3 h tk9 o3 ho3 F3 N3 Q2 hQ2
            have Y := (X.into hfx o1).loop hJ
            have hl3 := hst3.len
            obtain ⟨c, d, r, rfl⟩ := two_of (cs := cs3) (two46 hl3 hc46)
            simp only [List.length_cons] at hl3
            simp only [List.cons_append, List.nil_append] at N3
            iterate 13 (walk_at "m_stepL")
            any_goals (refine absurd hpar ?_; assumption)
            walk_at "m_stepsL"
            walk_at "m_top"
            have mx3 := List.mem_cons_of_mem (I, o1) (List.mem_append_right tl mxa2)
            have md3 := List.mem_cons_of_mem (I, o1) (List.mem_append_right tl mdx2)
            have a1 := noDat_cls ho3 (by decide) (by decide)
            have a2 := deck_okc hst3 hnd hcn2
            have a3 := len38 hl3 hc46
            k_dflt (refine' Run.use (cutL Y hap3 hfx3 hoc3 a1 mx3 md3 hm3 hD3 hC3 a2 ?c1) ?k1 ?k2 ?k3 ?k4 ?k5 ?kK ?kd ?ku ?_)
            walk_at "m_use"
            (case c1 => first | exact l40 a3 | exact l40c a3 | exact l40e a3 | exact l40ce a3 | exact l40t a3 | exact l40ee a3)
            intro r9 h9 tk9 news9 F9 N9 P9
            obtain ⟨tl4, vs4, e4, ca4, cvs4, k4, rfl, rfl, hap4, hfx4, hD4, hm4, hC4⟩ := P9
            obtain ⟨hJ4, hcu4⟩ := Y.cu1 hfx4
            try dsimp only at hJ4 hcu4
            have hst4 := hst3.cut hcv1
            have hok4 := deck_okc hst4 hnd hcn2
            have hl4 := hst4.len
            generalize hrs : tl4 ++ _ = rs4 at N9 hD4 hm4 hC4 hcu4
            have mx4 : (xa, instObj 184 dx) ∈ rs4 := hrs ▸ List.mem_append_right tl4 mx3
            have md4 : (dx, dictOf (hdrEs w tkx hl) 1) ∈ rs4 := hrs ▸ List.mem_append_right tl4 md3
            simp only [List.cons_append, List.nil_append] at N9
            dsimp only
            walk_at "m_stepsL"
            walk_at "m_top"
            k_dflt (refine' Run.use (right_law (its := [(J, o3)]) (tk := tkx) (n := 1) mx4 md4 hm4 hD4.out hC4.out hok4.1 ?c1) ?k1 ?k2 ?k3 ?k4 ?k5 ?kK ?kd ?ku ?_)
            walk_at "m_use"
            (case c1 => first | exact l40 a3 | exact l40c a3 | exact l40e a3 | exact l40ce a3 | exact l40t a3 | exact l40ee a3)
            intro r9 h9 tk9 news9 F9 N9 P9
            obtain ⟨rfl, rfl⟩ := P9
            dsimp only
            walk_at "m_stepsL"
            subst hrs
            have hcq : cuts3 + 1 - n2.fmod 2 = cuts3 + 1 := cq_even hpar
            rw [← hcq] at hst4
            exact hQ2 _ (law_endR Y (by k_asm) N9 (by assumption) hap4 hfx4 hD4 hm4 hC4 (by walk_at "m_look") ⟨by walk_at "m_look", ⟨_, by walk_at "m_look"⟩, by walk_at "m_look", by walk_at "m_look"⟩ hst4)
          case idone =>
            rintro J m3 nw ⟨tl3, oc3, tc3, vs3, e3, ca3, cvs3, k3, cs3, cuts3, rfl, hoc3, hap3, hfx3, hD3, hm3, hC3, hmc3, ⟨hmr3, hms3, hml3, hmq3⟩, hst3⟩ h tk9 F3 N3
            walk_at "m_stepsL"
            exact hQ1 _ (law_outer X (noDat_cls ho1 (by decide) (by decide)) hap hfx (by k_asm) N3 hoc3 hap3 hfx3 hD3 hm3 hC3 (by assumption) ⟨hmr3, hms3, hml3⟩ hst3 fun n h => ⟨h _ List.mem_cons_self, trivial⟩)
end
theorem rest_90 : True := by
  w_top off
  try walk1
  first | done | exact True.intro
end Mine

theorem PySem.Challenge.cw_wb0122_01_holds : PySem.Challenge.rw_wb0122_01.Holds :=
  Mine.law_holds

