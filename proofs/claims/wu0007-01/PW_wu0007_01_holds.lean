import PyProof.Rows.All
import Wide.All
import OpenK.AllK
import Wide.FinOn
import PySem.Challenge.RW_wu0007_01
open PySem PySem.W PySem.Spec PySem.Calls PyProof.Rows
set_option Elab.async false
set_option maxRecDepth 100000
set_option rowWalk.seconds 0
set_option compiler.extract_closed false
namespace Mine
set_option maxHeartbeats 8000000 in
open_top hd for PySem.Challenge.rw_wu0007_01
/-- a def's call, said once: what the caller's place must bear, and what the call hands back -/
abbrev Does (w : World) (mean : ExcName → Option Value) (mg mb : Str → Option Value) (f : Addr) (args : List Value) (news : List (Addr × Obj)) (d : Nat)
    (Ret : Heap → Addr → (Str → Option Value) → Shared → (Value → Shared → Prop) → Prop) : Prop :=
  ∀ (dp un : Nat) (gd : Option (List Code)) (cn : Str) (cs : Scope) (a : Addr) (ccd : Value) (cl : List (Str × Addr)) (outer : List Env) (A₀ : Around) (base h₀ : Heap) (L : Addr) (m : Str → Option Value) (s : Shared) (Q E : Value → Shared → Prop),
    Below A₀ base outer h₀ → Fr h₀ L s.heap m → (hd.heap_39 w.params).In h₀ → News h₀ L s.heap news → Top hd.view_39 (looseW hd.view_39 []) mean mg mb h₀ → cs.kind = .function →
    dp + d < recursionLimit → un + 8 * d < cLine → Ret h₀ L m s Q →
      wpAny (model PySem.Challenge.rw_wu0007_01.row.prog w) (ktrTop dp un gd cn cs L a ccd cl outer) (call (.ref f) args) Q E s

theorem useDoes {w : World} {mean : ExcName → Option Value} {mg mb : Str → Option Value} {f : Addr} {args : List Value} {news : List (Addr × Obj)} {d : Nat} {Ret : Heap → Addr → (Str → Option Value) → Shared → (Value → Shared → Prop) → Prop}
    {dp un : Nat} {gd : Option (List Code)} {cn : Str} {cs : Scope} {a : Addr} {ccd : Value} {cl : List (Str × Addr)} {outer : List Env} {A₀ : Around} {base h₀ : Heap} {L : Addr} {m : Str → Option Value} {s : Shared} {Q E : Value → Shared → Prop}
    (k1 : Below A₀ base outer h₀ := by k_asm) (k2 : Fr h₀ L s.heap m := by k_asm) (k3 : (hd.heap_39 w.params).In h₀ := by k_asm) (k4 : News h₀ L s.heap news := by k_asm) (k5 : Top hd.view_39 (looseW hd.view_39 []) mean mg mb h₀ := by k_asm)
    (kK : cs.kind = .function := by first | exact rfl | assumption) (D : Does w mean mg mb f args news d Ret) (kd : dp + d < recursionLimit := by ktr_room) (ku : un + 8 * d < cLine := by ktr_units) (h : Ret h₀ L m s Q) :
    wpAny (model PySem.Challenge.rw_wu0007_01.row.prog w) (ktrTop dp un gd cn cs L a ccd cl outer) (call (.ref f) args) Q E s := D dp un gd cn cs a ccd cl outer A₀ base h₀ L m s Q E k1 k2 k3 k4 k5 kK kd ku h
/-- one value back, nothing new on the ledger -/
abbrev RetV (news : List (Addr × Obj)) (v : Tok → Value) (h₀ : Heap) (L : Addr) (m : Str → Option Value) (s : Shared) (Q : Value → Shared → Prop) : Prop :=
  ∀ (t : Tok) (h' : Heap) (tk' : Nat), Fr h₀ L h' m → News h₀ L h' news → Q (v t) { s with heap := h', toks := tk' }
/-- one new object back -/
abbrev RetO (news : List (Addr × Obj)) (o : Tok → Tok → Tok → Nat → Obj) (h₀ : Heap) (L : Addr) (m : Str → Option Value) (s : Shared) (Q : Value → Shared → Prop) : Prop :=
  ∀ (D : Addr) (c : Nat) (t0 t1 t2 : Tok) (h' : Heap) (tk' : Nat), Fr h₀ L h' m → News h₀ L h' ((D, o t0 t1 t2 c) :: news) → LCg.Off1 D news → Q (.ref D) { s with heap := h', toks := tk' }
abbrev L3 (v0 v1 v2 : Tok → Value) : Tok → Tok → Tok → Nat → Obj := fun t0 t1 t2 c => { cls := .type "list", data := .seq #[v0 t0, v1 t1, v2 t2] c }
abbrev T3 (v0 v1 v2 : Tok → Value) : Tok → Tok → Tok → Nat → Obj := fun t0 t1 t2 c => { cls := .type "tuple", data := .seq #[v0 t0, v1 t1, v2 t2] c }

theorem off1_lt {D : Addr} : ∀ {l : List (Addr × Obj)}, (∀ p ∈ l, p.1 < D) → LCg.Off1 D l
  | [], _ => trivial
  | p :: _, h => ⟨Nat.ne_of_lt (h p (.head _)), off1_lt fun q hq => h q (.tail _ hq)⟩
theorem off1_all {D : Addr} : ∀ {l : List (Addr × Obj)}, AllLt D l → LCg.Off1 D l
  | [], _ => trivial
  | _ :: _, h => ⟨Nat.ne_of_lt h.1, off1_all h.2⟩
theorem endV {news all : List (Addr × Obj)} {h₀ h' : Heap} {L : Addr} {m : Str → Option Value} {s : Shared} {Q : Value → Shared → Prop} {tk' : Nat} {v : Tok → Value} {x : Value} (t : Tok)
    (hret : ∀ (t : Tok) (h' : Heap) (tk' : Nat), Fr h₀ L h' m → News h₀ L h' news → Q (v t) { s with heap := h', toks := tk' }) (F : Fr h₀ L h' m) (N : News h₀ L h' all) (sub : ∀ p ∈ news, p ∈ all) (e : x = v t) : Q x { s with heap := h', toks := tk' } := by
  subst e
  exact hret _ _ _ F (cb_drop N sub)
theorem endO {news all : List (Addr × Obj)} {h₀ h' : Heap} {L D : Addr} {m : Str → Option Value} {s : Shared} {Q : Value → Shared → Prop} {tk' c : Nat} {o : Tok → Tok → Tok → Nat → Obj} {x : Obj} (t0 t1 t2 : Tok)
    (hret : ∀ (D : Addr) (c : Nat) (t0 t1 t2 : Tok) (h' : Heap) (tk' : Nat), Fr h₀ L h' m → News h₀ L h' ((D, o t0 t1 t2 c) :: news) → LCg.Off1 D news → Q (.ref D) { s with heap := h', toks := tk' })
    (F : Fr h₀ L h' m) (N : News h₀ L h' all) (mem : (D, x) ∈ all) (sub : ∀ p ∈ news, p ∈ all) (off : LCg.Off1 D news) (e : x = o t0 t1 t2 c) : Q (.ref D) { s with heap := h', toks := tk' } := by
  subst e
  have N' : News h₀ L h' ((D, o t0 t1 t2 c) :: news) := fun p hp => by
    rcases List.mem_cons.mp hp with rfl | hp
    · exact N _ mem
    · exact N p (sub p hp)
  exact hret D c t0 t1 t2 h' tk' F N' off
theorem compEnd_same {h₀ : Heap} {L I C D : Addr} {m : Str → Option Value} {s₁ : Shared} {oI oC oD : Obj} {S : List (Addr × Obj) → Prop} {rest : Value → List (Addr × Obj) → Prop} {y : Value} {h' : Heap} {tk : Nat} {news' : List (Addr × Obj)}
    (F : Fr h₀ L h' m) (N : News h₀ L h' ((I, oI) :: (C, oC) :: (D, oD) :: news')) (off : LCg.Off3 I C D news') (hS : S news') (r : rest y news') :
    LCg.CompEnd h₀ L m s₁ I oI C oC D oD S rest y { s₁ with heap := h', toks := tk } := LCg.CompEnd.intro F N news' (fun _ h => h) off hS r
theorem item_led {prog : Program} {w : World} {A : Around} {E : Value → Shared → Prop} {s : Shared} {h₀ : Heap} {L l : Addr} {news : List (Addr × Obj)} {value slice : PySem.Expr} {vs : List Value} {c : Nat} {k : Int} {u : Tok} {v : Value} {Q : Value → Shared → Prop}
    (N : News h₀ L s.heap news) (hm : (l, ({ cls := .type "list", data := .seq vs.toArray c } : Obj)) ∈ news) (h0 : 0 ≤ k) (hhi : k < 2 ^ 63) (hx : vs[k.toNat]? = some v) (h : Q v s)
    (hs : subscripted slice false (.ref l) (.int k u) = operate [.ref l, .int k u] (getItem (.ref l) (.int k u)) := by with_unfolding_all rfl) :
    wpAny (model prog w) A (subscriptTail value slice (.ref l) (.int k u)) Q E s :=
  have hl := N.isList hm
  tail_any hl.typeIs slot_list_getitem.lookup (wpAny_getItem_list hl h0 hhi (by simpa using hx) h) hs
/-- behind a turn of a loop -/
def StepTo (P : Shared → Prop) (Q : Flow → Shared → Prop) (f : Flow) (s : Shared) : Prop :=
  match f with
  | .next => P s
  | .cont => P s
  | .brk => Q .next s
  | .ret v => Q (.ret v) s
theorem fr_map {h₀ h : Heap} {L : Addr} {m m' : Str → Option Value} (F : Fr h₀ L h m) (e : ∀ y, m y = m' y) : Fr h₀ L h m' := by
  rw [← funext e]
  exact F
/-- the loop's test said no and changed nothing -/
def Back (s : Shared) (g : Heap) (L : Addr) (m : Str → Option Value) (news : List (Addr × Obj)) (s₂ : Shared) : Prop := ∃ h' tk', s₂ = { s with heap := h', toks := tk' } ∧ Fr g L h' m ∧ News g L h' news
theorem Back.intro {s : Shared} {g : Heap} {L : Addr} {m : Str → Option Value} {news : List (Addr × Obj)} {h' : Heap} {tk' : Nat} (F : Fr g L h' m) (N : News g L h' news) : Back s g L m news { s with heap := h', toks := tk' } := ⟨h', tk', rfl, F, N⟩
/-- a number was cut: behind one `if` that stores a float -/
def Mid (s : Shared) (g : Heap) (L : Addr) (m : Str → Option Value) (news : List (Addr × Obj)) (x : Str) (v : UInt64) (f : Flow) (s' : Shared) : Prop :=
  f = .next ∧ ∃ h' tk' t', s' = { s with heap := h', toks := tk' } ∧ Fr g L h' (fun y => if y = x then some (.float v t') else m y) ∧ News g L h' news
section
variable {prog : Program} {w : World} {A : Around} {E : Value → Shared → Prop} {s : Shared} {h₀ : Heap} {L : Addr} {m : Str → Option Value} {env : Env}
def SrcAtT (ax : Addr) (its : Array Value) (news : List (Addr × Obj)) : Prop := ∃ o, (ax, o) ∈ news ∧ o.cls = .type "tuple" ∧ ∃ n, o.data = .seq its n
theorem SrcAtT.tup {h₀ h : Heap} {L ax : Addr} {its : Array Value} {news : List (Addr × Obj)} (x : SrcAtT ax its news) (N : News h₀ L h news) : h.IsTuple ax its := by
  obtain ⟨o, hm, r⟩ := x
  exact ⟨o, (N _ hm).1, r⟩
def CompSrcT (prog : Program) (w : World) (A : Around) (h₀ : Heap) (L : Addr) (m : Str → Option Value) (env : Env) (elt : PySem.Expr) (x : Str) (scope : Scope) (cl : List (Str × Addr)) (Fin : Shared → List Value → List (Addr × Obj) → Prop) (xv : Value) (s₁ : Shared) : Prop :=
  ∃ ax its news, xv = .ref ax ∧ A.handled = none ∧ Fr h₀ L s₁.heap m ∧ News h₀ L s₁.heap news ∧ SrcAtT ax its news ∧ its.size ≤ sizeLine ∧
    ∀ s₂ : Shared, (∃ h, s₂ = { s₁ with heap := h }) → LCg.CompRest prog w A h₀ L m env elt x scope cl s₂ (SrcAtT ax its) (fun i v => its[i]? = some v) (Fin s₂) its.size 0 [] news
theorem CompSrcT.ledger {elt : PySem.Expr} {x : Str} {scope : Scope} {cl : List (Str × Addr)} {Fin : Shared → List Value → List (Addr × Obj) → Prop} {ax : Addr} {its : Array Value} {k : Nat} {news : List (Addr × Obj)} {s₁ : Shared}
    (hh : A.handled = none) (F : Fr h₀ L s₁.heap m) (N : News h₀ L s₁.heap news) (hm : (ax, ({ cls := .type "tuple", data := .seq its k } : Obj)) ∈ news) (hsz : its.size ≤ sizeLine)
    (h : ∀ g, LCg.CompRest prog w A h₀ L m env elt x scope cl { s₁ with heap := g } (SrcAtT ax its) (fun i v => its[i]? = some v) (Fin { s₁ with heap := g }) its.size 0 [] news) :
    CompSrcT prog w A h₀ L m env elt x scope cl Fin (.ref ax) s₁ := ⟨ax, its, news, rfl, hh, F, N, ⟨_, hm, rfl, _, rfl⟩, hsz, fun _ ⟨g, e⟩ => e ▸ h g⟩
theorem tup_st {ax I : Addr} {its : Array Value} : ∀ i (h h' : Heap) (o : Obj) (nw : List (Addr × Obj)), (h.IsTupleIter I ax i ∧ h.IsTuple ax its) → h.get? I = some o → h'.get? I = some o → (∀ b o, h₀.get? b = some o → h'.get? b = some o) → News h₀ L h' nw → SrcAtT ax its nw → (h'.IsTupleIter I ax i ∧ h'.IsTuple ax its) :=
  fun i h h' o nw st e e' _ N S => ⟨by obtain ⟨o', q, r⟩ := st.1; rw [e] at q; cases q; exact ⟨o, e', r⟩, S.tup N⟩
theorem ListComp_T {elt iter : PySem.Expr} {x : Str} {px : Pos} {scope : Scope} {cl : List (Str × Addr)} {pos : Pos} {Q : Value → Shared → Prop} (_F₀ : Fr h₀ L s.heap m)
    (hclos : closureFor scope env = pure cl) (hcell : ∀ y ∈ scope.names, y.2 ≠ .cell) (hkind : scope.kind = .function)
    (hnames : ∀ y ∈ scope.names, y.2 = .local → scope.names.lookup y.1 = some .local) (hx : scope.names.lookup x = some .local)
    (h : wpAny (model prog w) A (eval iter env) (CompSrcT prog w A h₀ L m env elt x scope cl (fun s₂ => LCg.FinE h₀ L m s₂ Q)) E s)
    (hs : ∀ x, foldedSetIterable iter env x = pure x := by intro _; rfl) :
    wpAny (model prog w) A (eval (.ListComp elt [⟨.Name x px, iter, [], 0⟩] scope pos) env) Q E s := by
  rw [eval_ListComp]
  refine wpAny_comprehension_free (use := none) rfl hs hclos hkind hnames (wpAny_mono h (fun xv s₁ h₁ => ?_) fun _ _ e => e)
  obtain ⟨ax, its, news, rfl, hh, F, N, S, hsz, R⟩ := h₁
  have hl := S.tup N
  have hlt : ax < s₁.heap.objs.size := by obtain ⟨_, e, _⟩ := hl; exact Heap.lt_size e
  refine wpAny_pyIter_tuple hl ?_
  have up : ∀ b o, s₁.heap.get? b = some o → (s₁.heap.push { cls := .type "tuple_iterator", data := .fields #[.ref ax, .int 0 0] }).get? b = some o := fun b o e => Heap.get?_push_of_some _ e
  refine LCg.block_U (Walks.tuple hh s₁.heap.objs.size ax (Nat.ne_of_lt hlt) its) hsz (fun i h st => by obtain ⟨o, e, _⟩ := st.1; exact ⟨o, e⟩) tup_st hcell hkind hx ⟨⟨_, Heap.get?_push_size _ rfl, rfl, rfl⟩, hl.push _⟩ (fun b hb => ?_)
    (F.keeps up) (N.grown up) (Nat.ne_of_lt F.ns.lt) (next_is_new F) (fun p hp => Nat.ne_of_lt (Heap.lt_size (N p hp).1)) S (R _ ⟨_, rfl⟩) ?_
  · show b < (s₁.heap.push _).objs.size
    rw [Heap.size_push]
    rcases List.mem_cons.mp hb with rfl | hb
    · exact Nat.lt_succ_self _
    · rw [List.mem_singleton.mp hb]; exact Nat.lt_succ_of_lt hlt
  · intro D C h tk m' ys news' F' N' o1 hn hC₀ hD₀ hCL hDL hCD offC fin
    refine ⟨m', hn, fun h'' hs'' => fin D h'' tk (F'.change hs'' hCL hC₀) (fun p hp => ?_) o1⟩
    refine ⟨hs''.extBut _ _ ?_ (N' p hp).1, (N' p hp).2⟩
    rcases List.mem_cons.mp hp with rfl | hp
    · exact Ne.symm hCD
    · exact offC p hp
end
/-- the law's cut of one move -/
def lv (top l m : Int) : Int := min top (max 0 (l + m))
def pad (l top : Int) : Str := Txt.mul " " l ++ "o" ++ Txt.mul " " (top - l)
theorem nat_of {l : Int} {k : Nat} (h : 0 ≤ l) (h1 : l < k) : ∃ i : Fin k, l = (i.val : Int) := ⟨⟨l.toNat, by omega⟩, by dsimp only; omega⟩
section
variable {prog : Program} {w : World} {A : Around} {s : Shared} {h₀ : Heap} {L : Addr} {m : Str → Option Value} {env : Env} {news : List (Addr × Obj)}
theorem comp_rel3 (R : Value → (Tok → Value) → Prop) {elt : PySem.Expr} {x : Str} {scope : Scope} {cl : List (Str × Addr)} {S : List (Addr × Obj) → Prop} {Fin : List Value → List (Addr × Obj) → Prop} {v0 v1 v2 : Value} {r0 r1 r2 : Tok → Value} (h0 : R v0 r0) (h1 : R v1 r1) (h2 : R v2 r2)
    (turn : ∀ v r I oI C oC D m₂ ys h tk (E' : Value → Shared → Prop), R v r → LCg.NsObj oC m₂ → m₂ x = some v → Fr h₀ L h m → News h₀ L h ((I, oI) :: (C, oC) :: (D, LCg.lst ys) :: news) → LCg.Off3 I C D news →
      wpAny (model prog w) A (eval elt (compEnvC scope cl C env)) (LCg.CompEnd h₀ L m { s with heap := h, toks := tk } I oI C oC D (LCg.lst ys) S (fun y news' => news' = news ∧ ∃ t, y = r t)) E' { s with heap := h, toks := tk })
    (fin : ∀ t0 t1 t2, Fin [r0 t0, r1 t1, r2 t2] news) :
    LCg.CompRest prog w A h₀ L m env elt x scope cl s S (fun i v => [v0, v1, v2].toArray[i]? = some v) Fin 3 0 [] news := by
  have one : ∀ (v : Value) (r : Tok → Value) (i j : Nat) (ys : List Value), R v r → [v0, v1, v2].toArray[i]? = some v → (∀ t, LCg.CompRest prog w A h₀ L m env elt x scope cl s S (fun i v => [v0, v1, v2].toArray[i]? = some v) Fin j (i + 1) (ys ++ [r t]) news) →
      LCg.CompRest prog w A h₀ L m env elt x scope cl s S (fun i v => [v0, v1, v2].toArray[i]? = some v) Fin (j + 1) i ys news := by
    intro v r i j ys hR hi next
    refine LCg.CompRest.succ ?_
    intro v' I oI C oC D m₂ h tk E' hv hC hx F N off _
    rw [hi] at hv
    obtain rfl := Option.some.inj hv
    refine wpAny_mono (turn v r I oI C oC D m₂ ys h tk E' hR hC hx F N off) (fun y s₂ hq => ?_) fun _ _ e => e
    obtain ⟨h', tk', nw, e, F', N', off', hS, hn, t', hy⟩ := hq
    subst hn
    subst hy
    exact ⟨h', tk', nw, e, F', N', off', hS, next t'⟩
  exact one v0 r0 0 2 [] h0 rfl fun t0 => one v1 r1 1 1 _ h1 rfl fun t1 => one v2 r2 2 0 _ h2 rfl fun t2 => LCg.CompRest.zero (fin t0 t1 t2)
end
def fY (r g b : UInt64) : UInt64 := Float64.add (Float64.add (Float64.mul 4599075939470750515 r) (Float64.mul 4603489467105573601 g)) (Float64.mul 4592590756007337001 b)
def fI (r b y : UInt64) : UInt64 := Float64.sub (Float64.mul 4604840546993784750 (Float64.sub r y)) (Float64.mul 4598535507515466056 (Float64.sub b y))
def fQ (r b y : UInt64) : UInt64 := Float64.add (Float64.mul 4602318531202457272 (Float64.sub r y)) (Float64.mul 4601057523306793533 (Float64.sub b y))
def cut0 (x : UInt64) : UInt64 := if (Float64.cmp x 0 == some Ordering.lt) = true then 0 else x
def cut1 (x : UInt64) : UInt64 := if (Float64.cmp x 4607182418800017408 == some Ordering.gt) = true then 4607182418800017408 else x
def fR (y i q : UInt64) : UInt64 := Float64.add (Float64.add y (Float64.mul 4606703976345377586 i)) (Float64.mul 4603791717925830846 q)
def fG (y i q : UInt64) : UInt64 := Float64.sub (Float64.sub y (Float64.mul 4598621754083818298 i)) (Float64.mul 4603901015759978483 q)
def fB (y i q : UInt64) : UInt64 := Float64.add (Float64.sub y (Float64.mul 4607671262177584182 i)) (Float64.mul 4610375502138591871 q)
/-! The floats of `_law_light`, in whole units of 2^-40 -/
def vP : Int := 2 ^ 1034
theorem vP_pos : 0 < vP := by unfold vP; exact Int.pow_pos (by decide)
theorem S_eq : (2 : Int) ^ 1074 = 2 ^ 40 * vP := by unfold vP; rw [← Int.pow_add]
/-- the float's value in units of 2^-40, cut down -/
def vq (x : UInt64) : Int := Float64.val x / vP
def IsFin (x : UInt64) : Prop := ∃ a m e, Float64.decode x = .fin a m e
theorem vq_le (x : UInt64) : vP * vq x ≤ Float64.val x := by unfold vq; exact Int.mul_ediv_self_le (Int.ne_of_gt vP_pos)
theorem vq_lt (x : UInt64) : Float64.val x < vP * vq x + vP := by unfold vq; exact Int.lt_mul_ediv_self_add vP_pos
theorem rep_P {j : Nat} (h : j < 2 ^ 53) : ∃ t, Float64.V t = j * 2 ^ 1034 := by
  by_cases h0 : j = 0
  · refine ⟨0, ?_⟩
    rw [h0, Nat.zero_mul]
    rfl
  · have h1 := Nat.log2_self_le h0
    have h2 := @Nat.lt_log2_self j
    have h3 : j.log2 < 53 := (Nat.log2_lt h0).mpr h
    generalize hs : j.log2 = s at *
    refine ⟨(1034 - (52 - s)) * 2 ^ 52 + j * 2 ^ (52 - s), ?_⟩
    have e1 : 2 ^ s * 2 ^ (52 - s) = 2 ^ 52 := by rw [← Nat.pow_add]; congr 1; omega
    have e2 : 2 ^ (s + 1) * 2 ^ (52 - s) = 2 ^ 53 := by rw [← Nat.pow_add]; congr 1; omega
    rw [Float64.V_at]
    · rw [Nat.mul_assoc, ← Nat.pow_add]
      congr 2
      omega
    · rw [← e2]
      exact Nat.mul_le_mul_right _ (Nat.le_of_lt h2)
    · left
      rw [← e1]
      exact Nat.mul_le_mul_right _ h1
theorem right_near {r : UInt64} {neg : Bool} {W D : Nat} (h : Float64.Right r neg W D) (hD : 0 < D) (hW : W < D * (2 ^ 53 * 2 ^ 1034)) :
    ∃ t, r = Float64.pack neg t ∧ t < Float64.infMag ∧ Float64.dist W (D * Float64.V t) ≤ D * 2 ^ 1034 := by
  obtain ⟨t, hr, hle, hinf, hn⟩ := h
  have hlt : t < Float64.infMag := by
    rcases Nat.lt_or_ge t Float64.infMag with h | h
    · exact h
    · exfalso
      have := hinf.mp (Nat.le_antisymm hle h)
      have hb : D * (2 * (2 ^ 53 * 2 ^ 1034)) ≤ D * ((2 ^ 54 - 1) * 2 ^ 2045) := Nat.mul_le_mul_left _ (by decide +kernel)
      have e : D * (2 * (2 ^ 53 * 2 ^ 1034)) = 2 * (D * (2 ^ 53 * 2 ^ 1034)) := Nat.mul_left_comm ..
      omega
  refine ⟨t, hr, hlt, ?_⟩
  have hDP : 0 < D * 2 ^ 1034 := Nat.mul_pos hD (Nat.two_pow_pos _)
  have hj : W / (D * 2 ^ 1034) < 2 ^ 53 := Nat.div_lt_of_lt_mul (by rw [Nat.mul_assoc, Nat.mul_comm (2 ^ 1034)]; exact hW)
  obtain ⟨t', ht'⟩ := rep_P hj
  refine Nat.le_trans (hn hlt t').1 ?_
  have e : D * Float64.V t' = W / (D * 2 ^ 1034) * (D * 2 ^ 1034) := by rw [ht', Nat.mul_left_comm]
  rw [e]
  have hm := Nat.div_add_mod W (D * 2 ^ 1034)
  have hml := Nat.mod_lt W hDP
  generalize D * 2 ^ 1034 = K at *
  rw [Nat.mul_comm (W / K) K]
  unfold Float64.dist
  generalize K * (W / K) = X at *
  omega
theorem P_nat : ((2 ^ 1034 : Nat) : Int) = vP := by unfold vP; rw [Int.natCast_pow]; rfl
theorem sgn_abs (z : Int) : Float64.sgn (decide (z < 0)) z.natAbs = z := by
  unfold Float64.sgn
  by_cases h : z < 0
  · rw [if_pos (by simpa using h)]; omega
  · rw [if_neg (by simpa using h)]; omega
/-- a rounded quotient: what is near -/
theorem right_val {r : UInt64} {neg : Bool} {W D : Nat} (h : Float64.Right r neg W D) (hD : 0 < D) (hW : W < D * (2 ^ 53 * 2 ^ 1034)) :
    IsFin r ∧ Float64.sgn neg W - D * vP ≤ D * Float64.val r ∧ D * Float64.val r ≤ Float64.sgn neg W + D * vP := by
  obtain ⟨t, rfl, hlt, hd⟩ := right_near h hD hW
  obtain ⟨m, e, hdec, _⟩ := Float64.decode_pack neg hlt
  refine ⟨⟨neg, m, e, hdec⟩, ?_⟩
  rw [Float64.val_pack neg hlt]
  have hd' : Float64.dist W (D * Float64.V t) ≤ D * 2 ^ 1034 := hd
  unfold Float64.dist at hd'
  have e1 : ((D * Float64.V t : Nat) : Int) = D * (Float64.V t : Int) := Int.natCast_mul ..
  have e2 : ((D * 2 ^ 1034 : Nat) : Int) = D * vP := by rw [Int.natCast_mul, P_nat]
  generalize D * 2 ^ 1034 = K at *
  generalize D * Float64.V t = X at *
  rw [← e2]
  unfold Float64.sgn
  cases neg
  · simp only [Bool.false_eq_true, if_false]
    rw [← e1]
    omega
  · simp only [if_true]
    rw [Int.mul_neg, ← e1]
    omega
theorem val_small {x : UInt64} (h : -(2 ^ 44) ≤ vq x ∧ vq x ≤ 2 ^ 44) : (Float64.val x).natAbs ≤ (2 ^ 44 + 1) * 2 ^ 1034 := by
  have h1 := vq_le x
  have h2 := vq_lt x
  have hp := vP_pos
  have e := P_nat
  have a1 : vP * vq x ≤ vP * 2 ^ 44 := Int.mul_le_mul_of_nonneg_left h.2 (Int.le_of_lt hp)
  have a2 : vP * (-(2 ^ 44)) ≤ vP * vq x := Int.mul_le_mul_of_nonneg_left h.1 (Int.le_of_lt hp)
  have : (((Float64.val x).natAbs : Nat) : Int) ≤ (((2 ^ 44 + 1) * 2 ^ 1034 : Nat) : Int) := by
    rw [Int.natCast_mul, e]
    generalize vP * vq x = z at *
    generalize vP = p at *
    omega
  exact Int.ofNat_le.mp this
theorem add_v {x y : UInt64} (hx : IsFin x) (hy : IsFin y) (bx : -(2 ^ 44) ≤ vq x ∧ vq x ≤ 2 ^ 44) (bY : -(2 ^ 44) ≤ vq y ∧ vq y ≤ 2 ^ 44) :
    IsFin (Float64.add x y) ∧ vq x + vq y - 3 ≤ vq (Float64.add x y) ∧ vq (Float64.add x y) ≤ vq x + vq y + 3 := by
  obtain ⟨a, m, e, hx⟩ := hx
  obtain ⟨b, k, f, hy⟩ := hy
  have R := Float64.add_right hx hy
  have x1 := vq_le x
  have x2 := vq_lt x
  have y1 := vq_le y
  have y2 := vq_lt y
  have r1 := vq_le (Float64.add x y)
  have r2 := vq_lt (Float64.add x y)
  have hp := vP_pos
  have key : IsFin (Float64.add x y) ∧ Float64.val x + Float64.val y - vP ≤ Float64.val (Float64.add x y) ∧ Float64.val (Float64.add x y) ≤ Float64.val x + Float64.val y + vP := by
    by_cases h0 : Float64.val x + Float64.val y = 0
    · rw [R.1 h0, h0]
      have hi : (0 : Nat) < Float64.infMag := by decide +kernel
      obtain ⟨m, e, hz, _⟩ := Float64.decode_pack (a && b) hi
      refine ⟨⟨_, _, _, hz⟩, ?_⟩
      have : Float64.val (Float64.zero (a && b)) = 0 := by
        refine (Float64.val_pack (a && b) hi).trans ?_
        have : Float64.V 0 = 0 := rfl
        rw [this]
        cases (a && b) <;> rfl
      rw [this]
      omega
    · have q := right_val (R.2 h0) (by decide) (by
        have s1 := val_small bx
        have s2 := val_small bY
        have s3 : (Float64.val x + Float64.val y).natAbs ≤ (Float64.val x).natAbs + (Float64.val y).natAbs := Int.natAbs_add_le ..
        have s4 : (2 ^ 44 + 1) * 2 ^ 1034 + (2 ^ 44 + 1) * 2 ^ 1034 < 1 * (2 ^ 53 * 2 ^ 1034) := by decide +kernel
        omega)
      rw [sgn_abs] at q
      refine ⟨q.1, ?_⟩
      have q1 := q.2.1
      have q2 := q.2.2
      rw [show ((1 : Nat) : Int) = 1 from rfl, Int.one_mul, Int.one_mul] at q1 q2
      exact ⟨q1, q2⟩
  refine ⟨key.1, ?_⟩
  obtain ⟨_, k1, k2⟩ := key
  generalize Float64.val x = X at *
  generalize Float64.val y = Y at *
  generalize Float64.val (Float64.add x y) = Z at *
  generalize vq x = u at *
  generalize vq y = v at *
  generalize vq (Float64.add x y) = w at *
  generalize vP = p at *
  constructor
  · have : p * (u + v - 3) < p * (w + 1) := by
      rw [Int.mul_sub, Int.mul_add, Int.mul_add]
      omega
    have := Int.lt_of_mul_lt_mul_left this (Int.le_of_lt hp)
    omega
  · have : p * w < p * (u + v + 3 + 1) := by
      rw [Int.mul_add, Int.mul_add, Int.mul_add]
      omega
    have := Int.lt_of_mul_lt_mul_left this (Int.le_of_lt hp)
    omega
theorem neg_v {y : UInt64} (hy : IsFin y) (bY : -(2 ^ 43) ≤ vq y ∧ vq y ≤ 2 ^ 43) : IsFin (Float64.neg y) ∧ -vq y - 1 ≤ vq (Float64.neg y) ∧ vq (Float64.neg y) ≤ -vq y := by
  obtain ⟨b, k, f, hy⟩ := hy
  refine ⟨⟨_, _, _, Float64.neg_decode hy⟩, ?_⟩
  have y1 := vq_le y
  have y2 := vq_lt y
  have r1 := vq_le (Float64.neg y)
  have r2 := vq_lt (Float64.neg y)
  have hp := vP_pos
  rw [Float64.neg_val hy] at r1 r2
  generalize Float64.val y = Y at *
  generalize vq y = v at *
  generalize vq (Float64.neg y) = w at *
  generalize vP = p at *
  constructor
  · have : p * (-v - 1) < p * (w + 1) := by
      rw [Int.mul_sub, Int.mul_add, Int.mul_neg]
      omega
    have := Int.lt_of_mul_lt_mul_left this (Int.le_of_lt hp)
    omega
  · have : p * w < p * (-v + 1) := by
      rw [Int.mul_add, Int.mul_neg]
      omega
    have := Int.lt_of_mul_lt_mul_left this (Int.le_of_lt hp)
    omega
theorem sub_v {x y : UInt64} (hx : IsFin x) (hy : IsFin y) (bx : -(2 ^ 44) ≤ vq x ∧ vq x ≤ 2 ^ 44) (bY : -(2 ^ 43) ≤ vq y ∧ vq y ≤ 2 ^ 43) :
    IsFin (Float64.sub x y) ∧ vq x - vq y - 4 ≤ vq (Float64.sub x y) ∧ vq (Float64.sub x y) ≤ vq x - vq y + 4 := by
  have n := neg_v hy bY
  have q := add_v hx n.1 bx (by omega)
  unfold Float64.sub
  refine ⟨q.1, ?_⟩
  omega
theorem mul_abs {a b A B : Int} (ha : -A ≤ a ∧ a ≤ A) (hb : -B ≤ b ∧ b ≤ B) : -(A * B) ≤ a * b ∧ a * b ≤ A * B := by
  have hA : 0 ≤ A := by omega
  have h1 : (a * b).natAbs ≤ (A * B).natAbs := by
    rw [Int.natAbs_mul, Int.natAbs_mul]
    exact Nat.mul_le_mul (by omega) (by omega)
  have h2 : 0 ≤ A * B := Int.mul_nonneg hA (by omega)
  omega
theorem mul_v {x y : UInt64} (hx : IsFin x) (hy : IsFin y) (bx : -(2 ^ 44) ≤ vq x ∧ vq x ≤ 2 ^ 44) (bY : -(2 ^ 44) ≤ vq y ∧ vq y ≤ 2 ^ 44) :
    IsFin (Float64.mul x y) ∧ vq x * vq y - 2 ^ 46 ≤ 2 ^ 40 * vq (Float64.mul x y) ∧ 2 ^ 40 * vq (Float64.mul x y) ≤ vq x * vq y + 2 ^ 46 := by
  obtain ⟨a, m, e, hx⟩ := hx
  obtain ⟨b, k, f, hy⟩ := hy
  have R := right_val (Float64.mul_right hx hy) (Nat.two_pow_pos _) (by
    have s1 := val_small bx
    have s2 := val_small bY
    have s3 := Nat.mul_le_mul s1 s2
    have s4 : (2 ^ 44 + 1) * 2 ^ 1034 * ((2 ^ 44 + 1) * 2 ^ 1034) < 2 ^ 1074 * (2 ^ 53 * 2 ^ 1034) := by decide +kernel
    omega)
  refine ⟨R.1, ?_⟩
  obtain ⟨_, q1, q2⟩ := R
  have hs : Float64.sgn (a != b) ((Float64.val x).natAbs * (Float64.val y).natAbs) = Float64.val x * Float64.val y := by
    rw [Float64.val_natAbs hx, Float64.val_natAbs hy, Float64.val_eq hx, Float64.val_eq hy]
    unfold Float64.sgn
    cases a <;> cases b <;> simp [Int.natCast_mul, Int.mul_neg, Int.neg_mul]
  have hS : ((2 ^ 1074 : Nat) : Int) = 2 ^ 40 * vP := by rw [← S_eq, Int.natCast_pow]; rfl
  rw [hs, hS] at q1 q2
  clear hS hs
  have x1 := vq_le x
  have x2 := vq_lt x
  have y1 := vq_le y
  have y2 := vq_lt y
  have r1 := vq_le (Float64.mul x y)
  have r2 := vq_lt (Float64.mul x y)
  have hp := vP_pos
  generalize Float64.val x = X at *
  generalize Float64.val y = Y at *
  generalize Float64.val (Float64.mul x y) = Z at *
  generalize vq x = u at *
  generalize vq y = v at *
  generalize vq (Float64.mul x y) = w at *
  generalize vP = p at *
  obtain ⟨ρ, rfl⟩ : ∃ ρ, X = p * u + ρ := ⟨X - p * u, by omega⟩
  obtain ⟨σ, rfl⟩ : ∃ σ, Y = p * v + σ := ⟨Y - p * v, by omega⟩
  have eXY : (p * u + ρ) * (p * v + σ) = p * (p * (u * v)) + p * (u * σ) + p * (v * ρ) + ρ * σ := by
    simp only [Int.add_mul, Int.mul_add, Int.mul_assoc, Int.mul_left_comm, Int.mul_comm, Int.add_assoc, Int.add_left_comm, Int.add_comm]
  rw [eXY] at q1 q2
  have t1 := mul_abs (a := u) (b := σ) (A := 2 ^ 44) (B := p) (by omega) (by omega)
  have t2 := mul_abs (a := v) (b := ρ) (A := 2 ^ 44) (B := p) (by omega) (by omega)
  have t3 := mul_abs (a := ρ) (b := σ) (A := p) (B := p) (by omega) (by omega)
  have p1 : p * (u * σ) ≤ p * (2 ^ 44 * p) := Int.mul_le_mul_of_nonneg_left t1.2 (Int.le_of_lt hp)
  have p2 : p * (-(2 ^ 44 * p)) ≤ p * (u * σ) := Int.mul_le_mul_of_nonneg_left t1.1 (Int.le_of_lt hp)
  have p3 : p * (v * ρ) ≤ p * (2 ^ 44 * p) := Int.mul_le_mul_of_nonneg_left t2.2 (Int.le_of_lt hp)
  have p4 : p * (-(2 ^ 44 * p)) ≤ p * (v * ρ) := Int.mul_le_mul_of_nonneg_left t2.1 (Int.le_of_lt hp)
  have z1 : p * (p * w) ≤ p * Z := Int.mul_le_mul_of_nonneg_left r1 (Int.le_of_lt hp)
  have z2 : p * Z < p * (p * w + p) := Int.mul_lt_mul_of_pos_left r2 hp
  have hpp : 0 < p * p := Int.mul_pos hp hp
  have n1 : p * (2 ^ 44 * p) = 2 ^ 44 * (p * p) := Int.mul_left_comm ..
  have n2 : p * (-(2 ^ 44 * p)) = -(2 ^ 44 * (p * p)) := by rw [Int.mul_neg, n1]
  have n3 : p * (p * w + p) = p * (p * w) + p * p := Int.mul_add ..
  have n4 : p * (p * (u * v)) = p * p * (u * v) := (Int.mul_assoc ..).symm
  have n5 : p * (p * w) = p * p * w := (Int.mul_assoc ..).symm
  have n6 : 2 ^ 40 * p * Z = 2 ^ 40 * (p * Z) := Int.mul_assoc ..
  have n7 : 2 ^ 40 * p * p = 2 ^ 40 * (p * p) := Int.mul_assoc ..
  rw [n6, n7] at q1 q2
  rw [n4] at q1 q2
  rw [n1] at p1 p3
  rw [n2] at p2 p4
  rw [n3] at z2
  rw [n5] at z1 z2
  generalize p * Z = pZ at *
  generalize p * (u * σ) = c1 at *
  generalize p * (v * ρ) = c2 at *
  generalize ρ * σ = c3 at *
  generalize hg : p * p = g at *
  constructor
  · have : g * (u * v - 2 ^ 46) < g * (2 ^ 40 * w + 1) := by
      rw [Int.mul_sub, Int.mul_add, Int.mul_left_comm g (2 ^ 40) w]
      generalize g * (u * v) = s1 at *
      generalize g * w = s2 at *
      omega
    have := Int.lt_of_mul_lt_mul_left this (Int.le_of_lt hpp)
    omega
  · have : g * (2 ^ 40 * w) < g * (u * v + 2 ^ 46 + 1) := by
      rw [Int.mul_add, Int.mul_add, Int.mul_left_comm g (2 ^ 40) w]
      generalize g * (u * v) = s1 at *
      generalize g * w = s2 at *
      omega
    have := Int.lt_of_mul_lt_mul_left this (Int.le_of_lt hpp)
    omega
theorem frac_v {n : Int} {d : Nat} (hd : 8 ≤ d ∧ d ≤ 11) (hn : -(64 : Int) ≤ n ∧ n ≤ 64) : IsFin (Float64.ofFrac (decide (n < 0) != decide ((d : Int) < 0)) n.natAbs d) ∧
    n * 2 ^ 40 - 2 * d ≤ d * vq (Float64.ofFrac (decide (n < 0) != decide ((d : Int) < 0)) n.natAbs d) ∧ d * vq (Float64.ofFrac (decide (n < 0) != decide ((d : Int) < 0)) n.natAbs d) ≤ n * 2 ^ 40 + 2 * d := by
  have hneg : (decide (n < 0) != decide ((d : Int) < 0)) = decide (n < 0) := by
    rw [decide_eq_false (show ¬ (d : Int) < 0 by omega)]
    cases decide (n < 0) <;> rfl
  rw [hneg]
  have R := right_val (r := Float64.ofFrac (decide (n < 0)) n.natAbs d) (Float64.ofFrac_right (W := n.natAbs * 2 ^ 1074) (D := d) (by omega) rfl (by omega)) (by omega) (by
    have h1 : n.natAbs * 2 ^ 1074 ≤ 64 * 2 ^ 1074 := Nat.mul_le_mul_right _ (by omega)
    have h2 : 64 * 2 ^ 1074 < 8 * (2 ^ 53 * 2 ^ 1034) := by decide +kernel
    have h3 : 8 * (2 ^ 53 * 2 ^ 1034) ≤ d * (2 ^ 53 * 2 ^ 1034) := Nat.mul_le_mul_right _ (by omega)
    omega)
  refine ⟨R.1, ?_⟩
  obtain ⟨_, q1, q2⟩ := R
  have hs : Float64.sgn (decide (n < 0)) (n.natAbs * 2 ^ 1074) = n * (2 ^ 40 * vP) := by
    rw [Float64.sgn_mul, sgn_abs, ← S_eq, Int.natCast_pow]; rfl
  rw [hs] at q1 q2
  have r1 := vq_le (Float64.ofFrac (decide (n < 0)) n.natAbs d)
  have r2 := vq_lt (Float64.ofFrac (decide (n < 0)) n.natAbs d)
  have hp := vP_pos
  generalize Float64.val (Float64.ofFrac (decide (n < 0)) n.natAbs d) = Z at *
  generalize vq (Float64.ofFrac (decide (n < 0)) n.natAbs d) = w at *
  generalize vP = p at *
  have d0 : (0 : Int) < d := by omega
  have z1 : (d : Int) * (p * w) ≤ d * Z := Int.mul_le_mul_of_nonneg_left r1 (Int.le_of_lt d0)
  have z2 : (d : Int) * Z < d * (p * w + p) := Int.mul_lt_mul_of_pos_left r2 d0
  rw [Int.mul_add] at z2
  rw [Int.mul_left_comm] at z1 z2
  have e1 : n * (2 ^ 40 * p) = p * (n * 2 ^ 40) := by rw [← Int.mul_assoc, Int.mul_comm]
  rw [e1] at q1 q2
  generalize (d : Int) * w = dw at *
  have e2 : (d : Int) * p = p * d := Int.mul_comm ..
  rw [e2] at q1 q2 z2
  constructor
  · have : p * (n * 2 ^ 40 - 2 * d) < p * (dw + 1) := by
      rw [Int.mul_sub, Int.mul_add, Int.mul_left_comm p 2]
      generalize p * (n * 2 ^ 40) = s1 at *
      generalize p * dw = s2 at *
      generalize p * (d : Int) = s3 at *
      omega
    have := Int.lt_of_mul_lt_mul_left this (Int.le_of_lt hp)
    omega
  · have : p * dw < p * (n * 2 ^ 40 + 2 * d + 1) := by
      rw [Int.mul_add, Int.mul_add, Int.mul_left_comm p 2]
      generalize p * (n * 2 ^ 40) = s1 at *
      generalize p * dw = s2 at *
      generalize p * (d : Int) = s3 at *
      omega
    have := Int.lt_of_mul_lt_mul_left this (Int.le_of_lt hp)
    omega
theorem fin_of {x : UInt64} (h : Float64.isFinite x = true) : IsFin x := by
  unfold Float64.isFinite at h
  split at h
  · rename_i a m e hd; exact ⟨a, m, e, hd⟩
  · exact absurd h (by decide)
theorem c30 : IsFin 4599075939470750515 ∧ vq 4599075939470750515 = 329853488332 := ⟨fin_of (by decide +kernel), by decide +kernel⟩
theorem c59 : IsFin 4603489467105573601 ∧ vq 4603489467105573601 = 648711860387 := ⟨fin_of (by decide +kernel), by decide +kernel⟩
theorem c11 : IsFin 4592590756007337001 ∧ vq 4592590756007337001 = 120946279055 := ⟨fin_of (by decide +kernel), by decide +kernel⟩
theorem c74 : IsFin 4604840546993784750 ∧ vq 4604840546993784750 = 813638604554 := ⟨fin_of (by decide +kernel), by decide +kernel⟩
theorem c27 : IsFin 4598535507515466056 ∧ vq 4598535507515466056 = 296868139499 := ⟨fin_of (by decide +kernel), by decide +kernel⟩
theorem c48 : IsFin 4602318531202457272 ∧ vq 4602318531202457272 = 527765581332 := ⟨fin_of (by decide +kernel), by decide +kernel⟩
theorem c41 : IsFin 4601057523306793533 ∧ vq 4601057523306793533 = 450799767388 := ⟨fin_of (by decide +kernel), by decide +kernel⟩
theorem cr1 : IsFin 4606703976345377586 ∧ vq 4606703976345377586 = 1041108007824 := ⟨fin_of (by decide +kernel), by decide +kernel⟩
theorem cr2 : IsFin 4603791717925830846 ∧ vq 4603791717925830846 = 685607712470 := ⟨fin_of (by decide +kernel), by decide +kernel⟩
theorem cg1 : IsFin 4598621754083818298 ∧ vq 4598621754083818298 = 302132212274 := ⟨fin_of (by decide +kernel), by decide +kernel⟩
theorem cg2 : IsFin 4603901015759978483 ∧ vq 4603901015759978483 = 698949733239 := ⟨fin_of (by decide +kernel), by decide +kernel⟩
theorem cb1 : IsFin 4607671262177584182 ∧ vq 4607671262177584182 = 1218858155502 := ⟨fin_of (by decide +kernel), by decide +kernel⟩
theorem cb2 : IsFin 4610375502138591871 ∧ vq 4610375502138591871 = 1879072989732 := ⟨fin_of (by decide +kernel), by decide +kernel⟩
theorem chalf : IsFin 4602678819172646912 ∧ vq 4602678819172646912 = 549755813888 := ⟨fin_of (by decide +kernel), by decide +kernel⟩
theorem cone : IsFin 4607182418800017408 ∧ vq 4607182418800017408 = 1099511627776 := ⟨fin_of (by decide +kernel), by decide +kernel⟩
theorem czero : IsFin 0 ∧ vq 0 = 0 := ⟨fin_of (by decide +kernel), by decide +kernel⟩
theorem ct8 : IsFin (Float64.ofInt 8) ∧ vq (Float64.ofInt 8) = 8796093022208 := ⟨fin_of (by decide +kernel), by decide +kernel⟩
theorem ct9 : IsFin (Float64.ofInt 9) ∧ vq (Float64.ofInt 9) = 9895604649984 := ⟨fin_of (by decide +kernel), by decide +kernel⟩
theorem ct10 : IsFin (Float64.ofInt 10) ∧ vq (Float64.ofInt 10) = 10995116277760 := ⟨fin_of (by decide +kernel), by decide +kernel⟩
theorem ct11 : IsFin (Float64.ofInt 11) ∧ vq (Float64.ofInt 11) = 12094627905536 := ⟨fin_of (by decide +kernel), by decide +kernel⟩
theorem mulc {C x : UInt64} {c : Int} (p q : Int) (hC : IsFin C ∧ vq C = c) (hq : 0 < q) (hc : -(2 ^ 44) ≤ c ∧ c ≤ 2 ^ 44) (hpq : -q ≤ q * c - p * 2 ^ 40 ∧ q * c - p * 2 ^ 40 ≤ q) (hx : IsFin x) (bx : -(2 ^ 43) ≤ vq x ∧ vq x ≤ 2 ^ 43) :
    IsFin (Float64.mul C x) ∧ p * vq x - 80 * q ≤ q * vq (Float64.mul C x) ∧ q * vq (Float64.mul C x) ≤ p * vq x + 80 * q := by
  have h := mul_v hC.1 hx (by rw [hC.2]; exact hc) (by omega)
  rw [hC.2] at h
  refine ⟨h.1, ?_⟩
  obtain ⟨_, h1, h2⟩ := h
  have d := mul_abs (a := q * c - p * 2 ^ 40) (b := vq x) (A := q) (B := 2 ^ 43) (by omega) bx
  have e1 : (q * c - p * 2 ^ 40) * vq x = q * (c * vq x) - 2 ^ 40 * (p * vq x) := by
    rw [Int.sub_mul, Int.mul_assoc, Int.mul_assoc, Int.mul_left_comm p]
  rw [e1] at d
  have m1 : q * (c * vq x - 2 ^ 46) ≤ q * (2 ^ 40 * vq (Float64.mul C x)) := Int.mul_le_mul_of_nonneg_left h1 (Int.le_of_lt hq)
  have m2 : q * (2 ^ 40 * vq (Float64.mul C x)) ≤ q * (c * vq x + 2 ^ 46) := Int.mul_le_mul_of_nonneg_left h2 (Int.le_of_lt hq)
  rw [Int.mul_left_comm q (2 ^ 40)] at m1 m2
  rw [Int.mul_sub] at m1
  rw [Int.mul_add] at m2
  generalize q * (c * vq x) = a1 at *
  generalize q * vq (Float64.mul C x) = a2 at *
  generalize p * vq x = a3 at *
  omega
/-- luma and chromas, near what they should be -/
structure Yiq (y i q : UInt64) (R G B : Int) : Prop where
  fy : IsFin y
  fi : IsFin i
  fq : IsFin q
  hy : -(100 * 300) ≤ 100 * vq y - (30 * R + 59 * G + 11 * B) ∧ 100 * vq y - (30 * R + 59 * G + 11 * B) ≤ 100 * 300
  hi : -(100 * 300) ≤ 100 * vq i - (74 * (R - vq y) - 27 * (B - vq y)) ∧ 100 * vq i - (74 * (R - vq y) - 27 * (B - vq y)) ≤ 100 * 300
  hq : -(100 * 300) ≤ 100 * vq q - (48 * (R - vq y) + 41 * (B - vq y)) ∧ 100 * vq q - (48 * (R - vq y) + 41 * (B - vq y)) ≤ 100 * 300
theorem yiq_v {r g b : UInt64} (hr : IsFin r) (hg : IsFin g) (hb : IsFin b) (br : -(2 ^ 41) ≤ vq r ∧ vq r ≤ 2 ^ 41) (bg : -(2 ^ 41) ≤ vq g ∧ vq g ≤ 2 ^ 41) (bb : -(2 ^ 41) ≤ vq b ∧ vq b ≤ 2 ^ 41) :
    Yiq (fY r g b) (fI r b (fY r g b)) (fQ r b (fY r g b)) (vq r) (vq g) (vq b) := by
  have a1 := mulc 3 10 c30 (by decide) (by decide) (by decide) hr (by omega)
  have a2 := mulc 59 100 c59 (by decide) (by decide) (by decide) hg (by omega)
  have a3 := mulc 11 100 c11 (by decide) (by decide) (by decide) hb (by omega)
  have s1 := add_v a1.1 a2.1 (by omega) (by omega)
  have s2 := add_v s1.1 a3.1 (by omega) (by omega)
  have hY : IsFin (fY r g b) := s2.1
  have hy : -(100 * 300) ≤ 100 * vq (fY r g b) - (30 * vq r + 59 * vq g + 11 * vq b) ∧ 100 * vq (fY r g b) - (30 * vq r + 59 * vq g + 11 * vq b) ≤ 100 * 300 := by
    unfold fY
    omega
  clear s1 s2 a1 a2 a3
  generalize fY r g b = y at *
  have d1 := sub_v hr hY (by omega) (by omega)
  have d2 := sub_v hb hY (by omega) (by omega)
  have b1 : -(2 ^ 42 + 2 ^ 41) ≤ vq (Float64.sub r y) ∧ vq (Float64.sub r y) ≤ 2 ^ 42 + 2 ^ 41 := by omega
  have b2 : -(2 ^ 42 + 2 ^ 41) ≤ vq (Float64.sub b y) ∧ vq (Float64.sub b y) ≤ 2 ^ 42 + 2 ^ 41 := by omega
  have m1 := mulc 74 100 c74 (by decide) (by decide) (by decide) d1.1 (by omega)
  have m2 := mulc 27 100 c27 (by decide) (by decide) (by decide) d2.1 (by omega)
  have m3 := mulc 48 100 c48 (by decide) (by decide) (by decide) d1.1 (by omega)
  have m4 := mulc 41 100 c41 (by decide) (by decide) (by decide) d2.1 (by omega)
  have e1 := sub_v m1.1 m2.1 (by omega) (by omega)
  have e2 := add_v m3.1 m4.1 (by omega) (by omega)
  refine ⟨hY, e1.1, e2.1, hy, ?_, ?_⟩
  · unfold fI
    omega
  · unfold fQ
    omega
theorem lem_y {y R G B : Int} (h : -(100 * 300) ≤ 100 * y - (30 * R + 59 * G + 11 * B) ∧ 100 * y - (30 * R + 59 * G + 11 * B) ≤ 100 * 300) (bR : -(2 ^ 40 + 100) ≤ R ∧ R ≤ 2 ^ 40 + 100) (bG : -(2 ^ 40 + 100) ≤ G ∧ G ≤ 2 ^ 40 + 100) (bB : -(2 ^ 40 + 100) ≤ B ∧ B ≤ 2 ^ 40 + 100) : -(2 ^ 40 + 400) ≤ y ∧ y ≤ 2 ^ 40 + 400 := by omega
theorem lem_i {y i R B : Int} (h : -(100 * 300) ≤ 100 * i - (74 * (R - y) - 27 * (B - y)) ∧ 100 * i - (74 * (R - y) - 27 * (B - y)) ≤ 100 * 300) (bR : -(2 ^ 40 + 100) ≤ R ∧ R ≤ 2 ^ 40 + 100) (bB : -(2 ^ 40 + 100) ≤ B ∧ B ≤ 2 ^ 40 + 100) (b : -(2 ^ 40 + 400) ≤ y ∧ y ≤ 2 ^ 40 + 400) : -(2 ^ 41 + 2 ^ 36) ≤ i ∧ i ≤ 2 ^ 41 + 2 ^ 36 := by omega
theorem lem_q {y q R B : Int} (h : -(100 * 300) ≤ 100 * q - (48 * (R - y) + 41 * (B - y)) ∧ 100 * q - (48 * (R - y) + 41 * (B - y)) ≤ 100 * 300) (bR : -(2 ^ 40 + 100) ≤ R ∧ R ≤ 2 ^ 40 + 100) (bB : -(2 ^ 40 + 100) ≤ B ∧ B ≤ 2 ^ 40 + 100) (b : -(2 ^ 40 + 400) ≤ y ∧ y ≤ 2 ^ 40 + 400) : -(2 ^ 41 + 2 ^ 36) ≤ q ∧ q ≤ 2 ^ 41 + 2 ^ 36 := by omega
theorem lem_ri {y y' i i' S R R' B B' : Int} (h : -(100 * 300) ≤ 100 * i - (74 * (R - y) - 27 * (B - y)) ∧ 100 * i - (74 * (R - y) - 27 * (B - y)) ≤ 100 * 300) (h' : -(100 * 300) ≤ 100 * i' - (74 * (R' - y') - 27 * (B' - y')) ∧ 100 * i' - (74 * (R' - y') - 27 * (B' - y')) ≤ 100 * 300)
    (s : i + i' - 3 ≤ S ∧ S ≤ i + i' + 3) : -(100 * 700) ≤ 100 * S - (74 * (R + R' - (y + y')) - 27 * (B + B' - (y + y'))) ∧ 100 * S - (74 * (R + R' - (y + y')) - 27 * (B + B' - (y + y'))) ≤ 100 * 700 := by omega
theorem lem_rq {y y' i i' S R R' B B' : Int} (h : -(100 * 300) ≤ 100 * i - (48 * (R - y) + 41 * (B - y)) ∧ 100 * i - (48 * (R - y) + 41 * (B - y)) ≤ 100 * 300) (h' : -(100 * 300) ≤ 100 * i' - (48 * (R' - y') + 41 * (B' - y')) ∧ 100 * i' - (48 * (R' - y') + 41 * (B' - y')) ≤ 100 * 300)
    (s : i + i' - 3 ≤ S ∧ S ≤ i + i' + 3) : -(100 * 700) ≤ 100 * S - (48 * (R + R' - (y + y')) + 41 * (B + B' - (y + y'))) ∧ 100 * S - (48 * (R + R' - (y + y')) + 41 * (B + B' - (y + y'))) ≤ 100 * 700 := by omega
theorem lem_ry {y y' R G B R' G' B' : Int} (h : -(100 * 300) ≤ 100 * y - (30 * R + 59 * G + 11 * B) ∧ 100 * y - (30 * R + 59 * G + 11 * B) ≤ 100 * 300) (h' : -(100 * 300) ≤ 100 * y' - (30 * R' + 59 * G' + 11 * B') ∧ 100 * y' - (30 * R' + 59 * G' + 11 * B') ≤ 100 * 300) :
    -(100 * 700) ≤ 100 * (y + y') - (30 * (R + R') + 59 * (G + G') + 11 * (B + B')) ∧ 100 * (y + y') - (30 * (R + R') + 59 * (G + G') + 11 * (B + B')) ≤ 100 * 700 := by omega
theorem lem_two {a b c : Int} {K : Int} (ha : -K ≤ a ∧ a ≤ K) (hb : -K ≤ b ∧ b ≤ K) (s : a + b - 3 ≤ c ∧ c ≤ a + b + 3) : -(2 * K + 3) ≤ c ∧ c ≤ 2 * K + 3 := by omega
theorem wid {a : Int} {K M : Int} (h : -K ≤ a ∧ a ≤ K) (hK : K ≤ M) : -M ≤ a ∧ a ≤ M := by omega
/-- two lights added: the colour of them is near the sum -/
theorem rgb_v {y i q y' i' q' : UInt64} {R G B R' G' B' : Int} (h : Yiq y i q R G B) (h' : Yiq y' i' q' R' G' B') (bR : -(2 ^ 40 + 100) ≤ R ∧ R ≤ 2 ^ 40 + 100) (bG : -(2 ^ 40 + 100) ≤ G ∧ G ≤ 2 ^ 40 + 100) (bB : -(2 ^ 40 + 100) ≤ B ∧ B ≤ 2 ^ 40 + 100)
    (bR' : -(2 ^ 40 + 100) ≤ R' ∧ R' ≤ 2 ^ 40 + 100) (bG' : -(2 ^ 40 + 100) ≤ G' ∧ G' ≤ 2 ^ 40 + 100) (bB' : -(2 ^ 40 + 100) ≤ B' ∧ B' ≤ 2 ^ 40 + 100) :
    (IsFin (fR (Float64.add y y') (Float64.add i i') (Float64.add q q')) ∧ R + R' - 10000 ≤ vq (fR (Float64.add y y') (Float64.add i i') (Float64.add q q')) ∧ vq (fR (Float64.add y y') (Float64.add i i') (Float64.add q q')) ≤ R + R' + 10000) ∧
    (IsFin (fG (Float64.add y y') (Float64.add i i') (Float64.add q q')) ∧ G + G' - 10000 ≤ vq (fG (Float64.add y y') (Float64.add i i') (Float64.add q q')) ∧ vq (fG (Float64.add y y') (Float64.add i i') (Float64.add q q')) ≤ G + G' + 10000) ∧
    (IsFin (fB (Float64.add y y') (Float64.add i i') (Float64.add q q')) ∧ B + B' - 10000 ≤ vq (fB (Float64.add y y') (Float64.add i i') (Float64.add q q')) ∧ vq (fB (Float64.add y y') (Float64.add i i') (Float64.add q q')) ≤ B + B' + 10000) := by
  obtain ⟨fy, fi, fq, hy, hi, hq⟩ := h
  obtain ⟨fy', fi', fq', hy', hi', hq'⟩ := h'
  have by1 := lem_y hy bR bG bB
  have by2 := lem_y hy' bR' bG' bB'
  have bi1 := lem_i hi bR bB by1
  have bi2 := lem_i hi' bR' bB' by2
  have bq1 := lem_q hq bR bB by1
  have bq2 := lem_q hq' bR' bB' by2
  have sy := add_v fy fy' (wid by1 (by decide)) (wid by2 (by decide))
  have si := add_v fi fi' (wid bi1 (by decide)) (wid bi2 (by decide))
  have sq := add_v fq fq' (wid bq1 (by decide)) (wid bq2 (by decide))
  have ri := lem_ri hi hi' si.2
  have rq := lem_rq hq hq' sq.2
  have ry := lem_ry hy hy'
  have ry' := sy.2
  have biS := lem_two bi1 bi2 si.2
  have bqS := lem_two bq1 bq2 sq.2
  have byS := lem_two by1 by2 sy.2
  have Fy := sy.1
  have Fi := si.1
  have Fq := sq.1
  clear sy si sq hy hi hq hy' hi' hq' bi1 bi2 bq1 bq2 fy fy' fi fi' fq fq'
  generalize Float64.add y y' = Y at *
  generalize Float64.add i i' = I at *
  generalize Float64.add q q' = Q at *
  have bs := lem_two by1 by2 (c := vq y + vq y') (by omega)
  generalize vq y + vq y' = s at *
  clear by1 by2
  generalize hRR : R + R' = RR at *
  generalize hGG : G + G' = GG at *
  generalize hBB : B + B' = BB at *
  have bRR : -(2 ^ 42) ≤ RR ∧ RR ≤ 2 ^ 42 := by omega
  have bGG : -(2 ^ 42) ≤ GG ∧ GG ≤ 2 ^ 42 := by omega
  have bBB : -(2 ^ 42) ≤ BB ∧ BB ≤ 2 ^ 42 := by omega
  clear bR bG bB bR' bG' bB' hRR hGG hBB
  refine ⟨?_, ?_, ?_⟩
  · have m1 := mulc 410 433 cr1 (by decide) (by decide) (by decide) Fi (wid biS (by decide))
    have m2 := mulc 270 433 cr2 (by decide) (by decide) (by decide) Fq (wid bqS (by decide))
    have w1 : -(2 ^ 43 + 80) ≤ vq (Float64.mul 4606703976345377586 I) ∧ vq (Float64.mul 4606703976345377586 I) ≤ 2 ^ 43 + 80 := by omega
    have w2 : -(2 ^ 43 + 80) ≤ vq (Float64.mul 4603791717925830846 Q) ∧ vq (Float64.mul 4603791717925830846 Q) ≤ 2 ^ 43 + 80 := by omega
    have a1 := add_v Fy m1.1 (by omega) (by omega)
    have a2 := add_v a1.1 m2.1 (by omega) (by omega)
    refine ⟨a2.1, ?_⟩
    have t : -(433 * 180) ≤ 433 * vq (fR Y I Q) - (433 * vq Y + 410 * vq I + 270 * vq Q) ∧ 433 * vq (fR Y I Q) - (433 * vq Y + 410 * vq I + 270 * vq Q) ≤ 433 * 180 := by
      unfold fR
      omega
    clear a1 a2 m1 m2 w1 w2
    omega
  · have m1 := mulc 7020 25547 cg1 (by decide) (by decide) (by decide) Fi (wid biS (by decide))
    have m2 := mulc 16240 25547 cg2 (by decide) (by decide) (by decide) Fq (wid bqS (by decide))
    have w1 : -(2 ^ 43) ≤ vq (Float64.mul 4598621754083818298 I) ∧ vq (Float64.mul 4598621754083818298 I) ≤ 2 ^ 43 := by omega
    have w2 : -(2 ^ 43) ≤ vq (Float64.mul 4603901015759978483 Q) ∧ vq (Float64.mul 4603901015759978483 Q) ≤ 2 ^ 43 := by omega
    have a1 := sub_v Fy m1.1 (by omega) w1
    have a2 := sub_v a1.1 m2.1 (by omega) w2
    refine ⟨a2.1, ?_⟩
    have t : -(25547 * 180) ≤ 25547 * vq (fG Y I Q) - (25547 * vq Y - 7020 * vq I - 16240 * vq Q) ∧ 25547 * vq (fG Y I Q) - (25547 * vq Y - 7020 * vq I - 16240 * vq Q) ≤ 25547 * 180 := by
      unfold fG
      omega
    clear a1 a2 m1 m2 w1 w2
    omega
  · have m1 := mulc 480 433 cb1 (by decide) (by decide) (by decide) Fi (wid biS (by decide))
    have m2 := mulc 740 433 cb2 (by decide) (by decide) (by decide) Fq (wid bqS (by decide))
    have w1 : -(2 ^ 43) ≤ vq (Float64.mul 4607671262177584182 I) ∧ vq (Float64.mul 4607671262177584182 I) ≤ 2 ^ 43 := by clear ri rq ry; omega
    have w2 : -(2 ^ 44) ≤ vq (Float64.mul 4610375502138591871 Q) ∧ vq (Float64.mul 4610375502138591871 Q) ≤ 2 ^ 44 := by clear ri rq ry; omega
    have a1 := sub_v Fy m1.1 (by clear ri rq ry; omega) w1
    have a2 := add_v a1.1 m2.1 (by clear ri rq ry; omega) w2
    refine ⟨a2.1, ?_⟩
    have t : -(433 * 180) ≤ 433 * vq (fB Y I Q) - (433 * vq Y - 480 * vq I + 740 * vq Q) ∧ 433 * vq (fB Y I Q) - (433 * vq Y - 480 * vq I + 740 * vq Q) ≤ 433 * 180 := by
      unfold fB
      clear ri rq ry
      omega
    clear a1 a2 m1 m2 w1 w2
    omega
theorem val_zero : Float64.val 0 = 0 := by decide +kernel
theorem val_one : Float64.val 4607182418800017408 = 2 ^ 40 * vP := by rw [← S_eq]; decide +kernel
theorem cut0_v {x : UInt64} (hx : IsFin x) : IsFin (cut0 x) ∧ vq (cut0 x) = max 0 (vq x) := by
  obtain ⟨a, m, e, hd⟩ := hx
  obtain ⟨b, k, f, h0⟩ := czero.1
  have hp := vP_pos
  have x1 := vq_le x
  have x2 := vq_lt x
  unfold cut0
  rw [Float64.cmp_right hd h0, val_zero]
  by_cases h : Float64.val x < 0
  · rw [if_pos (by rw [Int.compare_eq_lt.mpr h]; rfl)]
    refine ⟨czero.1, ?_⟩
    rw [czero.2]
    have : vq x < 0 := by
      rcases Int.lt_or_le (vq x) 0 with h' | h'
      · exact h'
      · have := Int.mul_nonneg (Int.le_of_lt hp) h'
        omega
    omega
  · rw [if_neg (by
      rcases Int.lt_or_eq_of_le (Int.not_lt.mp h) with h' | h'
      · rw [Int.compare_eq_gt.mpr h']; decide
      · rw [← h', Int.compare_eq_eq.mpr rfl]; decide)]
    refine ⟨⟨a, m, e, hd⟩, ?_⟩
    have : 0 ≤ vq x := by
      unfold vq
      exact Int.ediv_nonneg (by omega) (Int.le_of_lt hp)
    omega
theorem cut1_v {x : UInt64} (hx : IsFin x) : IsFin (cut1 x) ∧ vq (cut1 x) = min (2 ^ 40) (vq x) := by
  obtain ⟨a, m, e, hd⟩ := hx
  obtain ⟨b, k, f, h0⟩ := cone.1
  have hp := vP_pos
  have x1 := vq_le x
  have x2 := vq_lt x
  unfold cut1
  rw [Float64.cmp_right hd h0, val_one]
  by_cases h : 2 ^ 40 * vP < Float64.val x
  · rw [if_pos (by rw [Int.compare_eq_gt.mpr h]; rfl)]
    refine ⟨cone.1, ?_⟩
    rw [cone.2]
    have : vP * 2 ^ 40 < vP * (vq x + 1) := by
      rw [Int.mul_add, Int.mul_comm vP (2 ^ 40)]
      omega
    have := Int.lt_of_mul_lt_mul_left this (Int.le_of_lt hp)
    omega
  · rw [if_neg (by
      rcases Int.lt_or_eq_of_le (Int.not_lt.mp h) with h' | h'
      · rw [Int.compare_eq_lt.mpr h']; decide
      · rw [h', Int.compare_eq_eq.mpr rfl]; decide)]
    refine ⟨⟨a, m, e, hd⟩, ?_⟩
    have : vP * vq x < vP * (2 ^ 40 + 1) := by
      rw [Int.mul_add, Int.mul_comm vP (2 ^ 40)]
      omega
    have := Int.lt_of_mul_lt_mul_left this (Int.le_of_lt hp)
    omega
/-- what int() makes of the float -/
def Tells (x : UInt64) (z : Int) : Prop := ∃ a m e, Float64.decode x = .fin a m e ∧ Float64.truncOf a m e = z
theorem tells_of {x : UInt64} (hx : IsFin x) (h : 0 < Float64.val x) : Tells x (vq x / 2 ^ 40) := by
  obtain ⟨a, m, e, hd⟩ := hx
  refine ⟨a, m, e, hd, ?_⟩
  have hge := Float64.decode_ge hd
  have hv := Float64.val_eq hd
  have ha : a = false := by
    cases a
    · rfl
    · rw [hv] at h
      unfold Float64.sgn at h
      simp only [if_true] at h
      omega
  subst ha
  have hv' : Float64.val x = (m : Int) * 2 ^ (e + 1074).toNat := by
    rw [hv]
    unfold Float64.sgn
    simp only [Bool.false_eq_true, if_false]
    rw [Int.natCast_mul, Int.natCast_pow]; rfl
  have hq : vq x / 2 ^ 40 = Float64.val x / 2 ^ 1074 := by
    unfold vq
    rw [Int.ediv_ediv_of_nonneg (Int.le_of_lt vP_pos), S_eq, Int.mul_comm]
  rw [hq, hv']
  unfold Float64.truncOf Float64.floorOf Float64.sgn
  simp only [Bool.false_eq_true, if_false]
  split
  · rename_i h0
    have e1 : (e + 1074).toNat = e.toNat + 1074 := by omega
    rw [e1, Int.pow_add, ← Int.mul_assoc, Int.mul_ediv_cancel _ (Int.ne_of_gt (Int.pow_pos (by decide)))]
  · rename_i h0
    have e1 : (2 : Int) ^ 1074 = 2 ^ (-e).toNat * 2 ^ (e + 1074).toNat := by
      rw [← Int.pow_add]
      congr 1
      omega
    rw [e1, Int.mul_ediv_mul_of_pos_left _ _ (Int.pow_pos (by decide))]
    exact Int.fdiv_eq_ediv_of_nonneg _ (Int.le_of_lt (Int.pow_pos (by decide)))
theorem g_lo {lo hi v : Int} (l : lo ≤ hi) (h : v ≤ lo) : min hi (max lo v) = lo := by rw [Int.max_eq_left h, Int.min_eq_right l]
theorem g_hi {lo hi v : Int} (l : lo ≤ hi) (h : hi ≤ v) : min hi (max lo v) = hi := by rw [Int.max_eq_right (Int.le_trans l h), Int.min_eq_left h]
theorem g_in {lo hi v : Int} (h : lo ≤ v) (k : v ≤ hi) : min hi (max lo v) = v := by rw [Int.max_eq_right h, Int.min_eq_right k]
theorem told_fin {w z t P : Int} (ht : t = 8 ∨ t = 9 ∨ t = 10 ∨ t = 11) (hP : t * P - 200 ≤ w - 2 ^ 39 ∧ w - 2 ^ 39 ≤ t * P + 200) (x : Int) (hx : P = min (2 ^ 40) (max 0 x)) (h : -(2 ^ 38) ≤ t * x - z * 2 ^ 40 ∧ t * x - z * 2 ^ 40 ≤ 2 ^ 38) :
    w / 2 ^ 40 = min t (max 0 z) ∧ 0 < w := by
  have h0 : 0 ≤ t := by omega
  clear ht
  by_cases a : x ≤ 0
  · have e : P = 0 := by rw [hx]; exact g_lo (by decide) a
    have q := Int.mul_le_mul_of_nonneg_left a h0
    rw [Int.mul_zero] at q
    rw [e, Int.mul_zero] at hP
    clear hx e a
    rw [g_lo h0 (by omega)]
    clear h q
    omega
  · by_cases b : 2 ^ 40 ≤ x
    · have e : P = 2 ^ 40 := by rw [hx]; exact g_hi (by decide) b
      have q := Int.mul_le_mul_of_nonneg_left b h0
      rw [e] at hP
      clear hx e a b
      rw [g_hi h0 (by omega)]
      clear h q
      omega
    · have e : P = x := by rw [hx]; exact g_in (by omega) (by omega)
      have q1 : 0 ≤ t * x := Int.mul_nonneg h0 (by omega)
      have q2 := Int.mul_le_mul_of_nonneg_left (show x ≤ 2 ^ 40 by omega) h0
      rw [e] at hP
      clear hx e a b
      rw [g_in (by omega) (by omega)]
      clear q2
      omega
theorem told {x : UInt64} {z top : Int} (hx : IsFin x) (ht : 8 ≤ top ∧ top ≤ 11) (h : -(2 ^ 38) ≤ top * vq x - z * 2 ^ 40 ∧ top * vq x - z * 2 ^ 40 ≤ 2 ^ 38) :
    Tells (Float64.add (Float64.mul (cut1 (cut0 x)) (Float64.ofInt top)) 4602678819172646912) (min top (max 0 z)) := by
  have c0 := cut0_v hx
  have c1 := cut1_v c0.1
  rw [c0.2] at c1
  have ht' : top = 8 ∨ top = 9 ∨ top = 10 ∨ top = 11 := by omega
  have hT : IsFin (Float64.ofInt top) ∧ vq (Float64.ofInt top) = top * 2 ^ 40 := by
    rcases ht' with rfl | rfl | rfl | rfl
    · exact ct8
    · exact ct9
    · exact ct10
    · exact ct11
  have hb : 0 ≤ vq (cut1 (cut0 x)) ∧ vq (cut1 (cut0 x)) ≤ 2 ^ 40 := by
    rw [c1.2]
    exact ⟨Int.le_min.mpr ⟨by decide, Int.le_max_left ..⟩, Int.min_le_left ..⟩
  have bP : -(2 ^ 44) ≤ vq (cut1 (cut0 x)) ∧ vq (cut1 (cut0 x)) ≤ 2 ^ 44 := ⟨Int.le_trans (by decide) hb.1, Int.le_trans hb.2 (by decide)⟩
  have M := mul_v c1.1 hT.1 bP (by rw [hT.2]; omega)
  rw [hT.2] at M
  have eM : vq (cut1 (cut0 x)) * (top * 2 ^ 40) = 2 ^ 40 * (top * vq (cut1 (cut0 x))) := by
    rw [Int.mul_left_comm, Int.mul_comm (2 ^ 40), Int.mul_assoc]
  rw [eM] at M
  have bt : 0 ≤ top * vq (cut1 (cut0 x)) ∧ top * vq (cut1 (cut0 x)) ≤ 11 * 2 ^ 40 := ⟨Int.mul_nonneg (Int.le_trans (by decide) ht.1) hb.1, Int.mul_le_mul ht.2 hb.2 hb.1 (by decide)⟩
  have A := add_v M.1 chalf.1 (by clear h; omega) (by rw [chalf.2]; decide)
  rw [chalf.2] at A
  have F := told_fin (w := vq (Float64.add (Float64.mul (cut1 (cut0 x)) (Float64.ofInt top)) 4602678819172646912)) (z := z) (t := top) (P := vq (cut1 (cut0 x))) ht' (by clear h; omega) (vq x) c1.2 h
  have T := tells_of A.1 (by
    have x1 := vq_le (Float64.add (Float64.mul (cut1 (cut0 x)) (Float64.ofInt top)) 4602678819172646912)
    have := Int.mul_pos vP_pos F.2
    omega)
  rw [F.1] at T
  exact T
abbrev fr (n top : Int) : UInt64 := Float64.ofFrac (decide (n < 0) != decide (top < 0)) n.natAbs top.natAbs
theorem fr_v {n top : Int} (ht : 8 ≤ top ∧ top ≤ 11) (hn : -4 ≤ n ∧ n ≤ top) : IsFin (fr n top) ∧ (n * 2 ^ 40 - 2 * top ≤ top * vq (fr n top) ∧ top * vq (fr n top) ≤ n * 2 ^ 40 + 2 * top) ∧ (-(2 ^ 40 + 100) ≤ vq (fr n top) ∧ vq (fr n top) ≤ 2 ^ 40 + 100) := by
  obtain ⟨d, rfl⟩ : ∃ d : Nat, top = d := ⟨top.toNat, by omega⟩
  have q := frac_v (n := n) (d := d) (by omega) (by omega)
  unfold fr
  rw [Int.natAbs_natCast]
  refine ⟨q.1, q.2, ?_⟩
  obtain ⟨_, q⟩ := q
  generalize vq _ = v at *
  have hd : d = 8 ∨ d = 9 ∨ d = 10 ∨ d = 11 := by omega
  rcases hd with rfl | rfl | rfl | rfl <;> omega
theorem near {t a b x l m : Int} (ht : 8 ≤ t ∧ t ≤ 11) (ha : l * 2 ^ 40 - 2 * t ≤ t * a ∧ t * a ≤ l * 2 ^ 40 + 2 * t) (hb : m * 2 ^ 40 - 2 * t ≤ t * b ∧ t * b ≤ m * 2 ^ 40 + 2 * t) (hx : a + b - 10000 ≤ x ∧ x ≤ a + b + 10000) :
    -(2 ^ 38) ≤ t * x - (l + m) * 2 ^ 40 ∧ t * x - (l + m) * 2 ^ 40 ≤ 2 ^ 38 := by
  have h0 : 0 ≤ t := Int.le_trans (by decide) ht.1
  have q1 := Int.mul_le_mul_of_nonneg_left hx.1 h0
  have q2 := Int.mul_le_mul_of_nonneg_left hx.2 h0
  rw [Int.mul_sub, Int.mul_add] at q1
  rw [Int.mul_add, Int.mul_add] at q2
  clear hx
  constructor
  · clear q2; omega
  · clear q1; omega
theorem light_tells {l0 l1 l2 m0 m1 m2 top : Int} (h0 : 0 ≤ l0 ∧ l0 ≤ top) (h1 : 0 ≤ l1 ∧ l1 ≤ top) (h2 : 0 ≤ l2 ∧ l2 ≤ top) (hm0 : -4 ≤ m0 ∧ m0 ≤ 4) (hm1 : -4 ≤ m1 ∧ m1 ≤ 4) (hm2 : -4 ≤ m2 ∧ m2 ≤ 4) (ht : 8 ≤ top ∧ top ≤ 11)
    {y y' i i' q q' : UInt64} (ey : y = fY (fr l0 top) (fr l1 top) (fr l2 top)) (ei : i = fI (fr l0 top) (fr l2 top) y) (eq : q = fQ (fr l0 top) (fr l2 top) y)
    (ey' : y' = fY (fr m0 top) (fr m1 top) (fr m2 top)) (ei' : i' = fI (fr m0 top) (fr m2 top) y') (eq' : q' = fQ (fr m0 top) (fr m2 top) y') :
    Tells (Float64.add (Float64.mul (cut1 (cut0 (fR (Float64.add y y') (Float64.add i i') (Float64.add q q')))) (Float64.ofInt top)) 4602678819172646912) (lv top l0 m0) ∧
    Tells (Float64.add (Float64.mul (cut1 (cut0 (fG (Float64.add y y') (Float64.add i i') (Float64.add q q')))) (Float64.ofInt top)) 4602678819172646912) (lv top l1 m1) ∧
    Tells (Float64.add (Float64.mul (cut1 (cut0 (fB (Float64.add y y') (Float64.add i i') (Float64.add q q')))) (Float64.ofInt top)) 4602678819172646912) (lv top l2 m2) := by
  have a0 := fr_v ht (n := l0) (by omega)
  have a1 := fr_v ht (n := l1) (by omega)
  have a2 := fr_v ht (n := l2) (by omega)
  have b0 := fr_v ht (n := m0) (by omega)
  have b1 := fr_v ht (n := m1) (by omega)
  have b2 := fr_v ht (n := m2) (by omega)
  have Y := yiq_v a0.1 a1.1 a2.1 (wid a0.2.2 (by decide)) (wid a1.2.2 (by decide)) (wid a2.2.2 (by decide))
  have Y' := yiq_v b0.1 b1.1 b2.1 (wid b0.2.2 (by decide)) (wid b1.2.2 (by decide)) (wid b2.2.2 (by decide))
  subst ey
  subst ey'
  subst ei
  subst ei'
  subst eq
  subst eq'
  have R := rgb_v Y Y' a0.2.2 a1.2.2 a2.2.2 b0.2.2 b1.2.2 b2.2.2
  exact ⟨told R.1.1 ht (near ht a0.2.1 b0.2.1 R.1.2), told R.2.1.1 ht (near ht a1.2.1 b1.2.1 R.2.1.2), told R.2.2.1 ht (near ht a2.2.1 b2.2.1 R.2.2.2)⟩
local macro_rules | `(tactic| walk_at "my ec") => `(tactic| ((case kA => exact rfl); (case kF => exact rfl); (case kK => first | exact rfl | assumption); (case k1 => k_asm); (case k2 => k_asm); (case k3 => k_asm); (case k4 => k_asm); (case k5 => k_asm); (case k6 => k_is); (case k7 => k_is); (case k8 => ktr_room); (case k9 => exact BindsTo.of_eq rfl); (case c2 => exact rfl); (case c3 => exact rfl); (case c4 => exact rfl)))
local macro_rules | `(tactic| walk_at "my enter") => `(tactic| first
  | (refine' code_def ?k1 ?k2 ?k3 ?k4 ?k5 ?kA ?kF ?kK ?k6 ?k7 ?k8 ?k9 ?kB ?_ ?c2 ?c3 ?c4 ?c5; walk_at "my ec"; (case c5 => decide); (case kB => exact locs rfl); k_whole; intro g' L' h' FG' F' N' B' X' T'; (try dsimp only); (try k_lift B'); (try k_fold))
  | (refine' code_defC ?k1 ?k2 ?k3 ?k4 ?k5 ?kA ?kF ?kK ?k6 ?k7 ?k8 ?k9 ?kB ?kD ?_ ?c2 ?c3 ?c4; walk_at "my ec"; (case kB => exact rfl); (case kD => decide +kernel); k_whole; intro g' L' h' tk' cells' FG' F' N' Y' B' X' T' l1; (try k_lt l1); k_cells Y'; (try simp only [List.cons_append, List.nil_append] at N'); (try dsimp only); (try k_lift B'); (try k_fold)))
local macro_rules | `(tactic| walk_at "call ref") => `(tactic| (k_here; (refine wpAny_call ?_); k_dflt walk_at "my enter"))
local macro_rules | `(tactic| walk_at "my mem") => `(tactic| first | assumption | exact List.Mem.head _ | (refine List.Mem.tail _ ?_; walk_at "my mem"))
local macro_rules | `(tactic| walk_at "my sub") => `(tactic| first | exact fun _ h => h | exact fun _ h => List.mem_cons_of_mem _ h | exact fun _ h => List.mem_cons_of_mem _ (List.mem_cons_of_mem _ h) | (intro p9 h9; simp only [List.mem_append, List.mem_cons] at h9 ⊢; first | (simp only [h9, true_or, or_true]; done) | (rcases h9 with h9 | h9 <;> simp only [h9, true_or, or_true] <;> done)))
local macro_rules | `(tactic| walk_at "eval ListComp") => `(tactic| (k_here; k_dflt (refine LCg.ListComp_U (F₀ := by k_asm) (by with_unfolding_all rfl) (by decide) (by rfl) (by decide) (by rfl) ?_); k_dflt lcg_toSrc))
local macro_rules | `(tactic| walk_at "CompSrc") => `(tactic| (k_here; k_dflt ((refine LCg.CompSrc.ledger (by rfl) (by k_asm) (by k_asm) (by walk_at "my mem") (by exact Nat.le_of_ble_eq_true rfl) ?_); intro g'; lcg_lit)))
local macro_rules | `(tactic| walk_at "CompRest") => `(tactic| (with_unfolding_all first
  | (refine LCg.CompRest.succ ?_; intro v' I' oI' C' oC' D' m' h' tk' E' hv' hC' hx' F' N' off' ne'; clear ne'; (first | lcg_open hv' | (obtain ⟨t9', hv9'⟩ := hv'; subst hv9')))
  | refine LCg.CompRest.zero ?_))
local macro_rules | `(tactic| walk_at "CompEnd") => `(tactic| (k_dflt (refine compEnd_same (by assumption) (by assumption) (by assumption) (by first | exact True.intro | exact Or.inr ⟨_, by (walk_at "my mem"), rfl, _, rfl⟩) ?_)))
local macro_rules | `(tactic| walk_at "my retO") => `(tactic| (intro _; intros; (try dsimp only); (try k_fold)))
local macro_rules | `(tactic| walk_at "my retV") => `(tactic| (intro t0' h' tk' F' N'; (try dsimp only); (try k_fold)))
local macro_rules | `(tactic| walk_at "subscriptTail") => `(tactic| (k_here; (with_reducible show wpAny _ _ (subscriptTail _ _ (Value.ref _) (Value.int _ _)) _ _ _); k_dflt (refine' item_led ?k1 ?k2 ?k3 ?k4 ?k5 ?_ ?k6; (case k1 => k_asm); (case k2 => walk_at "my mem"); (case k3 => decide); (case k4 => decide); (case k5 => exact rfl); (case k6 => with_unfolding_all rfl); k_whole)))
example : (PySem.Challenge.rw_wu0007_01, hd.heap_39) = (PySem.Challenge.rw_wu0007_01, hd.heap_39) := by
  w_on
  k_fill
  rfl
local macro_rules | `(tactic| walk_at "my stop") => `(tactic| with_reducible first | show StepTo .. | show Back .. | show Mid .. | show WhlRest .. | show GoodW .. | show codeAny _ _ (Code.forLoop ..) ..)
local macro_rules | `(tactic| walk_at "my steps") => `(tactic| repeat' ((fail_if_success walk_at "my stop"); first | (k_unfold; (try dsimp only)) | (k_end; wrow_close) | walk1 | (dsimp only; walk1) | (leave1; (try dsimp only))))
set_option maxHeartbeats 8000000 in
theorem ones {w mean mg mb news} {c : Int} {t : Tok} (h0 : 0 ≤ c) (h1 : c ≤ 11) : Does w mean mg mb 115 [.int c t] news 3 (RetV news fun t => .int (2 ^ c.toNat - 1) t) := by
  dsimp only [Does, RetV]
  intros
  rename_i hret
  refine wpAny_call ?_
  k_dflt walk_at "my enter"
  k_steps
  all_goals exact endV _ hret (by k_asm) (by k_asm) (by walk_at "my sub") (by rw [Int.one_mul])
def LineR (top : Int) (v : Value) (r : Tok → Value) : Prop := ∃ l u, v = .int l u ∧ r = .str (pad l top) ∧ 0 ≤ l ∧ l ≤ top
section
local macro_rules | `(tactic| walk_at "CompSrc") => `(tactic| (k_here; k_dflt ((refine LCg.CompSrc.ledger (by rfl) (by k_asm) (by k_asm) (by walk_at "my mem") (by exact Nat.le_of_ble_eq_true rfl) ?_); intro g'; lcg_lit; (refine comp_rel3 (LineR _) ⟨_, _, rfl, rfl, by assumption⟩ ⟨_, _, rfl, rfl, by assumption⟩ ⟨_, _, rfl, rfl, by assumption⟩ ?_ ?_); intro v' r' I' oI' C' oC' D' m' ys' h' tk' E' hR'; (obtain ⟨l9, u9, e9, e8, b9⟩ := hR'); subst e9; subst e8; (have b8 := b9.1); (have b7 := b9.2); intros)))
local macro_rules | `(tactic| walk_at "CompEnd") => `(tactic| (k_dflt (refine compEnd_same (by assumption) (by assumption) (by assumption) (by exact Or.inr ⟨_, by (walk_at "my mem"), rfl, _, rfl⟩) ⟨rfl, _, rfl⟩)))
set_option maxHeartbeats 8000000 in
theorem lines {w mean mg mb news} {D : Addr} {l0 l1 l2 top : Int} {t0 t1 t2 t3 : Tok} {c : Nat} (hD : (D, L3 (.int l0) (.int l1) (.int l2) t0 t1 t2 c) ∈ news)
    (h0 : 0 ≤ l0 ∧ l0 ≤ top) (h1 : 0 ≤ l1 ∧ l1 ≤ top) (h2 : 0 ≤ l2 ∧ l2 ≤ top) (h3 : 8 ≤ top ∧ top ≤ 11) :
   Does w mean mg mb 101 [.ref D, .int top t3] news 3 (RetO news (L3 (.str (pad l0 top)) (.str (pad l1 top)) (.str (pad l2 top)))) := by
  dsimp only [Does, RetO]
  intros
  rename_i hret
  refine wpAny_call ?_
  k_dflt walk_at "my enter"
  k_steps
  all_goals (rename (_ ∧ LCg.Off1 _ _) => ho)
  all_goals exact endO _ _ _ hret (by k_asm) (by k_asm) (by walk_at "my mem") (by walk_at "my sub") ho.2 rfl
end
section
theorem word_dn : ∀ (k a : Fin 12) (n : Fin 5), a.val ≤ k.val → (2 ^ (a.val : Int).toNat - 1 : Int).fdiv (2 ^ (n.val : Int).toNat) = 2 ^ (lv (k.val : Int) (a.val : Int) (-(n.val : Int))).toNat - 1 := by decide +kernel
theorem word_up : ∀ (k a : Fin 12) (n : Fin 5), a.val ≤ k.val → 8 ≤ k.val → Builtin.bitOr (2 ^ (a.val : Int).toNat - 1) (Builtin.bitAnd ((2 ^ (a.val : Int).toNat - 1) * 2 ^ (n.val : Int).toNat) (2 ^ (k.val : Int).toNat - 1) + (2 ^ (n.val : Int).toNat - 1)) = 2 ^ (lv (k.val : Int) (a.val : Int) (n.val : Int)).toNat - 1 := by decide +kernel
theorem word_dn' {x a m top : Int} (hx : x = 2 ^ a.toNat - 1) (h : 0 ≤ a ∧ a ≤ top) (hm : -4 ≤ m ∧ m < 0) (ht : 8 ≤ top ∧ top ≤ 11) : x.fdiv (2 ^ (-m).toNat) = 2 ^ (lv top a m).toNat - 1 := by
  obtain ⟨k, rfl⟩ := nat_of (k := 12) (Int.le_trans (by decide) ht.1) (Int.lt_of_le_of_lt ht.2 (by decide))
  obtain ⟨a, rfl⟩ := nat_of (k := 12) h.1 (Int.lt_of_le_of_lt h.2 (Int.lt_of_le_of_lt ht.2 (by decide)))
  obtain ⟨n, e⟩ := nat_of (k := 5) (l := -m) (by omega) (by omega)
  have q := word_dn k a n (Int.ofNat_le.mp h.2)
  rw [← e, Int.neg_neg] at q
  rw [hx]
  exact q
theorem word_up' {x a m top : Int} (hx : x = 2 ^ a.toNat - 1) (h : 0 ≤ a ∧ a ≤ top) (hm : 0 ≤ m ∧ m ≤ 4) (ht : 8 ≤ top ∧ top ≤ 11) :
    Builtin.bitOr x (Builtin.bitAnd (x * 2 ^ m.toNat) (2 ^ top.toNat - 1) + (2 ^ m.toNat - 1)) = 2 ^ (lv top a m).toNat - 1 := by
  obtain ⟨k, rfl⟩ := nat_of (k := 12) (Int.le_trans (by decide) ht.1) (Int.lt_of_le_of_lt ht.2 (by decide))
  obtain ⟨a, rfl⟩ := nat_of (k := 12) h.1 (Int.lt_of_le_of_lt h.2 (Int.lt_of_le_of_lt ht.2 (by decide)))
  obtain ⟨n, rfl⟩ := nat_of (k := 5) hm.1 (Int.lt_of_le_of_lt hm.2 (by decide))
  rw [hx]
  exact word_up k a n (Int.ofNat_le.mp h.2) (Int.ofNat_le.mp ht.1)
theorem pow_lt (a top : Int) (h : 0 ≤ a ∧ a ≤ top) (ht : top ≤ 11) : 0 ≤ (2 : Int) ^ a.toNat - 1 ∧ (2 : Int) ^ a.toNat - 1 < 2048 := by
  have : ∀ k : Fin 12, 0 ≤ (2 : Int) ^ k.val - 1 ∧ (2 : Int) ^ k.val - 1 < 2048 := by decide +kernel
  exact this ⟨a.toNat, by omega⟩
local macro_rules | `(tactic| walk_at "call ref") => `(tactic| (k_here; (with_reducible show wpAny _ _ (call (Value.ref 115) _) _ _ _); k_dflt (refine' useDoes (D := ones (by omega) (by omega)) (h := ?_); walk_at "my retV")))
set_option maxHeartbeats 8000000 in
theorem word {w mean mg mb news} {x a m top : Int} {t0 t1 t2 : Tok} (hx : x = 2 ^ a.toNat - 1) (ha : 0 ≤ a ∧ a ≤ top) (hm : -4 ≤ m ∧ m ≤ 4) (ht : 8 ≤ top ∧ top ≤ 11) :
   Does w mean mg mb 122 [.int x t0, .int m t1, .int top t2] news 5 (RetV news (fun t => .int (2 ^ (lv top a m).toNat - 1) t)) := by
  have hb := pow_lt a top ha ht.2
  rw [← hx] at hb
  dsimp only [Does, RetV]
  intros
  rename_i hret
  refine wpAny_call ?_
  k_dflt walk_at "my enter"
  k_steps
  · exact endV _ hret (by k_asm) (by k_asm) (by walk_at "my sub") (by rw [word_dn' hx ha (by omega) ht])
  · exact endV _ hret (by k_asm) (by k_asm) (by walk_at "my sub") (by rw [word_up' hx ha (by omega) ht])
end
section
set_option maxHeartbeats 8000000 in
theorem yiq {w mean mg mb news} {r g b : UInt64} {t0 t1 t2 : Tok}  :
   Does w mean mg mb 21 [.float r t0, .float g t1, .float b t2] news 3 (RetO news (T3 (.float (fY r g b)) (.float (fI r b (fY r g b))) (.float (fQ r b (fY r g b))))) := by
  dsimp only [Does, RetO]
  intros
  rename_i hret
  refine wpAny_call ?_
  k_dflt walk_at "my enter"
  k_steps
  all_goals exact endO _ _ _ hret (by k_asm) (by k_asm) (by walk_at "my mem") (by walk_at "my sub") (off1_lt (by assumption)) rfl
end
section
variable {prog : Program} {w : World} {A : Around} {E : Value → Shared → Prop} {s : Shared} {env : Env} {g : Heap} {L : Addr} {m : Str → Option Value} {news : List (Addr × Obj)} {x : Str} {px pc pos : Pos} {ops : List CmpOp} {rs : List PySem.Expr} {body orelse : List Stmt} {v : UInt64} {t : Tok} {Q : Flow → Shared → Prop}
theorem if_mid (cut : UInt64 → UInt64) (F : Fr g L s.heap m) (N : News g L s.heap news) (hm : m x = some (.float v t))
    (walk : wpAny (model prog w) A (exec (.If (.Compare (.Name x px) ops rs pc) body orelse pos) env) (Mid s g L m news x (cut v)) E s)
    (rest : ∀ h' tk' t', Fr g L h' (fun y => if y = x then some (.float (cut v) t') else m y) → News g L h' news → Q .next { s with heap := h', toks := tk' }) :
    wpAny (model prog w) A (exec (.If (.Compare (.Name x px) ops rs pc) body orelse pos) env) Q E s := by
  refine wpAny_mono walk (fun f s' h => ?_) fun _ _ e => e
  obtain ⟨rfl, h', tk', t', rfl, F', N'⟩ := h
  exact rest h' tk' t' F' N'
theorem mid_yes {h' : Heap} {tk' : Nat} {t' : Tok} {u : UInt64} (F : Fr g L h' (fun y => if y = x then some (.float u t') else m y)) (N : News g L h' news) (e : v = u) :
    Mid s g L m news x v .next { s with heap := h', toks := tk' } := by
  subst e
  exact ⟨rfl, h', tk', t', rfl, F, N⟩
theorem mid_no {h' : Heap} {tk' : Nat} {t' : Tok} {u : UInt64} (F : Fr g L h' m) (N : News g L h' news) (hm : m x = some (.float u t')) (e : v = u) :
    Mid s g L m news x v .next { s with heap := h', toks := tk' } := by
  subst e
  refine ⟨rfl, h', tk', t', rfl, fr_map F fun y => ?_, N⟩
  split
  · rename_i e
    rw [e, hm]
  · rfl
theorem cut0_pos {x : UInt64} (h : (Float64.cmp x 0 == some Ordering.lt) = true) : cut0 x = 0 := if_pos h
theorem cut0_neg {x : UInt64} (h : (Float64.cmp x 0 == some Ordering.lt) = false) : cut0 x = x := if_neg (Bool.eq_false_iff.mp h)
theorem cut1_pos {x : UInt64} (h : (Float64.cmp x 4607182418800017408 == some Ordering.gt) = true) : cut1 x = 4607182418800017408 := if_pos h
theorem cut1_neg {x : UInt64} (h : (Float64.cmp x 4607182418800017408 == some Ordering.gt) = false) : cut1 x = x := if_neg (Bool.eq_false_iff.mp h)
end
section
local macro_rules | `(tactic| walk_at "my mid") => `(tactic| first
  | exact mid_yes (by k_asm) (by k_asm) (by first | exact cut0_pos (by assumption) | exact cut1_pos (by assumption))
  | exact mid_no (by k_asm) (by k_asm) (by with_unfolding_all rfl) (by first | exact cut0_neg (by assumption) | exact cut1_neg (by assumption)))
local macro_rules | `(tactic| walk_at "exec If") => `(tactic| (k_here; (fail_if_success with_reducible show wpAny _ _ _ (Mid _ _ _ _ _ _ _) _ _); k_dflt (first
  | ((with_reducible show wpAny _ _ (exec (.If (.Compare _ [CmpOp.Lt] _ _) _ _ _) _) _ _ _); refine' if_mid cut0 ?F9 ?N9 ?m9 ?w9 ?_)
  | ((with_reducible show wpAny _ _ (exec (.If (.Compare _ [CmpOp.Gt] _ _) _ _ _) _) _ _ _); refine' if_mid cut1 ?F9 ?N9 ?m9 ?w9 ?_)); (case F9 => k_asm); (case N9 => k_asm); (case m9 => with_unfolding_all rfl); (case w9 => k_dflt (walk_at "my steps"; all_goals walk_at "my mid")); intro h' tk' t' F' N'; (try dsimp only)))
set_option maxHeartbeats 16000000 in
theorem rgb {w mean mg mb news} {y i q : UInt64} {t0 t1 t2 : Tok}  :
   Does w mean mg mb 28 [.float y t0, .float i t1, .float q t2] news 3 (RetO news (T3 (.float (cut1 (cut0 (fR y i q)))) (.float (cut1 (cut0 (fG y i q)))) (.float (cut1 (cut0 (fB y i q)))))) := by
  dsimp only [Does, RetO]
  intros
  rename_i hret
  refine wpAny_call ?_
  k_dflt walk_at "my enter"
  walk_at "my steps"
  all_goals exact endO (c := 0) _ _ _ hret (by k_asm) (by k_asm) (by walk_at "my mem") (by walk_at "my sub") (off1_lt (by assumption)) (by simp only [T3, fR, fG, fB]; with_reducible rfl)
end
def mostI (a b c : Int) : Int := Builtin.bitOr (Builtin.bitOr (Builtin.bitAnd a b) (Builtin.bitAnd b c)) (Builtin.bitAnd a c)
set_option maxHeartbeats 8000000 in
theorem most {w mean mg mb news} {a b c : Int} {t0 t1 t2 : Tok} :
   Does w mean mg mb 129 [.int a t0, .int b t1, .int c t2] news 4 (RetV news (fun t => .int (mostI a b c) t)) := by
  dsimp only [Does, RetV]
  intros
  rename_i hret
  refine wpAny_call ?_
  k_dflt walk_at "my enter"
  k_steps
  all_goals exact endV _ hret (by k_asm) (by k_asm) (by walk_at "my sub") rfl
def endI (lo hi x : Int) : Int := if (if x > lo then x else lo) < hi then (if x > lo then x else lo) else hi
set_option maxHeartbeats 8000000 in
theorem endC {w mean mg mb news} {D : Addr} {lo hi sh l : Int} {t0 t1 t2 t3 : Tok} {c : Nat}
    (hD : (D, L3 (.int lo) (.int hi) (.int sh) t0 t1 t2 c) ∈ news) :
   Does w mean mg mb 150 [.ref D, .int l t3] news 4 (RetV news (fun t => .int (endI lo hi (l + sh)) t)) := by
  dsimp only [Does, RetV]
  intros
  rename_i hret
  refine wpAny_call ?_
  k_dflt walk_at "my enter"
  k_steps
  all_goals (try k_data)
  all_goals exact endV _ hret (by k_asm) (by k_asm) (by walk_at "my sub") rfl
set_option maxHeartbeats 8000000 in
theorem joined {w mean mg mb news} {D D2 : Addr} {lo hi sh lo2 hi2 sh2 : Int} {t0 t1 t2 t3 t4 t5 : Tok} {c c2 : Nat}
    (hD : (D, L3 (.int lo) (.int hi) (.int sh) t0 t1 t2 c) ∈ news) (hD2 : (D2, L3 (.int lo2) (.int hi2) (.int sh2) t3 t4 t5 c2) ∈ news) :
   Does w mean mg mb 136 [.ref D, .ref D2] news 4 (RetO news (L3 (.int (endI lo2 hi2 (lo + sh2))) (.int (endI lo2 hi2 (hi + sh2))) (.int (sh + sh2)))) := by
  dsimp only [Does, RetO]
  intros
  rename_i hret
  refine wpAny_call ?_
  k_dflt walk_at "my enter"
  k_steps
  all_goals (try k_data)
  all_goals exact endO (c := 0) _ _ _ hret (by k_asm) (by k_asm) (by walk_at "my mem") (by walk_at "my sub") (off1_lt (by assumption)) rfl
section
theorem fig_bound (x b : Int) (hb : 1 ≤ b) : 0 ≤ x.fmod b ∧ x.fmod b < b := by
  rw [Int.fmod_eq_emod_of_nonneg _ (by omega)]
  exact ⟨Int.emod_nonneg _ (by omega), Int.emod_lt_of_pos _ (by omega)⟩
local macro_rules | `(tactic| walk_at "binaryOp FloorDiv int int") => `(tactic| (k_here; k_dflt (refine floordiv_int (by assumption) ?_ (Or.inr (PySem.PylongRoom.of (by exact PySem.Heap.NoLimit.keeps (PyProof.Rows.Top.nolimit (by assumption)) (PyProof.Rows.Fr.keep (by assumption))) (by (simp only [depth_under_make, depth_under_kw, depth_in1, depth_deeper, depth_caller]; unfold Builtin.pylongFrames; (try dsimp only [ktrTop]); omega)))))))
set_option maxHeartbeats 8000000 in
theorem figures {w mean mg mb news} {n b : Int} {t0 t1 : Tok} (hb : 1 ≤ b ∧ b ≤ 12) :
   Does w mean mg mb 91 [.int n t0, .int b t1] news 150 (fun h₀ L m s Q => ∀ f0 f1 f2 : Int, (0 ≤ f0 ∧ f0 < b) → (0 ≤ f1 ∧ f1 < b) → (0 ≤ f2 ∧ f2 < b) → RetO news (L3 (.int f0) (.int f1) (.int f2)) h₀ L m s Q) := by
  have hb1 : b ≠ 0 := by omega
  have hb2 : b ^ Int.toNat 2 ≠ 0 := Int.pow_ne_zero hb1
  dsimp only [Does, RetO]
  intros
  rename_i hret
  refine wpAny_call ?_
  k_dflt walk_at "my enter"
  k_steps
  all_goals exact endO (c := 0) _ _ _ (hret _ _ _ (fig_bound _ b hb.1) (fig_bound _ b hb.1) (fig_bound _ b hb.1)) (by k_asm) (by k_asm) (by walk_at "my mem") (by walk_at "my sub") (off1_lt (by assumption)) rfl
end
section
theorem spare_ints {t0 t1 t2 t3 t4 t5 t6 t7 : Tok} : IntsAre [.int 0 t0, .int 290 t1, .int 673 t2, .int 296 t3, .int 515 t4, .int 620 t5, .int 54 t6, .int 95 t7] [0, 290, 673, 296, 515, 620, 54, 95] := by
  repeat' constructor
theorem take8_le (ns : List Int) : (ns.take 8).length ≤ ns.length := by rw [List.length_take]; omega
local macro_rules | `(tactic| walk_at "my two") => `(tactic| (intro p hp; simp only [List.mem_cons] at hp ⊢; rcases hp with hp | hp <;> first | exact Or.inl hp | simp only [hp, or_true]))
local macro_rules | `(tactic| walk_at "subscriptTail Name Slice ref ref") => `(tactic| (k_here; k_dflt (refine' kmk_slice_ints ?F ?N ?l ?p ?q ?i ?m ?c ?_ ?s ?t ?z; (case F => k_asm); (case N => k_asm); (case l => kmk_list); (case p => kmk_part); (case q => kmk_part); (case i => first | assumption | exact spare_ints); (case m => first | exact kmk_upto (by assumption) (by decide) | exact kmk_from spare_ints (Int.natCast_nonneg _)); (case c => exact rfl); (case s => with_unfolding_all rfl); (case t => kmk_pure); (case z => first | exact Nat.le_of_ble_eq_true rfl | (refine kmk_sz (by assumption) ?_; rw [sizeLine_eq]; omega))); intro D' ws' h' F' N' l1 hI' hC' hL'))
set_option maxHeartbeats 8000000 in
theorem drawn {w mean mg mb news} {D : Addr} {vs : List Value} {ns : List Int} (hi : IntsAre vs ns) (hl : ns.length ≤ 63) :
  ∀ (dp un : Nat) (gd : Option (List Code)) (cn : Str) (cs : Scope) (a : Addr) (ccd : Value) (cl : List (Str × Addr)) (outer : List Env) (A₀ : Around) (base h₀ : Heap) (L : Addr) (m : Str → Option Value) (s : Shared) (Q E : Value → Shared → Prop),
    base.IsList D vs.toArray → Below A₀ base outer h₀ → Fr h₀ L s.heap m → (hd.heap_39 w.params).In h₀ → News h₀ L s.heap news → Top hd.view_39 (looseW hd.view_39 []) mean mg mb h₀ → cs.kind = .function →
    dp + 4 < recursionLimit → un + 8 * 4 < cLine →
    (∀ (D : Addr) (ws : List Value) (h' : Heap) (tk' : Nat), Fr h₀ L h' m → News h₀ L h' ((D, listOf ws.toArray 0) :: news) → LCg.Off1 D news → IntsAre ws (ns.take 8 ++ [0, 290, 673, 296, 515, 620, 54, 95].drop (((ns.take 8).length : Int)).toNat) → Q (.ref D) { s with heap := h', toks := tk' }) →
      wpAny (model PySem.Challenge.rw_wu0007_01.row.prog w) (ktrTop dp un gd cn cs L a ccd cl outer) (call (.ref 84) [.ref D]) Q E s := by
  intros
  rename_i hret
  refine wpAny_call ?_
  k_dflt walk_at "my enter"
  k_steps
  all_goals (
    rename News _ _ _ _ => hN
    (rename (_ ∧ _ ∧ _ ∧ _ ∧ AllLt _ _) => hA)
    (rename IntsAre _ (_ ++ _) => hI)
    exact hret _ _ _ _ (by k_asm) (cb_drop hN (by walk_at "my two")) (off1_all hA.2.2.2.2) hI)
end
theorem slice_eq {x : Str} {a a' b b' : Int} {t : Tok} (h1 : a = a') (h2 : b = b') : Value.str (Txt.slice x (some a) (some b)) t = Value.str (Txt.slice x (some a') (some b')) t := by rw [h1, h2]
section
variable {prog : Program} {w : World} {A : Around} {E : Value → Shared → Prop} {s : Shared} {env : Env} {test : PySem.Expr} {body orelse : List Stmt} {Q : Flow → Shared → Prop}
theorem whl_inv {N : Nat} (J : Nat → Shared → Prop) (hE : PassesOwn (model prog w) A env E)
    (item : ∀ i s, i < N → J i s → wpAny (model prog w) A (isTrue test env (eval test env)) (fun b s₂ => WhlIf b (wpAny (model prog w) A (execs body env) (StepTo (J (i + 1)) Q) E s₂) False) E s)
    (done : ∀ s, J N s → wpAny (model prog w) A (isTrue test env (eval test env)) (fun b s₂ => WhlIf b False (wpAny (model prog w) A (execs orelse env) Q E s₂)) E s) :
    ∀ n i s, i + n = N → J i s → WhlRest prog w A E env test body orelse Q 0 s := by
  intro n
  induction n with
  | zero =>
    intro i s hi hJ
    obtain rfl : i = N := by omega
    refine whl_turn (k := 0) hE (wpAny_mono (done s hJ) (fun b s₂ h => ?_) fun _ _ h => h)
    cases b with
    | true => exact False.elim (by unfold WhlIf at h; rw [if_pos rfl] at h; exact h)
    | false => exact WhlIf.no rfl (by unfold WhlIf at h; rw [if_neg Bool.false_ne_true] at h; exact h)
  | succ n ih =>
    intro i s hi hJ
    refine whl_turn (k := 0) hE (wpAny_mono (item i s (by omega) hJ) (fun b s₂ h => ?_) fun _ _ h => h)
    cases b with
    | false => exact False.elim (by unfold WhlIf at h; rw [if_neg Bool.false_ne_true] at h; exact h)
    | true =>
      refine WhlIf.yes rfl (wpAny_mono (show wpAny _ _ _ _ _ _ by unfold WhlIf at h; rw [if_pos rfl] at h; exact h) (fun f s₃ h₃ => ?_) fun _ _ h => h)
      cases f with
      | next => exact ih (i + 1) s₃ (by omega) h₃
      | cont => exact ih (i + 1) s₃ (by omega) h₃
      | brk => exact h₃
      | ret v => exact h₃
end
section
variable {h₀ h : Heap} {L : Addr} {m : Str → Option Value} {a b : Str} {u v u' v' : Option Value}
/-- the two names of a loop, whichever was stored last -/
theorem fr_ab (F : Fr h₀ L h (fun y => if y = a then u else if y = b then v else if y = a then u' else if y = b then v' else m y)) :
    Fr h₀ L h (fun y => if y = a then u else if y = b then v else m y) := fr_map F fun y => by
  split
  · rfl
  · split <;> rfl
theorem fr_b0 (F : Fr h₀ L h (fun y => if y = b then v else m y)) (hab : a ≠ b) (e : m a = u) : Fr h₀ L h (fun y => if y = a then u else if y = b then v else m y) := fr_map F fun y => by
  by_cases h1 : y = a
  · rw [if_pos h1, h1, if_neg hab, e]
  · rw [if_neg h1]
end
section
variable {prog : Program} {w : World} {A : Around} {E : Value → Shared → Prop} {s : Shared} {env : Env} {test : PySem.Expr} {body orelse : List Stmt} {Q : Flow → Shared → Prop} {g : Heap} {L : Addr} {m : Str → Option Value} {news : List (Addr × Obj)}
/-- a loop that changes two numbers -/
theorem whl_pair {a b : Str} {N c p0 : Int} (p : Int → Int) {h : Heap} {tk : Nat} {ta tb : Tok} (hp : p 0 = p0) (hN : 0 ≤ N) (hE : PassesOwn (model prog w) A env E)
    (F : Fr g L h (fun y => if y = a then some (.int c ta) else if y = b then some (.int p0 tb) else m y)) (hn : News g L h news)
    (item : ∀ (i : Int) (h : Heap) (tk : Nat) (ta tb : Tok), 0 ≤ i → i < N → Fr g L h (fun y => if y = a then some (.int (c - i) ta) else if y = b then some (.int (p i) tb) else m y) → News g L h news →
      wpAny (model prog w) A (isTrue test env (eval test env)) (fun b' s₂ => WhlIf b' (wpAny (model prog w) A (execs body env) (StepTo (fun s' => ∃ h' tk' ta' tb' a' p', s' = { s with heap := h', toks := tk' } ∧
        Fr g L h' (fun y => if y = a then some (.int a' ta') else if y = b then some (.int p' tb') else m y) ∧ News g L h' news ∧ a' = c - (i + 1) ∧ p' = p (i + 1)) Q) E s₂) False) E { s with heap := h, toks := tk })
    (test' : ∀ (h : Heap) (tk : Nat) (ta tb : Tok), Fr g L h (fun y => if y = a then some (.int (c - N) ta) else if y = b then some (.int (p N) tb) else m y) → News g L h news →
      wpAny (model prog w) A (isTrue test env (eval test env)) (fun b' s₂ => WhlIf b' False (Back s g L (fun y => if y = a then some (.int (c - N) ta) else if y = b then some (.int (p N) tb) else m y) news s₂)) E { s with heap := h, toks := tk })
    (done : ∀ (h : Heap) (tk : Nat) (ta tb : Tok), Fr g L h (fun y => if y = a then some (.int (c - N) ta) else if y = b then some (.int (p N) tb) else m y) → News g L h news → wpAny (model prog w) A (execs orelse env) Q E { s with heap := h, toks := tk }) :
    WhlRest prog w A E env test body orelse Q 0 { s with heap := h, toks := tk } := by
  refine whl_inv (N := N.toNat) (fun i s' => ∃ h tk ta tb, s' = { s with heap := h, toks := tk } ∧ Fr g L h (fun y => if y = a then some (.int (c - (i : Int)) ta) else if y = b then some (.int (p i) tb) else m y) ∧ News g L h news) hE ?_ ?_ N.toNat 0 _ (Nat.zero_add _) ⟨h, tk, ta, tb, rfl, ?_, hn⟩
  · rintro i s' hi ⟨h, tk, ta, tb, rfl, F, N'⟩
    refine wpAny_mono (item i h tk ta tb (by omega) (by omega) F N') (fun b' s₂ h₂ => ?_) fun _ _ e => e
    unfold WhlIf at h₂ ⊢
    split
    · rename_i hb
      rw [if_pos hb] at h₂
      refine wpAny_mono h₂ (fun f s₃ h₃ => ?_) fun _ _ e => e
      cases f with
      | next =>
        obtain ⟨h', tk', ta', tb', a', p', e, F3, N3, rfl, rfl⟩ := h₃
        exact ⟨h', tk', ta', tb', e, F3, N3⟩
      | cont =>
        obtain ⟨h', tk', ta', tb', a', p', e, F3, N3, rfl, rfl⟩ := h₃
        exact ⟨h', tk', ta', tb', e, F3, N3⟩
      | brk => exact h₃
      | ret v => exact h₃
    · rename_i hb
      rw [if_neg hb] at h₂
      exact h₂
  · rintro s' ⟨h, tk, ta, tb, rfl, F, N'⟩
    rw [show ((N.toNat : Nat) : Int) = N by omega] at F
    refine wpAny_mono (test' h tk ta tb F N') (fun b' s₂ h₂ => ?_) fun _ _ e => e
    unfold WhlIf at h₂ ⊢
    split
    · rename_i hb
      rw [if_pos hb] at h₂
      exact h₂
    · rename_i hb
      rw [if_neg hb] at h₂
      obtain ⟨h', tk', rfl, F', N''⟩ := h₂
      exact done h' tk' ta tb F' N''
  · rw [show c - ((0 : Nat) : Int) = c by omega]
    subst hp
    exact F
end
section
local macro_rules | `(tactic| walk_at "exec While BoolOp") => `(tactic| (k_here; k_dflt (refine whl_start 0 ?_)))
local macro_rules | `(tactic| walk_at "subscriptTail Name Name str int") => `(tactic| (k_here; (refine item_str ?p1 ?p2 ?p3 ?_); (case p1 => first | decide | exact fitsSsize_of (N := 9223372036854775808) (by omega) (by omega) (Int.le_refl _)); (case p2 => omega); (case p3 => omega); intro hlen9; clear hlen9; (try dsimp only)))
local macro_rules | `(tactic| walk_at "ite") => `(tactic| (k_dflt (first | refine ite_pos (by assumption) ?_ | refine ite_neg (Bool.eq_false_iff.mp (by assumption)) ?_)))
local macro_rules | `(tactic| walk_at "WhlIf") => `(tactic| (first | (refine WhlIf.yes (by assumption) ?_) | (refine WhlIf.no (by assumption) ?_)))
set_option maxHeartbeats 40000000 in
theorem strip {w mean mg mb news} {x : Str} {n j : Int} {t0 t1 : Tok} (hn : 0 ≤ n ∧ n ≤ 4) (hj : 0 ≤ j ∧ j ≤ n) (hlen : 9 ≤ x.length ∧ x.length ≤ 12)
    (hL : ∀ i : Int, 0 ≤ i → i < j → (Txt.item x i == Str.ofString " ") = true) (hS : j < n → (Txt.item x j == Str.ofString " ") = false)
    (hR : ∀ i : Int, 0 ≤ i → i < n - j → (Txt.item x ((x.length : Int) - 1 - i) == Str.ofString " ") = true) :
   Does w mean mg mb 35 [.str x t0, .int n t1] news 3 (RetV news (fun t => .str (Txt.slice x (some j) (some ((x.length : Int) - 1 - (n - j) + 1))) t)) := by
  dsimp only [Does, RetV]
  intros
  rename_i hret
  refine wpAny_call ?_
  k_dflt walk_at "my enter"
  walk_at "my steps"
  (refine' whl_pair (a := Str.ofString "amount") (b := Str.ofString "lpos") (N := j) (c := n) (fun i => i) rfl hj.1 (by first | passes_own | with_unfolding_all passes_own) (fr_b0 (a := Str.ofString "amount") (by k_asm) (by decide) (by first | rfl | exact if_pos rfl)) (by k_asm) ?item1 ?test1 ?done1)
  case item1 =>
    intro i h tk ta tb hi0 hi1 F N
    have hne : n - i ≠ 0 := by omega
    have hcc := hL i hi0 hi1
    dsimp only at F
    walk_at "my steps"
    exact ⟨_, _, _, _, _, _, rfl, fr_ab (by k_asm), by k_asm, by omega, rfl⟩
  case test1 =>
    intro h tk ta tb F N
    dsimp only at F ⊢
    by_cases hjn : j < n
    · have hne : n - j ≠ 0 := by omega
      have hcc := hS hjn
      walk_at "my steps"
      all_goals exact Back.intro (by k_asm) (by k_asm)
    · obtain rfl : n = j := by omega
      rw [Int.sub_self] at F ⊢
      walk_at "my steps"
      all_goals exact Back.intro (by k_asm) (by k_asm)
  case done1 =>
    intro h tk ta tb F N
    dsimp only at F
    walk_at "my steps"
    (refine' whl_pair (a := Str.ofString "amount") (b := Str.ofString "rpos") (N := n - j) (c := n - j) (fun i => (x.length : Int) - 1 - i) (Int.sub_zero _) (by omega) (by first | passes_own | with_unfolding_all passes_own) (fr_b0 (a := Str.ofString "amount") (by k_asm) (by decide) (by first | rfl | exact if_pos rfl)) (by k_asm) ?item2 ?test2 ?done2)
    case item2 =>
      intro i h tk ta tb hi0 hi1 F N
      have hne : n - j - i ≠ 0 := by omega
      have hcc := hR i hi0 hi1
      (try dsimp only at F)
      walk_at "my steps"
      exact ⟨_, _, _, _, _, _, rfl, fr_ab (by k_asm), by k_asm, by omega, by omega⟩
    case test2 =>
      intro h tk ta tb F N
      (try dsimp only at F ⊢)
      rw [Int.sub_self] at F ⊢
      walk_at "my steps"
      all_goals exact Back.intro (by k_asm) (by k_asm)
    case done2 =>
      intro h tk ta tb F N
      (try dsimp only at F)
      walk_at "my steps"
      all_goals (try k_data)
      all_goals exact endV _ hret (by k_asm) (by k_asm) (by walk_at "my sub") (slice_eq (by omega) (by omega))
end
theorem pad_lenF : ∀ (k l : Fin 12), l.val ≤ k.val → 8 ≤ k.val → (((pad (l.val : Int) (k.val : Int)).length : Nat) : Int) = (k.val : Int) + 1 := by decide +kernel
theorem pad_SF : ∀ (k l : Fin 12), l.val ≤ k.val → 8 ≤ k.val → (Txt.item (pad (l.val : Int) (k.val : Int)) (l.val : Int) == Str.ofString " ") = false := by decide +kernel
theorem pad_LF : ∀ (k l i : Fin 12), l.val ≤ k.val → 8 ≤ k.val → i.val < l.val → (Txt.item (pad (l.val : Int) (k.val : Int)) (i.val : Int) == Str.ofString " ") = true := by decide +kernel
theorem pad_RF : ∀ (k l i : Fin 12), l.val ≤ k.val → 8 ≤ k.val → i.val + l.val < k.val → (Txt.item (pad (l.val : Int) (k.val : Int)) ((((pad (l.val : Int) (k.val : Int)).length : Nat) : Int) - 1 - (i.val : Int)) == Str.ofString " ") = true := by decide +kernel
theorem pad_revF : ∀ (k l : Fin 12), l.val ≤ k.val → 8 ≤ k.val → Txt.sliceBy (pad (l.val : Int) (k.val : Int)) none none (-1, 0) = pad ((k.val : Int) - (l.val : Int)) (k.val : Int) := by decide +kernel
theorem pad_dnF : ∀ (k l : Fin 12) (n : Fin 5), l.val ≤ k.val → 8 ≤ k.val →
    Txt.slice (pad (l.val : Int) (k.val : Int)) (some (min (n.val : Int) (l.val : Int))) (some ((((pad (l.val : Int) (k.val : Int)).length : Nat) : Int) - 1 - ((n.val : Int) - min (n.val : Int) (l.val : Int)) + 1)) ++ Txt.mul (Str.ofString " ") (n.val : Int) = pad (lv (k.val : Int) (l.val : Int) (-(n.val : Int))) (k.val : Int) := by decide +kernel
theorem pad_len {l top : Int} (h : 0 ≤ l ∧ l ≤ top) (ht : 8 ≤ top ∧ top ≤ 11) : ((pad l top).length : Int) = top + 1 := by
  obtain ⟨k, rfl⟩ := nat_of (k := 12) (Int.le_trans (by decide) ht.1) (Int.lt_of_le_of_lt ht.2 (by decide))
  obtain ⟨i, rfl⟩ := nat_of (k := 12) h.1 (Int.lt_of_le_of_lt h.2 (Int.lt_of_le_of_lt ht.2 (by decide)))
  exact pad_lenF k i (Int.ofNat_le.mp h.2) (Int.ofNat_le.mp ht.1)
theorem pad_S {l top : Int} (h : 0 ≤ l ∧ l ≤ top) (ht : 8 ≤ top ∧ top ≤ 11) : (Txt.item (pad l top) l == Str.ofString " ") = false := by
  obtain ⟨k, rfl⟩ := nat_of (k := 12) (Int.le_trans (by decide) ht.1) (Int.lt_of_le_of_lt ht.2 (by decide))
  obtain ⟨i, rfl⟩ := nat_of (k := 12) h.1 (Int.lt_of_le_of_lt h.2 (Int.lt_of_le_of_lt ht.2 (by decide)))
  exact pad_SF k i (Int.ofNat_le.mp h.2) (Int.ofNat_le.mp ht.1)
theorem pad_L {l top j : Int} (h : 0 ≤ l ∧ l ≤ top) (ht : 8 ≤ top ∧ top ≤ 11) (h0 : 0 ≤ j) (h1 : j < l) : (Txt.item (pad l top) j == Str.ofString " ") = true := by
  obtain ⟨k, rfl⟩ := nat_of (k := 12) (Int.le_trans (by decide) ht.1) (Int.lt_of_le_of_lt ht.2 (by decide))
  obtain ⟨i, rfl⟩ := nat_of (k := 12) h.1 (Int.lt_of_le_of_lt h.2 (Int.lt_of_le_of_lt ht.2 (by decide)))
  obtain ⟨j, rfl⟩ := nat_of (k := 12) h0 (Int.lt_trans h1 (Int.ofNat_lt.mpr i.isLt))
  exact pad_LF k i j (Int.ofNat_le.mp h.2) (Int.ofNat_le.mp ht.1) (Int.ofNat_lt.mp h1)
theorem pad_R {l top j : Int} (h : 0 ≤ l ∧ l ≤ top) (ht : 8 ≤ top ∧ top ≤ 11) (h0 : 0 ≤ j) (h1 : j + l < top) : (Txt.item (pad l top) (((pad l top).length : Int) - 1 - j) == Str.ofString " ") = true := by
  obtain ⟨k, rfl⟩ := nat_of (k := 12) (Int.le_trans (by decide) ht.1) (Int.lt_of_le_of_lt ht.2 (by decide))
  obtain ⟨i, rfl⟩ := nat_of (k := 12) h.1 (Int.lt_of_le_of_lt h.2 (Int.lt_of_le_of_lt ht.2 (by decide)))
  obtain ⟨j, rfl⟩ := nat_of (k := 12) h0 (Int.lt_of_le_of_lt (Int.le_add_of_nonneg_right h.1) (Int.lt_trans h1 (Int.ofNat_lt.mpr k.isLt)))
  exact pad_RF k i j (Int.ofNat_le.mp h.2) (Int.ofNat_le.mp ht.1) (Int.ofNat_lt.mp h1)
theorem pad_rev {l top : Int} {t : Tok} (h : 0 ≤ l ∧ l ≤ top) (ht : 8 ≤ top ∧ top ≤ 11) : Txt.sliceBy (pad l top) none none (-1, t) = pad (top - l) top := by
  obtain ⟨k, rfl⟩ := nat_of (k := 12) (Int.le_trans (by decide) ht.1) (Int.lt_of_le_of_lt ht.2 (by decide))
  obtain ⟨i, rfl⟩ := nat_of (k := 12) h.1 (Int.lt_of_le_of_lt h.2 (Int.lt_of_le_of_lt ht.2 (by decide)))
  exact pad_revF k i (Int.ofNat_le.mp h.2) (Int.ofNat_le.mp ht.1)
theorem pad_dn' {l n top : Int} (h : 0 ≤ l ∧ l ≤ top) (hn : 0 ≤ n ∧ n ≤ 4) (ht : 8 ≤ top ∧ top ≤ 11) :
    Txt.slice (pad l top) (some (min n l)) (some (((pad l top).length : Int) - 1 - (n - min n l) + 1)) ++ Txt.mul (Str.ofString " ") n = pad (lv top l (-n)) top := by
  obtain ⟨k, rfl⟩ := nat_of (k := 12) (Int.le_trans (by decide) ht.1) (Int.lt_of_le_of_lt ht.2 (by decide))
  obtain ⟨i, rfl⟩ := nat_of (k := 12) h.1 (Int.lt_of_le_of_lt h.2 (Int.lt_of_le_of_lt ht.2 (by decide)))
  obtain ⟨n, rfl⟩ := nat_of (k := 5) hn.1 (Int.lt_of_le_of_lt hn.2 (by decide))
  exact pad_dnF k i n (Int.ofNat_le.mp h.2) (Int.ofNat_le.mp ht.1)
theorem lv_flip {top l m : Int} (h : 0 ≤ top) : top - lv top (top - l) (-m) = lv top l m := by
  unfold lv
  by_cases a : l + m ≤ 0
  · rw [Int.max_eq_left a, Int.min_eq_right h, Int.max_eq_right (by omega), Int.min_eq_left (by omega), Int.sub_self]
  · rw [Int.max_eq_right (Int.le_of_lt (Int.not_le.mp a))]
    by_cases b : top ≤ l + m
    · rw [Int.min_eq_left b, Int.max_eq_left (by omega), Int.min_eq_right h, Int.sub_zero]
    · rw [Int.min_eq_right (Int.le_of_lt (Int.not_le.mp b)), Int.max_eq_right (by omega), Int.min_eq_right (by omega)]
      omega
theorem lv_bd {top : Int} (l m : Int) (h : 0 ≤ top) : 0 ≤ lv top l m ∧ lv top l m ≤ top := ⟨Int.le_min.mpr ⟨h, Int.le_max_left ..⟩, Int.min_le_left ..⟩
theorem iadd_pad {prog : Program} {w : World} {A : Around} {E : Value → Shared → Prop} {s : Shared} {l n top : Int} {t u : Tok} {Q : Value → Shared → Prop} (h : 0 ≤ l ∧ l ≤ top) (hn : 0 ≤ n ∧ n ≤ 4) (ht : 8 ≤ top ∧ top ≤ 11)
    (k : ∀ t' tk, Q (.str (pad (lv top l (-n)) top) t') { s with toks := tk }) :
    wpAny (model prog w) A (inplaceOp .Add (.str (Txt.slice (pad l top) (some (min n l)) (some (((pad l top).length : Int) - 1 - (n - min n l) + 1))) t) (.str (Txt.mul (Str.ofString " ") n) u)) Q E s := by
  have e := pad_dn' h hn ht
  have hz := pad_len (l := lv top l (-n)) (top := top) (lv_bd _ _ (by omega)) ht
  refine iadd_str (fun t' tk => ?_) (hsz := ?_)
  · rw [e]; exact k t' tk
  · rw [← Str.length_append, e, PySem.sizeLine_eq]; omega
theorem rev_pad {prog : Program} {w : World} {A : Around} {E : Value → Shared → Prop} {s : Shared} {h₀ : Heap} {L : Addr} {m : Str → Option Value} {news : List (Addr × Obj)} {value slice : PySem.Expr} {l top : Int} {t uk : Tok} {Q : Value → Shared → Prop}
    (hF : Fr h₀ L s.heap m) (hN : News h₀ L s.heap news) (h : 0 ≤ l ∧ l ≤ top) (ht : 8 ≤ top ∧ top ≤ 11) (k : ∀ h' t' c, Fr h₀ L h' m → News h₀ L h' news → Q (.str (pad (top - l) top) t') { s with heap := h', toks := c })
    (hs : subscripted slice false (.str (pad l top) t) (.ref s.heap.objs.size) = operate [.ref s.heap.objs.size, .str (pad l top) t] (getItem (.str (pad l top) t) (.ref s.heap.objs.size)))
    (hv : ∀ r, letTemporaryGo value (.str (pad l top) t) r = pure ()) :
    wpAny (model prog w) A (subscriptTail value slice (.str (pad l top) t) (.ref s.heap.objs.size)) Q E { s with heap := s.heap.push { cls := .type "slice", data := .fields #[.none, .none, .int (-1) uk] } } := by
  have hz := pad_len h ht
  refine slice_strK_nn hF hN (by decide) (fun h' t' c F' N' => ?_) hs hv (by rw [PySem.sizeLine_eq]; omega)
  rw [pad_rev h ht]
  exact k h' t' c F' N'
theorem stripP {w mean mg mb news} {l n top : Int} {t0 t1 : Tok} (h : 0 ≤ l ∧ l ≤ top) (hn : 0 ≤ n ∧ n ≤ 4) (ht : 8 ≤ top ∧ top ≤ 11) :
    Does w mean mg mb 35 [.str (pad l top) t0, .int n t1] news 3 (RetV news (fun t => .str (Txt.slice (pad l top) (some (min n l)) (some (((pad l top).length : Int) - 1 - (n - min n l) + 1))) t)) :=
  have e := pad_len h ht
  strip hn (by omega) (by omega) (fun i h0 h1 => pad_L h ht h0 (by omega)) (fun h1 => by rw [show min n l = l by omega]; exact pad_S h ht) (fun i h0 h1 => pad_R h ht h0 (by omega))
theorem pad_same {a b top : Int} {t : Tok} (h : a = b) : Value.str (pad a top) t = Value.str (pad b top) t := by rw [h]
section
local macro_rules | `(tactic| walk_at "call ref") => `(tactic| (k_here; (with_reducible show wpAny _ _ (call (Value.ref 35) _) _ _ _); k_dflt (refine' useDoes (D := stripP (by omega) (by omega) (by omega)) (h := ?_); walk_at "my retV")))
local macro_rules | `(tactic| walk_at "subscriptTail") => `(tactic| (k_here; (with_reducible show wpAny _ _ (subscriptTail _ (PySem.Expr.Slice none none (some _) _) (Value.str (pad _ _) _) _) _ _ _); (with_reducible rename Fr _ _ _ _ => F'); (with_reducible rename News _ _ _ _ => N'); k_dflt (refine' rev_pad (s := ⟨_, _, _, _, _⟩) F' N' ?p1 ?p2 ?_ ?p3 ?p4; (case p1 => first | omega | exact lv_bd _ _ (by omega)); (case p2 => omega); (case p3 => with_unfolding_all rfl); (case p4 => (intro _; with_unfolding_all rfl))); intro h' t' k' F' N'))
local macro_rules | `(tactic| walk_at "inplaceOp Add str str") => `(tactic| (k_here; k_dflt (refine' iadd_pad ?p1 ?p2 ?p3 ?_; (case p1 => omega); (case p2 => omega); (case p3 => omega)); intro t' k'; (try dsimp only)))
set_option maxHeartbeats 8000000 in
theorem line {w mean mg mb news} {x : Str} {l m top : Int} {t0 t1 : Tok} (hx : x = pad l top) (ha : 0 ≤ l ∧ l ≤ top) (hm : -4 ≤ m ∧ m ≤ 4) (ht : 8 ≤ top ∧ top ≤ 11) :
   Does w mean mg mb 108 [.str x t0, .int m t1] news 6 (RetV news (fun t => .str (pad (lv top l m) top) t)) := by
  subst hx
  dsimp only [Does, RetV]
  intros
  rename_i hret
  refine wpAny_call ?_
  k_dflt walk_at "my enter"
  k_steps
  all_goals (try k_data)
  all_goals exact endV _ hret (by k_asm) (by k_asm) (by walk_at "my sub") (pad_same (by first | exact lv_flip (by omega) | exact congrArg _ (Int.neg_neg _) | rfl | (unfold lv; omega)))
end
theorem int_tells {prog : Program} {w : World} {A : Around} {E : Value → Shared → Prop} {s : Shared} {x : UInt64} {u : Tok} {z : Int} {Q : Value → Shared → Prop} (hd : Tells x z) (h : Q (.int z s.toks) { s with toks := s.toks + 1 }) :
    wpAny (model prog w) A (call (.type "int") [.float x u]) Q E s := by
  obtain ⟨a, m, e, hd, rfl⟩ := hd
  exact call_int_float hd h
def TellR (top : Int) (v : Value) (r : Tok → Value) : Prop := ∃ x u z, v = .float x u ∧ r = .int z ∧ Tells (Float64.add (Float64.mul x (Float64.ofInt top)) 4602678819172646912) z
section
local macro_rules | `(tactic| walk_at "eval ListComp") => `(tactic| (k_here; k_dflt (refine ListComp_T (by k_asm) (by with_unfolding_all rfl) (by decide) (by rfl) (by decide) (by rfl) ?_)))
local macro_rules | `(tactic| walk_at "CompSrcT") => `(tactic| (k_here; k_dflt ((refine CompSrcT.ledger (by rfl) (by k_asm) (by k_asm) (by walk_at "my mem") (by exact Nat.le_of_ble_eq_true rfl) ?_); intro g'; lcg_lit; (refine comp_rel3 (TellR _) ⟨_, _, _, rfl, rfl, by assumption⟩ ⟨_, _, _, rfl, rfl, by assumption⟩ ⟨_, _, _, rfl, rfl, by assumption⟩ ?_ ?_); intro v' r' I' oI' C' oC' D' m' ys' h' tk' E' hR'; (obtain ⟨l9, u9, z9, e9, e8, b9⟩ := hR'); subst e9; subst e8; intros)))
local macro_rules | `(tactic| walk_at "CompEnd") => `(tactic| (k_dflt (refine compEnd_same (by assumption) (by assumption) (by assumption) (by exact ⟨_, by (walk_at "my mem"), rfl, _, rfl⟩) ⟨rfl, _, rfl⟩)))
local macro_rules | `(tactic| walk_at "call type:int") => `(tactic| (k_here; k_dflt (refine int_tells (by assumption) ?_)))
local macro_rules | `(tactic| walk_at "call ref") => `(tactic| (k_here; (with_reducible show wpAny _ _ (call (Value.ref 21) _) _ _ _); k_dflt (refine' useDoes (D := yiq) (h := ?_); walk_at "my retO")))
local macro_rules | `(tactic| walk_at "call ref") => `(tactic| (k_here; (with_reducible show wpAny _ _ (call (Value.ref 28) _) _ _ _); k_dflt (refine' useDoes (D := rgb) (h := ?_); walk_at "my retO")))
set_option maxHeartbeats 8000000 in
theorem light {w mean mg mb news} {D D2 : Addr} {l0 l1 l2 m0 m1 m2 top : Int} {t0 t1 t2 t3 t4 t5 t6 : Tok} {c c2 : Nat} (hD : (D, L3 (.int l0) (.int l1) (.int l2) t0 t1 t2 c) ∈ news) (hD2 : (D2, L3 (.int m0) (.int m1) (.int m2) t3 t4 t5 c2) ∈ news)
    (h0 : 0 ≤ l0 ∧ l0 ≤ top) (h1 : 0 ≤ l1 ∧ l1 ≤ top) (h2 : 0 ≤ l2 ∧ l2 ≤ top) (hm0 : -4 ≤ m0 ∧ m0 ≤ 4) (hm1 : -4 ≤ m1 ∧ m1 ≤ 4) (hm2 : -4 ≤ m2 ∧ m2 ≤ 4) (ht : 8 ≤ top ∧ top ≤ 11) :
   Does w mean mg mb 96 [.ref D, .ref D2, .int top t6] news 6 (RetO news (L3 (.int (lv top l0 m0)) (.int (lv top l1 m1)) (.int (lv top l2 m2)))) := by
  obtain ⟨z0, z1, z2⟩ := light_tells h0 h1 h2 hm0 hm1 hm2 ht rfl rfl rfl rfl rfl rfl
  dsimp only [Does, RetO]
  intros
  rename_i hret
  refine wpAny_call ?_
  k_dflt walk_at "my enter"
  k_steps
  all_goals (try k_data)
  all_goals (
    (rename (_ ∧ _) => ho)
    exact endO _ _ _ hret (by k_asm) (by k_asm) (by walk_at "my mem") (by walk_at "my sub") (by first | exact ho.2 | exact ho.2.2 | exact ho.2.2.2 | exact ho.2.2.2.2 | exact ho.2.2.2.2.2) rfl)
end
/-- two cuts joined, as the law joins them -/
def J (f t : Int × Int × Int) : Int × Int × Int := (endI t.1 t.2.1 (f.1 + t.2.2), endI t.1 t.2.1 (f.2.1 + t.2.2), f.2.2 + t.2.2)
def C1 (top a : Int) : Int × Int × Int := (0, top, a)
def C2 (top a b : Int) : Int × Int × Int := J (C1 top a) (C1 top b)
def C3 (top a b c : Int) : Int × Int × Int := J (C1 top a) (C2 top b c)
def C6 (top a b c d e f : Int) : Int × Int × Int := J (C3 top a b c) (C3 top d e f)
abbrev CutO (x : Int × Int × Int) : Tok → Tok → Tok → Nat → Obj := L3 (.int x.1) (.int x.2.1) (.int x.2.2)
theorem sl2a {x y : Value} : (slicePick [x, y].toArray none (some (Int.fdiv 2 2)) none).toList = [x] := by
  rw [kmk_pick_nat (a := 0) (b := 1) _ (show sliceBounds none (some (Int.fdiv 2 2)) none 2 = (((0 : Nat) : Int), ((1 : Nat) : Int), 1) from by decide)]
  rfl
theorem sl2b {x y : Value} : (slicePick [x, y].toArray (some (Int.fdiv 2 2)) none none).toList = [y] := by
  rw [kmk_pick_nat (a := 1) (b := 2) _ (show sliceBounds (some (Int.fdiv 2 2)) none none 2 = (((1 : Nat) : Int), ((2 : Nat) : Int), 1) from by decide)]
  rfl
theorem sl3a {x y z : Value} : (slicePick [x, y, z].toArray none (some (Int.fdiv 3 2)) none).toList = [x] := by
  rw [kmk_pick_nat (a := 0) (b := 1) _ (show sliceBounds none (some (Int.fdiv 3 2)) none 3 = (((0 : Nat) : Int), ((1 : Nat) : Int), 1) from by decide)]
  rfl
theorem sl3b {x y z : Value} : (slicePick [x, y, z].toArray (some (Int.fdiv 3 2)) none none).toList = [y, z] := by
  rw [kmk_pick_nat (a := 1) (b := 3) _ (show sliceBounds (some (Int.fdiv 3 2)) none none 3 = (((1 : Nat) : Int), ((3 : Nat) : Int), 1) from by decide)]
  rfl
theorem sl6a {a b c d e f : Value} : (slicePick [a, b, c, d, e, f].toArray none (some (Int.fdiv 6 2)) none).toList = [a, b, c] := by
  rw [kmk_pick_nat (a := 0) (b := 3) _ (show sliceBounds none (some (Int.fdiv 6 2)) none 6 = (((0 : Nat) : Int), ((3 : Nat) : Int), 1) from by decide)]
  rfl
theorem sl6b {a b c d e f : Value} : (slicePick [a, b, c, d, e, f].toArray (some (Int.fdiv 6 2)) none none).toList = [d, e, f] := by
  rw [kmk_pick_nat (a := 3) (b := 6) _ (show sliceBounds (some (Int.fdiv 6 2)) none none 6 = (((3 : Nat) : Int), ((6 : Nat) : Int), 1) from by decide)]
  rfl
section
local macro_rules | `(tactic| walk_at "call ref") => `(tactic| (k_here; (with_reducible show wpAny _ _ (call (Value.ref 136) _) _ _ _); k_dflt (refine' useDoes (D := joined (by walk_at "my mem") (by walk_at "my mem")) (h := ?_); walk_at "my retO")))
local macro_rules | `(tactic| walk_at "subscriptTail Name Slice ref ref") => `(tactic| (k_here; k_dflt (refine kmk_slice_lit (by k_asm) (by k_asm) (by exact News.isList (by k_asm) (by walk_at "my mem")) (by kmk_part) (by kmk_part) (by first | exact sl2a | exact sl2b | exact sl3a | exact sl3b | exact sl6a | exact sl6b) ?_ (by with_unfolding_all rfl) (by kmk_pure) (by exact Nat.le_of_ble_eq_true rfl)); intro D' h' F' N' l1; (try k_lt l1)))
set_option maxHeartbeats 8000000 in
theorem cutA {w mean mg mb news} {D : Addr} {a top : Int} {t0 t1 : Tok} {c : Nat} (hD : (D, ({ cls := .type "list", data := .seq [Value.int a t0].toArray c } : Obj)) ∈ news) :
   Does w mean mg mb 143 [.ref D, .int top t1] news 6 (RetO news (CutO (C1 top a))) := by
  dsimp only [Does, RetO]
  intros
  rename_i hret
  refine wpAny_call ?_
  k_dflt walk_at "my enter"
  k_steps
  all_goals (try k_data)
  all_goals exact endO (c := 0) _ _ _ hret (by k_asm) (by k_asm) (by walk_at "my mem") (by walk_at "my sub") (off1_lt (by assumption)) rfl
local macro_rules | `(tactic| walk_at "call ref") => `(tactic| (k_here; (with_reducible show wpAny _ _ (call (Value.ref 143) _) _ _ _); k_dflt (refine' useDoes (D := cutA (by walk_at "my mem")) (h := ?_); walk_at "my retO")))
set_option maxHeartbeats 8000000 in
theorem cutB {w mean mg mb news} {D : Addr} {a b top : Int} {t0 t1 t2 : Tok} {c : Nat} (hD : (D, ({ cls := .type "list", data := .seq [Value.int a t0, Value.int b t1].toArray c } : Obj)) ∈ news) :
   Does w mean mg mb 143 [.ref D, .int top t2] news 12 (RetO news (CutO (C2 top a b))) := by
  dsimp only [Does, RetO]
  intros
  rename_i hret
  refine wpAny_call ?_
  k_dflt walk_at "my enter"
  k_steps
  all_goals (try k_data)
  all_goals (
    (rename LCg.Off1 _ _ => ho)
    exact endO _ _ _ hret (by k_asm) (by k_asm) (by walk_at "my mem") (by walk_at "my sub") (by first | exact ho.2 | exact ho.2.2 | exact ho.2.2.2 | exact ho.2.2.2.2 | exact ho.2.2.2.2.2) rfl)
local macro_rules | `(tactic| walk_at "call ref") => `(tactic| (k_here; (with_reducible show wpAny _ _ (call (Value.ref 143) _) _ _ _); k_dflt (refine' useDoes (D := cutB (by walk_at "my mem")) (h := ?_); walk_at "my retO")))
set_option maxHeartbeats 8000000 in
theorem cutC {w mean mg mb news} {D : Addr} {a b c top : Int} {t0 t1 t2 t3 : Tok} {n : Nat} (hD : (D, ({ cls := .type "list", data := .seq [Value.int a t0, Value.int b t1, Value.int c t2].toArray n } : Obj)) ∈ news) :
   Does w mean mg mb 143 [.ref D, .int top t3] news 18 (RetO news (CutO (C3 top a b c))) := by
  dsimp only [Does, RetO]
  intros
  rename_i hret
  refine wpAny_call ?_
  k_dflt walk_at "my enter"
  k_steps
  all_goals (try k_data)
  all_goals (
    (rename LCg.Off1 _ _ => ho)
    exact endO _ _ _ hret (by k_asm) (by k_asm) (by walk_at "my mem") (by walk_at "my sub") (by first | exact ho.2 | exact ho.2.2 | exact ho.2.2.2 | exact ho.2.2.2.2 | exact ho.2.2.2.2.2) rfl)
local macro_rules | `(tactic| walk_at "call ref") => `(tactic| (k_here; (with_reducible show wpAny _ _ (call (Value.ref 143) _) _ _ _); k_dflt (refine' useDoes (D := cutC (by walk_at "my mem")) (h := ?_); walk_at "my retO")))
set_option maxHeartbeats 8000000 in
theorem cutF {w mean mg mb news} {D : Addr} {a b c d e f top : Int} {t0 t1 t2 t3 t4 t5 t6 : Tok} {n : Nat} (hD : (D, ({ cls := .type "list", data := .seq [Value.int a t0, Value.int b t1, Value.int c t2, Value.int d t3, Value.int e t4, Value.int f t5].toArray n } : Obj)) ∈ news) :
   Does w mean mg mb 143 [.ref D, .int top t6] news 24 (RetO news (CutO (C6 top a b c d e f))) := by
  dsimp only [Does, RetO]
  intros
  rename_i hret
  refine wpAny_call ?_
  k_dflt walk_at "my enter"
  k_steps
  all_goals (try k_data)
  all_goals (
    (rename LCg.Off1 _ _ => ho)
    exact endO _ _ _ hret (by k_asm) (by k_asm) (by walk_at "my mem") (by walk_at "my sub") (by first | exact ho.2 | exact ho.2.2 | exact ho.2.2.2 | exact ho.2.2.2.2 | exact ho.2.2.2.2.2) rfl)
end
theorem endI_eq (lo hi x : Int) (_h : lo ≤ hi) : endI lo hi x = min hi (max lo x) := by
  have e : (if x > lo then x else lo) = max lo x := by
    by_cases q : x > lo
    · rw [if_pos q, Int.max_eq_right (Int.le_of_lt q)]
    · rw [if_neg q, Int.max_eq_left (Int.not_lt.mp q)]
  unfold endI
  rw [e]
  by_cases q : max lo x < hi
  · rw [if_pos q, Int.min_eq_right (Int.le_of_lt q)]
  · rw [if_neg q, Int.min_eq_left (Int.not_lt.mp q)]
/-- the cut c is what the function f does on 0 .. top -/
structure IsCut (top : Int) (c : Int × Int × Int) (f : Int → Int) : Prop where
  lo : 0 ≤ c.1
  mid : c.1 ≤ c.2.1
  hi : c.2.1 ≤ top
  is : ∀ x, 0 ≤ x → x ≤ top → f x = min c.2.1 (max c.1 (x + c.2.2))
theorem IsCut.one {top : Int} (ht : 0 ≤ top) (a : Int) : IsCut top (C1 top a) (fun x => lv top x a) :=
  ⟨Int.le_refl _, ht, Int.le_refl _, fun _ _ _ => rfl⟩
theorem f_lo {lo hi v : Int} (l : lo ≤ hi) (h : v ≤ lo) : min hi (max lo v) = lo := by rw [Int.max_eq_left h, Int.min_eq_right l]
theorem f_hi {lo hi v : Int} (l : lo ≤ hi) (h : hi ≤ v) : min hi (max lo v) = hi := by rw [Int.max_eq_right (Int.le_trans l h), Int.min_eq_left h]
theorem f_in {lo hi v : Int} (h : lo ≤ v) (k : v ≤ hi) : min hi (max lo v) = v := by rw [Int.max_eq_right h, Int.min_eq_right k]
theorem f_b {lo hi v : Int} (l : lo ≤ hi) : lo ≤ min hi (max lo v) ∧ min hi (max lo v) ≤ hi := ⟨Int.le_min.mpr ⟨l, Int.le_max_left ..⟩, Int.min_le_left ..⟩
theorem f_mono {lo hi u v : Int} (h : u ≤ v) : min hi (max lo u) ≤ min hi (max lo v) := Int.le_min.mpr ⟨Int.min_le_left .., Int.le_trans (Int.min_le_right ..) (Int.max_le.mpr ⟨Int.le_max_left .., Int.le_trans h (Int.le_max_right ..)⟩)⟩
theorem f_up {lo hi u w : Int} (l : lo ≤ hi) (h : w ≤ u) : w ≤ min hi (max lo u) ∨ min hi (max lo u) = hi := by
  by_cases q : u ≤ hi
  · exact .inl (Int.le_min.mpr ⟨Int.le_trans h q, Int.le_trans h (Int.le_max_right ..)⟩)
  · exact .inr (f_hi l (Int.le_of_lt (Int.not_le.mp q)))
theorem f_dn {lo hi u w : Int} (l : lo ≤ hi) (h : u ≤ w) : min hi (max lo u) ≤ w ∨ min hi (max lo u) = lo := by
  by_cases q : lo ≤ u
  · exact .inl (Int.le_trans (Int.min_le_right ..) (Int.max_le.mpr ⟨Int.le_trans q h, h⟩))
  · exact .inr (f_lo l (Int.le_of_lt (Int.not_le.mp q)))
theorem f_f {c1 c2 d1 d2 v d : Int} (c : c1 ≤ c2) (k : d1 ≤ d2) :
    min d2 (max d1 (min c2 (max c1 v) + d)) = min (min d2 (max d1 (c2 + d))) (max (min d2 (max d1 (c1 + d))) (v + d)) := by
  have m : min d2 (max d1 (c1 + d)) ≤ min d2 (max d1 (c2 + d)) := f_mono (Int.add_le_add_right c d)
  by_cases q : v ≤ c1
  · rw [f_lo c q]
    rcases f_up (u := c1 + d) (w := v + d) k (Int.add_le_add_right q d) with h | h
    · rw [f_lo m h]
    · have e := Int.le_antisymm m (by rw [h]; exact Int.min_le_left ..)
      rw [← e]
      exact (Int.min_eq_left (Int.le_max_left ..)).symm
  · by_cases r : c2 ≤ v
    · rw [f_hi c r]
      rcases f_dn (u := c2 + d) (w := v + d) k (Int.add_le_add_right r d) with h | h
      · rw [f_hi m h]
      · have e := Int.le_antisymm m (by rw [h]; exact (f_b k).1)
        rw [e]
        exact (Int.min_eq_left (Int.le_max_left ..)).symm
    · have q' : c1 + d ≤ v + d := Int.add_le_add_right (Int.le_of_lt (Int.not_le.mp q)) d
      have r' : v + d ≤ c2 + d := Int.add_le_add_right (Int.le_of_lt (Int.not_le.mp r)) d
      rw [f_in (Int.le_of_lt (Int.not_le.mp q)) (Int.le_of_lt (Int.not_le.mp r))]
      by_cases a : v + d ≤ d1
      · rw [f_lo k a, f_lo k (Int.le_trans q' a)]
        exact (f_lo (f_b k).1 a).symm
      · by_cases b : d2 ≤ v + d
        · rw [f_hi k b, f_hi k (Int.le_trans b r')]
          exact (f_hi (f_b k).2 b).symm
        · have e := f_in (Int.le_of_lt (Int.not_le.mp a)) (Int.le_of_lt (Int.not_le.mp b))
          have x1 := f_mono (lo := d1) (hi := d2) q'
          have x2 := f_mono (lo := d1) (hi := d2) r'
          rw [e] at x1 x2
          rw [e, f_in x1 x2]
theorem IsCut.join {top : Int} {c d : Int × Int × Int} {f g : Int → Int} (h : IsCut top c f) (k : IsCut top d g) : IsCut top (J c d) (fun x => g (f x)) := by
  obtain ⟨h1, h2, h3, h4⟩ := h
  obtain ⟨k1, k2, k3, k4⟩ := k
  obtain ⟨c1, c2, c3⟩ := c
  obtain ⟨d1, d2, d3⟩ := d
  have e : J (c1, c2, c3) (d1, d2, d3) = (min d2 (max d1 (c1 + d3)), min d2 (max d1 (c2 + d3)), c3 + d3) := by
    show (endI d1 d2 (c1 + d3), endI d1 d2 (c2 + d3), c3 + d3) = _
    rw [endI_eq _ _ _ k2, endI_eq _ _ _ k2]
  rw [e]
  dsimp only at h1 h2 h3 h4 k1 k2 k3 k4
  refine ⟨Int.le_trans k1 (f_b k2).1, f_mono (Int.add_le_add_right h2 _), Int.le_trans (f_b k2).2 k3, fun x x0 x1 => ?_⟩
  have a := h4 x x0 x1
  have b := f_b (v := x + c3) h2
  rw [← a] at b
  dsimp only
  rw [k4 (f x) (Int.le_trans h1 b.1) (Int.le_trans b.2 h3), a, f_f h2 k2, Int.add_assoc]
def run6 (top a b c d e f x : Int) : Int := lv top (lv top (lv top (lv top (lv top (lv top x a) b) c) d) e) f
theorem isCut3 {top : Int} (ht : 0 ≤ top) (a b c : Int) : IsCut top (C3 top a b c) (fun x => lv top (lv top (lv top x a) b) c) := by
  have h2 : IsCut top (C2 top b c) (fun x => lv top (lv top x b) c) := IsCut.join (f := fun x => lv top x b) (g := fun x => lv top x c) (IsCut.one ht b) (IsCut.one ht c)
  exact IsCut.join (f := fun x => lv top x a) (g := fun x => lv top (lv top x b) c) (IsCut.one ht a) h2
theorem isCut6 {top : Int} (ht : 0 ≤ top) (a b c d e f : Int) : IsCut top (C6 top a b c d e f) (run6 top a b c d e f) :=
  IsCut.join (f := fun x => lv top (lv top (lv top x a) b) c) (g := fun x => lv top (lv top (lv top x d) e) f) (isCut3 ht a b c) (isCut3 ht d e f)
theorem lv_b {top : Int} (l m : Int) (ht : 0 ≤ top) : 0 ≤ lv top l m ∧ lv top l m ≤ top := by unfold lv; omega
theorem run6_end {top : Int} (ht : 0 ≤ top) (a b c d e f : Int) {x : Int} (h0 : 0 ≤ x) (h1 : x ≤ top) :
    endI (C6 top a b c d e f).1 (C6 top a b c d e f).2.1 (x + (C6 top a b c d e f).2.2) = run6 top a b c d e f x := by
  have h := isCut6 ht a b c d e f
  rw [endI_eq _ _ _ h.mid, h.is x h0 h1]
theorem mfA : ∀ (a b c : Fin 12), a.val ≤ c.val → c.val ≤ b.val → mostI (2 ^ a.val - 1) (2 ^ b.val - 1) (2 ^ c.val - 1) = 2 ^ c.val - 1 := by decide +kernel
theorem mfB : ∀ (a b c : Fin 12), c.val ≤ a.val → a.val ≤ b.val → mostI (2 ^ a.val - 1) (2 ^ b.val - 1) (2 ^ c.val - 1) = 2 ^ a.val - 1 := by decide +kernel
theorem mfC : ∀ (a b c : Fin 12), a.val ≤ b.val → b.val ≤ c.val → mostI (2 ^ a.val - 1) (2 ^ b.val - 1) (2 ^ c.val - 1) = 2 ^ b.val - 1 := by decide +kernel
theorem t12 {a : Int} (h : a ≤ 11) : a.toNat < 12 := by omega
theorem med {lo hi sh top x r0 r1 r2 y : Int} (ht : top ≤ 11) (h0 : 0 ≤ x) (h1 : x ≤ top) (l1 : 0 ≤ lo) (l2 : lo ≤ hi) (l3 : hi ≤ top) (e0 : r0 = min hi (max lo (0 + sh))) (e1 : r1 = min hi (max lo (top + sh))) (e2 : r2 = min hi (max lo (x + sh))) (hy : y = min top (max 0 (x + sh))) :
    mostI (2 ^ r0.toNat - 1) (2 ^ r1.toNat - 1) (2 ^ y.toNat - 1) = 2 ^ r2.toNat - 1 := by
  have b0 := f_b (v := 0 + sh) l2
  have b1 := f_b (v := top + sh) l2
  have by' := f_b (v := x + sh) (Int.le_trans h0 h1)
  rw [← e0] at b0
  rw [← e1] at b1
  rw [← hy] at by'
  have n0 : r0.toNat < 12 := t12 (by omega)
  have n1 : r1.toNat < 12 := t12 (by omega)
  have ny : y.toNat < 12 := t12 (by omega)
  by_cases hl : x + sh ≤ lo
  · rw [f_lo l2 hl] at e2
    rw [f_lo l2 (by omega)] at e0
    have : y ≤ lo := by
      by_cases q : x + sh ≤ 0
      · rw [f_lo (Int.le_trans h0 h1) q] at hy; omega
      · rw [f_in (by omega) (by omega)] at hy; omega
    clear hy e1 b0
    rw [e2, ← e0]
    exact mfB ⟨_, n0⟩ ⟨_, n1⟩ ⟨_, ny⟩ (Int.toNat_le_toNat (by omega)) (Int.toNat_le_toNat (by omega))
  · by_cases hh : hi ≤ x + sh
    · rw [f_hi l2 hh] at e2
      rw [f_hi l2 (by omega)] at e1
      have : hi ≤ y := by
        by_cases q : top ≤ x + sh
        · rw [f_hi (Int.le_trans h0 h1) q] at hy; omega
        · rw [f_in (by omega) (by omega)] at hy; omega
      clear hy e0 b1
      rw [e2, ← e1]
      exact mfC ⟨_, n0⟩ ⟨_, n1⟩ ⟨_, ny⟩ (Int.toNat_le_toNat (by omega)) (Int.toNat_le_toNat (by omega))
    · rw [f_in (by omega) (by omega)] at e2
      rw [f_in (by omega) (by omega)] at hy
      have q0 : r0 ≤ y := by
        by_cases q : 0 + sh ≤ lo
        · rw [f_lo l2 q] at e0; omega
        · rw [f_in (by omega) (by omega)] at e0; omega
      have q1 : y ≤ r1 := by
        by_cases q : hi ≤ top + sh
        · rw [f_hi l2 q] at e1; omega
        · rw [f_in (by omega) (by omega)] at e1; omega
      clear e0 e1 b0 b1 by'
      rw [e2, ← hy]
      exact mfA ⟨_, n0⟩ ⟨_, n1⟩ ⟨_, ny⟩ (Int.toNat_le_toNat q0) (Int.toNat_le_toNat q1)
theorem most_law {top : Int} (ht : 0 ≤ top ∧ top ≤ 11) (a b c d e f : Int) {x y : Int} (h0 : 0 ≤ x) (h1 : x ≤ top) (hy : y = min top (max 0 (x + (C6 top a b c d e f).2.2))) :
    mostI (2 ^ (run6 top a b c d e f 0).toNat - 1) (2 ^ (run6 top a b c d e f top).toNat - 1) (2 ^ y.toNat - 1) = 2 ^ (run6 top a b c d e f x).toNat - 1 := by
  have h := isCut6 ht.1 a b c d e f
  exact med ht.2 h0 h1 h.lo h.mid h.hi (h.is 0 (Int.le_refl _) ht.1) (h.is top ht.1 (Int.le_refl _)) (h.is x h0 h1) hy
theorem ints_cons {ws : List Value} {ns : List Int} {n : Nat} (h : IntsAre ws ns) (hl : ns.length = n + 1) : ∃ a t ws' ns', ws = .int a t :: ws' ∧ IntsAre ws' ns' ∧ ns'.length = n := by
  cases h with
  | nil => cases hl
  | cons a t h' => exact ⟨_, t, _, _, rfl, h', Nat.succ.inj hl⟩
theorem ints_nil {ws : List Value} {ns : List Int} (h : IntsAre ws ns) (hl : ns.length = 0) : ws = [] := by
  cases h with
  | nil => rfl
  | cons a t h' => cases hl
theorem ints8 {ws : List Value} {ns : List Int} (h : IntsAre ws (ns.take 8 ++ [0, 290, 673, 296, 515, 620, 54, 95].drop (((ns.take 8).length : Int)).toNat)) :
    ∃ a0 t0 a1 t1 a2 t2 a3 t3 a4 t4 a5 t5 a6 t6 a7 t7, ws = [.int a0 t0, .int a1 t1, .int a2 t2, .int a3 t3, .int a4 t4, .int a5 t5, .int a6 t6, .int a7 t7] := by
  have hl : (ns.take 8 ++ [0, 290, 673, 296, 515, 620, 54, 95].drop (((ns.take 8).length : Int)).toNat).length = 8 := by
    rw [List.length_append, List.length_drop, Int.toNat_natCast, List.length_take]
    simp only [List.length_cons, List.length_nil]
    omega
  generalize ns.take 8 ++ [0, 290, 673, 296, 515, 620, 54, 95].drop (((ns.take 8).length : Int)).toNat = L at *
  obtain ⟨a0, t0, w0, l0, rfl, h0, n0⟩ := ints_cons h hl
  obtain ⟨a1, t1, w1, l1, rfl, h1, n1⟩ := ints_cons h0 n0
  obtain ⟨a2, t2, w2, l2, rfl, h2, n2⟩ := ints_cons h1 n1
  obtain ⟨a3, t3, w3, l3, rfl, h3, n3⟩ := ints_cons h2 n2
  obtain ⟨a4, t4, w4, l4, rfl, h4, n4⟩ := ints_cons h3 n3
  obtain ⟨a5, t5, w5, l5, rfl, h5, n5⟩ := ints_cons h4 n4
  obtain ⟨a6, t6, w6, l6, rfl, h6, n6⟩ := ints_cons h5 n5
  obtain ⟨a7, t7, w7, l7, rfl, h7, n7⟩ := ints_cons h6 n6
  obtain rfl := ints_nil h7 n7
  exact ⟨a0, t0, a1, t1, a2, t2, a3, t3, a4, t4, a5, t5, a6, t6, a7, t7, rfl⟩
theorem drawn8 {w : World} {mean : ExcName → Option Value} {mg mb : Str → Option Value} {news : List (Addr × Obj)} {D : Addr} {vs : List Value} {ns : List Int}
    {dp un : Nat} {gd : Option (List Code)} {cn : Str} {cs : Scope} {a : Addr} {ccd : Value} {cl : List (Str × Addr)} {outer : List Env} {A₀ : Around} {base h₀ : Heap} {L : Addr} {m : Str → Option Value} {s : Shared} {Q E : Value → Shared → Prop}
    (k1 : Below A₀ base outer h₀ := by k_asm) (k2 : Fr h₀ L s.heap m := by k_asm) (k3 : (hd.heap_39 w.params).In h₀ := by k_asm) (k4 : News h₀ L s.heap news := by k_asm) (k5 : Top hd.view_39 (looseW hd.view_39 []) mean mg mb h₀ := by k_asm)
    (kK : cs.kind = .function := by first | exact rfl | assumption) (k0 : base.IsList D vs.toArray := by assumption) (hi : IntsAre vs ns := by assumption) (hl : ns.length ≤ 63 := by omega) (kd : dp + 4 < recursionLimit := by ktr_room) (ku : un + 8 * 4 < cLine := by ktr_units)
    (h : ∀ (D : Addr) (a0 a1 a2 a3 a4 a5 a6 a7 : Int) (u0 u1 u2 u3 u4 u5 u6 u7 : Tok) (h' : Heap) (tk' : Nat), Fr h₀ L h' m → News h₀ L h' ((D, listOf [Value.int a0 u0, Value.int a1 u1, Value.int a2 u2, Value.int a3 u3, Value.int a4 u4, Value.int a5 u5, Value.int a6 u6, Value.int a7 u7].toArray 0) :: news) → LCg.Off1 D news → Q (.ref D) { s with heap := h', toks := tk' }) :
    wpAny (model PySem.Challenge.rw_wu0007_01.row.prog w) (ktrTop dp un gd cn cs L a ccd cl outer) (call (.ref 84) [.ref D]) Q E s :=
  drawn hi hl dp un gd cn cs a ccd cl outer A₀ base h₀ L m s Q E k0 k1 k2 k3 k4 k5 kK kd ku fun D' ws h' tk' F N o hI => by
    obtain ⟨a0, u0, a1, u1, a2, u2, a3, u3, a4, u4, a5, u5, a6, u6, a7, u7, rfl⟩ := ints8 hI
    exact h _ _ _ _ _ _ _ _ _ _ _ _ _ _ _ _ _ _ _ F N o
theorem gen_top {M : Model} {A : Around} {E : Value → Shared → Prop} {s : Shared} {env : Env} {x : Str} {d : Int} {t : Tok} {Q : Unit → Shared → Prop}
    (h : ∀ top : Int, 8 ≤ top → top ≤ 11 → wpAny M A (storeName env x (.int top t)) Q E s) : wpAny M A (storeName env x (.int (8 + Int.fmod d 4) t)) Q E s := by
  have := fig_bound d 4 (by decide)
  exact h _ (by omega) (by omega)
theorem off1_ne {D a : Addr} {o : Obj} : ∀ {l : List (Addr × Obj)}, LCg.Off1 D l → (a, o) ∈ l → @Ne Nat a D
  | [], _, h => nomatch h
  | _ :: _, x, h => by
    rcases List.mem_cons.mp h with e | h
    · have := x.1
      rw [← e] at this
      exact this
    · exact off1_ne x.2 h
theorem compEnd_new {h₀ : Heap} {L I C D D1 D2 : Addr} {m : Str → Option Value} {s₁ : Shared} {oI oC oD o1 o2 : Obj} {S : List (Addr × Obj) → Prop} {rest : Value → List (Addr × Obj) → Prop} {y : Value} {h' : Heap} {tk : Nat} {news' : List (Addr × Obj)}
    (F : Fr h₀ L h' m) (N : News h₀ L h' ((D1, o1) :: (D2, o2) :: (I, oI) :: (C, oC) :: (D, oD) :: news')) (off : LCg.Off3 I C D news') (hD1 : LCg.Off1 D1 ((D2, o2) :: (I, oI) :: (C, oC) :: (D, oD) :: news')) (hS : S ((D1, o1) :: news')) (r : rest y ((D1, o1) :: news')) :
    LCg.CompEnd h₀ L m s₁ I oI C oC D oD S rest y { s₁ with heap := h', toks := tk } :=
  LCg.CompEnd.intro F N ((D1, o1) :: news') (by
    intro p hp
    simp only [List.mem_cons] at hp ⊢
    rcases hp with h | h | h | h | h <;> simp only [h, true_or, or_true])
    ⟨⟨Ne.symm hD1.2.1, Ne.symm hD1.2.2.1, Ne.symm hD1.2.2.2.1⟩, off⟩ hS r
theorem all_cons {α : Type} {P : α → Prop} {a : α} {l : List α} (h : P a) (t : ∀ p ∈ l, P p) : ∀ p ∈ a :: l, P p := fun p hp => by
  rcases List.mem_cons.mp hp with e | hp
  · rw [e]; exact h
  · exact t p hp
theorem all_nil {α : Type} {P : α → Prop} : ∀ p ∈ ([] : List α), P p := fun p hp => nomatch hp
section
variable {prog : Program} {w : World} {A : Around} {E : Value → Shared → Prop} {s : Shared} {env : Env} {body : List Stmt} {x : Str} {px : Pos} {Q : Flow → Shared → Prop} {h₀ : Heap} {L : Addr} {m : Str → Option Value}
def ForRest (prog : Program) (w : World) (A : Around) (E : Value → Shared → Prop) (env : Env) (x : Str) (px : Pos) (body : List Stmt) (Q : Flow → Shared → Prop) (I : Addr) (s : Shared) : Prop :=
  codeAny (model prog w) A (.forLoop (.Name x px) (.ref I) body [] env) (fun r s' => match r with | .ok f => Q f s' | .error e => cameBackBy (model prog w) A env E e s') s
def ForPost (prog : Program) (w : World) (A : Around) (E : Value → Shared → Prop) (env : Env) (x : Str) (px : Pos) (body : List Stmt) (Q : Flow → Shared → Prop) (I : Addr) (f : Flow) (s : Shared) : Prop :=
  match f with
  | .next => ForRest prog w A E env x px body Q I s
  | .cont => ForRest prog w A E env x px body Q I s
  | .brk => Q .next s
  | .ret v => Q (.ret v) s
theorem for_turn {I : Addr} (hE : PassesOwn (model prog w) A env E)
    (h : wpAny (model prog w) A (pyNext (.ref I)) (fun r s₁ => match r with
      | none => Q .next s₁
      | some v => wpAny (model prog w) A (assign (.Name x px) env v) (fun _ s₂ => wpAny (model prog w) A (execs body env) (ForPost prog w A E env x px body Q I) E s₂) E s₁) E s) : ForRest prog w A E env x px body Q I s := by
  refine codeAny_of_tree ?_
  show wpAny _ A ((forTurn (.Name x px) (.ref I) body [] env).onRaise (fun x => do noteFrame x env; theTreesLotGoes x)) _ _ s
  refine wpAny_noted ?_
  simp only [forTurn]
  refine wpAny_bind (wpAny_standAt (wpAny_bind (wpAny_onRaise (wpAny_mono h (fun r s₁ h₁ => ?_) fun e s' he => wpAny_standAt (hE e s' he)))))
  cases r with
  | none => exact wpAny_pure ⟨rfl, codeAny_block (wpAny_execs_nil h₁)⟩
  | some v =>
    refine wpAny_bind (wpAny_of_eq (a := ()) rfl ?_)
    refine wpAny_bind (wpAny_mono h₁ (fun _ s₂ h₂ => wpAny_bind (wpAny_mono h₂ (fun f s₃ h₃ => ?_) hE)) hE)
    cases f with
    | next => exact wpAny_pure ⟨rfl, h₃⟩
    | cont => exact wpAny_pure ⟨rfl, h₃⟩
    | brk => exact wpAny_pure h₃
    | ret v => exact wpAny_pure h₃
end
section
variable {prog : Program} {w : World} {A : Around} {E : Value → Shared → Prop} {s : Shared} {env : Env} {body : List Stmt} {x : Str} {px : Pos} {Q : Flow → Shared → Prop} {h₀ : Heap} {L : Addr} {m : Str → Option Value}
theorem for_inv {I : Addr} {n : Nat} (J : Nat → Shared → Prop) (hE : PassesOwn (model prog w) A env E)
    (item : ∀ i s, i < n → J i s → wpAny (model prog w) A (pyNext (.ref I)) (fun r s₁ => ∃ v, r = some v ∧ wpAny (model prog w) A (assign (.Name x px) env v) (fun _ s₂ => wpAny (model prog w) A (execs body env) (StepTo (J (i + 1)) Q) E s₂) E s₁) E s)
    (done : ∀ s, J n s → wpAny (model prog w) A (pyNext (.ref I)) (fun r s₁ => r = none ∧ Q .next s₁) E s) :
    ∀ k i s, i + k = n → J i s → ForRest prog w A E env x px body Q I s := by
  intro k
  induction k with
  | zero =>
    intro i s hi hJ
    obtain rfl : i = n := by omega
    refine for_turn hE (wpAny_mono (done s hJ) (fun r s₁ h => ?_) fun _ _ h => h)
    obtain ⟨rfl, h⟩ := h
    exact h
  | succ k ih =>
    intro i s hi hJ
    refine for_turn hE (wpAny_mono (item i s (by omega) hJ) (fun r s₁ h => ?_) fun _ _ h => h)
    obtain ⟨v, rfl, h⟩ := h
    refine wpAny_mono h (fun _ s₂ h₂ => wpAny_mono h₂ (fun f s₃ h₃ => ?_) fun _ _ h => h) fun _ _ h => h
    cases f with
    | next => exact ih (i + 1) s₃ (by omega) h₃
    | cont => exact ih (i + 1) s₃ (by omega) h₃
    | brk => exact h₃
    | ret v => exact h₃
/-- the iterator of a list of the ledger's -/
abbrev itl (l : Addr) (i : Nat) : Obj := { cls := .type "list_iterator", data := .fields #[.ref l, .int i 0] }
theorem iter_led {l : Addr} {vs : List Value} {c : Nat} {news : List (Addr × Obj)} {Q : Value → Shared → Prop} (F : Fr h₀ L s.heap m) (N : News h₀ L s.heap news) (hm : (l, ({ cls := .type "list", data := .seq vs.toArray c } : Obj)) ∈ news)
    (h : ∀ I h', Fr h₀ L h' m → News h₀ L h' ((I, itl l 0) :: news) → (∀ p ∈ news, p.1 < I) → Q (.ref I) { s with heap := h' }) : wpAny (model prog w) A (pyIter (.ref l)) Q E s :=
  wpAny_pyIter_list (N.isList hm) (h _ _ (F.push _) (N.push F _) fun p hp => Heap.lt_size (N p hp).1)
end
/-- what stands on the ledger at a turn's head -/
abbrev Led (cT cL cB cR cM cK I : Addr) (oT oL oB oR oM oK oI : Obj) (Dl Di Db Dr : Addr) (ol oi ob or : Obj) (rest : List (Addr × Obj)) : List (Addr × Obj) :=
  (cT, oT) :: (cL, oL) :: (cB, oB) :: (cR, oR) :: (cM, oM) :: (cK, oK) :: (I, oI) :: (Dl, ol) :: (Di, oi) :: (Db, ob) :: (Dr, or) :: rest
structure Apart (cL cB cR cM cK I D : Addr) : Prop where
  l : @Ne Nat D cL
  b : @Ne Nat D cB
  r : @Ne Nat D cR
  m : @Ne Nat D cM
  k : @Ne Nat D cK
  i : @Ne Nat D I
structure Nums where
  (a b c : Int)
abbrev Ints (top : Int) (x : Nums) : Prop := (0 ≤ x.a ∧ x.a ≤ top) ∧ (0 ≤ x.b ∧ x.b ≤ top) ∧ (0 ≤ x.c ∧ x.c ≤ top)
abbrev lvs (top : Int) (x y : Nums) : Nums := ⟨lv top x.a y.a, lv top x.b y.b, lv top x.c y.c⟩
abbrev on (x : Int) : Int := 2 ^ x.toNat - 1
inductive St (h₀ : Heap) (L : Addr) (m0 : Str → Option Value) (cT cL cB cR cM cK I : Addr) (oT oK oI : Obj) (rest : List (Addr × Obj)) (top : Int) (a b r : Nums) (h : Heap) : Prop
  | mk (oL oB oR oM : Obj) (Dl Di Db Dr : Addr) (t0 t1 t2 u0 u1 u2 v0 v1 v2 w0 w1 w2 : Tok) (n1 n2 n3 n4 : Nat) (vm : Option Value) : Fr h₀ L h (fun y => if y = Str.ofString "levels" then some (.ref Dl) else m0 y) →
    News h₀ L h (Led cT cL cB cR cM cK I oT oL oB oR oM oK oI Dl Di Db Dr (L3 (.int a.a) (.int a.b) (.int a.c) t0 t1 t2 n1) (L3 (.str (pad a.a top)) (.str (pad a.b top)) (.str (pad a.c top)) u0 u1 u2 n2)
      (L3 (.int (on b.a)) (.int (on b.b)) (.int (on b.c)) v0 v1 v2 n3) (L3 (.int (on r.a)) (.int (on r.b)) (.int (on r.c)) w0 w1 w2 n4) rest) →
    oL.data = .cell (some (.ref Di)) →
    oB.data = .cell (some (.ref Db)) →
    oR.data = .cell (some (.ref Dr)) →
    oM.data = .cell vm →
    (Apart cL cB cR cM cK I Dl ∧ Apart cL cB cR cM cK I Di ∧ Apart cL cB cR cM cK I Db ∧ Apart cL cB cR cM cK I Dr) → St h₀ L m0 cT cL cB cR cM cK I oT oK oI rest top a b r h
def seqN (top : Int) (x : Nums) (y : Nat → Nums) : Nat → Nums
  | 0 => x
  | n + 1 => lvs top (seqN top x y n) (y n)
theorem seqN_b {top : Int} (ht : 0 ≤ top) {x : Nums} (hx : Ints top x) (y : Nat → Nums) : ∀ n, Ints top (seqN top x y n)
  | 0 => hx
  | _ + 1 => ⟨lv_b _ _ ht, lv_b _ _ ht, lv_b _ _ ht⟩
structure Cells (cT cL cB cR cM cK I : Addr) (rest : List (Addr × Obj)) : Prop where
  t : @Ne Nat cT I
  l : @Ne Nat cL I
  b : @Ne Nat cB I
  r : @Ne Nat cR I
  m : @Ne Nat cM I
  k : @Ne Nat cK I
  rest : ∀ p ∈ rest, @Ne Nat p.1 I
/-- behind the loop: the iterator is gone -/
inductive StF (h₀ : Heap) (L : Addr) (m0 : Str → Option Value) (cT cL cB cR cM cK : Addr) (oT oK : Obj) (rest : List (Addr × Obj)) (top : Int) (a b r : Nums) (h : Heap) : Prop
  | mk (oL oB oR oM : Obj) (Dl Di Db Dr : Addr) (t0 t1 t2 u0 u1 u2 v0 v1 v2 w0 w1 w2 : Tok) (n1 n2 n3 n4 : Nat) (vm : Option Value) : Fr h₀ L h (fun y => if y = Str.ofString "levels" then some (.ref Dl) else m0 y) →
    News h₀ L h ((Dl, L3 (.int a.a) (.int a.b) (.int a.c) t0 t1 t2 n1) :: (Di, L3 (.str (pad a.a top)) (.str (pad a.b top)) (.str (pad a.c top)) u0 u1 u2 n2) ::
      (Db, L3 (.int (on b.a)) (.int (on b.b)) (.int (on b.c)) v0 v1 v2 n3) :: (Dr, L3 (.int (on r.a)) (.int (on r.b)) (.int (on r.c)) w0 w1 w2 n4) :: (cT, oT) :: (cL, oL) :: (cB, oB) :: (cR, oR) :: (cM, oM) :: (cK, oK) :: rest) →
    oL.data = .cell (some (.ref Di)) →
    oB.data = .cell (some (.ref Db)) →
    oR.data = .cell (some (.ref Dr)) →
    oM.data = .cell vm →
    (@Ne Nat Dl cK ∧ @Ne Nat Db cK ∧ @Ne Nat Dr cK) → StF h₀ L m0 cT cL cB cR cM cK oT oK rest top a b r h
section
variable {prog : Program} {w : World} {A : Around} {E : Value → Shared → Prop} {s : Shared} {env : Env} {body : List Stmt} {x : Str} {px : Pos} {Q : Flow → Shared → Prop} {h₀ : Heap} {L : Addr} {m0 : Str → Option Value}
theorem law_for {cT cL cB cR cM cK I l : Addr} {oT oK oI : Obj} {rest : List (Addr × Obj)} {top : Int} {a b r : Nums} {Dm : Nat → Addr} {y : Nat → Nums} {vs : List Value} {c tk : Nat} {h : Heap}
    (hE : PassesOwn (model prog w) A env E) (hh : A.handled = none) (ht : 0 ≤ top) (ha : Ints top a) (hb : Ints top b) (hr : Ints top r)
    (hvs : ∀ i, i < 6 → vs.toArray[i]? = some (.ref (Dm i))) (hlen : vs.toArray[6]? = none) (hl : (l, ({ cls := .type "list", data := .seq vs.toArray c } : Obj)) ∈ rest)
    (C : Cells cT cL cB cR cM cK I rest) (hIc : oI.cls = .type "list_iterator") (hId : oI.data = .fields #[.ref l, .int 0 0])
    (h0 : St h₀ L m0 cT cL cB cR cM cK I oT oK oI rest top a b r h)
    (turn : ∀ (i : Nat) (a b r : Nums) (oI oL oB oR oM : Obj) (Dl Di Db Dr : Addr) (t0 t1 t2 u0 u1 u2 v0 v1 v2 w0 w1 w2 : Tok) (n1 n2 n3 n4 : Nat) (vm : Option Value) (h : Heap) (tk : Nat), i < 6 → Ints top a → Ints top b → Ints top r →
      oL.data = .cell (some (.ref Di)) → oB.data = .cell (some (.ref Db)) → oR.data = .cell (some (.ref Dr)) → oM.data = .cell vm → Apart cL cB cR cM cK I Dl → Apart cL cB cR cM cK I Di → Apart cL cB cR cM cK I Db → Apart cL cB cR cM cK I Dr →
      Fr h₀ L h (fun y => if y = Str.ofString "levels" then some (.ref Dl) else m0 y) →
      News h₀ L h (Led cT cL cB cR cM cK I oT oL oB oR oM oK oI Dl Di Db Dr (L3 (.int a.a) (.int a.b) (.int a.c) t0 t1 t2 n1) (L3 (.str (pad a.a top)) (.str (pad a.b top)) (.str (pad a.c top)) u0 u1 u2 n2)
        (L3 (.int (on b.a)) (.int (on b.b)) (.int (on b.c)) v0 v1 v2 n3) (L3 (.int (on r.a)) (.int (on r.b)) (.int (on r.c)) w0 w1 w2 n4) rest) →
      wpAny (model prog w) A (assign (.Name x px) env (.ref (Dm i))) (fun _ s₂ => wpAny (model prog w) A (execs body env)
        (StepTo (fun s' => ∃ h' tk', s' = { s with heap := h', toks := tk' } ∧ St h₀ L m0 cT cL cB cR cM cK I oT oK oI rest top (lvs top a (y i)) (lvs top b (y i)) (lvs top r (y i)) h') Q) E s₂) E { s with heap := h, toks := tk })
    (fin : ∀ h' tk', StF h₀ L m0 cT cL cB cR cM cK oT oK rest top (seqN top a y 6) (seqN top b y 6) (seqN top r y 6) h' → Q .next { s with heap := h', toks := tk' }) :
    ForRest prog w A E env x px body Q I { s with heap := h, toks := tk } := by
  refine for_inv (n := 6) (fun i s' => ∃ h tk oI, s' = { s with heap := h, toks := tk } ∧ oI.cls = .type "list_iterator" ∧ oI.data = .fields #[.ref l, .int i 0] ∧ St h₀ L m0 cT cL cB cR cM cK I oT oK oI rest top (seqN top a y i) (seqN top b y i) (seqN top r y i) h) hE ?_ ?_ 6 0 _ rfl ⟨h, tk, oI, rfl, hIc, hId, h0⟩
  · rintro i s' hi ⟨h, tk, oI, rfl, hc, hd, oL, oB, oR, oM, Dl, Di, Db, Dr, t0, t1, t2, u0, u1, u2, v0, v1, v2, w0, w1, w2, n1, n2, n3, n4, vm, F, N, dL, dB, dR, dM, pl, pi, pb, pr⟩
    have zI := N (I, oI) (.tail _ (.tail _ (.tail _ (.tail _ (.tail _ (.tail _ (.head _)))))))
    have zl := N (l, _) (.tail _ (.tail _ (.tail _ (.tail _ (.tail _ (.tail _ (.tail _ (.tail _ (.tail _ (.tail _ (.tail _ hl)))))))))))
    refine wpAny_pyNext_list_item (l := l) (i := i) (items := vs.toArray) (x := .ref (Dm i)) ⟨oI, zI.1, hc, hd⟩ ⟨_, zl.1, rfl, _, rfl⟩ (hvs i hi) fun h' hit' hs' => ⟨_, rfl, ?_⟩
    obtain ⟨oI', ho', hc', hd'⟩ := hit'
    have F' := F.change hs' zI.2.1 zI.2.2
    have N' := News.setAt (own := [(cT, oT), (cL, oL), (cB, oB), (cR, oR), (cM, oM), (cK, oK)]) (d := I) (o := oI) N (all_cons C.t (all_cons C.l (all_cons C.b (all_cons C.r (all_cons C.m (all_cons C.k all_nil)))))) (all_cons pl.i (all_cons pi.i (all_cons pb.i (all_cons pr.i C.rest)))) hs' ho'
    have T := turn i (seqN top a y i) (seqN top b y i) (seqN top r y i) oI' oL oB oR oM Dl Di Db Dr t0 t1 t2 u0 u1 u2 v0 v1 v2 w0 w1 w2 n1 n2 n3 n4 vm h' tk hi (seqN_b ht ha y i) (seqN_b ht hb y i) (seqN_b ht hr y i) dL dB dR dM pl pi pb pr F' N'
    refine wpAny_mono T (fun _ s₂ h₂ => wpAny_mono h₂ (fun f s₃ h₃ => ?_) fun _ _ h => h) fun _ _ h => h
    cases f with
    | next =>
      obtain ⟨h'', tk', e, S⟩ := h₃
      exact ⟨h'', tk', oI', e, hc', hd', S⟩
    | cont =>
      obtain ⟨h'', tk', e, S⟩ := h₃
      exact ⟨h'', tk', oI', e, hc', hd', S⟩
    | brk => exact h₃
    | ret v => exact h₃
  · rintro s' ⟨h, tk, oI, rfl, hc, hd, oL, oB, oR, oM, Dl, Di, Db, Dr, t0, t1, t2, u0, u1, u2, v0, v1, v2, w0, w1, w2, n1, n2, n3, n4, vm, F, N, dL, dB, dR, dM, pl, pi, pb, pr⟩
    have zI := N (I, oI) (.tail _ (.tail _ (.tail _ (.tail _ (.tail _ (.tail _ (.head _)))))))
    have zl := N (l, _) (.tail _ (.tail _ (.tail _ (.tail _ (.tail _ (.tail _ (.tail _ (.tail _ (.tail _ (.tail _ (.tail _ hl)))))))))))
    refine wpAny_pyNext_list_end (l := l) (i := 6) (items := vs.toArray) hh ⟨oI, zI.1, hc, hd⟩ ⟨_, zl.1, rfl, _, rfl⟩ hlen fun h' he' => ⟨rfl, fin h' tk ?_⟩
    have hk : ∀ b o, b ∉ [I] → h.get? b = some o → h'.get? b = some o := fun b o hb e => he' b o (fun q => hb (by rw [q]; exact .head _)) e
    refine ⟨oL, oB, oR, oM, Dl, Di, Db, Dr, t0, t1, t2, u0, u1, u2, v0, v1, v2, w0, w1, w2, n1, n2, n3, n4, vm, LCg.fr_but F hk (Ne.symm zI.2.1) zI.2.2, LCg.news_but (cb_drop N ?_) hk ?_, dL, dB, dR, dM, pl.k, pb.k, pr.k⟩
    · exact (all_cons (.tail _ (.tail _ (.tail _ (.tail _ (.tail _ (.tail _ (.tail _ (.head _)))))))) (all_cons (.tail _ (.tail _ (.tail _ (.tail _ (.tail _ (.tail _ (.tail _ (.tail _ (.head _))))))))) (all_cons (.tail _ (.tail _ (.tail _ (.tail _ (.tail _ (.tail _ (.tail _ (.tail _ (.tail _ (.head _)))))))))) (all_cons (.tail _ (.tail _ (.tail _ (.tail _ (.tail _ (.tail _ (.tail _ (.tail _ (.tail _ (.tail _ (.head _))))))))))) (all_cons (.head _) (all_cons (.tail _ (.head _)) (all_cons (.tail _ (.tail _ (.head _))) (all_cons (.tail _ (.tail _ (.tail _ (.head _)))) (all_cons (.tail _ (.tail _ (.tail _ (.tail _ (.head _))))) (all_cons (.tail _ (.tail _ (.tail _ (.tail _ (.tail _ (.head _)))))) (fun p hp => (.tail _ (.tail _ (.tail _ (.tail _ (.tail _ (.tail _ (.tail _ (.tail _ (.tail _ (.tail _ (.tail _ (hp)))))))))))))))))))))))
    · exact (all_cons pl.i (all_cons pi.i (all_cons pb.i (all_cons pr.i (all_cons C.t (all_cons C.l (all_cons C.b (all_cons C.r (all_cons C.m (all_cons C.k C.rest))))))))))
end
def nth6 {α : Type} (a b c d e f : α) : Nat → α
  | 0 => a
  | 1 => b
  | 2 => c
  | 3 => d
  | 4 => e
  | _ => f
def run3 (top : Int) (x0 x1 x2 x3 x4 x5 z : Nums) : Nums := ⟨run6 top x0.a x1.a x2.a x3.a x4.a x5.a z.a, run6 top x0.b x1.b x2.b x3.b x4.b x5.b z.b, run6 top x0.c x1.c x2.c x3.c x4.c x5.c z.c⟩
theorem run3_eq (top : Int) (x0 x1 x2 x3 x4 x5 z : Nums) : seqN top z (nth6 x0 x1 x2 x3 x4 x5) 6 = run3 top x0 x1 x2 x3 x4 x5 z := rfl
abbrev Moves (y : Nums) : Prop := (-4 ≤ y.a ∧ y.a ≤ 4) ∧ (-4 ≤ y.b ∧ y.b ≤ 4) ∧ (-4 ≤ y.c ∧ y.c ≤ 4)
/-- the loop's other objects are none of the cells -/
def RestOff (cL cB cR cM cK : Addr) : List (Addr × Obj) → Prop
  | [] => True
  | p :: r => ((@Ne Nat p.1 cL) ∧ (@Ne Nat p.1 cB) ∧ (@Ne Nat p.1 cR) ∧ (@Ne Nat p.1 cM) ∧ (@Ne Nat p.1 cK)) ∧ RestOff cL cB cR cM cK r
theorem RestOff.at {cL cB cR cM cK : Addr} {l : List (Addr × Obj)} (x : RestOff cL cB cR cM cK l) : ∀ p ∈ l, (@Ne Nat p.1 cL) ∧ (@Ne Nat p.1 cB) ∧ (@Ne Nat p.1 cR) ∧ (@Ne Nat p.1 cM) ∧ (@Ne Nat p.1 cK) := by
  induction l with
  | nil => intro p h; cases h
  | cons q r ih =>
    intro p h
    rcases List.mem_cons.mp h with e | h
    · rw [e]; exact x.1
    · exact ih x.2 p h
section
variable {prog : Program} {w : World} {A : Around} {E : Value → Shared → Prop} {s : Shared} {env : Env} {body : List Stmt} {x : Str} {px : Pos} {Q : Flow → Shared → Prop} {h₀ : Heap} {L : Addr} {m0 : Str → Option Value}
/-- at the loop's head -/
theorem law_start {cT cL cB cR cM cK I l Dl Di Db Dr Ds D0 D1 D2 D3 D4 D5 : Addr} {oT oL oB oR oM oK : Obj} {vm : Option Value} {all : List (Addr × Obj)} {top : Int} {z x0 x1 x2 x3 x4 x5 : Nums} {c nz tk n1 n2 n3 n4 q0 q1 q2 q3 q4 q5 : Nat} {z0 z1 z2 t0 t1 t2 u0 u1 u2 v0 v1 v2 w0 w1 w2 e00 e01 e02 e10 e11 e12 e20 e21 e22 e30 e31 e32 e40 e41 e42 e50 e51 e52 : Tok} {h : Heap}
    (hcT : env.cells.lookup (Str.ofString "top") = some cT) (hcL : env.cells.lookup (Str.ofString "lines") = some cL) (hcB : env.cells.lookup (Str.ofString "bottoms") = some cB) (hcR : env.cells.lookup (Str.ofString "brims") = some cR)
    (hcM : env.cells.lookup (Str.ofString "moves") = some cM) (hcK : env.cells.lookup (Str.ofString "k") = some cK)
    (F : Fr h₀ L h (fun y => if y = Str.ofString "levels" then some (.ref Dl) else m0 y)) (N : News h₀ L h ((I, itl l 0) :: all)) (hI : ∀ p ∈ all, p.1 < I)
    (mT : (cT, oT) ∈ all) (mL : (cL, oL) ∈ all) (mB : (cB, oB) ∈ all) (mR : (cR, oR) ∈ all) (mM : (cM, oM) ∈ all) (mK : (cK, oK) ∈ all)
    (dL : oL.data = .cell (some (.ref Di))) (dB : oB.data = .cell (some (.ref Db))) (dR : oR.data = .cell (some (.ref Dr))) (dM : oM.data = .cell vm)
    (hs : m0 (Str.ofString "start") = some (.ref Ds))
    (ml : (l, ({ cls := .type "list", data := .seq [Value.ref D0, Value.ref D1, Value.ref D2, Value.ref D3, Value.ref D4, Value.ref D5].toArray c } : Obj)) ∈ all)
    (k0 : (D0, L3 (.int x0.a) (.int x0.b) (.int x0.c) e00 e01 e02 q0) ∈ all)
    (k1 : (D1, L3 (.int x1.a) (.int x1.b) (.int x1.c) e10 e11 e12 q1) ∈ all)
    (k2 : (D2, L3 (.int x2.a) (.int x2.b) (.int x2.c) e20 e21 e22 q2) ∈ all)
    (k3 : (D3, L3 (.int x3.a) (.int x3.b) (.int x3.c) e30 e31 e32 q3) ∈ all)
    (k4 : (D4, L3 (.int x4.a) (.int x4.b) (.int x4.c) e40 e41 e42 q4) ∈ all)
    (k5 : (D5, L3 (.int x5.a) (.int x5.b) (.int x5.c) e50 e51 e52 q5) ∈ all)
    (kz : (Ds, L3 (.int z.a) (.int z.b) (.int z.c) z0 z1 z2 nz) ∈ all)
    (kl : (Dl, L3 (.int z.a) (.int z.b) (.int z.c) t0 t1 t2 n1) ∈ all) (ki : (Di, L3 (.str (pad z.a top)) (.str (pad z.b top)) (.str (pad z.c top)) u0 u1 u2 n2) ∈ all)
    (kb : (Db, L3 (.int (on 0)) (.int (on 0)) (.int (on 0)) v0 v1 v2 n3) ∈ all) (kr : (Dr, L3 (.int (on top)) (.int (on top)) (.int (on top)) w0 w1 w2 n4) ∈ all)
    (hrest : RestOff cL cB cR cM cK [(l, ({ cls := .type "list", data := .seq [Value.ref D0, Value.ref D1, Value.ref D2, Value.ref D3, Value.ref D4, Value.ref D5].toArray c } : Obj)), (D0, L3 (.int x0.a) (.int x0.b) (.int x0.c) e00 e01 e02 q0), (D1, L3 (.int x1.a) (.int x1.b) (.int x1.c) e10 e11 e12 q1), (D2, L3 (.int x2.a) (.int x2.b) (.int x2.c) e20 e21 e22 q2), (D3, L3 (.int x3.a) (.int x3.b) (.int x3.c) e30 e31 e32 q3), (D4, L3 (.int x4.a) (.int x4.b) (.int x4.c) e40 e41 e42 q4), (D5, L3 (.int x5.a) (.int x5.b) (.int x5.c) e50 e51 e52 q5), (Ds, L3 (.int z.a) (.int z.b) (.int z.c) z0 z1 z2 nz)]) (hE : PassesOwn (model prog w) A env E) (hh : A.handled = none) (ht : 0 ≤ top) (hz : Ints top z) (y0 : Moves x0) (y1 : Moves x1) (y2 : Moves x2) (y3 : Moves x3) (y4 : Moves x4) (y5 : Moves x5)
    (plL : @Ne Nat Dl cL)    (plB : @Ne Nat Dl cB)    (plR : @Ne Nat Dl cR)    (plM : @Ne Nat Dl cM)    (plK : @Ne Nat Dl cK)
    (piL : @Ne Nat Di cL)    (piB : @Ne Nat Di cB)    (piR : @Ne Nat Di cR)    (piM : @Ne Nat Di cM)    (piK : @Ne Nat Di cK)
    (pbL : @Ne Nat Db cL)    (pbB : @Ne Nat Db cB)    (pbR : @Ne Nat Db cR)    (pbM : @Ne Nat Db cM)    (pbK : @Ne Nat Db cK)
    (prL : @Ne Nat Dr cL)    (prB : @Ne Nat Dr cB)    (prR : @Ne Nat Dr cR)    (prM : @Ne Nat Dr cM)    (prK : @Ne Nat Dr cK)
    (turn : ∀ (R : List (Addr × Obj)), Cells cT cL cB cR cM cK I R → (∀ p ∈ R, @Ne Nat p.1 cL) → (∀ p ∈ R, @Ne Nat p.1 cB) → (∀ p ∈ R, @Ne Nat p.1 cR) → (∀ p ∈ R, @Ne Nat p.1 cM) → ∀ (Dq : Addr) (y a b r : Nums) (s0 s1 s2 : Tok) (nq : Nat) (oI oL oB oR oM : Obj) (Dl Di Db Dr : Addr) (t0 t1 t2 u0 u1 u2 v0 v1 v2 w0 w1 w2 : Tok) (n1 n2 n3 n4 : Nat) (vm : Option Value) (h : Heap) (tk : Nat),
      (Dq, L3 (.int y.a) (.int y.b) (.int y.c) s0 s1 s2 nq) ∈ R → Moves y → Ints top a → Ints top b → Ints top r →
      oL.data = .cell (some (.ref Di)) → oB.data = .cell (some (.ref Db)) → oR.data = .cell (some (.ref Dr)) → oM.data = .cell vm → Apart cL cB cR cM cK I Dl → Apart cL cB cR cM cK I Di → Apart cL cB cR cM cK I Db → Apart cL cB cR cM cK I Dr →
      Fr h₀ L h (fun y => if y = Str.ofString "levels" then some (.ref Dl) else m0 y) →
      News h₀ L h (Led cT cL cB cR cM cK I oT oL oB oR oM oK oI Dl Di Db Dr (L3 (.int a.a) (.int a.b) (.int a.c) t0 t1 t2 n1) (L3 (.str (pad a.a top)) (.str (pad a.b top)) (.str (pad a.c top)) u0 u1 u2 n2)
        (L3 (.int (on b.a)) (.int (on b.b)) (.int (on b.c)) v0 v1 v2 n3) (L3 (.int (on r.a)) (.int (on r.b)) (.int (on r.c)) w0 w1 w2 n4) R) →
      wpAny (model prog w) A (assign (.Name x px) env (.ref Dq)) (fun _ s₂ => wpAny (model prog w) A (execs body env)
        (StepTo (fun s' => ∃ h' tk', s' = { s with heap := h', toks := tk' } ∧ St h₀ L m0 cT cL cB cR cM cK I oT oK oI R top (lvs top a y) (lvs top b y) (lvs top r y) h') Q) E s₂) E { s with heap := h, toks := tk })
    (fin : ∀ (z x0 x1 x2 x3 x4 x5 : Nums) h' tk', Ints top z → RestOff cL cB cR cM cK ([(l, ({ cls := .type "list", data := .seq [Value.ref D0, Value.ref D1, Value.ref D2, Value.ref D3, Value.ref D4, Value.ref D5].toArray c } : Obj)), (D0, L3 (.int x0.a) (.int x0.b) (.int x0.c) e00 e01 e02 q0), (D1, L3 (.int x1.a) (.int x1.b) (.int x1.c) e10 e11 e12 q1), (D2, L3 (.int x2.a) (.int x2.b) (.int x2.c) e20 e21 e22 q2), (D3, L3 (.int x3.a) (.int x3.b) (.int x3.c) e30 e31 e32 q3), (D4, L3 (.int x4.a) (.int x4.b) (.int x4.c) e40 e41 e42 q4), (D5, L3 (.int x5.a) (.int x5.b) (.int x5.c) e50 e51 e52 q5), (Ds, L3 (.int z.a) (.int z.b) (.int z.c) z0 z1 z2 nz)]) → StF h₀ L m0 cT cL cB cR cM cK oT oK ([(l, ({ cls := .type "list", data := .seq [Value.ref D0, Value.ref D1, Value.ref D2, Value.ref D3, Value.ref D4, Value.ref D5].toArray c } : Obj)), (D0, L3 (.int x0.a) (.int x0.b) (.int x0.c) e00 e01 e02 q0), (D1, L3 (.int x1.a) (.int x1.b) (.int x1.c) e10 e11 e12 q1), (D2, L3 (.int x2.a) (.int x2.b) (.int x2.c) e20 e21 e22 q2), (D3, L3 (.int x3.a) (.int x3.b) (.int x3.c) e30 e31 e32 q3), (D4, L3 (.int x4.a) (.int x4.b) (.int x4.c) e40 e41 e42 q4), (D5, L3 (.int x5.a) (.int x5.b) (.int x5.c) e50 e51 e52 q5), (Ds, L3 (.int z.a) (.int z.b) (.int z.c) z0 z1 z2 nz)]) top (run3 top x0 x1 x2 x3 x4 x5 z) (run3 top x0 x1 x2 x3 x4 x5 ⟨0, 0, 0⟩) (run3 top x0 x1 x2 x3 x4 x5 ⟨top, top, top⟩) h' → Q .next { s with heap := h', toks := tk' }) :
    ForRest prog w A E env x px body Q I { s with heap := h, toks := tk } := by
  have ap : ∀ {D : Addr} {o : Obj}, (D, o) ∈ all → @Ne Nat D I := fun hm => Nat.ne_of_lt (hI _ hm)
  have C : Cells cT cL cB cR cM cK I [(l, ({ cls := .type "list", data := .seq [Value.ref D0, Value.ref D1, Value.ref D2, Value.ref D3, Value.ref D4, Value.ref D5].toArray c } : Obj)), (D0, L3 (.int x0.a) (.int x0.b) (.int x0.c) e00 e01 e02 q0), (D1, L3 (.int x1.a) (.int x1.b) (.int x1.c) e10 e11 e12 q1), (D2, L3 (.int x2.a) (.int x2.b) (.int x2.c) e20 e21 e22 q2), (D3, L3 (.int x3.a) (.int x3.b) (.int x3.c) e30 e31 e32 q3), (D4, L3 (.int x4.a) (.int x4.b) (.int x4.c) e40 e41 e42 q4), (D5, L3 (.int x5.a) (.int x5.b) (.int x5.c) e50 e51 e52 q5), (Ds, L3 (.int z.a) (.int z.b) (.int z.c) z0 z1 z2 nz)] := by
    exact ⟨ap mT, ap mL, ap mB, ap mR, ap mM, ap mK, (all_cons (ap ml) (all_cons (ap k0) (all_cons (ap k1) (all_cons (ap k2) (all_cons (ap k3) (all_cons (ap k4) (all_cons (ap k5) (all_cons (ap kz) all_nil))))))))⟩
  refine law_for (vs := [Value.ref D0, Value.ref D1, Value.ref D2, Value.ref D3, Value.ref D4, Value.ref D5]) (c := c) (l := l) (oI := itl l 0) (Dm := nth6 D0 D1 D2 D3 D4 D5) (y := nth6 x0 x1 x2 x3 x4 x5) (a := z) (b := ⟨0, 0, 0⟩) (r := ⟨top, top, top⟩) (rest := [(l, ({ cls := .type "list", data := .seq [Value.ref D0, Value.ref D1, Value.ref D2, Value.ref D3, Value.ref D4, Value.ref D5].toArray c } : Obj)), (D0, L3 (.int x0.a) (.int x0.b) (.int x0.c) e00 e01 e02 q0), (D1, L3 (.int x1.a) (.int x1.b) (.int x1.c) e10 e11 e12 q1), (D2, L3 (.int x2.a) (.int x2.b) (.int x2.c) e20 e21 e22 q2), (D3, L3 (.int x3.a) (.int x3.b) (.int x3.c) e30 e31 e32 q3), (D4, L3 (.int x4.a) (.int x4.b) (.int x4.c) e40 e41 e42 q4), (D5, L3 (.int x5.a) (.int x5.b) (.int x5.c) e50 e51 e52 q5), (Ds, L3 (.int z.a) (.int z.b) (.int z.c) z0 z1 z2 nz)])
    hE hh ht hz ⟨⟨Int.le_refl _, ht⟩, ⟨Int.le_refl _, ht⟩, ⟨Int.le_refl _, ht⟩⟩ ⟨⟨ht, Int.le_refl _⟩, ⟨ht, Int.le_refl _⟩, ⟨ht, Int.le_refl _⟩⟩ ?_ rfl (.head _)
    C rfl rfl ?_ ?_ (fun h' tk' S => fin z x0 x1 x2 x3 x4 x5 h' tk' hz hrest (by rw [← run3_eq, ← run3_eq, ← run3_eq]; exact S))
  · intro i hi
    match i, hi with
    | 0, _ => rfl
    | 1, _ => rfl
    | 2, _ => rfl
    | 3, _ => rfl
    | 4, _ => rfl
    | 5, _ => rfl
  · refine ⟨oL, oB, oR, oM, Dl, Di, Db, Dr, t0, t1, t2, u0, u1, u2, v0, v1, v2, w0, w1, w2, n1, n2, n3, n4, vm, F, ?_, dL, dB, dR, dM, ⟨plL, plB, plR, plM, plK, ap kl⟩, ⟨piL, piB, piR, piM, piK, ap ki⟩, ⟨pbL, pbB, pbR, pbM, pbK, ap kb⟩, ⟨prL, prB, prR, prM, prK, ap kr⟩⟩
    exact cb_drop N (all_cons (.tail _ mT) (all_cons (.tail _ mL) (all_cons (.tail _ mB) (all_cons (.tail _ mR) (all_cons (.tail _ mM) (all_cons (.tail _ mK) (all_cons (.head _) (all_cons (.tail _ kl) (all_cons (.tail _ ki) (all_cons (.tail _ kb) (all_cons (.tail _ kr) (all_cons (.tail _ ml) (all_cons (.tail _ k0) (all_cons (.tail _ k1) (all_cons (.tail _ k2) (all_cons (.tail _ k3) (all_cons (.tail _ k4) (all_cons (.tail _ k5) (all_cons (.tail _ kz) all_nil)))))))))))))))))))
  · intro i a b r oI oL oB oR oM Dl Di Db Dr t0 t1 t2 u0 u1 u2 v0 v1 v2 w0 w1 w2 n1 n2 n3 n4 vm h tk hi ha hb hr dL dB dR dM pl pi pb pr F N
    match i, hi with
    | 0, _ => exact turn _ C (fun p hp => (RestOff.at hrest p hp).1) (fun p hp => (RestOff.at hrest p hp).2.1) (fun p hp => (RestOff.at hrest p hp).2.2.1) (fun p hp => (RestOff.at hrest p hp).2.2.2.1) D0 x0 a b r e00 e01 e02 q0 oI oL oB oR oM Dl Di Db Dr t0 t1 t2 u0 u1 u2 v0 v1 v2 w0 w1 w2 n1 n2 n3 n4 vm h tk (.tail _ (.head _)) y0 ha hb hr dL dB dR dM pl pi pb pr F N
    | 1, _ => exact turn _ C (fun p hp => (RestOff.at hrest p hp).1) (fun p hp => (RestOff.at hrest p hp).2.1) (fun p hp => (RestOff.at hrest p hp).2.2.1) (fun p hp => (RestOff.at hrest p hp).2.2.2.1) D1 x1 a b r e10 e11 e12 q1 oI oL oB oR oM Dl Di Db Dr t0 t1 t2 u0 u1 u2 v0 v1 v2 w0 w1 w2 n1 n2 n3 n4 vm h tk (.tail _ (.tail _ (.head _))) y1 ha hb hr dL dB dR dM pl pi pb pr F N
    | 2, _ => exact turn _ C (fun p hp => (RestOff.at hrest p hp).1) (fun p hp => (RestOff.at hrest p hp).2.1) (fun p hp => (RestOff.at hrest p hp).2.2.1) (fun p hp => (RestOff.at hrest p hp).2.2.2.1) D2 x2 a b r e20 e21 e22 q2 oI oL oB oR oM Dl Di Db Dr t0 t1 t2 u0 u1 u2 v0 v1 v2 w0 w1 w2 n1 n2 n3 n4 vm h tk (.tail _ (.tail _ (.tail _ (.head _)))) y2 ha hb hr dL dB dR dM pl pi pb pr F N
    | 3, _ => exact turn _ C (fun p hp => (RestOff.at hrest p hp).1) (fun p hp => (RestOff.at hrest p hp).2.1) (fun p hp => (RestOff.at hrest p hp).2.2.1) (fun p hp => (RestOff.at hrest p hp).2.2.2.1) D3 x3 a b r e30 e31 e32 q3 oI oL oB oR oM Dl Di Db Dr t0 t1 t2 u0 u1 u2 v0 v1 v2 w0 w1 w2 n1 n2 n3 n4 vm h tk (.tail _ (.tail _ (.tail _ (.tail _ (.head _))))) y3 ha hb hr dL dB dR dM pl pi pb pr F N
    | 4, _ => exact turn _ C (fun p hp => (RestOff.at hrest p hp).1) (fun p hp => (RestOff.at hrest p hp).2.1) (fun p hp => (RestOff.at hrest p hp).2.2.1) (fun p hp => (RestOff.at hrest p hp).2.2.2.1) D4 x4 a b r e40 e41 e42 q4 oI oL oB oR oM Dl Di Db Dr t0 t1 t2 u0 u1 u2 v0 v1 v2 w0 w1 w2 n1 n2 n3 n4 vm h tk (.tail _ (.tail _ (.tail _ (.tail _ (.tail _ (.head _)))))) y4 ha hb hr dL dB dR dM pl pi pb pr F N
    | 5, _ => exact turn _ C (fun p hp => (RestOff.at hrest p hp).1) (fun p hp => (RestOff.at hrest p hp).2.1) (fun p hp => (RestOff.at hrest p hp).2.2.1) (fun p hp => (RestOff.at hrest p hp).2.2.2.1) D5 x5 a b r e50 e51 e52 q5 oI oL oB oR oM Dl Di Db Dr t0 t1 t2 u0 u1 u2 v0 v1 v2 w0 w1 w2 n1 n2 n3 n4 vm h tk (.tail _ (.tail _ (.tail _ (.tail _ (.tail _ (.tail _ (.head _))))))) y5 ha hb hr dL dB dR dM pl pi pb pr F N
/-- at a turn's end -/
theorem st_intro {cT cL cB cR cM cK I Dl Di Db Dr : Addr} {oT oL oB oR oM oK oI : Obj} {vm v' : Option Value} {all rest : List (Addr × Obj)} {top : Int} {a b r : Nums} {n1 n2 n3 n4 : Nat} {t0 t1 t2 u0 u1 u2 v0 v1 v2 w0 w1 w2 : Tok} {h : Heap}
    (F : Fr h₀ L h (fun y => if y = Str.ofString "levels" then some (.ref Dl) else if y = Str.ofString "levels" then v' else m0 y)) (N : News h₀ L h all)
    (mT : (cT, oT) ∈ all) (mL : (cL, oL) ∈ all) (mB : (cB, oB) ∈ all) (mR : (cR, oR) ∈ all) (mM : (cM, oM) ∈ all) (mK : (cK, oK) ∈ all) (mI : (I, oI) ∈ all)
    (dL : oL.data = .cell (some (.ref Di))) (dB : oB.data = .cell (some (.ref Db))) (dR : oR.data = .cell (some (.ref Dr))) (dM : oM.data = .cell vm)
    (kl : (Dl, L3 (.int a.a) (.int a.b) (.int a.c) t0 t1 t2 n1) ∈ all) (ki : (Di, L3 (.str (pad a.a top)) (.str (pad a.b top)) (.str (pad a.c top)) u0 u1 u2 n2) ∈ all)
    (kb : (Db, L3 (.int (on b.a)) (.int (on b.b)) (.int (on b.c)) v0 v1 v2 n3) ∈ all) (kr : (Dr, L3 (.int (on r.a)) (.int (on r.b)) (.int (on r.c)) w0 w1 w2 n4) ∈ all)
    (hr : ∀ p ∈ rest, p ∈ all)
    (plcL : @Ne Nat Dl cL)    (plcB : @Ne Nat Dl cB)    (plcR : @Ne Nat Dl cR)    (plcM : @Ne Nat Dl cM)    (plcK : @Ne Nat Dl cK)    (plI : @Ne Nat Dl I)
    (picL : @Ne Nat Di cL)    (picB : @Ne Nat Di cB)    (picR : @Ne Nat Di cR)    (picM : @Ne Nat Di cM)    (picK : @Ne Nat Di cK)    (piI : @Ne Nat Di I)
    (pbcL : @Ne Nat Db cL)    (pbcB : @Ne Nat Db cB)    (pbcR : @Ne Nat Db cR)    (pbcM : @Ne Nat Db cM)    (pbcK : @Ne Nat Db cK)    (pbI : @Ne Nat Db I)
    (prcL : @Ne Nat Dr cL)    (prcB : @Ne Nat Dr cB)    (prcR : @Ne Nat Dr cR)    (prcM : @Ne Nat Dr cM)    (prcK : @Ne Nat Dr cK)    (prI : @Ne Nat Dr I)
    : St h₀ L m0 cT cL cB cR cM cK I oT oK oI rest top a b r h := by
  exact ⟨oL, oB, oR, oM, Dl, Di, Db, Dr, t0, t1, t2, u0, u1, u2, v0, v1, v2, w0, w1, w2, n1, n2, n3, n4, vm, fr_map F (fun y => by split <;> rfl), cb_drop N (all_cons mT (all_cons mL (all_cons mB (all_cons mR (all_cons mM (all_cons mK (all_cons mI (all_cons kl (all_cons ki (all_cons kb (all_cons kr hr))))))))))), dL, dB, dR, dM, ⟨plcL, plcB, plcR, plcM, plcK, plI⟩, ⟨picL, picB, picR, picM, picK, piI⟩, ⟨pbcL, pbcB, pbcR, pbcM, pbcK, pbI⟩, ⟨prcL, prcB, prcR, prcM, prcK, prI⟩⟩
end
theorem pad_okF : ∀ (t : Fin 4) (l : Fin 12), l.val ≤ t.val + 8 → PyData.strOk (pad l.val (t.val + 8 : Nat)) = true := by decide +kernel
theorem pad_ok {l top : Int} (h : 0 ≤ l ∧ l ≤ top) (ht : 8 ≤ top ∧ top ≤ 11) : PyData.strOk (pad l top) = true := by
  have q := pad_okF ⟨(top - 8).toNat, by omega⟩ ⟨l.toNat, by omega⟩ (by dsimp only; omega)
  dsimp only at q
  rw [show (l.toNat : Int) = l by omega, show (((top - 8).toNat + 8 : Nat) : Int) = top by omega] at q
  exact q
section
variable {prog : Program} {w : World} {A : Around} {E : Value → Shared → Prop} {s : Shared} {h₀ : Heap} {L a b : Addr} {news : List (Addr × Obj)} {Q : Value → Shared → Prop}
theorem strs3 {x y z : Str} {t0 t1 t2 : Tok} : CarriedAll [Value.str x t0, Value.str y t1, Value.str z t2] ([x, y, z].map PyData.str) := (StrsAre.cons x t0 (StrsAre.cons y t1 (StrsAre.cons z t2 .nil))).carried
theorem shaped3 {x y z : Str} (hx : PyData.strOk x = true) (hy : PyData.strOk y = true) (hz : PyData.strOk z = true) : SeqAt.shaped (.list ([x, y, z].map PyData.str)) = true := by
  simp [SeqAt.shaped, PyData.canLay0, PyData.canLayAll0, PyData.depth, PyData.depthAll]
  exact ⟨hx, hy, hz⟩
theorem ne_strs {x y z : Str} {t0 t1 t2 u0 u1 u2 : Tok} {c d : Nat} (N : News h₀ L s.heap news) (ha : (a, L3 (.str x) (.str y) (.str z) t0 t1 t2 c) ∈ news) (hb : (b, L3 (.str x) (.str y) (.str z) u0 u1 u2 d) ∈ news) (hu : A.units + 64 < cLine) (hx : PyData.strOk x = true) (hy : PyData.strOk y = true) (hz : PyData.strOk z = true)
    (h : Q (.bool false) s) : wpAny (model prog w) A (compareOp .NotEq (.ref a) (.ref b)) Q E s :=
  ne_dataH_same (reads_newData (N.isList ha) strs3) (reads_newData (N.isList hb) strs3) (shaped3 hx hy hz) (shaped3 hx hy hz) hu (SeqAt.noMix_of_shape (.list .str) rfl _ _ (list_map_has fun _ => rfl) (list_map_has fun _ => rfl)) (by
    have e : PySem.Spec.same (.list ([x, y, z].map PyData.str)) (.list ([x, y, z].map PyData.str)) = true := by
      simp [PySem.Spec.same, PySem.Spec.sameAll]
    rw [e]
    exact h)
theorem ne_ints2 {x y : Int} {t0 t1 u0 u1 : Tok} {c d : Nat} (N : News h₀ L s.heap news) (ha : (a, ({ cls := .type "list", data := .seq [Value.int x t0, Value.int y t1].toArray c } : Obj)) ∈ news) (hb : (b, ({ cls := .type "list", data := .seq [Value.int x u0, Value.int y u1].toArray d } : Obj)) ∈ news) (hu : A.units + 64 < cLine)
    (h : Q (.bool false) s) : wpAny (model prog w) A (compareOp .NotEq (.ref a) (.ref b)) Q E s :=
  ke_ne_ints (ns := [x, y]) (ms := [x, y]) (N.isList ha) (N.isList hb) (.cons _ _ (.cons _ _ .nil)) (.cons _ _ (.cons _ _ .nil)) hu (by
    rw [decide_eq_true rfl]
    exact h)
theorem ne_same {x : Int} {t u : Tok} (h : Q (.bool false) s) : wpAny (model prog w) A (compareOp .NotEq (.int x t) (.int x u)) Q E s := by
  refine PyProof.Rows.ne_int ?_
  rw [bne_self_eq_false]
  exact h
end
/-- the k-th of three -/
def s3 {α : Type} (a b c : α) (k : Int) : α := if k = 0 then a else if k = 1 then b else c
theorem s3_of {α β : Type} (f : α → β) (a b c : α) (k : Int) : s3 (f a) (f b) (f c) k = f (s3 a b c k) := by
  unfold s3
  split
  · rfl
  · split <;> rfl
theorem s3_all {α : Type} (P : α → Prop) {a b c : α} (ha : P a) (hb : P b) (hc : P c) (k : Int) : P (s3 a b c k) := by
  unfold s3
  split
  · exact ha
  · split
    · exact hb
    · exact hc
theorem three {k : Int} (h0 : 0 ≤ k) (h1 : k < 3) : k = 0 ∨ k = 1 ∨ k = 2 := by omega
section
variable {prog : Program} {w : World} {A : Around} {E : Value → Shared → Prop} {s : Shared} {h₀ : Heap} {L : Addr} {m : Str → Option Value} {env : Env} {news : List (Addr × Obj)} {l : Addr} {value slice : PySem.Expr} {k : Int} {u : Tok} {n : Nat}
theorem item3 {α : Type} {Q : Value → Shared → Prop} {a b c : α} (mk : α → Tok → Value) {t0 t1 t2 : Tok} (N : News h₀ L s.heap news) (hm : (l, L3 (mk a) (mk b) (mk c) t0 t1 t2 n) ∈ news) (hk0 : 0 ≤ k) (hk1 : k < 3) (h : ∀ t, Q (mk (s3 a b c k) t) s)
    (hs : subscripted slice false (.ref l) (.int k u) = operate [.ref l, .int k u] (getItem (.ref l) (.int k u)) := by with_unfolding_all rfl) :
    wpAny (model prog w) A (subscriptTail value slice (.ref l) (.int k u)) Q E s := by
  rcases three hk0 hk1 with rfl | rfl | rfl
  · exact item_led (vs := [mk a t0, mk b t1, mk c t2]) N hm (by decide) (by decide) rfl (h t0) hs
  · exact item_led (vs := [mk a t0, mk b t1, mk c t2]) N hm (by decide) (by decide) rfl (h t1) hs
  · exact item_led (vs := [mk a t0, mk b t1, mk c t2]) N hm (by decide) (by decide) rfl (h t2) hs
theorem comp_range3 {α : Type} (mk : α → Tok → Value) (g : Int → α) {elt : PySem.Expr} {x : Str} {scope : Scope} {cl : List (Str × Addr)} {S : List (Addr × Obj) → Prop} {Fin : List Value → List (Addr × Obj) → Prop}
    (turn : ∀ k t I oI C oC D m₂ ys h tk (E' : Value → Shared → Prop), 0 ≤ k → k < 3 → LCg.NsObj oC m₂ → m₂ x = some (.int k t) → Fr h₀ L h m → News h₀ L h ((I, oI) :: (C, oC) :: (D, LCg.lst ys) :: news) → LCg.Off3 I C D news →
      wpAny (model prog w) A (eval elt (compEnvC scope cl C env)) (LCg.CompEnd h₀ L m { s with heap := h, toks := tk } I oI C oC D (LCg.lst ys) S (fun y news' => news' = news ∧ ∃ t, y = mk (g k) t)) E' { s with heap := h, toks := tk })
    (fin : ∀ t0 t1 t2, Fin [mk (g 0) t0, mk (g 1) t1, mk (g 2) t2] news) :
    LCg.CompRest prog w A h₀ L m env elt x scope cl s S (fun i v => ∃ t, v = .int (0 + (i : Int)) t) Fin 3 0 [] news := by
  have one : ∀ (i j : Nat) (ys : List Value), 0 + (i : Int) < 3 → (∀ t, LCg.CompRest prog w A h₀ L m env elt x scope cl s S (fun i v => ∃ t, v = .int (0 + (i : Int)) t) Fin j (i + 1) (ys ++ [mk (g (0 + (i : Int))) t]) news) →
      LCg.CompRest prog w A h₀ L m env elt x scope cl s S (fun i v => ∃ t, v = .int (0 + (i : Int)) t) Fin (j + 1) i ys news := by
    intro i j ys hi next
    refine LCg.CompRest.succ ?_
    intro v I oI C oC D m₂ h tk E' hv hC hx F N off _
    obtain ⟨t, rfl⟩ := hv
    refine wpAny_mono (turn _ t I oI C oC D m₂ ys h tk E' (by omega) hi hC hx F N off) (fun y s₂ hq => ?_) fun _ _ e => e
    obtain ⟨h', tk', nw, e, F', N', off', hS, hn, t', hy⟩ := hq
    subst hn
    subst hy
    exact ⟨h', tk', nw, e, F', N', off', hS, next t'⟩
  exact one 0 2 [] (by decide) fun t0 => one 1 1 _ (by decide) fun t1 => one 2 0 _ (by decide) fun t2 => LCg.CompRest.zero (fin t0 t1 t2)
end
theorem on0 : (0 : Int) = on 0 := rfl
theorem s3_0 {α : Type} {a b c : α} : s3 a b c 0 = a := rfl
theorem s3_1 {α : Type} {a b c : α} : s3 a b c 1 = b := rfl
theorem s3_2 {α : Type} {a b c : α} : s3 a b c 2 = c := rfl
theorem s3_pad {a b c top k : Int} : s3 (pad a top) (pad b top) (pad c top) k = pad (s3 a b c k) top := s3_of (fun z => pad z top) a b c k
theorem s3_on {a b c k : Int} : s3 (on a) (on b) (on c) k = 2 ^ (s3 a b c k).toNat - 1 := s3_of on a b c k
theorem s3_b {a b c k lo hi : Int} (ha : lo ≤ a ∧ a ≤ hi) (hb : lo ≤ b ∧ b ≤ hi) (hc : lo ≤ c ∧ c ≤ hi) : lo ≤ s3 a b c k ∧ s3 a b c k ≤ hi := s3_all (fun z => lo ≤ z ∧ z ≤ hi) ha hb hc k
/-- the iterator of range(3) -/
abbrev itr (i : Nat) : Obj := { cls := .type "range_iterator", dict := none, data := .fields #[rawInt (0 + (i : Int)), rawInt (3 - (i : Int)), rawInt 1], slots := #[] }
section
variable {prog : Program} {w : World} {A : Around} {E : Value → Shared → Prop} {s : Shared} {env : Env} {body : List Stmt} {x : Str} {px : Pos} {Q : Flow → Shared → Prop} {h₀ : Heap} {L : Addr} {m1 : Str → Option Value}
theorem iter_range3 {r : Addr} {t u v : Tok} {news : List (Addr × Obj)} {m : Str → Option Value} {Q : Value → Shared → Prop} (F : Fr h₀ L s.heap m) (N : News h₀ L s.heap news) (hr : IsRange s.heap r 0 3 1 t u v)
    (h : ∀ I h', Fr h₀ L h' m → News h₀ L h' ((I, itr 0) :: news) → (∀ p ∈ news, p.1 < I) → Q (.ref I) { s with heap := h' }) : wpAny (model prog w) A (pyIter (.ref r)) Q E s :=
  wpAny_pyIter_range hr (by decide) (h _ _ (F.push _) (N.push F (itr 0)) fun p hp => Heap.lt_size (N p hp).1)
theorem last_for {cK I : Addr} {oK : Obj} {vk : Option Value} {all rest : List (Addr × Obj)} {h : Heap} {tk : Nat}
    (F : Fr h₀ L h m1) (N : News h₀ L h ((I, itr 0) :: all)) (hI : ∀ p ∈ all, p.1 < I) (mK : (cK, oK) ∈ all) (dK : oK.data = .cell vk) (hrest : ∀ p ∈ rest, p ∈ all) (hE : PassesOwn (model prog w) A env E) (hh : A.handled = none)
    (turn : ∀ (k : Int) (oI oK : Obj) (vk vc vf : Option Value) (h : Heap) (t : Tok) (tk : Nat), 0 ≤ k → k < 3 → oK.data = .cell vk → @Ne Nat cK I → (∀ p ∈ rest, @Ne Nat p.1 I) →
      Fr h₀ L h (fun y => if y = Str.ofString "free" then vf else if y = Str.ofString "cut" then vc else m1 y) → News h₀ L h ((cK, oK) :: (I, oI) :: rest) →
      wpAny (model prog w) A (assign (.Name x px) env (.int k t)) (fun _ s₂ => wpAny (model prog w) A (execs body env)
        (StepTo (fun s' => ∃ h' tk' oK' vk' vc' vf', s' = { s with heap := h', toks := tk' } ∧ Fr h₀ L h' (fun y => if y = Str.ofString "free" then vf' else if y = Str.ofString "cut" then vc' else m1 y) ∧
          News h₀ L h' ((cK, oK') :: (I, oI) :: rest) ∧ oK'.data = .cell vk') Q) E s₂) E { s with heap := h, toks := tk })
    (fin : ∀ h' tk' vc vf, Fr h₀ L h' (fun y => if y = Str.ofString "free" then vf else if y = Str.ofString "cut" then vc else m1 y) → News h₀ L h' [] → Q .next { s with heap := h', toks := tk' }) :
    ForRest prog w A E env x px body Q I { s with heap := h, toks := tk } := by
  have nK : @Ne Nat cK I := Nat.ne_of_lt (hI _ mK)
  have nR : ∀ p ∈ rest, @Ne Nat p.1 I := fun p hp => Nat.ne_of_lt (hI p (hrest p hp))
  refine for_inv (n := 3) (fun i s' => ∃ h tk oK vk vc vf, s' = { s with heap := h, toks := tk } ∧ oK.data = .cell vk ∧ Fr h₀ L h (fun y => if y = Str.ofString "free" then vf else if y = Str.ofString "cut" then vc else m1 y) ∧ News h₀ L h ((cK, oK) :: (I, itr i) :: rest)) hE ?_ ?_ 3 0 _ rfl
    ⟨h, tk, oK, vk, m1 (Str.ofString "cut"), m1 (Str.ofString "free"), rfl, dK, fr_map F (fun y => ?_), cb_drop N ?_⟩
  · rintro i s' hi ⟨h, tk, oK, vk, vc, vf, rfl, dK, F, N⟩
    have zI := N (I, itr i) (.tail _ (.head _))
    refine wpAny_pyNext_range_item zI.1 (by omega) fun h' hit' hs' => ⟨_, rfl, ?_⟩
    have F' := F.change hs' zI.2.1 zI.2.2
    have hit2 : h'.get? I = some (itr (i + 1)) := by
      have e1 : (0 + (i : Int)) + 1 = 0 + ((i + 1 : Nat) : Int) := by omega
      have e2 : (3 - (i : Int)) - 1 = 3 - ((i + 1 : Nat) : Int) := by omega
      have q := hit'
      rw [e1, e2] at q
      exact q
    have N' := News.setAt (own := [(cK, oK)]) (d := I) (o := itr i) N (all_cons nK all_nil) nR hs' hit2
    refine wpAny_mono (turn (0 + (i : Int)) (itr (i + 1)) oK vk vc vf h' _ _ (by omega) (by omega) dK nK nR F' N') (fun _ s₂ h₂ => wpAny_mono h₂ (fun f s₃ h₃ => ?_) fun _ _ h => h) fun _ _ h => h
    cases f with
    | next =>
      obtain ⟨h'', tk', oK', vk', vc', vf', e, F3, N3, d3⟩ := h₃
      exact ⟨h'', tk', oK', vk', vc', vf', e, d3, F3, N3⟩
    | cont =>
      obtain ⟨h'', tk', oK', vk', vc', vf', e, F3, N3, d3⟩ := h₃
      exact ⟨h'', tk', oK', vk', vc', vf', e, d3, F3, N3⟩
    | brk => exact h₃
    | ret v => exact h₃
  · rintro s' ⟨h, tk, oK, vk, vc, vf, rfl, dK, F, N⟩
    have zI := N (I, itr 3) (.tail _ (.head _))
    refine wpAny_pyNext_range_end hh zI.1 (by omega) fun h' he' => ⟨rfl, fin h' tk vc vf ?_ all_nil⟩
    have hk : ∀ b o, b ∉ [I] → h.get? b = some o → h'.get? b = some o := fun b o hb e => he' b o (fun q => hb (by rw [q]; exact .head _)) e
    exact LCg.fr_but F hk (Ne.symm zI.2.1) zI.2.2
  · split
    · rename_i e; rw [e]
    · split
      · rename_i e; rw [e]
      · rfl
  · exact all_cons (.tail _ mK) (all_cons (.head _) fun p hp => .tail _ (hrest p hp))
end
theorem pack6 {p0 p1 p2 p3 p4 p5 : Addr × Obj} {P : Addr × Obj → Prop} (h0 : P p0) (h1 : P p1) (h2 : P p2) (h3 : P p3) (h4 : P p4) (h5 : P p5) :
    ∃ R : List (Addr × Obj), p0 ∈ R ∧ p1 ∈ R ∧ p2 ∈ R ∧ p3 ∈ R ∧ p4 ∈ R ∧ p5 ∈ R ∧ ∀ p ∈ R, P p :=
  ⟨[p0, p1, p2, p3, p4, p5], .head _, .tail _ (.head _), .tail _ (.tail _ (.head _)), .tail _ (.tail _ (.tail _ (.head _))), .tail _ (.tail _ (.tail _ (.tail _ (.head _)))), .tail _ (.tail _ (.tail _ (.tail _ (.tail _ (.head _))))),
    all_cons h0 (all_cons h1 (all_cons h2 (all_cons h3 (all_cons h4 (all_cons h5 all_nil)))))⟩
/-- what is left behind the first loop -/
theorem fin_open {h₀ h' : Heap} {L : Addr} {m0 : Str → Option Value} {cT cL cB cR cM cK : Addr} {oT oK : Obj} {l D0 D1 D2 D3 D4 D5 Ds : Addr} {o0 o1 o2 o3 o4 o5 os ol : Obj} {top : Int} {a b r : Nums} {G : Prop}
    (off : RestOff cL cB cR cM cK [(l, ol), (D0, o0), (D1, o1), (D2, o2), (D3, o3), (D4, o4), (D5, o5), (Ds, os)])
    (S : StF h₀ L m0 cT cL cB cR cM cK oT oK [(l, ol), (D0, o0), (D1, o1), (D2, o2), (D3, o3), (D4, o4), (D5, o5), (Ds, os)] top a b r h')
    (h : ∀ (R : List (Addr × Obj)) (oB oR : Obj) (Dl Db Dr : Addr) (t0 t1 t2 v0 v1 v2 w0 w1 w2 : Tok) (n1 n3 n4 : Nat), (D0, o0) ∈ R → (D1, o1) ∈ R → (D2, o2) ∈ R → (D3, o3) ∈ R → (D4, o4) ∈ R → (D5, o5) ∈ R → (∀ p ∈ R, @Ne Nat p.1 cK) →
      @Ne Nat l cK → @Ne Nat Ds cK → @Ne Nat Dl cK → @Ne Nat Db cK → @Ne Nat Dr cK → oB.data = .cell (some (.ref Db)) → oR.data = .cell (some (.ref Dr)) →
      Fr h₀ L h' (fun y => if y = Str.ofString "levels" then some (.ref Dl) else m0 y) →
      News h₀ L h' ((cK, oK) :: (cT, oT) :: (cB, oB) :: (cR, oR) :: (Dl, L3 (.int a.a) (.int a.b) (.int a.c) t0 t1 t2 n1) :: (Db, L3 (.int (on b.a)) (.int (on b.b)) (.int (on b.c)) v0 v1 v2 n3) :: (Dr, L3 (.int (on r.a)) (.int (on r.b)) (.int (on r.c)) w0 w1 w2 n4) :: (Ds, os) :: (l, ol) :: R) → G) : G := by
  obtain ⟨oL, oB, oR, oM, Dl, Di, Db, Dr, t0, t1, t2, u0, u1, u2, v0, v1, v2, w0, w1, w2, n1, n2, n3, n4, vm, F, N, dL, dB, dR, dM, kl, kb, kr⟩ := S
  obtain ⟨yl, y0, y1, y2, y3, y4, y5, ys, _⟩ := off
  obtain ⟨R, r0, r1, r2, r3, r4, r5, hR⟩ := pack6 (p0 := (D0, o0)) (p1 := (D1, o1)) (p2 := (D2, o2)) (p3 := (D3, o3)) (p4 := (D4, o4)) (p5 := (D5, o5)) (P := fun p => News h₀ L h' [p] ∧ @Ne Nat p.1 cK)
    ⟨all_cons (N _ (.tail _ (.tail _ (.tail _ (.tail _ (.tail _ (.tail _ (.tail _ (.tail _ (.tail _ (.tail _ (.tail _ (.head _))))))))))))) all_nil, y0.2.2.2.2⟩ ⟨all_cons (N _ (.tail _ (.tail _ (.tail _ (.tail _ (.tail _ (.tail _ (.tail _ (.tail _ (.tail _ (.tail _ (.tail _ (.tail _ (.head _)))))))))))))) all_nil, y1.2.2.2.2⟩ ⟨all_cons (N _ (.tail _ (.tail _ (.tail _ (.tail _ (.tail _ (.tail _ (.tail _ (.tail _ (.tail _ (.tail _ (.tail _ (.tail _ (.tail _ (.head _))))))))))))))) all_nil, y2.2.2.2.2⟩ ⟨all_cons (N _ (.tail _ (.tail _ (.tail _ (.tail _ (.tail _ (.tail _ (.tail _ (.tail _ (.tail _ (.tail _ (.tail _ (.tail _ (.tail _ (.tail _ (.head _)))))))))))))))) all_nil, y3.2.2.2.2⟩ ⟨all_cons (N _ (.tail _ (.tail _ (.tail _ (.tail _ (.tail _ (.tail _ (.tail _ (.tail _ (.tail _ (.tail _ (.tail _ (.tail _ (.tail _ (.tail _ (.tail _ (.head _))))))))))))))))) all_nil, y4.2.2.2.2⟩ ⟨all_cons (N _ (.tail _ (.tail _ (.tail _ (.tail _ (.tail _ (.tail _ (.tail _ (.tail _ (.tail _ (.tail _ (.tail _ (.tail _ (.tail _ (.tail _ (.tail _ (.tail _ (.head _)))))))))))))))))) all_nil, y5.2.2.2.2⟩
  refine h R oB oR Dl Db Dr t0 t1 t2 v0 v1 v2 w0 w1 w2 n1 n3 n4 r0 r1 r2 r3 r4 r5 (fun p hp => (hR p hp).2) yl.2.2.2.2 ys.2.2.2.2 kl kb kr dB dR F ?_
  exact (all_cons (N _ (.tail _ (.tail _ (.tail _ (.tail _ (.tail _ (.tail _ (.tail _ (.tail _ (.tail _ (.head _))))))))))) (all_cons (N _ (.tail _ (.tail _ (.tail _ (.tail _ (.head _)))))) (all_cons (N _ (.tail _ (.tail _ (.tail _ (.tail _ (.tail _ (.tail _ (.head _)))))))) (all_cons (N _ (.tail _ (.tail _ (.tail _ (.tail _ (.tail _ (.tail _ (.tail _ (.head _))))))))) (all_cons (N _ (.head _)) (all_cons (N _ (.tail _ (.tail _ (.head _)))) (all_cons (N _ (.tail _ (.tail _ (.tail _ (.head _))))) (all_cons (N _ (.tail _ (.tail _ (.tail _ (.tail _ (.tail _ (.tail _ (.tail _ (.tail _ (.tail _ (.tail _ (.tail _ (.tail _ (.tail _ (.tail _ (.tail _ (.tail _ (.tail _ (.head _))))))))))))))))))) (all_cons (N _ (.tail _ (.tail _ (.tail _ (.tail _ (.tail _ (.tail _ (.tail _ (.tail _ (.tail _ (.tail _ (.head _)))))))))))) (fun p hp => (hR p hp).1 p (.head _)))))))))))
section
variable {prog : Program} {w : World} {A : Around} {E : Value → Shared → Prop} {s : Shared} {h₀ : Heap} {L : Addr} {m : Str → Option Value} {env : Env} {news : List (Addr × Obj)}
theorem comp_led6 (g : Nums → Int) {elt : PySem.Expr} {x : Str} {scope : Scope} {cl : List (Str × Addr)} {S : List (Addr × Obj) → Prop} {Fin : List Value → List (Addr × Obj) → Prop} {D0 D1 D2 D3 D4 D5 : Addr} {x0 x1 x2 x3 x4 x5 : Nums}
    {e00 e01 e02 e10 e11 e12 e20 e21 e22 e30 e31 e32 e40 e41 e42 e50 e51 e52 : Tok} {q0 q1 q2 q3 q4 q5 : Nat}
    (k0 : (D0, L3 (.int x0.a) (.int x0.b) (.int x0.c) e00 e01 e02 q0) ∈ news) (k1 : (D1, L3 (.int x1.a) (.int x1.b) (.int x1.c) e10 e11 e12 q1) ∈ news) (k2 : (D2, L3 (.int x2.a) (.int x2.b) (.int x2.c) e20 e21 e22 q2) ∈ news)
    (k3 : (D3, L3 (.int x3.a) (.int x3.b) (.int x3.c) e30 e31 e32 q3) ∈ news) (k4 : (D4, L3 (.int x4.a) (.int x4.b) (.int x4.c) e40 e41 e42 q4) ∈ news) (k5 : (D5, L3 (.int x5.a) (.int x5.b) (.int x5.c) e50 e51 e52 q5) ∈ news)
    (turn : ∀ (y : Nums) Dq s0 s1 s2 nq I oI C oC D m₂ ys h tk (E' : Value → Shared → Prop), (Dq, L3 (.int y.a) (.int y.b) (.int y.c) s0 s1 s2 nq) ∈ news → LCg.NsObj oC m₂ → m₂ x = some (.ref Dq) → Fr h₀ L h m → News h₀ L h ((I, oI) :: (C, oC) :: (D, LCg.lst ys) :: news) → LCg.Off3 I C D news →
      wpAny (model prog w) A (eval elt (compEnvC scope cl C env)) (LCg.CompEnd h₀ L m { s with heap := h, toks := tk } I oI C oC D (LCg.lst ys) S (fun v news' => news' = news ∧ ∃ t, v = .int (g y) t)) E' { s with heap := h, toks := tk })
    (fin : ∀ t0 t1 t2 t3 t4 t5, Fin [.int (g x0) t0, .int (g x1) t1, .int (g x2) t2, .int (g x3) t3, .int (g x4) t4, .int (g x5) t5] news) :
    LCg.CompRest prog w A h₀ L m env elt x scope cl s S (fun i v => [Value.ref D0, Value.ref D1, Value.ref D2, Value.ref D3, Value.ref D4, Value.ref D5].toArray[i]? = some v) Fin 6 0 [] news := by
  have one : ∀ (y : Nums) (Dq : Addr) (s0 s1 s2 : Tok) (nq i j : Nat) (ys : List Value), (Dq, L3 (.int y.a) (.int y.b) (.int y.c) s0 s1 s2 nq) ∈ news → [Value.ref D0, Value.ref D1, Value.ref D2, Value.ref D3, Value.ref D4, Value.ref D5].toArray[i]? = some (.ref Dq) →
      (∀ t, LCg.CompRest prog w A h₀ L m env elt x scope cl s S (fun i v => [Value.ref D0, Value.ref D1, Value.ref D2, Value.ref D3, Value.ref D4, Value.ref D5].toArray[i]? = some v) Fin j (i + 1) (ys ++ [.int (g y) t]) news) →
      LCg.CompRest prog w A h₀ L m env elt x scope cl s S (fun i v => [Value.ref D0, Value.ref D1, Value.ref D2, Value.ref D3, Value.ref D4, Value.ref D5].toArray[i]? = some v) Fin (j + 1) i ys news := by
    intro y Dq s0 s1 s2 nq i j ys hm hi next
    refine LCg.CompRest.succ ?_
    intro v I oI C oC D m₂ h tk E' hv hC hx F N off _
    rw [hi] at hv
    obtain rfl := Option.some.inj hv
    refine wpAny_mono (turn y Dq s0 s1 s2 nq I oI C oC D m₂ ys h tk E' hm hC hx F N off) (fun y s₂ hq => ?_) fun _ _ e => e
    obtain ⟨h', tk', nw, e, F', N', off', hS, hn, t', hy⟩ := hq
    subst hn
    subst hy
    exact ⟨h', tk', nw, e, F', N', off', hS, next t'⟩
  exact one x0 D0 _ _ _ _ 0 5 [] k0 rfl fun t0 => one x1 D1 _ _ _ _ 1 4 _ k1 rfl fun t1 => one x2 D2 _ _ _ _ 2 3 _ k2 rfl fun t2 => one x3 D3 _ _ _ _ 3 2 _ k3 rfl fun t3 => one x4 D4 _ _ _ _ 4 1 _ k4 rfl fun t4 => one x5 D5 _ _ _ _ 5 0 _ k5 rfl fun t5 => LCg.CompRest.zero (fin t0 t1 t2 t3 t4 t5)
theorem pow2 {e top : Int} {t u : Tok} {Q : Value → Shared → Prop} (he : 0 ≤ e ∧ e ≤ top) (ht : 8 ≤ top ∧ top ≤ 11) (h : ∀ t', Q (.int (2 ^ e.toNat) t') { s with toks := s.toks + 1 }) : wpAny (model prog w) A (binaryOp .Pow (.int 2 t) (.int e u)) Q E s :=
  pow_int he.1 (by
    have : (Builtin.Int.intBits 2 : Int) = 2 := by decide
    rw [this]
    omega) (h _)
theorem ne_eq {x y : Int} {t u : Tok} {Q : Value → Shared → Prop} (e : x = y) (h : Q (.bool false) s) : wpAny (model prog w) A (compareOp .NotEq (.int x t) (.int y u)) Q E s := by
  subst e
  exact ne_same h
theorem ne_eq2 {a b : Addr} {x y x' y' : Int} {t0 t1 u0 u1 : Tok} {c d : Nat} {Q : Value → Shared → Prop} (N : News h₀ L s.heap news) (ha : (a, ({ cls := .type "list", data := .seq [Value.int x t0, Value.int y t1].toArray c } : Obj)) ∈ news) (hb : (b, ({ cls := .type "list", data := .seq [Value.int x' u0, Value.int y' u1].toArray d } : Obj)) ∈ news) (hu : A.units + 64 < cLine)
    (e : x = x' ∧ y = y') (h : Q (.bool false) s) : wpAny (model prog w) A (compareOp .NotEq (.ref a) (.ref b)) Q E s := by
  obtain ⟨rfl, rfl⟩ := e
  exact ne_ints2 N ha hb hu h
end
theorem run6_b {top : Int} (ht : 0 ≤ top) {a b c d e f x : Int} : 0 ≤ run6 top a b c d e f x ∧ run6 top a b c d e f x ≤ top := lv_b _ _ ht
theorem endI_b {top : Int} (ht : 0 ≤ top) {x : Int} : 0 ≤ endI 0 top x ∧ endI 0 top x ≤ top := by
  rw [endI_eq _ _ _ ht]
  omega
section
variable {top k : Int} {x0 x1 x2 x3 x4 x5 z : Nums}
abbrev s3n (x : Nums) (k : Int) : Int := s3 x.a x.b x.c k
abbrev s3r (top : Int) (x0 x1 x2 x3 x4 x5 z : Nums) (k : Int) : Int := run6 top (s3n x0 k) (s3n x1 k) (s3n x2 k) (s3n x3 k) (s3n x4 k) (s3n x5 k) (s3n z k)
theorem s3_run : s3n (run3 top x0 x1 x2 x3 x4 x5 z) k = s3r top x0 x1 x2 x3 x4 x5 z k := by
  unfold s3r s3n s3 run3
  split
  · rfl
  · split <;> rfl
theorem s3_const {a : Int} : s3n ⟨a, a, a⟩ k = a := by
  unfold s3n s3
  split
  · rfl
  · split <;> rfl
theorem s3n_b (hz : Ints top z) : 0 ≤ s3n z k ∧ s3n z k ≤ top := s3_b hz.1 hz.2.1 hz.2.2
theorem run3_b (ht : 0 ≤ top) : Ints top (run3 top x0 x1 x2 x3 x4 x5 z) := ⟨run6_b ht, run6_b ht, run6_b ht⟩
theorem run3_s (ht : 0 ≤ top) : 0 ≤ s3n (run3 top x0 x1 x2 x3 x4 x5 z) k ∧ s3n (run3 top x0 x1 x2 x3 x4 x5 z) k ≤ top := s3n_b (run3_b ht)
theorem ints_0 (ht : 0 ≤ top) : Ints top ⟨0, 0, 0⟩ := ⟨⟨Int.le_refl _, ht⟩, ⟨Int.le_refl _, ht⟩, ⟨Int.le_refl _, ht⟩⟩
theorem ints_t (ht : 0 ≤ top) : Ints top ⟨top, top, top⟩ := ⟨⟨ht, Int.le_refl _⟩, ⟨ht, Int.le_refl _⟩, ⟨ht, Int.le_refl _⟩⟩
/-- the end of the k-th level -/
theorem endK (ht : 0 ≤ top) (hz : Ints top z) {v : Int} (hv : s3n z k = v) :
    endI (C6 top (s3n x0 k) (s3n x1 k) (s3n x2 k) (s3n x3 k) (s3n x4 k) (s3n x5 k)).1 (C6 top (s3n x0 k) (s3n x1 k) (s3n x2 k) (s3n x3 k) (s3n x4 k) (s3n x5 k)).2.1 (v + (C6 top (s3n x0 k) (s3n x1 k) (s3n x2 k) (s3n x3 k) (s3n x4 k) (s3n x5 k)).2.2)
      = s3n (run3 top x0 x1 x2 x3 x4 x5 z) k := by
  subst hv
  rw [s3_run, run6_end ht _ _ _ _ _ _ (s3n_b hz).1 (s3n_b hz).2]
theorem mostK (ht : 0 ≤ top ∧ top ≤ 11) (hz : Ints top z) :
    mostI (on (s3n (run3 top x0 x1 x2 x3 x4 x5 ⟨0, 0, 0⟩) k)) (on (s3n (run3 top x0 x1 x2 x3 x4 x5 ⟨top, top, top⟩) k)) (on (endI 0 top (s3n z k + (C6 top (s3n x0 k) (s3n x1 k) (s3n x2 k) (s3n x3 k) (s3n x4 k) (s3n x5 k)).2.2)))
      = on (s3n (run3 top x0 x1 x2 x3 x4 x5 z) k) := by
  rw [s3_run, s3_run, s3_run]
  unfold s3r
  rw [s3_const, s3_const]
  exact most_law ht _ _ _ _ _ _ (s3n_b hz).1 (s3n_b hz).2 (endI_eq _ _ _ ht.1)
theorem mostL (ht : 0 ≤ top ∧ top ≤ 11) (hz : Ints top z) :
    mostI (s3 (on (run3 top x0 x1 x2 x3 x4 x5 ⟨0, 0, 0⟩).a) (on (run3 top x0 x1 x2 x3 x4 x5 ⟨0, 0, 0⟩).b) (on (run3 top x0 x1 x2 x3 x4 x5 ⟨0, 0, 0⟩).c) k)
      (s3 (on (run3 top x0 x1 x2 x3 x4 x5 ⟨top, top, top⟩).a) (on (run3 top x0 x1 x2 x3 x4 x5 ⟨top, top, top⟩).b) (on (run3 top x0 x1 x2 x3 x4 x5 ⟨top, top, top⟩).c) k)
      (2 ^ (endI 0 top (s3 z.a z.b z.c k + (C6 top (s3 x0.a x0.b x0.c k) (s3 x1.a x1.b x1.c k) (s3 x2.a x2.b x2.c k) (s3 x3.a x3.b x3.c k) (s3 x4.a x4.b x4.c k) (s3 x5.a x5.b x5.c k)).2.2)).toNat - 1)
      = 2 ^ (s3 (run3 top x0 x1 x2 x3 x4 x5 z).a (run3 top x0 x1 x2 x3 x4 x5 z).b (run3 top x0 x1 x2 x3 x4 x5 z).c k).toNat - 1 := by
  rw [s3_of on, s3_of on]
  exact mostK ht hz
end
def DeedAt (y : Value) (nw' nw : List (Addr × Obj)) : Prop := ∃ (D : Addr) (x : Nums) (t0 t1 t2 : Tok) (c : Nat), y = .ref D ∧ nw' = (D, L3 (.int x.a) (.int x.b) (.int x.c) t0 t1 t2 c) :: nw ∧ Moves x ∧ LCg.Off1 D nw
theorem moves9 {a b c : Int} (ha : 0 ≤ a ∧ a < 9) (hb : 0 ≤ b ∧ b < 9) (hc : 0 ≤ c ∧ c < 9) : Moves ⟨a - 4, b - 4, c - 4⟩ := by
  refine ⟨⟨?_, ?_⟩, ⟨?_, ?_⟩, ⟨?_, ?_⟩⟩ <;> dsimp only <;> omega
theorem ints_fig {top a b c : Int} (ha : 0 ≤ a ∧ a < top + 1) (hb : 0 ≤ b ∧ b < top + 1) (hc : 0 ≤ c ∧ c < top + 1) : Ints top ⟨a, b, c⟩ :=
  ⟨⟨ha.1, Int.le_of_lt_add_one ha.2⟩, ⟨hb.1, Int.le_of_lt_add_one hb.2⟩, ⟨hc.1, Int.le_of_lt_add_one hc.2⟩⟩
section
variable {prog : Program} {w : World} {A : Around} {E : Value → Shared → Prop} {s : Shared} {h₀ : Heap} {L : Addr} {m : Str → Option Value} {env : Env} {news : List (Addr × Obj)}
theorem deedEnd {I C D D1 D2 : Addr} {s₁ : Shared} {oI oC oD o1 o2 : Obj} {S : List (Addr × Obj) → Prop} {h' : Heap} {tk : Nat} {nw : List (Addr × Obj)} {f0 f1 f2 : Int} {t0 t1 t2 : Tok} {c : Nat}
    (F : Fr h₀ L h' m) (N : News h₀ L h' ((D1, o1) :: (D2, o2) :: (I, oI) :: (C, oC) :: (D, oD) :: nw)) (off : LCg.Off3 I C D nw) (hD1 : LCg.Off1 D1 ((D2, o2) :: (I, oI) :: (C, oC) :: (D, oD) :: nw)) (hS : S ((D1, o1) :: nw))
    (b0 : 0 ≤ f0 ∧ f0 < 9) (b1 : 0 ≤ f1 ∧ f1 < 9) (b2 : 0 ≤ f2 ∧ f2 < 9) (eo : o1 = L3 (.int (f0 - 4)) (.int (f1 - 4)) (.int (f2 - 4)) t0 t1 t2 c) :
    LCg.CompEnd h₀ L m s₁ I oI C oC D oD S (fun y nw' => DeedAt y nw' nw) (.ref D1) { s₁ with heap := h', toks := tk } :=
  compEnd_new F N off hD1 hS ⟨D1, ⟨f0 - 4, f1 - 4, f2 - 4⟩, t0, t1, t2, c, rfl, by rw [eo], moves9 b0 b1 b2, hD1.2.2.2.2⟩
theorem comp_new6 {elt : PySem.Expr} {x : Str} {scope : Scope} {cl : List (Str × Addr)} {S : List (Addr × Obj) → Prop} {Fin : List Value → List (Addr × Obj) → Prop} {a0 a1 a2 a3 a4 a5 : Int} {u0 u1 u2 u3 u4 u5 : Tok}
    (hS : ∀ p nw, S nw → S (p :: nw)) (S0 : S news)
    (turn : ∀ (a : Int) (u : Tok) (nw : List (Addr × Obj)) I oI C oC D m₂ ys h tk (E' : Value → Shared → Prop), S nw → LCg.NsObj oC m₂ → m₂ x = some (.int a u) → Fr h₀ L h m → News h₀ L h ((I, oI) :: (C, oC) :: (D, LCg.lst ys) :: nw) → LCg.Off3 I C D nw →
      wpAny (model prog w) A (eval elt (compEnvC scope cl C env)) (LCg.CompEnd h₀ L m { s with heap := h, toks := tk } I oI C oC D (LCg.lst ys) S (fun y nw' => DeedAt y nw' nw)) E' { s with heap := h, toks := tk })
    (fin : ∀ (D0 D1 D2 D3 D4 D5 : Addr) (x0 x1 x2 x3 x4 x5 : Nums) (e00 e01 e02 e10 e11 e12 e20 e21 e22 e30 e31 e32 e40 e41 e42 e50 e51 e52 : Tok) (q0 q1 q2 q3 q4 q5 : Nat), Moves x0 → Moves x1 → Moves x2 → Moves x3 → Moves x4 → Moves x5 →
      LCg.Off1 D0 news → LCg.Off1 D1 ((D0, L3 (.int x0.a) (.int x0.b) (.int x0.c) e00 e01 e02 q0) :: news) → LCg.Off1 D2 ((D1, L3 (.int x1.a) (.int x1.b) (.int x1.c) e10 e11 e12 q1) :: (D0, L3 (.int x0.a) (.int x0.b) (.int x0.c) e00 e01 e02 q0) :: news) →
      LCg.Off1 D3 ((D2, L3 (.int x2.a) (.int x2.b) (.int x2.c) e20 e21 e22 q2) :: (D1, L3 (.int x1.a) (.int x1.b) (.int x1.c) e10 e11 e12 q1) :: (D0, L3 (.int x0.a) (.int x0.b) (.int x0.c) e00 e01 e02 q0) :: news) →
      LCg.Off1 D4 ((D3, L3 (.int x3.a) (.int x3.b) (.int x3.c) e30 e31 e32 q3) :: (D2, L3 (.int x2.a) (.int x2.b) (.int x2.c) e20 e21 e22 q2) :: (D1, L3 (.int x1.a) (.int x1.b) (.int x1.c) e10 e11 e12 q1) :: (D0, L3 (.int x0.a) (.int x0.b) (.int x0.c) e00 e01 e02 q0) :: news) →
      LCg.Off1 D5 ((D4, L3 (.int x4.a) (.int x4.b) (.int x4.c) e40 e41 e42 q4) :: (D3, L3 (.int x3.a) (.int x3.b) (.int x3.c) e30 e31 e32 q3) :: (D2, L3 (.int x2.a) (.int x2.b) (.int x2.c) e20 e21 e22 q2) :: (D1, L3 (.int x1.a) (.int x1.b) (.int x1.c) e10 e11 e12 q1) :: (D0, L3 (.int x0.a) (.int x0.b) (.int x0.c) e00 e01 e02 q0) :: news) →
      Fin [.ref D0, .ref D1, .ref D2, .ref D3, .ref D4, .ref D5] ((D5, L3 (.int x5.a) (.int x5.b) (.int x5.c) e50 e51 e52 q5) :: (D4, L3 (.int x4.a) (.int x4.b) (.int x4.c) e40 e41 e42 q4) :: (D3, L3 (.int x3.a) (.int x3.b) (.int x3.c) e30 e31 e32 q3) :: (D2, L3 (.int x2.a) (.int x2.b) (.int x2.c) e20 e21 e22 q2) :: (D1, L3 (.int x1.a) (.int x1.b) (.int x1.c) e10 e11 e12 q1) :: (D0, L3 (.int x0.a) (.int x0.b) (.int x0.c) e00 e01 e02 q0) :: news)) :
    LCg.CompRest prog w A h₀ L m env elt x scope cl s S (fun i v => [Value.int a0 u0, Value.int a1 u1, Value.int a2 u2, Value.int a3 u3, Value.int a4 u4, Value.int a5 u5].toArray[i]? = some v) Fin 6 0 [] news := by
  have one : ∀ (a : Int) (u : Tok) (i j : Nat) (ys : List Value) (nw : List (Addr × Obj)), S nw → [Value.int a0 u0, Value.int a1 u1, Value.int a2 u2, Value.int a3 u3, Value.int a4 u4, Value.int a5 u5].toArray[i]? = some (.int a u) →
      (∀ (D : Addr) (x' : Nums) (t0 t1 t2 : Tok) (c : Nat), Moves x' → LCg.Off1 D nw → S ((D, L3 (.int x'.a) (.int x'.b) (.int x'.c) t0 t1 t2 c) :: nw) →
        LCg.CompRest prog w A h₀ L m env elt x scope cl s S (fun i v => [Value.int a0 u0, Value.int a1 u1, Value.int a2 u2, Value.int a3 u3, Value.int a4 u4, Value.int a5 u5].toArray[i]? = some v) Fin j (i + 1) (ys ++ [.ref D]) ((D, L3 (.int x'.a) (.int x'.b) (.int x'.c) t0 t1 t2 c) :: nw)) →
      LCg.CompRest prog w A h₀ L m env elt x scope cl s S (fun i v => [Value.int a0 u0, Value.int a1 u1, Value.int a2 u2, Value.int a3 u3, Value.int a4 u4, Value.int a5 u5].toArray[i]? = some v) Fin (j + 1) i ys nw := by
    intro a u i j ys nw Sn hi next
    refine LCg.CompRest.succ ?_
    intro v I oI C oC D m₂ h tk E' hv hC hx F N off _
    rw [hi] at hv
    obtain rfl := Option.some.inj hv
    refine wpAny_mono (turn a u nw I oI C oC D m₂ ys h tk E' Sn hC hx F N off) (fun y s₂ hq => ?_) fun _ _ e => e
    obtain ⟨h', tk', nw', e, F', N', off', hS', D', x', t0, t1, t2, c, rfl, rfl, hm, ho⟩ := hq
    exact ⟨h', tk', _, e, F', N', off', hS', next D' x' t0 t1 t2 c hm ho hS'⟩
  exact one a0 u0 0 5 [] news S0 rfl fun D0 x0 _ _ _ _ m0 o0 s0 => one a1 u1 1 4 _ _ s0 rfl fun D1 x1 _ _ _ _ m1 o1 s1 => one a2 u2 2 3 _ _ s1 rfl fun D2 x2 _ _ _ _ m2 o2 s2 => one a3 u3 3 2 _ _ s2 rfl fun D3 x3 _ _ _ _ m3 o3 s3 =>
    one a4 u4 4 1 _ _ s3 rfl fun D4 x4 _ _ _ _ m4 o4 s4 => one a5 u5 5 0 _ _ s4 rfl fun D5 x5 _ _ _ _ m5 o5 s5 => LCg.CompRest.zero (fin D0 D1 D2 D3 D4 D5 x0 x1 x2 x3 x4 x5 _ _ _ _ _ _ _ _ _ _ _ _ _ _ _ _ _ _ _ _ _ _ _ _ m0 m1 m2 m3 m4 m5 o0 o1 o2 o3 o4 o5)
theorem srcAt_cons {ax : Addr} {its : Array Value} {p : Addr × Obj} {nw : List (Addr × Obj)} (h : LCg.SrcAt h₀ ax its nw) : LCg.SrcAt h₀ ax its (p :: nw) := by
  rcases h with h | ⟨o, hm, r⟩
  · exact .inl h
  · exact .inr ⟨o, .tail _ hm, r⟩
end
theorem endM {w mean mg mb news} {D : Addr} {lo hi sh l v : Int} {t0 t1 t2 t3 : Tok} {c : Nat} (hD : (D, L3 (.int lo) (.int hi) (.int sh) t0 t1 t2 c) ∈ news) (e : endI lo hi (l + sh) = v) :
    Does w mean mg mb 150 [.ref D, .int l t3] news 4 (RetV news (fun t => .int v t)) := by
  subst e
  exact endC hD
theorem fr_two {h₀ h : Heap} {L : Addr} {m1 : Str → Option Value} {v v' u u' : Option Value}
    (F : Fr h₀ L h (fun y => if y = Str.ofString "free" then v else if y = Str.ofString "cut" then v' else if y = Str.ofString "free" then u else if y = Str.ofString "cut" then u' else m1 y)) :
    Fr h₀ L h (fun y => if y = Str.ofString "free" then v else if y = Str.ofString "cut" then v' else m1 y) := fr_map F fun y => by
  split
  · rfl
  · split <;> rfl
theorem post_true {args : List WData} : PySem.Challenge.rw_wu0007_01.row.toRowW.claim.post args (.bool true) args = true := by
  exact postW_of (by wrow_shape) (by wtm_val) (by with_reducible exact beq_self_eq_true _)
theorem sl8 {a b c d e f g h : Value} : (slicePick [a, b, c, d, e, f, g, h].toArray (some 2) none none).toList = [c, d, e, f, g, h] := by
  rw [kmk_pick_nat (a := 2) (b := 8) _ (show sliceBounds (some 2) none none 8 = (((2 : Nat) : Int), ((8 : Nat) : Int), 1) from by decide)]
  rfl
section
local macro_rules | `(tactic| walk_at "my lb") => `(tactic| first | omega | exact lv_b _ _ (by omega))
local macro_rules | `(tactic| walk_at "my s3b") => `(tactic| exact s3_b (by assumption) (by assumption) (by assumption))
local macro_rules | `(tactic| walk_at "my mem1") => `(tactic| first | exact List.Mem.head _ | (refine List.Mem.tail _ ?_; walk_at "my mem1"))
local macro_rules | `(tactic| k_ne) => `(tactic| (refine neN ?_; (try dsimp only); first | assumption | (refine Ne.symm ?_; assumption) | exact off1_ne (by assumption) (by walk_at "my mem1") | exact Ne.symm (off1_ne (by assumption) (by walk_at "my mem1")) | (refine Nat.ne_of_gt ?_; walk_at "my cj") | (refine Nat.ne_of_lt ?_; walk_at "my cj") | omega))
local macro_rules | `(tactic| walk_at "FinA") => `(tactic| ((unfold LCg.FinA); intro D' h' tk' F' N' o1'; (try simp only [List.nil_append, List.cons_append] at N'); (try dsimp only)))
local macro_rules | `(tactic| walk_at "subscriptTail Name Slice ref ref") => `(tactic| (k_here; k_dflt (refine kmk_slice_lit (by k_asm) (by k_asm) (by exact News.isList (by k_asm) (by walk_at "my mem")) (by kmk_part) (by kmk_part) (by exact sl8) ?_ (by with_unfolding_all rfl) (by kmk_pure) (by exact Nat.le_of_ble_eq_true rfl)); intro D' h' F' N' l1; (try k_lt l1)))
local macro_rules | `(tactic| walk_at "call ref") => `(tactic| (k_here; (with_reducible show wpAny _ _ (call (Value.ref 84) _) _ _ _); k_dflt (refine' drawn8 (h := ?_); intro _; intros; (try dsimp only); (try k_fold))))
local macro_rules | `(tactic| walk_at "storeName") => `(tactic| (k_here; (with_reducible show wpAny _ _ (storeName _ _ (Value.int (8 + Int.fmod _ 4) _)) _ _ _); (refine gen_top ?_); intro top' htl' hth'))
local macro_rules | `(tactic| walk_at "call ref") => `(tactic| (k_here; (with_reducible show wpAny _ _ (call (Value.ref 91) _) _ _ _); k_dflt (refine' useDoes (D := figures (by omega)) (h := ?_); intro f0' f1' f2' b0' b1' b2'; walk_at "my retO")))
local macro_rules | `(tactic| walk_at "call ref") => `(tactic| (k_here; (with_reducible show wpAny _ _ (call (Value.ref 101) _) _ _ _); k_dflt (refine' useDoes (D := lines (by walk_at "my mem") (by walk_at "my lb") (by walk_at "my lb") (by walk_at "my lb") (by omega)) (h := ?_); walk_at "my retO")))
local macro_rules | `(tactic| walk_at "call ref") => `(tactic| (k_here; (with_reducible show wpAny _ _ (call (Value.ref 115) _) _ _ _); k_dflt (refine' useDoes (D := ones (by omega) (by omega)) (h := ?_); walk_at "my retV")))
local macro_rules | `(tactic| walk_at "exec For Name Name cons nil") => `(tactic| (k_here; k_dflt (refine wpAny_For ?_)))
local macro_rules | `(tactic| walk_at "pyIter ref") => `(tactic| (k_here; k_dflt (refine iter_led (by k_asm) (by k_asm) (by walk_at "my mem") ?_); intro I' h' F' N' l1; (try dsimp only)))
local macro_rules | `(tactic| walk_at "my cj") => `(tactic| (rename (_ < _ ∧ _) => z9; first | (simp only [z9]; done) | (clear z9; walk_at "my cj")))
local macro_rules | `(tactic| walk_at "my ne") => `(tactic| first | exact Ne.symm (off1_ne (by assumption) (by walk_at "my mem1")) | exact off1_ne (by assumption) (by walk_at "my mem1") | (refine Nat.ne_of_gt ?_; walk_at "my cj") | (refine Nat.ne_of_lt ?_; walk_at "my cj") | (refine neN ?_; omega))
local macro_rules | `(tactic| walk_at "call ref") => `(tactic| (k_here; (with_reducible show wpAny _ _ (call (Value.ref 96) _) _ _ _); k_dflt (refine' useDoes (D := light (by walk_at "my mem1") (by walk_at "my mem") (by assumption) (by assumption) (by assumption) (by assumption) (by assumption) (by assumption) (by constructor <;> assumption)) (h := ?_); walk_at "my retO")))
local macro_rules | `(tactic| walk_at "call ref") => `(tactic| (k_here; (with_reducible show wpAny _ _ (call (Value.ref 108) _) _ _ _); k_dflt (refine' useDoes (D := line (by exact s3_pad) (by walk_at "my s3b") (by walk_at "my s3b") (by constructor <;> assumption)) (h := ?_); walk_at "my retV")))
local macro_rules | `(tactic| walk_at "call ref") => `(tactic| (k_here; (with_reducible show wpAny _ _ (call (Value.ref 122) _) _ _ _); k_dflt (refine' useDoes (D := word (by exact s3_on) (by walk_at "my s3b") (by walk_at "my s3b") (by constructor <;> assumption)) (h := ?_); walk_at "my retV")))
local macro_rules | `(tactic| walk_at "subscriptTail Name Name ref int") => `(tactic| (k_here; k_dflt (first
  | refine item3 Value.int (by k_asm) (by walk_at "my mem") (by assumption) (by assumption) (fun _ => ?_) (by with_unfolding_all rfl)
  | refine item3 Value.str (by k_asm) (by walk_at "my mem") (by assumption) (by assumption) (fun _ => ?_) (by with_unfolding_all rfl))))
local macro_rules | `(tactic| walk_at "CompSrc") => `(tactic| (k_here; k_dflt ((refine LCg.CompSrc.range (by rfl) (by k_asm) (by k_asm) (by assumption) (by first | decide | rfl) (by first | rfl | decide) (by exact Nat.le_of_ble_eq_true rfl) ?_); intro g'; lcg_lit; (first
  | ((with_reducible show LCg.CompRest _ _ _ _ _ _ _ (Expr.Call (Expr.Name (PySem.Str.ofString "_law_line") _) ..) ..); refine' comp_range3 Value.str _ (fun _ _ _ _ _ _ _ _ _ _ _ _ _ _ _ _ _ _ => ?_) (fun _ _ _ => ?_))
  | (refine' comp_range3 Value.int _ (fun _ _ _ _ _ _ _ _ _ _ _ _ _ _ _ _ _ _ => ?_) (fun _ _ _ => ?_))); rotate_left)))
local macro_rules | `(tactic| walk_at "FinE") => `(tactic| ((unfold LCg.FinE); intro D' h' tk' F' N' o1'; (try simp only [List.nil_append, List.cons_append, s3_0, s3_1, s3_2] at N' o1'); (try dsimp only)))
local macro_rules | `(tactic| walk_at "exec For Name Call cons nil") => `(tactic| (k_here; k_dflt (refine wpAny_For ?_)))
local macro_rules | `(tactic| walk_at "pyIter ref") => `(tactic| (k_here; k_dflt (refine' iter_range3 ?F ?N ?r ?_; (case r => assumption); (case F => k_asm); (case N => k_asm)); intro I' h' F' N' l1; (try dsimp only)))
local macro_rules | `(tactic| walk_at "CompSrc") => `(tactic| (k_here; k_dflt ((refine LCg.CompSrc.ledger (by rfl) (by k_asm) (by k_asm) (by walk_at "my mem") (by exact Nat.le_of_ble_eq_true rfl) ?_); intro g'; lcg_lit; (with_reducible show LCg.CompRest _ _ _ _ _ _ _ (Expr.Subscript ..) ..); (refine' comp_led6 (fun y9 => s3 y9.a y9.b y9.c _) (by walk_at "my mem") (by walk_at "my mem") (by walk_at "my mem") (by walk_at "my mem") (by walk_at "my mem") (by walk_at "my mem") ?_ ?_ <;> intros); rotate_left)))
local macro_rules | `(tactic| walk_at "CompSrc") => `(tactic| (k_here; k_dflt ((refine LCg.CompSrc.ledger (by rfl) (by k_asm) (by k_asm) (by walk_at "my mem") (by exact Nat.le_of_ble_eq_true rfl) ?_); intro g'; lcg_lit; (with_reducible show LCg.CompRest _ _ _ _ _ _ _ (Expr.ListComp ..) ..); (refine' comp_new6 (fun _ _ z9 => srcAt_cons z9) (by exact Or.inr ⟨_, by (walk_at "my mem"), rfl, _, rfl⟩) ?_ ?_ <;> intros))))
local macro_rules | `(tactic| walk_at "CompEnd") => `(tactic| ((with_reducible show LCg.CompEnd _ _ _ _ _ _ _ _ _ _ _ (fun y news' => DeedAt _ _ _) _ _); k_dflt (refine deedEnd (by assumption) (by assumption) (by assumption) (by assumption) (srcAt_cons (by assumption)) (by assumption) (by assumption) (by assumption) rfl)))
local macro_rules | `(tactic| walk_at "call ref") => `(tactic| (k_here; (with_reducible show wpAny _ _ (call (Value.ref 143) _) _ _ _); k_dflt (refine' useDoes (D := cutF (by walk_at "my mem")) (h := ?_); walk_at "my retO")))
local macro_rules | `(tactic| walk_at "call ref") => `(tactic| (k_here; (with_reducible show wpAny _ _ (call (Value.ref 150) _) _ _ _); k_dflt (refine' useDoes (D := endM (by walk_at "my mem") (by first | exact endK (by omega) (by assumption) rfl | exact endK (by omega) (ints_0 (by omega)) s3_const | exact endK (by omega) (ints_t (by omega)) s3_const)) (h := ?_); walk_at "my retV")))
local macro_rules | `(tactic| walk_at "call ref") => `(tactic| (k_here; (with_reducible show wpAny _ _ (call (Value.ref 129) _) _ _ _); k_dflt (refine' useDoes (D := most) (h := ?_); walk_at "my retV")))
local macro_rules | `(tactic| walk_at "subscriptTail Name Constant ref int") => `(tactic| (k_here; (with_reducible show wpAny _ _ (subscriptTail _ _ (Value.ref _) (Value.int _ _)) _ _ _); k_dflt (refine' item_led ?k1 ?k2 ?k3 ?k4 ?k5 ?_ ?k6; (case k1 => k_asm); (case k2 => walk_at "my mem"); (case k3 => decide); (case k4 => decide); (case k5 => exact rfl); (case k6 => with_unfolding_all rfl); k_whole)))
local macro_rules | `(tactic| walk_at "binaryOp Pow int int") => `(tactic| (k_here; k_dflt ((first | (refine pow2 (run3_s (by omega)) (by constructor <;> assumption) (fun t' => ?_)) | (refine pow2 (e := endI 0 _ _) (endI_b (by omega)) (by constructor <;> assumption) (fun t' => ?_))))))
local macro_rules | `(tactic| walk_at "compareOp NotEq int int") => `(tactic| (k_here; first | (with_reducible refine ne_same ?_) | k_dflt (refine ne_eq (mostL (by constructor <;> omega) (by assumption)) ?_)))
local macro_rules | `(tactic| walk_at "compareOp NotEq ref ref") => `(tactic| (k_here; k_dflt (refine ne_eq2 (by k_asm) (by walk_at "my mem1") (by walk_at "my mem1") (by walk_at "my units") ⟨s3_on, s3_on⟩ ?_)))
local macro_rules | `(tactic| walk_at "my suf") => `(tactic| first | assumption | (refine List.Mem.tail _ ?_; walk_at "my suf"))
local macro_rules | `(tactic| walk_at "my clear") => `(tactic| (
      (repeat (rename LCg.Off3 _ _ _ _ => z9; clear z9))
      (repeat (rename LCg.Off1 _ _ => z9; clear z9))
      (repeat (rename LCg.NsObj _ _ => z9; clear z9))
      (repeat (rename News _ _ _ _ => z9; clear z9))
      (repeat (rename Fr _ _ _ _ => z9; clear z9))
      (repeat (rename (_ = some _) => z9; clear z9))
      (repeat (rename (_ < _ ∧ _) => z9; clear z9))))
local macro_rules | `(tactic| k_all) => `(tactic| assumption)
local macro_rules | `(tactic| walk_at "compareOp NotEq ref ref") => `(tactic| (k_here; k_dflt (refine ne_strs (by k_asm) (by walk_at "my mem1") (by walk_at "my mem1") (by walk_at "my units") (pad_ok (lv_b _ _ (by omega)) (by constructor <;> assumption)) (pad_ok (lv_b _ _ (by omega)) (by constructor <;> assumption)) (pad_ok (lv_b _ _ (by omega)) (by constructor <;> assumption)) ?_)))
local macro_rules | `(tactic| walk_at "my units") => `(tactic| first | exact Nat.le_of_ble_eq_true rfl | decide)
set_option maxHeartbeats 80000000 in
theorem main : PySem.Challenge.rw_wu0007_01.Holds := hd (by
  w_strict (
    k_go0
    (all_goals try k_fold)
    walk_at "my steps"
    (refine law_start (z := ⟨_, _, _⟩) (by rfl) (by rfl) (by rfl) (by rfl) (by rfl) (by rfl) (by assumption) (by assumption) (by assumption)
      (by walk_at "my mem1") (by walk_at "my mem1") (by walk_at "my mem1") (by walk_at "my mem1") (by walk_at "my mem1") (by walk_at "my mem1") (by assumption) (by assumption) (by assumption) (by assumption) (by rfl)
      (by walk_at "my mem1") (by walk_at "my mem1") (by walk_at "my mem1") (by walk_at "my mem1") (by walk_at "my mem1") (by walk_at "my mem1") (by walk_at "my mem1") (by walk_at "my mem1") (by walk_at "my mem1") (by walk_at "my mem1") (by walk_at "my mem1") (by walk_at "my mem1") 
      (by simp only [RestOff, and_true]; refine ⟨?_, ?_, ?_, ?_, ?_, ?_, ?_, ?_⟩ <;> refine ⟨?_, ?_, ?_, ?_, ?_⟩ <;> walk_at "my ne") (by first | passes_own | with_unfolding_all passes_own) (by rfl) (by omega) (ints_fig (by assumption) (by assumption) (by assumption))
      (by assumption) (by assumption) (by assumption) (by assumption) (by assumption) (by assumption) 
      (by walk_at "my ne") (by walk_at "my ne") (by walk_at "my ne") (by walk_at "my ne") (by walk_at "my ne") (by walk_at "my ne") (by walk_at "my ne") (by walk_at "my ne") (by walk_at "my ne") (by walk_at "my ne") (by walk_at "my ne") (by walk_at "my ne") (by walk_at "my ne") (by walk_at "my ne") (by walk_at "my ne") (by walk_at "my ne") (by walk_at "my ne") (by walk_at "my ne") (by walk_at "my ne") (by walk_at "my ne") 
      ?turn ?fin)
    case fin =>
      intro z x0 x1 x2 x3 x4 x5 h tk hz off S
      refine fin_open off S ?_
      clear off S
      walk_at "my clear"
      intro R oB oR Dl Db Dr t0 t1 t2 v0 v1 v2 w0 w1 w2 n1 n3 n4 r0 r1 r2 r3 r4 r5 hRK nl ns nDl nDb nDr dB dR F N
      (try k_fold)
      walk_at "my steps"
      (refine' last_for (by k_asm) (by k_asm) (by assumption) ?mK2 ?dK2 (rest := (_ :: _ :: _ :: _ :: _ :: _ :: _ :: _ :: R)) ?rest2 ?hE2 ?hh2 ?turn2 ?fin2)
      (case mK2 => walk_at "my mem1")
      (case dK2 => assumption)
      (case rest2 => (intro p9 h9; walk_at "my suf"))
      (case hE2 => first | passes_own | with_unfolding_all passes_own)
      (case hh2 => rfl)
      case fin2 =>
        walk_at "my clear"
        intro h' tk' vc vf F9 N9
        (try k_fold)
        walk_at "my steps"
        w_end
        exact goodW_bool (by k_asm) (by assumption) (raisesW_false (by wrow_none_raised)) post_true
      case turn2 =>
      walk_at "my clear"
      (intro k oI oK vk vc vf h t tk hk0 hk1 dK nKI nRI F N)
      (try k_fold)
      walk_at "my steps"
      refine' ⟨_, _, _, _, _, _, rfl, fr_two ?F2, ?N2, ?d2⟩
      (case F2 => k_asm)
      (case N2 => refine' cb_drop ?N3 ?s3; (case N3 => k_asm); (case s3 => (intro p9 h9; walk_at "my suf")))
      (case d2 => assumption)
    case turn =>
      walk_at "my clear"
      intro R C hRL hRB hRR hRM Dq y a b r s0 s1 s2 nq oI oL oB oR oM Dl Di Db Dr t0 t1 t2 u0 u1 u2 v0 v1 v2 w0 w1 w2 n1 n2 n3 n4 vm h tk hq hy ha hb hr dL dB dR dM pl pi pb pr F N
      obtain ⟨cTI, cLI, cBI, cRI, cMI, cKI, cRest⟩ := C
      obtain ⟨plL, plB, plR, plM, plI⟩ := pl
      obtain ⟨piL, piB, piR, piM, piI⟩ := pi
      obtain ⟨pbL, pbB, pbR, pbM, pbI⟩ := pb
      obtain ⟨prL, prB, prR, prM, prI⟩ := pr
      obtain ⟨ha0, ha1, ha2⟩ := ha
      obtain ⟨hb0, hb1, hb2⟩ := hb
      obtain ⟨hr0, hr1, hr2⟩ := hr
      obtain ⟨hy0, hy1, hy2⟩ := hy
      (try k_fold)
      walk_at "my steps"
      refine ⟨_, _, rfl, ?_⟩
      refine' st_intro ?F ?N ?mT ?mL ?mB ?mR ?mM ?mK ?mI ?dL ?dB ?dR ?dM ?kl ?ki ?kb ?kr ?hr ?q1 ?q2 ?q3 ?q4 ?q5 ?q6 ?q7 ?q8 ?q9 ?q10 ?q11 ?q12 ?q13 ?q14 ?q15 ?q16 ?q17 ?q18 ?q19 ?q20 ?q21 ?q22 ?q23 ?q24
      (case F => k_asm)
      (case N => k_asm)
      (case mT => walk_at "my mem1")
      (case mL => walk_at "my mem1")
      (case mB => walk_at "my mem1")
      (case mR => walk_at "my mem1")
      (case mM => walk_at "my mem1")
      (case mK => walk_at "my mem1")
      (case mI => walk_at "my mem1")
      (case dL => assumption)
      (case dB => assumption)
      (case dR => assumption)
      (case dM => assumption)
      (case kl => walk_at "my mem1")
      (case ki => walk_at "my mem1")
      (case kb => walk_at "my mem1")
      (case kr => walk_at "my mem1")
      (case hr => (intro p9 h9; (repeat refine List.Mem.tail _ ?_); exact h9))
      all_goals (walk_at "my ne")))
end
end Mine
theorem PySem.Challenge.cw_wu0007_01_holds : PySem.Challenge.rw_wu0007_01.Holds := by
  exact Mine.main
