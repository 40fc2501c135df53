import PyProof.Rows.All
import Wide.All
import OpenK.AllK
import Wide.FinOn
import PySem.Challenge.RW_in0032_01
open PySem PySem.W PyProof.Rows PySem.Calls
set_option Elab.async false
set_option maxRecDepth 100000
set_option maxHeartbeats 8000000
namespace Mine
open_top hd for PySem.Challenge.rw_in0032_01
theorem top_off : True := by
  w_top off
  trivial
section SC1
section
variable {prog : Program} {w : World} {A : Around} {E : Value → Shared → Prop} {s : Shared} {h₀ : Heap} {L : Addr} {m : Str → Option Value} {env : Env}
def SrcB (prog : Program) (w : World) (A : Around) (h₀ : Heap) (L : Addr) (m : Str → Option Value) (env : Env) (elt : Expr) (x : Str) (scope : Scope) (cl : List (Str × Addr)) (Fin : Shared → List Value → List (Addr × Obj) → Prop) (xv : Value) (s₁ : Shared) : Prop :=
  ∃ b t news, xv = .bytes b t ∧ A.handled = none ∧ Fr h₀ L s₁.heap m ∧ News h₀ L s₁.heap news ∧ b.size ≤ sizeLine ∧
      ∀ s₂ : Shared, (∃ g, s₂ = { s₁ with heap := g }) → LCg.CompRest prog w A h₀ L m env elt x scope cl s₂ (fun _ => True) (fun i v => ∃ c u, b[i]? = some c ∧ v = .int (c.toNat : Int) u) (Fin s₂) b.size 0 [] news
theorem SrcB.intro {elt : Expr} {x : Str} {scope : Scope} {cl : List (Str × Addr)} {Fin : Shared → List Value → List (Addr × Obj) → Prop} {b : Array UInt8} {t : Tok} {news : List (Addr × Obj)} {s₁ : Shared}
    (hh : A.handled = none) (F : Fr h₀ L s₁.heap m) (N : News h₀ L s₁.heap news) (hsz : b.size ≤ sizeLine)
    (h : ∀ g, LCg.CompRest prog w A h₀ L m env elt x scope cl { s₁ with heap := g } (fun _ => True) (fun i v => ∃ c u, b[i]? = some c ∧ v = .int (c.toNat : Int) u) (Fin { s₁ with heap := g }) b.size 0 [] news) :
    SrcB prog w A h₀ L m env elt x scope cl Fin (.bytes b t) s₁ := ⟨b, t, news, rfl, hh, F, N, hsz, fun _ ⟨g, e⟩ => e ▸ h g⟩
theorem comp_bytes {elt iter : Expr} {x : Str} {px : Pos} {scope : Scope} {cl : List (Str × Addr)} {pos : Pos} {Q : Value → Shared → Prop} (F₀ : Fr h₀ L s.heap m)
    (hclos : closureFor scope env = pure cl) (hcell : ∀ y ∈ scope.names, y.2 ≠ .cell) (hkind : scope.kind = .function)
    (hnames : ∀ y ∈ scope.names, y.2 = .local → scope.names.lookup y.1 = some .local) (hx : scope.names.lookup x = some .local)
    (h : wpAny (model prog w) A (eval iter env) (SrcB prog w A h₀ L m env elt x scope cl (fun s₂ => LCg.FinE h₀ L m s₂ Q)) E s)
    (hs : ∀ x, foldedSetIterable iter env x = pure x := by intro _; rfl) :
    wpAny (model prog w) A (eval (.ListComp elt [⟨.Name x px, iter, [], 0⟩] scope pos) env) Q E s := by
  rw [eval_ListComp]
  refine wpAny_comprehension_free (use := none) rfl hs hclos hkind hnames (wpAny_mono h (fun xv s₁ h₁ => ?_) fun _ _ e => e)
  obtain ⟨b, t, news, rfl, hh, F, N, hsz, R⟩ := h₁
  refine KBw.pyIter_bytes ?_
  refine LCg.block_U (KBw.walks hh s₁.heap.objs.size b t) hsz (fun i h st => by obtain ⟨o, e, _⟩ := st; exact ⟨o, e⟩) (fun i h h' o nw st e e' _ _ _ => by obtain ⟨o', q, r⟩ := st; rw [e] at q; cases q; exact ⟨o, e', r⟩) hcell hkind hx ⟨_, Heap.get?_push_size _ rfl, rfl, rfl⟩ (fun b hb => ?_)
      (F.keeps fun _ _ e => Heap.get?_push_of_some _ e) (N.grown fun _ _ e => Heap.get?_push_of_some _ e) (Nat.ne_of_lt F.ns.lt) (next_is_new F) (fun p hp => Nat.ne_of_lt (Heap.lt_size (N p hp).1)) trivial (R _ ⟨_, rfl⟩) ?_
  · rw [List.mem_singleton.mp hb]
    show s₁.heap.objs.size < (s₁.heap.push _).objs.size
    rw [Heap.size_push]; exact Nat.lt_succ_self _
  · intro D C h tk m' ys news' F' N' o1 hn hC₀ hD₀ hCL hDL hCD offC fin
    refine ⟨m', hn, fun h'' hs'' => fin D h'' tk (F'.change hs'' hCL hC₀) (fun p hp => ?_) o1⟩
    refine ⟨hs''.extBut _ _ ?_ (N' p hp).1, (N' p hp).2⟩
    rcases List.mem_cons.mp hp with rfl | hp
    · exact Ne.symm hCD
    · exact offC p hp
end
/-- the text whose signs are the octets ks -/
def textOf (ks : List Int) : Str := ⟨(ks.map Int.toNat).toArray⟩
def sign1 (k : Int) : Str := ⟨#[k.toNat]⟩
theorem join_signs (ks : List Int) : PySem.Txt.join (PySem.Str.ofString "") (ks.map sign1) = textOf ks := by
  show Builtin.Str.glued (PySem.Str.ofString "") (ks.map sign1) = _
  rw [StrLaws.glued_eq_join]
  have key : ∀ r : List Int, ∀ k : Int, Str.join (PySem.Str.ofString "") ((k :: r).map sign1) = textOf (k :: r) := by
    intro r
    induction r with
    | nil => intro k; rfl
    | cons k2 r ih =>
      intro k
      have := ih k2
      simp only [List.map_cons] at this ⊢
      show sign1 k ++ PySem.Str.ofString "" ++ Str.join (PySem.Str.ofString "") (sign1 k2 :: r.map sign1) = _
      rw [this]
      apply Str.ext'
      simp [Str.cps_append, textOf, sign1]
      rfl
  cases ks with
  | nil => rfl
  | cons k r => exact key r k
end SC1
section SF1
local macro_rules | `(tactic| walk_at "mine enterC") => `(tactic| (refine' code_defC ?k1 ?k2 ?k3 ?k4 ?k5 ?kA ?kF ?kK ?k6 ?k7 ?k8 ?k9 ?kB ?kD ?_ ?c2 ?c3 ?c4; (case kA => exact rfl); (case kF => exact rfl); (case kK => assumption); (case k1 => k_asm); (case k2 => k_asm); (case k3 => k_asm); (case k4 => k_asm); (case k5 => k_asm); (case k6 => k_is); (case k7 => k_is); (case k8 => ktr_room); (case k9 => exact BindsTo.of_eq rfl); (case kB => exact rfl); (case kD => decide +kernel); (case c2 => exact rfl); (case c3 => exact rfl); (case c4 => exact rfl); k_whole; intro g' L' h' tk' cells' FG' F' N' Y' B' X' T' l1; (try k_lt l1); k_cells Y'; (try simp only [List.cons_append, List.nil_append] at N'); (try dsimp only); (try k_lift B'); (try k_fold)))
theorem fill : hd.heap_39 = hd.heap_39 ∧ PySem.Challenge.rw_in0032_01 = PySem.Challenge.rw_in0032_01 := by
  k_fill
  exact ⟨rfl, rfl⟩
abbrev PG := PySem.Challenge.rw_in0032_01.row.prog
variable {w : World} {p : Program} {loose : List Str} {mean : ExcName → Option Value} {mg mb : Str → Option Value}
  {dp un : Nat} {gd : Option (List Code)} {cn : Str} {cs : Scope} {a : Addr} {ccd : Value} {cl : List (Str × Addr)} {outer : List Env} {A₀ : Around} {base h₀ : Heap} {L : Addr} {m : Str → Option Value} {s : Shared} {Q E : Value → Shared → Prop}
theorem pow_ne {k : Int} : (256 : Int) ^ k.toNat ≠ 0 := Int.pow_ne_zero (by decide)
theorem pow_bits {k : Int} (h : k < 100) : (((256 : Int) ^ k.toNat).natAbs).log2 < 9000 := by
  rw [Int.natAbs_pow]
  have e : (Int.natAbs 256) ^ k.toNat = 2 ^ (8 * k.toNat) := by rw [Nat.pow_mul]; rfl
  rw [e, Nat.log2_two_pow]
  omega
local macro_rules | `(tactic| walk_at "binaryOp FloorDiv int int") => `(tactic| ((with_reducible show wpAny _ _ (binaryOp _ (Value.int _ _) (Value.int (256 ^ Int.toNat _) _)) _ _ _); refine floordiv_int pow_ne ?_ (Or.inl (PyProof.noPylong_of_log2 (pow_bits (by omega))))))
def low (x : Int) (n : Nat) : List Int := (rangeKs 0 n).map fun k => (x.fdiv (256 ^ k.toNat)).fmod 256
theorem low_eq {number width : Int} : List.map (fun k' : Int => (number.fdiv (256 ^ k'.toNat)).fmod 256) (rangeKs 0 (width - 0).toNat) = low number width.toNat := by rw [Int.sub_zero]; rfl
theorem low_call {news : List (Addr × Obj)} {number width : Int} (hw : 0 ≤ width ∧ width ≤ 8) {tn tw : Tok} (B : Below A₀ base outer h₀) (F : Fr h₀ L s.heap m) (X : (hd.heap_39 w.params).In h₀) (N : News h₀ L s.heap news) (T : Top p loose mean mg mb h₀) (hk : cs.kind = .function)
   (hdp : dp + 1 < recursionLimit) (hun : un + 8 < cLine)
   (hret : ∀ t h' tk', Fr h₀ L h' m → News h₀ L h' news → Q (.bytes (byteArr (low number width.toNat)) t) { s with heap := h', toks := tk' }) :
   wpAny (model PG w) (ktrTop dp un gd cn cs L a ccd cl outer) (call (.ref 96) [.int number tn, .int width tw]) Q E s := by
  refine wpAny_call ?_
  k_dflt walk_at "mine enterC"
  w_strict k_steps
  all_goals (rw [low_eq]; exact hret _ _ _ (by assumption) (by first | assumption | exact cb_drop (by assumption) (by kcj_all)))
local macro_rules | `(tactic| walk_at "call ref") => `(tactic| ((with_reducible show wpAny _ _ (call (Value.ref 96) [Value.int _ _, Value.int _ _]) _ _ _); k_dflt (refine' low_call ?hw ?kB ?kF ?kX ?kN ?kT ?kK ?kd ?ku ?_; (case hw => l_fact); (case kB => k_asm); (case kF => k_asm); (case kX => k_asm); (case kN => k_asm); (case kT => k_asm); (case kK => first | exact rfl | assumption); (case kd => ktr_room); (case ku => ktr_units)); intro t' h' tk' F' N'; (try k_sweep)))
theorem low_length (x : Int) (n : Nat) : (low x n).length = n := by simp [low, rangeKs_length]
theorem fmod4 (y : Int) : (y.fmod 4).toNat ≤ 3 := by
  have h1 := Int.fmod_nonneg_of_pos y (by decide : (0 : Int) < 4)
  have h2 := Int.fmod_lt_of_pos y (by decide : (0 : Int) < 4)
  omega
theorem low4_size {x y : Int} : (byteArr (low x (y.fmod 4).toNat)).size ≤ 3 := by
  rw [byteArr_size, low_length]; exact fmod4 y
theorem low4_sizeLine {x y : Int} : (byteArr (low x (y.fmod 4).toNat)).size ≤ sizeLine := Nat.le_trans low4_size (by decide)
theorem low4_ints {x y : Int} : (KBw.bInts (byteArr (low x (y.fmod 4).toNat))).length ≤ 1048576 := by
  rw [KBw.ints_length]; exact Nat.le_trans low4_size (by decide)
theorem srcB_at {b : Array UInt8} : ∀ (i : Nat) (v : Value), i < b.size → (∃ c u, b[i]? = some c ∧ v = .int (c.toNat : Int) u) → ∃ k t, (KBw.bInts b)[i]? = some k ∧ v = .int k t := by
  rintro i v _ ⟨c, u, hc, rfl⟩
  exact ⟨_, u, KBw.ints_get hc, rfl⟩
local macro_rules | `(tactic| walk_at "eval ListComp") => `(tactic| (k_here; (with_reducible show wpAny _ _ (eval (Expr.ListComp (Expr.Call (Expr.Name (Str.ofString "chr") _) _ _ _) _ _ _) _) _ _ _); k_dflt (refine comp_bytes (F₀ := by k_asm) (by with_unfolding_all rfl) (by decide) (by rfl) (by decide) (by rfl) ?_)))
local macro_rules | `(tactic| walk_at "SrcB") => `(tactic| (k_here; refine SrcB.intro (by rfl) (by k_asm) (by k_asm) low4_sizeLine ?_; intro g'; (refine' kct_rest (ks := KBw.bInts _) sign1 (KBw.ints_length _) srcB_at (fun k' t' I' oI' C' oC' D' m' ys' h' tk' E' hk' hC' hx' F' N' off' ne' hMark' => ?_) ?_); (all_goals (try (simp only [LCg.Off3, and_true] at off'))); (all_goals (try (have hb' := KBw.ints_in hk')))))
local macro_rules | `(tactic| walk_at "call builtin:str.join") => `(tactic| (k_here; (with_reducible show wpAny _ _ (call (Value.builtin "str.join") [Value.str _ _, Value.ref _]) _ _ _); (with_reducible rename CarriedAll _ (List.map _ _) => ktC); refine KT.join_1 (by first | assumption | is_list | exact News.isList (by k_asm) (by k_mem)) ktC (fun _ _ => rfl) low4_ints ?_; intro _ _ _; (rw [show ∀ ks : List Int, (ks.map fun a => sign1 a) = ks.map sign1 from fun _ => rfl, join_signs])))
local macro_rules | `(tactic| walk_at "call builtin:str.join") => `(tactic| (k_here; (with_reducible show wpAny _ _ (call (Value.builtin "str.join") ([Value.str _ _] ++ [Value.ref _])) _ _ _); dsimp only [List.cons_append, List.nil_append]))
local macro_rules | `(tactic| walk_at "CompEnd") => `(tactic| (k_here; refine LCg.CompEnd.intro (by k_asm) (by k_asm) _ ?sub (by assumption) True.intro ⟨rfl, _, rfl⟩; (case sub => exact fun _ h => h)))
local macro_rules | `(tactic| walk_at "call builtin:len") => `(tactic| (k_here; (with_reducible show wpAny _ _ (call (Value.builtin "len") [Value.bytes (byteArr (low _ (Int.toNat (Int.fmod _ 4)))) _]) _ _ _); (refine len_bytes (Nat.le_trans low4_size (by decide)) ?_)))
theorem byteArr_append (a b : List Int) : byteArr a ++ byteArr b = byteArr (a ++ b) := by simp [byteArr]
theorem add_low {prog : Program} {A : Around} {a b : List Int} {t u : Tok} (hsz : a.length + b.length ≤ 16777216) (h : ∀ t' k, Q (.bytes (byteArr (a ++ b)) t') { s with toks := k }) : wpAny (model prog w) A (binaryOp .Add (.bytes (byteArr a) t) (.bytes (byteArr b) u)) Q E s :=
  KBy.add_bytes (by rw [byteArr_size, byteArr_size]; exact hsz) fun t' k => by rw [byteArr_append]; exact h t' k
theorem low4_add {x y z : Int} : (low z (Int.toNat 4)).length + (low x (y.fmod 4).toNat).length ≤ 16777216 := by
  rw [low_length, low_length]
  have := fmod4 y
  have e : Int.toNat 4 = 4 := rfl
  omega
local macro_rules | `(tactic| walk_at "binaryOp Add bytes bytes") => `(tactic| (k_here; (with_reducible show wpAny _ _ (binaryOp Operator.Add (Value.bytes (byteArr (low _ (Int.toNat 4))) _) (Value.bytes (byteArr (low _ (Int.toNat (Int.fmod _ 4)))) _)) _ _ _); refine add_low low4_add ?_; intro _ _))
def numAt (y : Int) : Int := if y.fmod 2 = 0 then (y.fmod (2 ^ 32)).fdiv 2 else -1 - (y.fmod (2 ^ 32)).fdiv 2
def signsOf (y : Int) : List Int := low (y.fdiv 4) (y.fmod 4).toNat
def itemV (x : Int) : Dat :=
  if x.fmod 5 = 0 then .int ((x.fdiv 5).fmod 65536) else if x.fmod 5 = 1 then .int ((x.fdiv 5).fmod (2 ^ 32)) else if x.fmod 5 = 2 then .int ((x.fdiv 5).fmod (2 ^ 64)) else if x.fmod 5 = 3 then .int (numAt (x.fdiv 5)) else .str (textOf (signsOf (x.fdiv 5)))
def itemB (x : Int) : List Int :=
  if x.fmod 5 = 0 then low (x.fdiv 5) 2 else if x.fmod 5 = 1 then low (x.fdiv 5) 4 else if x.fmod 5 = 2 then low (x.fdiv 5) 8 else if x.fmod 5 = 3 then low (numAt (x.fdiv 5)) 4 else low ((signsOf (x.fdiv 5)).length) 4 ++ signsOf (x.fdiv 5)
def itemK (x : Int) : Int := if x.fmod 5 = 0 then 0 else if x.fmod 5 = 1 then 1 else if x.fmod 5 = 2 then 2 else if x.fmod 5 = 3 then 3 else 4
abbrev tup3 (k : Int) (tk : Tok) (v : Value) (b : List Int) (tb : Tok) : Obj := { cls := .type "tuple", data := .seq [.int k tk, v, .bytes (byteArr b) tb].toArray }
theorem news_lt {g h : Heap} {q : Addr × Obj} {news : List (Addr × Obj)} (N : News g L h (q :: news)) : ∀ p ∈ news, p.1 < h.objs.size := fun p hp => Heap.lt_size (N p (.tail _ hp)).1
theorem item_fin {news : List (Addr × Obj)} {x k : Int} {tk tb : Tok} {v : Value} {b : List Int} {t : Addr} {h' : Heap} {tk' : Nat} (hret : ∀ t tk v tb h' tk', Fr h₀ L h' m → News h₀ L h' ((t, tup3 (itemK x) tk v (itemB x) tb) :: news) → (∀ nw, DatIn nw v (itemV x)) → (∀ q ∈ news, q.1 < t) → Q (.ref t) { s with heap := h', toks := tk' })
    (F : Fr h₀ L h' m) (N : News h₀ L h' ((t, tup3 k tk v b tb) :: news)) (ek : itemK x = k) (eb : itemB x = b) (ev : ∀ nw, DatIn nw v (itemV x)) (hlt : ∀ q ∈ news, q.1 < t) : Q (.ref t) { s with heap := h', toks := tk' } := by
  subst ek eb
  exact hret t tk v tb h' tk' F N ev hlt
theorem item_e0 {x : Int} (h : x.fmod 5 = 0) : itemK x = 0 ∧ itemB x = low (x.fdiv 5) (Int.toNat 2) ∧ itemV x = .int ((x.fdiv 5).fmod 65536) := by
  simp [itemK, itemB, itemV, h]
theorem item_e1 {x : Int} (h0 : x.fmod 5 ≠ 0) (h : x.fmod 5 = 1) : itemK x = 1 ∧ itemB x = low (x.fdiv 5) (Int.toNat 4) ∧ itemV x = .int ((x.fdiv 5).fmod (2 ^ 32)) := by
  simp [itemK, itemB, itemV, h]
theorem item_e2 {x : Int} (h0 : x.fmod 5 ≠ 0) (h1 : x.fmod 5 ≠ 1) (h : x.fmod 5 = 2) : itemK x = 2 ∧ itemB x = low (x.fdiv 5) (Int.toNat 8) ∧ itemV x = .int ((x.fdiv 5).fmod (2 ^ 64)) := by
  simp [itemK, itemB, itemV, h]
theorem item_e3 {x : Int} (h : x.fmod 5 = 3) (h4 : (x.fdiv 5).fmod 2 = 0) : itemK x = 3 ∧ itemB x = low (((x.fdiv 5).fmod (2 ^ 32)).fdiv 2) (Int.toNat 4) ∧ itemV x = .int (((x.fdiv 5).fmod (2 ^ 32)).fdiv 2) := by
  simp [itemK, itemB, itemV, numAt, h, h4]
theorem item_e4 {x : Int} (h : x.fmod 5 = 3) (h4 : (x.fdiv 5).fmod 2 ≠ 0) : itemK x = 3 ∧ itemB x = low (-1 - ((x.fdiv 5).fmod (2 ^ 32)).fdiv 2) (Int.toNat 4) ∧ itemV x = .int (-1 - ((x.fdiv 5).fmod (2 ^ 32)).fdiv 2) := by
  simp [itemK, itemB, itemV, numAt, h, h4]
theorem ints_byteArr {x : Int} {n : Nat} : KBw.bInts (byteArr (low x n)) = low x n := KBa.ints_make fun k hk => by
  obtain ⟨j, _, rfl⟩ := List.mem_map.mp hk
  exact ⟨Int.fmod_nonneg_of_pos _ (by decide), Int.fmod_lt_of_pos _ (by decide)⟩
theorem item_e5 {x : Int} (h0 : x.fmod 5 ≠ 0) (h1 : x.fmod 5 ≠ 1) (h2 : x.fmod 5 ≠ 2) (h3 : x.fmod 5 ≠ 3) : itemK x = 4 ∧ itemB x = low ((byteArr (low ((x.fdiv 5).fdiv 4) ((x.fdiv 5).fmod 4).toNat)).size) (Int.toNat 4) ++ low ((x.fdiv 5).fdiv 4) ((x.fdiv 5).fmod 4).toNat ∧
    itemV x = .str (textOf (KBw.bInts (byteArr (low ((x.fdiv 5).fdiv 4) ((x.fdiv 5).fmod 4).toNat)))) := by
  rw [ints_byteArr, byteArr_size]
  simp [itemK, itemB, itemV, signsOf, h0, h1, h2, h3]
theorem dat_eq {v : Value} {d d' : Dat} (h : ∀ nw, DatIn nw v d) (e : d' = d) : ∀ nw, DatIn nw v d' := by subst e; exact h
local macro_rules | `(tactic| walk_at "mine item end") => `(tactic| first
  | exact item_fin (by assumption) (by assumption) (by first | assumption | exact cb_drop (by assumption) (by kcj_all)) (item_e0 (by assumption)).1 (item_e0 (by assumption)).2.1 (dat_eq (fun _ => .int _ _) (item_e0 (by assumption)).2.2) (by first | assumption | exact news_lt (by assumption))
  | exact item_fin (by assumption) (by assumption) (by first | assumption | exact cb_drop (by assumption) (by kcj_all)) (item_e1 (by assumption) (by assumption)).1 (item_e1 (by assumption) (by assumption)).2.1 (dat_eq (fun _ => .int _ _) (item_e1 (by assumption) (by assumption)).2.2) (by first | assumption | exact news_lt (by assumption))
  | exact item_fin (by assumption) (by assumption) (by first | assumption | exact cb_drop (by assumption) (by kcj_all)) (item_e2 (by assumption) (by assumption) (by assumption)).1 (item_e2 (by assumption) (by assumption) (by assumption)).2.1 (dat_eq (fun _ => .int _ _) (item_e2 (by assumption) (by assumption) (by assumption)).2.2) (by first | assumption | exact news_lt (by assumption))
  | exact item_fin (by assumption) (by assumption) (by first | assumption | exact cb_drop (by assumption) (by kcj_all)) (item_e3 (by assumption) (by assumption)).1 (item_e3 (by assumption) (by assumption)).2.1 (dat_eq (fun _ => .int _ _) (item_e3 (by assumption) (by assumption)).2.2) (by first | assumption | exact news_lt (by assumption))
  | exact item_fin (by assumption) (by assumption) (by first | assumption | exact cb_drop (by assumption) (by kcj_all)) (item_e4 (by assumption) (by assumption)).1 (item_e4 (by assumption) (by assumption)).2.1 (dat_eq (fun _ => .int _ _) (item_e4 (by assumption) (by assumption)).2.2) (by first | assumption | exact news_lt (by assumption))
  | exact item_fin (by assumption) (by assumption) (by first | assumption | exact cb_drop (by assumption) (by kcj_all)) (item_e5 (by assumption) (by assumption) (by assumption) (by assumption)).1 (item_e5 (by assumption) (by assumption) (by assumption) (by assumption)).2.1 (dat_eq (fun _ => .str _ _) (item_e5 (by assumption) (by assumption) (by assumption) (by assumption)).2.2) (by first | assumption | exact news_lt (by assumption)))
theorem item_call {news : List (Addr × Obj)} {x : Int} (hx : 0 ≤ x ∧ x < 2 ^ 70) {tx : Tok} (B : Below A₀ base outer h₀) (F : Fr h₀ L s.heap m) (X : (hd.heap_39 w.params).In h₀) (N : News h₀ L s.heap news) (T : Top p loose mean mg mb h₀) (hk : cs.kind = .function)
   (hdp : dp + 2 < recursionLimit) (hun : un + 16 < cLine)
   (hret : ∀ t tk v tb h' tk', Fr h₀ L h' m → News h₀ L h' ((t, tup3 (itemK x) tk v (itemB x) tb) :: news) → (∀ nw, DatIn nw v (itemV x)) → (∀ q ∈ news, q.1 < t) → Q (.ref t) { s with heap := h', toks := tk' }) :
   wpAny (model PG w) (ktrTop dp un gd cn cs L a ccd cl outer) (call (.ref 101) [.int x tx]) Q E s := by
  refine wpAny_call ?_
  k_dflt (first | cell_enter | walk_at "mine enterC")
  w_strict k_steps
  all_goals (walk_at "mine item end")
end SF1
section SR1
open Builtin Builtin.ObjectAttr
theorem slot_fn_set : Slot "function" "__setattr__" "object.__setattr__" :=
  .of (owner := "object") (n := "__setattr__") (by rw [typeLookup_type, builtinLookup_eq_fast]; kernel_rfl) (by decide +kernel) (by decide +kernel) (by decide +kernel)
    (by first | exact .inl (by decide +kernel) | exact .inr (by decide +kernel)) (by rw [isSubtype_type]; kernel_rfl)
theorem fn_mro : mroOf (.type "function") = pure [.type "function", .type "object"] := by rw [mroOf_type]; kernel_rfl
theorem fn_passes (self : Value) : refuseLoop self "__setattr__" [.type "function", .type "object"] = pure () := by kernel_rfl
theorem fn_no_read : typeLookup (.type "function") "read" = pure none := by rw [typeLookup_type, builtinLookup_eq_fast]; kernel_rfl
theorem fn_taker : storeTaker? none = pure none := by rfl
section
variable {prog : Program} {w : World} {A : Around} {E : Value → Shared → Prop} {s : Shared} {h₀ : Heap} {L : Addr} {m : Str → Option Value} {news : List (Addr × Obj)} {g : Obj → List (Addr × Obj)}
theorem fn_setattr {x : Addr} {ox : Obj} {fd : FuncData} {v : Value} {Q : Unit → Shared → Prop} (F : Fr h₀ L s.heap m) (N : News h₀ L s.heap news) (U : UpdF x ox news g) (hc : ox.cls = .type "function") (hd : ox.dict = none) (hfd : ox.data = .func fd)
    (h : ∀ d h' tk tn, Fr h₀ L h' m → News h₀ L h' ((d, dictOf [⟨PyData.keyHash w.params "read", .str "read" tn, v⟩] 1) :: g { ox with dict := some d }) → (∀ q ∈ news, q.1 < d) → Q () { s with heap := h', toks := tk }) :
    wpAny (model prog w) A (setAttr (.ref x) "read" v) Q E s := by
  obtain ⟨pre, post, rfl, hg, h1, h2⟩ := U.split
  have D := N (x, ox) (by simp)
  have hx := D.1
  have hT : ∀ s' : Shared, s'.heap = s.heap → s'.TypeIs (.ref x) "function" := fun s' e => ⟨ox, e ▸ hx, hc⟩
  unfold setAttr
  refine wpAny_bind (wpAny_mkText (wpAny_bind (wpAny_callSpecial?_slot (hT _ rfl) slot_fn_set (wpAny_call_entry slot_fn_set (hT _ rfl) PySem.F.store_object.entry ?_ (PySem.F.store_object.args _ _ _)))))
  rw [osa_eq, refuse_eq]
  refine wpAny_bind (wpAny_bind (wpAny_typeOf (hT _ rfl) (wpAny_bind (wpAny_of_eq fn_mro ?_))))
  rw [fn_passes]
  refine wpAny_pure (wpAny_bind (wpAny_typeOf (hT _ rfl) (wpAny_bind (wpAny_of_eq fn_no_read (wpAny_bind (wpAny_of_eq fn_taker ?_))))))
  show wpAny _ _ (storeInOwnDict (.ref x) (.type "function") _ _ v false) _ _ _
  unfold storeInOwnDict ownStreamTells ownDictForStores instanceDict
  obtain ⟨oc, od, odt, osl⟩ := ox
  dsimp only at hc hd hfd
  subst hc hd hfd
  have hpush : ∀ o, (s.heap.push o).get? x = some ⟨.type "function", none, .func fd, osl⟩ := fun o => Heap.get?_push_of_some _ hx
  refine wpAny_bind (wpAny_of_eq (a := ()) (by kernel_rfl) ?_)
  dsimp only
  rw [if_neg (by decide)]
  refine wpAny_bind (wpAny_bind (wpAny_loadPart hx ?_))
  dsimp only
  rw [if_neg (by rw [show typeHasDict (.type "function") = true from by decide +kernel]; decide)]
  refine wpAny_bind (wpAny_alloc' ?_)
  refine wpAny_bind (wpAny_update' (hpush _) ?_)
  refine wpAny_of_eq (a := some s.heap.objs.size) (by kernel_rfl) ?_
  have hxs : x ≠ s.heap.objs.size := Nat.ne_of_lt (Heap.lt_size hx)
  have lt : ∀ q ∈ pre ++ (x, (⟨.type "function", none, .func fd, osl⟩ : Obj)) :: post, q.1 < s.heap.objs.size := fun q hq => Heap.lt_size (N q hq).1
  have N1 := N.push F { cls := .type "dict", data := .dict #[] }
  have F1 := F.push { cls := .type "dict", data := .dict #[] }
  obtain ⟨F2, N2⟩ := news_upd (pre := (s.heap.objs.size, { cls := .type "dict", data := .dict #[] }) :: pre) (f := fun o => { o with dict := some s.heap.objs.size }) F1 N1 (fun p hp => by
    rcases List.mem_cons.mp hp with rfl | hp
    · exact Ne.symm hxs
    · exact h1 p hp) h2 rfl rfl
  have D2 := (N2 _ (.head _)).1
  unfold storeInDict newKeyGuard nsSet
  refine wpAny_bind (wpAny_pure (wpAny_bind (wpAny_bind (wpAny_bind (wpAny_askSetting (wpAny_pure (wpAny_bind (wpAny_mkText (wpAny_bind (wpAny_loadPart D2 ?_))))))))))
  dsimp only
  rw [if_neg (by rw [aRefKeyMayBeTheName_at]; simp)]
  refine wpAny_updatePart D2 ?_
  obtain ⟨F3, N3⟩ := news_upd (pre := []) (f := Obj.putName "read" (PyData.keyHash w.params "read") (.str "read" (s.toks + 1)) v) F2 N2 (fun _ hp => nomatch hp) (fun p hp => by
    rcases List.mem_append.mp hp with hp | hp
    · exact Nat.ne_of_lt (lt p (List.mem_append_left _ hp))
    · rcases List.mem_cons.mp hp with rfl | hp
      · exact hxs
      · exact Nat.ne_of_lt (lt p (List.mem_append_right _ (.tail _ hp)))) (putName_dict "read" _ _ v [] 0) rfl
  have D3 := (N3 _ (.head _)).1
  refine wpAny_bind (wpAny_lookBehind D3 rfl (wpAny_pure ⟨_, rfl, ?_⟩))
  refine wpAny_pure (h _ _ _ (s.toks + 1) F3 ?_ lt)
  rw [hg]
  exact N3
theorem fn_plainAttrs : PlainAttrs "function" := ⟨⟨"object.__getattribute__", by rw [typeLookup_type, builtinLookup_eq_fast]; kernel_rfl, by decide +kernel⟩, by rw [typeLookup_type, builtinLookup_eq_fast]; kernel_rfl⟩
theorem slot_fn_ga : Slot "function" "__getattribute__" "object.__getattribute__" :=
  .of (owner := "object") (n := "__getattribute__") (by rw [typeLookup_type, builtinLookup_eq_fast]; kernel_rfl) (by decide +kernel) (by decide +kernel) (by decide +kernel)
    (by first | exact .inl (by decide +kernel) | exact .inr (by decide +kernel)) (by rw [isSubtype_type]; kernel_rfl)
theorem entry_ga : entryFor table "object.__getattribute__" = some Builtin.«object.__getattribute__» := by first | exact entryFor_of_fast (by kernel_rfl) | exact entryFor_of_tree (by kernel_rfl)
theorem args_ga (a b : Value) : argsOk "object.__getattribute__" ⟨[a, b], []⟩ := by unfold argsOk; kernel_rfl
theorem fn_find {x d : Addr} {ox : Obj} {fd : FuncData} {r : Addr} {tn : Tok} {n : Nat} {hsh : Int} {Q : Found → Shared → Prop} (hx : s.heap.get? x = some ox) (hc : ox.cls = .type "function") (hd : ox.dict = some d) (hfd : ox.data = .func fd)
    (hD : s.heap.get? d = some (dictOf [⟨hsh, .str "read" tn, .ref r⟩] n)) (h : Q (.value (.ref r)) s) :
    wpAny (model prog w) A (find (.ref x) (.type "function") "read") Q E s := by
  unfold find
  refine wpAny_bind (wpAny_of_eq fn_no_read (wpAny_bind (wpAny_of_eq (a := none) rfl (wpAny_bind (wpAny_of_eq (a := none) rfl ?_)))))
  show wpAny _ _ (ownThenClass (.ref x) "read" none none) _ _ _
  unfold ownThenClass inOwnDict Builtin.ObjectAttr.ownDict loadHead instanceDict
  obtain ⟨oc, od, odt, osl⟩ := ox
  dsimp only at hc hd hfd
  subst hc hd hfd
  refine wpAny_bind (wpAny_bind (wpAny_bind (wpAny_loadPart hx ?_)))
  dsimp only
  refine wpAny_bind (wpAny_loadPart hx ?_)
  dsimp only
  refine wpAny_pure ?_
  show wpAny _ _ (nsGet d "read") _ _ _
  unfold nsGet
  refine wpAny_bind (wpAny_loadPart hD ?_)
  refine wpAny_of_eq (a := some (.ref r)) (by kernel_rfl) ?_
  exact wpAny_bind (wpAny_rule (wpAny_pure h))
theorem fn_getattr {x d : Addr} {ox : Obj} {fd : FuncData} {r : Addr} {tn : Tok} {n : Nat} {hsh : Int} {Q : Value → Shared → Prop} (hx : s.heap.get? x = some ox) (hc : ox.cls = .type "function") (hd : ox.dict = some d) (hfd : ox.data = .func fd)
    (hD : s.heap.get? d = some (dictOf [⟨hsh, .str "read" tn, .ref r⟩] n)) (h : Q (.ref r) { s with toks := s.toks + 1 }) :
    wpAny (model prog w) A (getAttr (.ref x) "read") Q E s := by
  have hT : ∀ s' : Shared, s'.heap = s.heap → s'.TypeIs (.ref x) "function" := fun s' e => ⟨ox, e ▸ hx, hc⟩
  unfold getAttr
  refine wpAny_bind (wpAny_mkText ?_)
  unfold getAttrBy
  refine wpAny_holding (wpAny_bind (wpAny_typeOf (hT _ rfl) (wpAny_bind (wpAny_of_eq slot_fn_ga.lookup ?_))))
  show wpAny _ _ (getAttrByItsOwn (.ref x) (.str "read" s.toks) (.type "function") (.builtin "object.__getattribute__") true false) _ _ _
  unfold getAttrByItsOwn
  refine wpAny_bind (wpAny_of_eq (a := none) rfl (wpAny_bind (wpAny_attempt (wpAny_holding ?_))))
  show wpAny _ _ (boundAndCalled (.builtin "object.__getattribute__") (.ref x) (.str "read" s.toks)) _ _ _
  unfold boundAndCalled
  rw [slot_fn_ga.bind]
  refine wpAny_bind (wpAny_pure (wpAny_call_entry slot_fn_ga (hT _ rfl) entry_ga ?_ (args_ga _ _)))
  unfold Builtin.«object.__getattribute__»
  refine wpAny_bind (wpAny_of_eq (a := (.ref x, [.str "read" s.toks])) rfl ?_)
  refine wpAny_bind (wpAny_of_eq (a := ("read" : Str)) rfl ?_)
  refine wpAny_bind (wpAny_typeOf (hT _ rfl) (wpAny_bind (fn_find hx hc hd hfd hD ?_)))
  refine wpAny_pure ⟨_, rfl, ?_⟩
  exact wpAny_pure h
theorem fn_method {x d : Addr} {ox : Obj} {fd : FuncData} {r : Addr} {tn : Tok} {n : Nat} {hsh : Int} {pl : Sem Bool} {Q : Value × List Value → Shared → Prop} (hx : s.heap.get? x = some ox) (hc : ox.cls = .type "function") (hd : ox.dict = some d) (hfd : ox.data = .func fd)
    (hD : s.heap.get? d = some (dictOf [⟨hsh, .str "read" tn, .ref r⟩] n)) (h : Q (.ref r, []) { s with toks := s.toks + 1 }) :
    wpAny (model prog w) A (getMethod (.ref x) "read" pl) Q E s := by
  have hT : ∀ s' : Shared, s'.heap = s.heap → s'.TypeIs (.ref x) "function" := fun s' e => ⟨ox, e ▸ hx, hc⟩
  unfold getMethod
  refine wpAny_bind (wpAny_specialOf (hT _ rfl) slot_fn_ga.lookup ?_)
  show wpAny _ _ (if (Manifest.canonical "object.__getattribute__" != "object.__getattribute__") = true then _ else _) Q E s
  rw [if_neg (by decide +kernel)]
  refine wpAny_bind (wpAny_specialOf (hT _ rfl) fn_plainAttrs.noGetattr ?_)
  refine wpAny_bind (wpAny_specialOf (hT _ rfl) fn_no_read ?_)
  exact wpAny_bind (fn_getattr hx hc hd hfd hD (wpAny_pure h))
end
end SR1
section SS1
local macro_rules | `(tactic| walk_at "mine enterC") => `(tactic| (refine' code_defC ?k1 ?k2 ?k3 ?k4 ?k5 ?kA ?kF ?kK ?k6 ?k7 ?k8 ?k9 ?kB ?kD ?_ ?c2 ?c3 ?c4; (case kA => exact rfl); (case kF => exact rfl); (case kK => assumption); (case k1 => k_asm); (case k2 => k_asm); (case k3 => k_asm); (case k4 => k_asm); (case k5 => k_asm); (case k6 => k_is); (case k7 => k_is); (case k8 => ktr_room); (case k9 => exact BindsTo.of_eq rfl); (case kB => exact rfl); (case kD => decide +kernel); (case c2 => exact rfl); (case c3 => exact rfl); (case c4 => exact rfl); k_whole; intro g' L' h' tk' cells' FG' F' N' Y' B' X' T' l1; (try k_lt l1); (try first | (have hz : AllLt _ _ := l1) | (have hz : AllLt _ _ := (l1).2) | (have hz : AllLt _ _ := (l1).2.2) | (have hz : AllLt _ _ := (l1).2.2.2) | (have hz : AllLt _ _ := (l1).2.2.2.2) | (have hz : AllLt _ _ := (l1).2.2.2.2.2) | (have hz : AllLt _ _ := (l1).2.2.2.2.2.2)); k_cells Y'; (try simp only [List.cons_append, List.nil_append] at N'); (try dsimp only); (try k_lift B'); (try k_fold)))
variable {w : World} {p : Program} {loose : List Str} {mean : ExcName → Option Value} {mg mb : Str → Option Value}
  {dp un : Nat} {gd : Option (List Code)} {cn : Str} {cs : Scope} {a : Addr} {ccd : Value} {cl : List (Str × Addr)} {outer : List Env} {A₀ : Around} {base h₀ : Heap} {L : Addr} {m : Str → Option Value} {s : Shared} {Q E : Value → Shared → Prop}
theorem allLt_ne {d e : Nat} : ∀ {l : List (Addr × Obj)}, AllLt d l → d ≤ e → ∀ p ∈ l, p.1 ≠ e
  | [], _, _, _, h => nomatch h
  | q :: _, h, hd, p, hp => by
    rcases List.mem_cons.mp hp with rfl | hp
    · exact Nat.ne_of_lt (Nat.lt_of_lt_of_le h.1 hd)
    · exact allLt_ne h.2 hd p hp
local macro_rules | `(tactic| k_all) => `(tactic| first | assumption | exact allLt_ne (by assumption) (by omega))
local macro_rules | `(tactic| walk_at "setAttr ref") => `(tactic| (k_here; k_dflt (refine' fn_setattr ?F ?N ?U ?c ?d ?f ?_; (case F => k_asm); (case N => k_asm); (case U => k_updF); (case c => rfl); (case d => rfl); (case f => rfl)); intro d' h' tk' tn' F' N' l1; (try dsimp only at N'); (try k_lt l1)))
/-- the n-th statement, a def: its parameters, body, scope -/
def defAt : Nat → List Stmt → Arguments × List Stmt × Scope
  | 0, .FunctionDef _ a b _ _ _ sc _ _ _ :: _ => (a, b, sc)
  | n + 1, _ :: r => defAt n r
  | _, _ => default
def rdDef : Arguments × List Stmt × Scope := defAt 1 (defAt 9 PySem.Challenge.pw_in0032_01.main.body).2.1
abbrev rdQual : Str := "_law_stream.<locals>.read"
/-- what the ledger R bears of a stream f over the octets b, its place at pl -/
def StreamIn (w : World) (mg : Str → Option Value) (R : List (Addr × Obj)) (f pl : Addr) (b : Array UInt8) : Prop :=
  ∃ (d r c1 c2 c : Addr) (tn t tb : Tok) (fdl : FuncData) (dc ct : Value) (oc o1 o2 : Obj) (vs : Array Value),
    (f, (⟨.type "function", some d, .func fdl, #[]⟩ : Obj)) ∈ R ∧ (d, dictOf [⟨PyData.keyHash w.params "read", .str "read" tn, .ref r⟩] 1) ∈ R ∧
    (r, fnMade "read" rdQual rdDef.1 rdDef.2.1 rdDef.2.2 [("place", c2), ("octets", c1)] dc ((mg "__name__").getD .none) c ct) ∈ R ∧
    (c, oc) ∈ R ∧ oc.data = .fields vs ∧ vs[1]? = some (.str rdQual t) ∧ (c1, o1) ∈ R ∧ o1.data = .cell (some (.bytes b tb)) ∧ (c2, o2) ∈ R ∧ o2.data = .cell (some (.ref pl))
def Off (x : Addr) (R : List (Addr × Obj)) : Prop := ∀ q ∈ R, q.1 ≠ x
/-- the table of the defs that _law_stream makes: empty, or both codes laid there, the first one's in the ledger -/
def TabOk (ps : Array Value) (R : List (Addr × Obj)) : Prop :=
  ps = #[] ∨ ∃ (c c' : Addr) (oc : Obj) (vs : Array Value) (t : Tok), ps = #[rawInt 40, rawInt 4, .ref c] ++ #[rawInt 44, rawInt 8, .ref c'] ∧ (c, oc) ∈ R ∧ oc.data = .fields vs ∧ vs[1]? = some (.str rdQual t)
abbrev tup2 (x y : Value) : Obj := { cls := .type "tuple", data := .seq [x, y].toArray }
def StreamRet (w : World) (mg : Str → Option Value) (h₀ : Heap) (L : Addr) (m : Str → Option Value) (news old : List (Addr × Obj)) (oct : Array UInt8) (s : Shared) (Q : Value → Shared → Prop) : Prop :=
  ∀ t f pl tk S ps' h' tk', Fr h₀ L h' m → News h₀ L h' ((t, tup2 (.ref f) (.ref pl)) :: (pl, W.listOf #[.int 0 tk] 0) :: (86, tabObj ps') :: (S ++ news)) → StreamIn w mg (S ++ news) f pl oct → TabOk ps' (S ++ old) →
    Off pl (S ++ news) → pl ≠ 86 → Off 86 (S ++ news) → (∀ q ∈ news, q.1 < pl) → (∀ q ∈ news, ∀ p ∈ S, p.1 ≠ q.1) → Q (.ref t) { s with heap := h', toks := tk' }
theorem stream_fin1 {news old : List (Addr × Obj)} {oct : Array UInt8} {D d f c' r c pl c2 c1 : Addr} {oc oc' o1 o2 : Obj} {vs : Array Value} {t tb tn tk : Tok} {fdl : FuncData} {dc ct : Value} {h' : Heap} {tk' : Nat} {qual : Str} (hret : StreamRet w mg h₀ L m news old oct s Q) (hne : Off 86 news)
    (F : Fr h₀ L h' m) (N : News h₀ L h' ((D, tup2 (.ref f) (.ref pl)) :: (d, dictOf [⟨PyData.keyHash w.params "read", .str "read" tn, .ref r⟩] 1) :: (f, (⟨.type "function", some d, .func fdl, #[]⟩ : Obj)) :: (c', oc') ::
      (r, fnMade "read" qual rdDef.1 rdDef.2.1 rdDef.2.2 [("place", c2), ("octets", c1)] dc ((mg "__name__").getD .none) c ct) :: (c, oc) :: (pl, W.listOf #[.int 0 tk] 0) :: (c2, o2) :: (c1, o1) :: (86, tabObj (#[] ++ #[rawInt 40, rawInt 4, .ref c] ++ #[rawInt 44, rawInt 8, .ref c'])) :: news))
    (hq : qual = rdQual) (hoc : oc.data = .fields vs) (hvs : vs[1]? = some (.str qual t)) (ho1 : o1.data = .cell (some (.bytes oct tb))) (ho2 : o2.data = .cell (some (.ref pl))) {Lf : Nat} (hz : AllLt Lf news)
    (hne' : @LT.lt Nat _ Lf c1 ∧ @LT.lt Nat _ c1 c2 ∧ @LT.lt Nat _ c2 pl ∧ @LT.lt Nat _ pl c ∧ @LT.lt Nat _ c r ∧ @LT.lt Nat _ r c' ∧ @LT.lt Nat _ c' f ∧ @LT.lt Nat _ f d ∧ @LT.lt Nat _ 86 Lf) :
    Q (.ref D) { s with heap := h', toks := tk' } := by
  subst hq
  have hlt : ∀ q ∈ news, @LT.lt Nat _ q.1 Lf := by
    intro q hq
    have : ∀ (l : List (Addr × Obj)), AllLt Lf l → ∀ q ∈ l, @LT.lt Nat _ q.1 Lf := by
      intro l
      induction l with
      | nil => intro _ q hq; cases hq
      | cons p r ih =>
        intro h q hq
        rcases List.mem_cons.mp hq with rfl | hq
        · exact h.1
        · exact ih h.2 q hq
    exact this news hz q hq
  refine hret D f pl tk [(d, dictOf [⟨PyData.keyHash w.params "read", .str "read" tn, .ref r⟩] 1), (f, (⟨.type "function", some d, .func fdl, #[]⟩ : Obj)), (c', oc'), (r, fnMade "read" rdQual rdDef.1 rdDef.2.1 rdDef.2.2 [("place", c2), ("octets", c1)] dc ((mg "__name__").getD .none) c ct), (c, oc), (c2, o2), (c1, o1)]
    (#[rawInt 40, rawInt 4, .ref c] ++ #[rawInt 44, rawInt 8, .ref c']) h' tk' F (cb_drop N ?_) ⟨d, r, c1, c2, c, tn, t, tb, fdl, dc, ct, oc, o1, o2, vs, by simp, by simp, by simp, by simp, hoc, hvs, by simp, ho1, by simp, ho2⟩ (.inr ⟨c, c', oc, vs, t, rfl, by simp, hoc, hvs⟩) ?_ ?_ ?_ ?_ ?_
  · intro p hp
    simp only [List.cons_append, List.nil_append, List.mem_cons] at hp ⊢
    rcases hp with h | h | h | h | h | h | h | h | h | h | h <;> simp [h]
  · intro q hq
    simp only [List.cons_append, List.nil_append, List.mem_cons] at hq
    refine neN ?_
    rcases hq with rfl | rfl | rfl | rfl | rfl | rfl | rfl | hq
    all_goals first | (dsimp only; omega) | (have := hlt q hq; omega)
  · refine neN ?_; omega
  · intro q hq
    simp only [List.cons_append, List.nil_append, List.mem_cons] at hq
    rcases hq with rfl | rfl | rfl | rfl | rfl | rfl | rfl | hq
    all_goals first | (refine neN ?_; dsimp only; omega) | exact hne q hq
  · intro q hq
    have := hlt q hq
    exact ltN (by omega)
  · intro q hq p hp
    have := hlt q hq
    simp only [List.mem_cons, List.not_mem_nil, or_false] at hp
    refine neN ?_
    rcases hp with rfl | rfl | rfl | rfl | rfl | rfl | rfl <;> (dsimp only; omega)
theorem stream_call {news old : List (Addr × Obj)} {oct : Array UInt8} {tx : Tok} (B : Below A₀ base outer h₀) (F : Fr h₀ L s.heap m) (X : (hd.heap_39 w.params).In h₀) (CH : CodeHd base 90 86) (N : News h₀ L s.heap ((86, tabObj #[]) :: news)) (T : Top p loose mean mg mb h₀) (hk : cs.kind = .function)
   (hne : Off 86 news)
   (hdp : dp + 2 < recursionLimit) (hun : un + 16 < cLine) 
   (hret : StreamRet w mg h₀ L m news old oct s Q) :
   wpAny (model PG w) (ktrTop dp un gd cn cs L a ccd cl outer) (call (.ref 91) [.bytes oct tx]) Q E s := by
  refine wpAny_call ?_
  k_dflt (first | cell_enter | walk_at "mine enterC")
  w_strict k_steps
  all_goals refine stream_fin1 hret hne (by assumption) (by assumption) ?hq (by assumption) (by assumption) (by assumption) (by assumption) (by assumption) ?z
  case hq => kernel_rfl
  case z => omega
theorem allLt_all {d : Nat} : ∀ {l : List (Addr × Obj)}, AllLt d l → ∀ q ∈ l, @LT.lt Nat _ q.1 d
  | [], _, _, h => nomatch h
  | _ :: _, h, q, hq => by
    rcases List.mem_cons.mp hq with rfl | hq
    · exact h.1
    · exact allLt_all h.2 q hq
theorem stream_fin2 {news old : List (Addr × Obj)} {oct : Array UInt8} {D d f r c c' pl c2 c1 : Addr} {oc o1 o2 : Obj} {vs : Array Value} {t tb tn tk : Tok} {fdl : FuncData} {dc ct : Value} {h' : Heap} {tk' : Nat} {qual : Str} (hret : StreamRet w mg h₀ L m news old oct s Q) (hne : Off 86 news)
    (hold : ∀ q ∈ old, q ∈ news) (hoc0 : (c, oc) ∈ old) (hoc : oc.data = .fields vs) (hvs : vs[1]? = some (.str rdQual t))
    (F : Fr h₀ L h' m) (N : News h₀ L h' ((D, tup2 (.ref f) (.ref pl)) :: (d, dictOf [⟨PyData.keyHash w.params "read", .str "read" tn, .ref r⟩] 1) :: (f, (⟨.type "function", some d, .func fdl, #[]⟩ : Obj)) ::
      (r, fnMade "read" qual rdDef.1 rdDef.2.1 rdDef.2.2 [("place", c2), ("octets", c1)] dc ((mg "__name__").getD .none) c ct) :: (pl, W.listOf #[.int 0 tk] 0) :: (c2, o2) :: (c1, o1) :: (86, tabObj (#[rawInt 40, rawInt 4, .ref c] ++ #[rawInt 44, rawInt 8, .ref c'])) :: news))
    (hq : qual = rdQual) (ho1 : o1.data = .cell (some (.bytes oct tb))) (ho2 : o2.data = .cell (some (.ref pl))) {Lf : Nat} (hz : AllLt Lf news)
    (hne' : @LT.lt Nat _ Lf c1 ∧ @LT.lt Nat _ c1 c2 ∧ @LT.lt Nat _ c2 pl ∧ @LT.lt Nat _ pl r ∧ @LT.lt Nat _ r f ∧ @LT.lt Nat _ f d ∧ @LT.lt Nat _ 86 Lf) :
    Q (.ref D) { s with heap := h', toks := tk' } := by
  subst hq
  have hlt := allLt_all hz
  refine hret D f pl tk [(d, dictOf [⟨PyData.keyHash w.params "read", .str "read" tn, .ref r⟩] 1), (f, (⟨.type "function", some d, .func fdl, #[]⟩ : Obj)), (r, fnMade "read" rdQual rdDef.1 rdDef.2.1 rdDef.2.2 [("place", c2), ("octets", c1)] dc ((mg "__name__").getD .none) c ct), (c2, o2), (c1, o1)]
    (#[rawInt 40, rawInt 4, .ref c] ++ #[rawInt 44, rawInt 8, .ref c']) h' tk' F (cb_drop N ?_) ⟨d, r, c1, c2, c, tn, t, tb, fdl, dc, ct, oc, o1, o2, vs, by simp, by simp, by simp, by simp [hold _ hoc0], hoc, hvs, by simp, ho1, by simp, ho2⟩ (.inr ⟨c, c', oc, vs, t, rfl, by simp [hoc0], hoc, hvs⟩) ?_ ?_ ?_ ?_ ?_
  · intro p hp
    simp only [List.cons_append, List.nil_append, List.mem_cons] at hp ⊢
    rcases hp with h | h | h | h | h | h | h | h | h <;> simp [h]
  · intro q hq
    simp only [List.cons_append, List.nil_append, List.mem_cons] at hq
    refine neN ?_
    rcases hq with rfl | rfl | rfl | rfl | rfl | hq
    all_goals first | (dsimp only; omega) | (have := hlt q hq; omega)
  · refine neN ?_; omega
  · intro q hq
    simp only [List.cons_append, List.nil_append, List.mem_cons] at hq
    rcases hq with rfl | rfl | rfl | rfl | rfl | hq
    all_goals first | (refine neN ?_; dsimp only; omega) | exact hne q hq
  · intro q hq
    have := hlt q hq
    exact ltN (by omega)
  · intro q hq p hp
    have := hlt q hq
    simp only [List.mem_cons, List.not_mem_nil, or_false] at hp
    refine neN ?_
    rcases hp with rfl | rfl | rfl | rfl | rfl <;> (dsimp only; omega)
theorem stream_call2 {news old : List (Addr × Obj)} {oct : Array UInt8} {tx t : Tok} {c c' : Addr} {oc : Obj} {vs : Array Value} (B : Below A₀ base outer h₀) (F : Fr h₀ L s.heap m) (X : (hd.heap_39 w.params).In h₀) (CH : CodeHd base 90 86) (N : News h₀ L s.heap ((86, tabObj (#[rawInt 40, rawInt 4, .ref c] ++ #[rawInt 44, rawInt 8, .ref c'])) :: news)) (T : Top p loose mean mg mb h₀) (hk : cs.kind = .function)
   (hold : ∀ q ∈ old, q ∈ news) (hoc0 : (c, oc) ∈ old) (hoc : oc.data = .fields vs) (hvs : vs[1]? = some (.str rdQual t))
   (hne : Off 86 news)
   (hdp : dp + 2 < recursionLimit) (hun : un + 16 < cLine)
   (hret : StreamRet w mg h₀ L m news old oct s Q) :
   wpAny (model PG w) (ktrTop dp un gd cn cs L a ccd cl outer) (call (.ref 91) [.bytes oct tx]) Q E s := by
  refine wpAny_call ?_
  k_dflt (first | cell_enter | walk_at "mine enterC")
  w_strict k_steps
  all_goals refine stream_fin2 hret hne hold hoc0 hoc hvs (by assumption) (by assumption) ?hq (by assumption) (by assumption) (by assumption) ?z
  case hq => kernel_rfl
  case z => omega
theorem stream_any {news old : List (Addr × Obj)} {oct : Array UInt8} {tx : Tok} {ps : Array Value} (B : Below A₀ base outer h₀) (F : Fr h₀ L s.heap m) (X : (hd.heap_39 w.params).In h₀) (CH : CodeHd base 90 86) (N : News h₀ L s.heap ((86, tabObj ps) :: news)) (T : Top p loose mean mg mb h₀) (hk : cs.kind = .function)
   (hold : ∀ q ∈ old, q ∈ news) (hP : TabOk ps old) (hne : Off 86 news)
   (hdp : dp + 2 < recursionLimit) (hun : un + 16 < cLine)
   (hret : StreamRet w mg h₀ L m news old oct s Q) :
   wpAny (model PG w) (ktrTop dp un gd cn cs L a ccd cl outer) (call (.ref 91) [.bytes oct tx]) Q E s := by
  rcases hP with rfl | ⟨c, c', oc, vs, t, rfl, h1, h2, h3⟩
  · exact stream_call B F X CH N T hk hne hdp hun hret
  · exact stream_call2 B F X CH N T hk hold h1 h2 h3 hne hdp hun hret
end SS1
section SD1
variable {w : World} {p : Program} {loose : List Str} {mean : ExcName → Option Value} {mg mb : Str → Option Value}
  {dp un : Nat} {gd : Option (List Code)} {cn : Str} {cs : Scope} {a : Addr} {ccd : Value} {cl : List (Str × Addr)} {outer : List Env} {A₀ : Around} {base h₀ : Heap} {L : Addr} {m : Str → Option Value} {s : Shared} {Q E : Value → Shared → Prop}
def cutAt (ks : List Int) (pos n : Int) : List Int := (ks.drop pos.toNat).take n.toNat
theorem cut_of {ks : List Int} {pos n : Int} (h0 : 0 ≤ pos) (h1 : 0 ≤ n) :
    (ks.drop (Option.elim (some pos) 0 (clipAt ks.length))).take (Option.elim (some (pos + n)) ks.length (clipAt ks.length) - Option.elim (some pos) 0 (clipAt ks.length)) = cutAt ks pos n := by
  obtain ⟨p, rfl⟩ := Int.eq_ofNat_of_zero_le h0
  obtain ⟨k, rfl⟩ := Int.eq_ofNat_of_zero_le h1
  have e : ((p : Int) + (k : Int)) = ((p + k : Nat) : Int) := by omega
  simp only [Option.elim, e, clipAt_nat, cutAt, Int.toNat_natCast]
  by_cases hp : p ≤ ks.length
  · rw [Nat.min_eq_left hp]
    by_cases hk : p + k ≤ ks.length
    · rw [Nat.min_eq_left hk, Nat.add_sub_cancel_left]
    · have h2 : ks.length ≤ p + k := Nat.le_of_not_le hk
      rw [Nat.min_eq_right h2, List.take_of_length_le (by rw [List.length_drop]; exact Nat.le_refl _), List.take_of_length_le (by rw [List.length_drop]; omega)]
  · have h2 : ks.length ≤ p := Nat.le_of_not_le hp
    rw [Nat.min_eq_right h2, List.drop_of_length_le (Nat.le_refl _), List.drop_of_length_le h2]
    simp
theorem cutAt_le (ks : List Int) (pos n : Int) : (cutAt ks pos n).length ≤ ks.length := by
  unfold cutAt
  rw [List.length_take, List.length_drop]
  omega
local macro_rules | `(tactic| k_all) => `(tactic| first | assumption | exact allLt_ne (by assumption) (by omega))
local macro_rules | `(tactic| walk_at "subscriptTail") => `(tactic| (k_here; (with_reducible show wpAny _ _ (subscriptTail _ (Expr.Slice _ _ none _) (Value.bytes _ _) (Value.ref _)) _ _ _); (with_reducible rename Fr _ _ _ _ => F'); (with_reducible rename News _ _ _ _ => N'); (refine KBc.slice_K (s := ⟨_, _, _, _, _⟩) F' N' (by assumption) (by constructor) (by constructor) (by omega) ?_); intro _ _ _ _ _ kbcK; rw [cut_of (by omega) (by omega)] at kbcK; (have hcl := cutAt_le _ _ _)))
theorem cut_len {ks : List Int} {pos n : Int} (h0 : 0 ≤ pos) (h1 : 0 ≤ n) : min (clipAt ks.length (pos + n) - clipAt ks.length pos) (ks.length - clipAt ks.length pos) = (cutAt ks pos n).length := by
  rw [← cut_of h0 h1, List.length_take, List.length_drop]
  rfl
theorem read_fin {R R' : List (Addr × Obj)} {pl : Addr} {pos n v : Int} {np : Nat} {ks X : List Int} {part : Array UInt8} {t tk : Tok} {h' : Heap} {tk' : Nat}
   (hret : ∀ part t tp' np' h' tk', Fr h₀ L h' m → News h₀ L h' ((pl, W.listOf #[.int (pos + ((cutAt ks pos n).length : Nat)) tp'] np') :: R) → KBw.bInts part = cutAt ks pos n → Q (.bytes part t) { s with heap := h', toks := tk' })
   (F : Fr h₀ L h' m) (N : News h₀ L h' ((pl, W.listOf #[.int v tk] np) :: R')) (hK : KBw.bInts part = X) (hX : X = cutAt ks pos n) (hv : v = pos + ((cutAt ks pos n).length : Nat)) (hs : ∀ p ∈ R, p ∈ R') : Q (.bytes part t) { s with heap := h', toks := tk' } := by
  subst hv hX
  exact hret part t tk np h' tk' F (cb_drop N fun p hp => by
    rcases List.mem_cons.mp hp with rfl | hp
    · exact .head _
    · exact .tail _ (hs p hp)) hK
theorem read_call {R : List (Addr × Obj)} {b : Array UInt8} {f pl : Addr} {pos n : Int} {tp tn : Tok} {np : Nat} (hpos : 0 ≤ pos ∧ pos < 2 ^ 40) (hn : 0 ≤ n ∧ n < 2 ^ 40) {ks : List Int} (hbk : KBw.bInts b = ks) (hb : ks.length ≤ 1000)
   (B : Below A₀ base outer h₀) (F : Fr h₀ L s.heap m) (X : (hd.heap_39 w.params).In h₀) (CH : CodeHd base 90 86) (T : Top p loose mean mg mb h₀) (hk : cs.kind = .function)
   {r c1 c2 c : Addr} {t tb : Tok} {dc ct : Value} {oc o1 o2 : Obj} {vs : Array Value}
   (N : News h₀ L s.heap ((pl, W.listOf #[.int pos tp] np) :: (r, fnMade "read" rdQual rdDef.1 rdDef.2.1 rdDef.2.2 [("place", c2), ("octets", c1)] dc ((mg "__name__").getD .none) c ct) :: (c, oc) :: (c1, o1) :: (c2, o2) :: R))
   (hoc : oc.data = .fields vs) (hvs : vs[1]? = some (.str rdQual t)) (ho1 : o1.data = .cell (some (.bytes b tb))) (ho2 : o2.data = .cell (some (.ref pl)))
   (hr : (@Ne Nat r pl) ∧ (@Ne Nat c pl) ∧ (@Ne Nat c1 pl) ∧ (@Ne Nat c2 pl)) (hR : Off pl R)
   (hdp : dp + 2 < recursionLimit) (hun : un + 16 < cLine)
   (hret : ∀ part t tp' np' h' tk', Fr h₀ L h' m → News h₀ L h' ((pl, W.listOf #[.int (pos + ((cutAt ks pos n).length : Nat)) tp'] np') :: R) → KBw.bInts part = cutAt ks pos n → Q (.bytes part t) { s with heap := h', toks := tk' }) :
   wpAny (model PG w) (ktrTop dp un gd cn cs L a ccd cl outer) (call (.ref r) [.int n tn]) Q E s := by
  dsimp only [rdDef, defAt, PySem.Challenge.pw_in0032_01] at N
  refine wpAny_call ?_
  k_dflt (refine' code_nest ?k1 ?k2 ?k3 ?k4 ?k5 ?kA ?kF ?kK ?k6 ?k7 ?k8 ?k9 ?kB ?_ ?c2 ?c3 ?c4 ?c5; (case kA => exact rfl); (case kF => exact rfl); (case kK => assumption); (case k1 => k_asm); (case k2 => k_asm); (case k3 => k_asm); (case k4 => k_asm); (case k5 => k_asm); (case k6 => k_mem); (case k7 => exact codeRec_news (by k_asm) (by k_mem) (by assumption) (by assumption)); (case k8 => ktr_room); (case k9 => exact BindsTo.of_eq rfl); (case c5 => decide); (case kB => exact locs rfl); (case c2 => exact rfl); (case c3 => exact rfl); (case c4 => exact rfl); k_whole; intro g' L' h' FG' F' N' B' X' T'; (try dsimp only); (try k_lift B'); (try k_fold))
  w_strict k_steps
  all_goals refine read_fin hret (by assumption) (by assumption) (by assumption) (cut_of hpos.1 hn.1) ?v (fun p hp => .tail _ (.tail _ (.tail _ (.tail _ hp))))
  case v => exact congrArg (fun k : Nat => pos + (k : Int)) (cut_len hpos.1 hn.1)
end SD1
section SU1
open Builtin Builtin.Struct Builtin.Bytes
theorem fmt_H (t : Tok) : moduleFormat (.str "<H" t) = pure ⟨false, false, [⟨'H', 1, 0, 2⟩], 2, 1⟩ := by kernel_rfl
theorem fmt_I (t : Tok) : moduleFormat (.str "<I" t) = pure ⟨false, false, [⟨'I', 1, 0, 4⟩], 4, 1⟩ := by kernel_rfl
theorem fmt_i (t : Tok) : moduleFormat (.str "<i" t) = pure ⟨false, false, [⟨'i', 1, 0, 4⟩], 4, 1⟩ := by kernel_rfl
theorem fmt_Q (t : Tok) : moduleFormat (.str "<Q" t) = pure ⟨false, false, [⟨'Q', 1, 0, 8⟩], 8, 1⟩ := by kernel_rfl
theorem unp_H (id : String) (b : Array UInt8) : unpacked id ⟨false, false, [⟨'H', 1, 0, 2⟩], 2, 1⟩ b 0 = (mkInt (natOf false (b.extract 0 2) : Nat) >>= fun v => newTuple [v]) := by kernel_rfl
theorem unp_I (id : String) (b : Array UInt8) : unpacked id ⟨false, false, [⟨'I', 1, 0, 4⟩], 4, 1⟩ b 0 = (mkInt (natOf false (b.extract 0 4) : Nat) >>= fun v => newTuple [v]) := by kernel_rfl
theorem unp_Q (id : String) (b : Array UInt8) : unpacked id ⟨false, false, [⟨'Q', 1, 0, 8⟩], 8, 1⟩ b 0 = (mkInt (natOf false (b.extract 0 8) : Nat) >>= fun v => newTuple [v]) := by kernel_rfl
theorem unp_i (id : String) (b : Array UInt8) : unpacked id ⟨false, false, [⟨'i', 1, 0, 4⟩], 4, 1⟩ b 0 = (mkInt (if (true && decide (natOf false (b.extract 0 4) ≥ 2 ^ 31)) = true then (natOf false (b.extract 0 4) : Int) - 2 ^ 32 else (natOf false (b.extract 0 4) : Nat)) >>= fun v => newTuple [v]) := by kernel_rfl
section
variable {prog : Program} {w : World} {A : Around} {E : Value → Shared → Prop} {s : Shared} {h₀ : Heap} {L : Addr} {m : Str → Option Value} {news : List (Addr × Obj)}
theorem kind_unpack : builtinKind "_struct.unpack" = none := by decide +kernel
theorem plain_unpack : plainId "_struct.unpack" = true := by decide +kernel
theorem entry_unpack : entryFor table "_struct.unpack" = some Builtin.«_struct.unpack» := by first | exact entryFor_of_fast (by kernel_rfl) | exact entryFor_of_tree (by kernel_rfl)
theorem args_unpack (a b : Value) : argsOk "_struct.unpack" ⟨[a, b], []⟩ := by unfold argsOk; kernel_rfl
theorem unpack_call {fmt : Str} {f : Format} {b : Array UInt8} {v : Int} {t1 t2 : Tok} {Q : Value → Shared → Prop} (F : Fr h₀ L s.heap m) (N : News h₀ L s.heap news) (hf : moduleFormat (.str fmt t1) = pure f) (hu : ∀ id, unpacked id f b 0 = (mkInt v >>= fun v => newTuple [v])) (hsz : b.size = f.size)
    (h : ∀ t tk h' k, Fr h₀ L h' m → News h₀ L h' ((t, ({ cls := .type "tuple", data := .seq [.int v tk].toArray } : Obj)) :: news) → (∀ q ∈ news, q.1 < t) → Q (.ref t) { s with heap := h', toks := k }) :
    wpAny (model prog w) A (call (.builtin "_struct.unpack") [.str fmt t1, .bytes b t2]) Q E s := by
  refine Calls.call_function_entry kind_unpack plain_unpack entry_unpack (args_unpack _ _) ?_
  unfold Builtin.«_struct.unpack»
  refine wpAny_bind (wpAny_of_eq (a := ()) rfl (wpAny_bind (wpAny_of_eq (a := ()) rfl (wpAny_bind (wpAny_of_eq hf ?_)))))
  unfold unpackExact
  refine wpAny_bind (wpAny_of_eq KBd.like_eq (wpAny_bind (wpAny_pure ?_)))
  rw [if_neg (by simp [hsz]), hu]
  refine wpAny_bind (wpAny_bind (wpAny_mkInt' ?_))
  refine newTuple_N F N fun h' F' N' => ?_
  exact wpAny_pure ⟨_, rfl, h _ _ _ _ F' N' fun q hq => Heap.lt_size (N q hq).1⟩
def leInt : List Int → Int := List.foldr (fun c n => n * 256 + c) 0
theorem nat_of {b : Array UInt8} {k : Nat} (hb : b.size = k) : ((natOf false (b.extract 0 k) : Nat) : Int) = leInt (KBw.bInts b) := by
  have e : b.extract 0 k = b := by subst hb; simp
  rw [e]
  show ((Memoryview.littleEndian b : Nat) : Int) = _
  unfold Memoryview.littleEndian leInt KBw.bInts
  rw [← Array.foldr_toList]
  induction b.toList with
  | nil => rfl
  | cons c r ih =>
    simp only [List.foldr_cons, List.map_cons]
    rw [← ih]
    omega
def sgn4 (n : Int) : Int := if n ≥ 2 ^ 31 then n - 2 ^ 32 else n
theorem unpack_H {b : Array UInt8} {X : List Int} {t1 t2 : Tok} {Q : Value → Shared → Prop} (F : Fr h₀ L s.heap m) (N : News h₀ L s.heap news) (hk : KBw.bInts b = X) (hl : X.length = 2)
    (h : ∀ t tk h' k, Fr h₀ L h' m → News h₀ L h' ((t, ({ cls := .type "tuple", data := .seq [.int (leInt X) tk].toArray } : Obj)) :: news) → (∀ q ∈ news, q.1 < t) → Q (.ref t) { s with heap := h', toks := k }) :
    wpAny (model prog w) A (call (.builtin "_struct.unpack") [.str "<H" t1, .bytes b t2]) Q E s := by
  subst hk
  rw [KBw.ints_length] at hl
  exact unpack_call F N (fmt_H t1) (fun id => by rw [unp_H, nat_of hl]) hl h
theorem unpack_I {b : Array UInt8} {X : List Int} {t1 t2 : Tok} {Q : Value → Shared → Prop} (F : Fr h₀ L s.heap m) (N : News h₀ L s.heap news) (hk : KBw.bInts b = X) (hl : X.length = 4)
    (h : ∀ t tk h' k, Fr h₀ L h' m → News h₀ L h' ((t, ({ cls := .type "tuple", data := .seq [.int (leInt X) tk].toArray } : Obj)) :: news) → (∀ q ∈ news, q.1 < t) → Q (.ref t) { s with heap := h', toks := k }) :
    wpAny (model prog w) A (call (.builtin "_struct.unpack") [.str "<I" t1, .bytes b t2]) Q E s := by
  subst hk
  rw [KBw.ints_length] at hl
  exact unpack_call F N (fmt_I t1) (fun id => by rw [unp_I, nat_of hl]) hl h
theorem unpack_Q {b : Array UInt8} {X : List Int} {t1 t2 : Tok} {Q : Value → Shared → Prop} (F : Fr h₀ L s.heap m) (N : News h₀ L s.heap news) (hk : KBw.bInts b = X) (hl : X.length = 8)
    (h : ∀ t tk h' k, Fr h₀ L h' m → News h₀ L h' ((t, ({ cls := .type "tuple", data := .seq [.int (leInt X) tk].toArray } : Obj)) :: news) → (∀ q ∈ news, q.1 < t) → Q (.ref t) { s with heap := h', toks := k }) :
    wpAny (model prog w) A (call (.builtin "_struct.unpack") [.str "<Q" t1, .bytes b t2]) Q E s := by
  subst hk
  rw [KBw.ints_length] at hl
  exact unpack_call F N (fmt_Q t1) (fun id => by rw [unp_Q, nat_of hl]) hl h
theorem unpack_i {b : Array UInt8} {X : List Int} {t1 t2 : Tok} {Q : Value → Shared → Prop} (F : Fr h₀ L s.heap m) (N : News h₀ L s.heap news) (hk : KBw.bInts b = X) (hl : X.length = 4)
    (h : ∀ t tk h' k, Fr h₀ L h' m → News h₀ L h' ((t, ({ cls := .type "tuple", data := .seq [.int (sgn4 (leInt X)) tk].toArray } : Obj)) :: news) → (∀ q ∈ news, q.1 < t) → Q (.ref t) { s with heap := h', toks := k }) :
    wpAny (model prog w) A (call (.builtin "_struct.unpack") [.str "<i" t1, .bytes b t2]) Q E s := by
  subst hk
  rw [KBw.ints_length] at hl
  refine unpack_call F N (fmt_i t1) (fun id => ?_) hl h
  rw [unp_i]
  have e := nat_of hl
  congr 2
  unfold sgn4
  rw [← e]
  generalize natOf false (b.extract 0 4) = n
  by_cases hn : n ≥ 2 ^ 31
  · rw [if_pos (by simpa using hn), if_pos (by omega)]
  · rw [if_neg (by simpa using hn), if_neg (by omega)]
end
end SU1
section SU2
open Builtin Builtin.Bytes
theorem args_decode_2 (a b : Value) : argsOk "bytes.decode" ⟨[a, b], []⟩ := by unfold argsOk; kernel_rfl
theorem run0 (id : String) : _codecs.runDecoder id _codecs.latin1Decoder none true #[] 0 [] = pure (#[], 0) := by kernel_rfl
theorem run1 (id : String) (a : UInt8) : _codecs.runDecoder id _codecs.latin1Decoder none true #[a] 0 [] = pure (#[a.toNat], 1) := by kernel_rfl
theorem run2 (id : String) (a b : UInt8) : _codecs.runDecoder id _codecs.latin1Decoder none true #[a, b] 0 [] = pure (#[a.toNat, b.toNat], 2) := by kernel_rfl
theorem run3 (id : String) (a b c : UInt8) : _codecs.runDecoder id _codecs.latin1Decoder none true #[a, b, c] 0 [] = pure (#[a.toNat, b.toNat, c.toNat], 3) := by kernel_rfl
theorem road_latin {id : String} {b : Array UInt8} : _codecs.decodeRoad id b (PySem.Str.ofString "latin-1") none [] = (_codecs.runDecoder id _codecs.latin1Decoder none true b 0 [] >>= fun r => mkStr ⟨r.1⟩) := by kernel_rfl
theorem dec1 (a : UInt8) (r : List UInt8) (t te : Tok) : «bytes.decode» ⟨[.bytes (a :: r).toArray t, .str (PySem.Str.ofString "latin-1") te], []⟩ = (mkStr (PySem.Str.ofString "utf-8") >>= fun _ => mkStr (PySem.Str.ofString "latin-1") >>= fun e => mkStr (PySem.Str.ofString "bytes.decode") >>= fun d =>
    call (.builtin "_codecs.decode.text") [.bytes (a :: r).toArray t, e, .none, d] >>= fun v => ret v) := by kernel_rfl
theorem dec0 (t te : Tok) : «bytes.decode» ⟨[.bytes #[] t, .str (PySem.Str.ofString "latin-1") te], []⟩ = (rule "bytes.decode.empty" >>= fun _ => retStr Str.empty) := by kernel_rfl
section
variable {prog : Program} {w : World} {A : Around} {E : Value → Shared → Prop} {s : Shared}
theorem decode_text {b : Array UInt8} {x : PySem.Str} {n : Nat} {t t1 t2 : Tok} {d : PySem.Str} {Q : Value → Shared → Prop} (hd : ∀ id, _codecs.runDecoder id _codecs.latin1Decoder none true b 0 [] = pure (x.cps, n)) (hsz : x.length ≤ sizeLine) (h : ∀ t' k, Q (.str x t') { s with toks := k }) :
    wpAny (model prog w) A (call (.builtin "_codecs.decode.text") [.bytes b t, .str (PySem.Str.ofString "latin-1") t1, .none, .str d t2]) Q E s := by
  refine Calls.call_function_entry KBd.kind_text KBd.plain_text KBd.entry_text (KBd.args_text _ _ _ _) ?_
  show wpAny _ _ (Bytes.bytesLike _ (.bytes b t) >>= fun r => _) _ _ s
  refine wpAny_bind (wpAny_of_eq KBd.like_eq ?_)
  refine wpAny_bind (wpAny_of_eq KBd.held_eq ?_)
  show wpAny _ _ (_codecs.decodeRoad _ b (PySem.Str.ofString "latin-1") none [] >>= fun v => _) _ _ s
  rw [road_latin, hd]
  refine wpAny_bind (wpAny_bind (wpAny_pure ?_))
  exact wpAny_mkStr (wpAny_pure ⟨_, rfl, h _ _⟩) hsz
theorem decode_latin {b : Array UInt8} {t te : Tok} {Q : Value → Shared → Prop} (hb : b.size ≤ 3) (h : ∀ t' k, Q (.str ⟨(b.toList.map UInt8.toNat).toArray⟩ t') { s with toks := k }) :
    wpAny (model prog w) A (call (.builtin "bytes.decode") [.bytes b t, .str (PySem.Str.ofString "latin-1") te]) Q E s := by
  refine wpAny_call_entry FB.slot_bytes_decode (typeIs_bytes _ _ _) FB.entry_bytes_decode ?_ (args_decode_2 _ _)
  obtain ⟨l⟩ := b
  match l, hb with
  | [], _ =>
    rw [dec0]
    exact wpAny_bind (wpAny_rule (wpAny_bind (wpAny_mkStr (wpAny_pure ⟨_, rfl, h _ _⟩) (by decide))))
  | a :: r, hb =>
    rw [show (⟨a :: r⟩ : Array UInt8) = (a :: r).toArray from rfl, dec1]
    refine wpAny_bind (wpAny_mkStr (wpAny_bind (wpAny_mkStr (wpAny_bind (wpAny_mkStr (wpAny_bind ?_) (by decide))) (by decide))) (by decide))
    match r, hb with
    | [], _ => exact decode_text (x := ⟨#[a.toNat]⟩) (fun id => run1 id a) (Nat.le_of_ble_eq_true rfl) fun t' k => wpAny_pure ⟨_, rfl, h _ _⟩
    | [b], _ => exact decode_text (x := ⟨#[a.toNat, b.toNat]⟩) (fun id => run2 id a b) (Nat.le_of_ble_eq_true rfl) fun t' k => wpAny_pure ⟨_, rfl, h _ _⟩
    | [b, c], _ => exact decode_text (x := ⟨#[a.toNat, b.toNat, c.toNat]⟩) (fun id => run3 id a b c) (Nat.le_of_ble_eq_true rfl) fun t' k => wpAny_pure ⟨_, rfl, h _ _⟩
    | _ :: _ :: _ :: _, hb => simp at hb
theorem decode_K {b : Array UInt8} {ks : List Int} {t te : Tok} {Q : Value → Shared → Prop} (hk : KBw.bInts b = ks) (hb : ks.length ≤ 3) (h : ∀ t' k, Q (.str (textOf ks) t') { s with toks := k }) :
    wpAny (model prog w) A (call (.builtin "bytes.decode") [.bytes b t, .str (PySem.Str.ofString "latin-1") te]) Q E s := by
  have e : textOf ks = ⟨(b.toList.map UInt8.toNat).toArray⟩ := by
    subst hk
    unfold textOf KBw.bInts
    rw [List.map_map]
    congr 2
  refine decode_latin (by rw [← KBw.ints_length, hk]; exact hb) fun t' k => ?_
  rw [← e]
  exact h t' k
end
end SU2
section SE1
variable {w : World} {p : Program} {loose : List Str} {mean : ExcName → Option Value} {mg mb : Str → Option Value}
  {dp un : Nat} {gd : Option (List Code)} {cn : Str} {cs : Scope} {a : Addr} {ccd : Value} {cl : List (Str × Addr)} {outer : List Env} {A₀ : Around} {base h₀ : Heap} {L : Addr} {m : Str → Option Value} {s : Shared} {Q E : Value → Shared → Prop}
def RdRet (h₀ : Heap) (L : Addr) (m : Str → Option Value) (R : List (Addr × Obj)) (pl : Addr) (pos : Int) (s : Shared) (Q : Value → Shared → Prop) (mk : Tok → Value) : Prop :=
  ∀ t tp np h' tk', Fr h₀ L h' m → News h₀ L h' ((pl, W.listOf #[.int pos tp] np) :: R) → Q (mk t) { s with heap := h', toks := tk' }
def RdErr (base h₀ : Heap) (L : Addr) (m : Str → Option Value) (l : List Env) (R : List (Addr × Obj)) (pl : Addr) (pos : Int) (s : Shared) (E : Value → Shared → Prop) (msg : Str) : Prop :=
  ∀ e t G tm tp np h' tk', Fr h₀ L G m → RaisedS base G l e (.type "ValueError") t [.str msg tm] ((pl, W.listOf #[.int pos tp] np) :: R) h' → G.UpToSlots h' → E (.ref e) { s with heap := h', toks := tk' }
theorem read_any {R : List (Addr × Obj)} {b : Array UInt8} {pl : Addr} {pos n : Int} {tp tn : Tok} {np : Nat} {ks : List Int} (hpos : 0 ≤ pos ∧ pos < 2 ^ 40) (hn : 0 ≤ n ∧ n < 2 ^ 40) (hbk : KBw.bInts b = ks) (hb : ks.length ≤ 1000)
   (B : Below A₀ base outer h₀) (F : Fr h₀ L s.heap m) (X : (hd.heap_39 w.params).In h₀) (CH : CodeHd base 90 86) (T : Top p loose mean mg mb h₀) (hk : cs.kind = .function)
   {r c1 c2 c : Addr} {t tb : Tok} {dc ct : Value} {oc o1 o2 : Obj} {vs : Array Value}
   (N : News h₀ L s.heap ((pl, W.listOf #[.int pos tp] np) :: R))
   (m3 : (r, fnMade "read" rdQual rdDef.1 rdDef.2.1 rdDef.2.2 [("place", c2), ("octets", c1)] dc ((mg "__name__").getD .none) c ct) ∈ R) (m4 : (c, oc) ∈ R) (m7 : (c1, o1) ∈ R) (m9 : (c2, o2) ∈ R)
   (hoc : oc.data = .fields vs) (hvs : vs[1]? = some (.str rdQual t)) (ho1 : o1.data = .cell (some (.bytes b tb))) (ho2 : o2.data = .cell (some (.ref pl)))
   (hR : Off pl R) (hdp : dp + 2 < recursionLimit) (hun : un + 16 < cLine)
   (hret : ∀ part t tp' np' h' tk', Fr h₀ L h' m → News h₀ L h' ((pl, W.listOf #[.int (pos + ((cutAt ks pos n).length : Nat)) tp'] np') :: R) → KBw.bInts part = cutAt ks pos n → Q (.bytes part t) { s with heap := h', toks := tk' }) :
   wpAny (model PG w) (ktrTop dp un gd cn cs L a ccd cl outer) (call (.ref r) [.int n tn]) Q E s :=
  read_call (f := pl) hpos hn hbk hb B F X CH T hk (cb_drop N fun p hp => by
    simp only [List.mem_cons] at hp ⊢
    rcases hp with h | h | h | h | h | h
    · exact .inl h
    · subst h; exact .inr m3
    · subst h; exact .inr m4
    · subst h; exact .inr m7
    · subst h; exact .inr m9
    · exact .inr h) hoc hvs ho1 ho2 ⟨hR _ m3, hR _ m4, hR _ m7, hR _ m9⟩ hR hdp hun hret
local macro_rules | `(tactic| k_all) => `(tactic| first | assumption | exact allLt_ne (by assumption) (by omega))
local macro_rules | `(tactic| k_mem) => `(tactic| first | assumption | exact List.mem_cons_of_mem _ (by assumption) | exact List.mem_cons_of_mem _ (List.mem_cons_of_mem _ (by assumption)))
local macro_rules | `(tactic| walk_at "getMethod ref") => `(tactic| (k_here; k_dflt (refine' fn_method ?a ?c ?d ?f ?D ?_; (case a => exact News.get (by k_asm) (by k_mem)); (case c => rfl); (case d => rfl); (case f => rfl); (case D => exact News.get (by k_asm) (by k_mem)))))
local macro_rules | `(tactic| walk_at "call ref") => `(tactic| (k_here; (with_reducible show wpAny _ _ (call (Value.ref _) [Value.int _ _]) _ _ _); k_dflt (refine' read_any ?q1 ?q2 ?q3 ?q4 ?kB ?kF ?kX ?kC ?kT ?kK ?kN ?m3 ?m4 ?m7 ?m9 ?hoc ?hvs ?ho1 ?ho2 ?hR ?kd ?ku ?_; (case m3 => assumption); (case m4 => assumption); (case m7 => assumption); (case m9 => assumption); (case q3 => assumption); (case q1 => assumption); (case q2 => omega); (case q4 => assumption); (case kB => k_asm); (case kF => k_asm); (case kX => k_asm); (case kC => assumption); (case kN => k_asm); (case kT => k_asm); (case kK => first | exact rfl | assumption); (case hoc => assumption); (case hvs => assumption); (case ho1 => assumption); (case ho2 => assumption); (case hR => assumption); (case kd => ktr_room); (case ku => ktr_units)); intro p' t' tp' np' h' tk' F' N' hK'; (try k_sweep)))
theorem cutAt_fit {ks : List Int} {p n : Int} (hb : ks.length ≤ 1000) : (cutAt ks p n).length ≤ 1099511627776 := Nat.le_trans (cutAt_le ks p n) (by omega)
local macro_rules | `(tactic| walk_at "call builtin:len") => `(tactic| (k_here; (with_reducible show wpAny _ _ (call (Value.builtin "len") [Value.bytes _ _]) _ _ _); (refine KBw.len_K (by assumption) (cutAt_fit (by assumption)) ?_)))
local macro_rules | `(tactic| walk_at "truthy bytes") => `(tactic| (k_here; (refine KBw.truthy_K (by assumption) (cutAt_fit (by assumption)) ?_)))
local macro_rules | `(tactic| walk_at "call builtin:_struct.unpack") => `(tactic| (k_here; (with_reducible rename Fr _ _ _ _ => F'); (with_reducible rename News _ _ _ _ => N'); (first | refine unpack_i F' N' (by assumption) (by omega) ?_ | refine unpack_I F' N' (by assumption) (by omega) ?_ | refine unpack_H F' N' (by assumption) (by omega) ?_ | refine unpack_Q F' N' (by assumption) (by omega) ?_); intro t' tk' h' k' F' N' l1; (try k_sweep)))
theorem rd_ret_fin {R R' : List (Addr × Obj)} {pl : Addr} {pos v : Int} {mk : Tok → Value} {t tp : Tok} {np : Nat} {h' : Heap} {tk' : Nat} (hret : RdRet h₀ L m R pl pos s Q mk) (F : Fr h₀ L h' m) (N : News h₀ L h' R') (hm : (pl, W.listOf #[.int v tp] np) ∈ R') (hs : ∀ q ∈ R, q ∈ R') (hv : v = pos) :
    Q (mk t) { s with heap := h', toks := tk' } := by
  subst hv
  exact hret t tp np h' tk' F (cb_drop N fun q hq => by
    rcases List.mem_cons.mp hq with rfl | hq
    · exact hm
    · exact hs q hq)
theorem rd_err_fin {l : List Env} {R : List (Addr × Obj)} {pl e t : Addr} {pos v : Int} {tm tp : Tok} {np : Nat} {h' G : Heap} {tk' : Nat} {msg : Str} (herr : RdErr base h₀ L m l R pl pos s E msg) (FG : Fr h₀ L G m) (S : RaisedS base G l e (.type "ValueError") t [.str msg tm] ((pl, W.listOf #[.int v tp] np) :: R) h') (U : G.UpToSlots h') (hv : v = pos) :
    E (.ref e) { s with heap := h', toks := tk' } := by
  subst hv
  exact herr e t G tm tp np h' tk' FG S U
local macro_rules | `(tactic| walk_at "leaving ref") => `(tactic| (k_here; first
  | (refine' leave_raiseS ?k1 ?k0 ?k2 ?k3 ?_; (case k0 => first | assumption | exact Heap.MadeExc.of (by assumption)); (case k2 => assumption); (case k1 => assumption); (case k3 => k_asm); k_whole; intro h' t' S' R' U'; (try dsimp only at S' R' U' ⊢))
  | (refine' leave_onS ?k1 ?k2 ?k3 ?k4 ?_; (case k3 => assumption); (case k2 => assumption); (case k1 => assumption); (case k4 => assumption); k_whole; intro h' S' R' U'; (try dsimp only at S' R' U' ⊢))))
local macro_rules | `(tactic| walk_at "exec Raise some none") => `(tactic| (k_here; (with_reducible show wpAny _ _ (exec (Stmt.Raise (some (Expr.Call (Expr.Name ("ValueError" : Str) _) (_ :: _) [] _)) none _) _) _ _ _); (with_reducible rename Fr _ _ _ _ => kF); k_dflt (refine' Raise_madeB PySem.F.excCall_ValueError PySem.F.excRaise_ValueError ?hh ?hx ?he ?hpl; (case hh => exact rfl); (case he => exact rfl); (case hpl => exact rfl); (refine' name_B kF ?k1 ?k2 ?k3 ?k4 ?k5 ?_; (case k1 => k_asm); (case k2 => k_asm); (case k3 => k_is); (case k4 => boot_by_name); (case k5 => decide); refine ⟨rfl, ?_⟩))))
theorem int4_call {R : List (Addr × Obj)} {b : Array UInt8} {f pl : Addr} {pos : Int} {tp : Tok} {np : Nat} {ks : List Int} (hpos : 0 ≤ pos ∧ pos < 2 ^ 40) (hbk : KBw.bInts b = ks) (hb : ks.length ≤ 1000)
   (B : Below A₀ base outer h₀) (F : Fr h₀ L s.heap m) (X : (hd.heap_39 w.params).In h₀) (CH : CodeHd base 90 86) (T : Top p loose mean mg mb h₀) (hk : cs.kind = .function)
   (N : News h₀ L s.heap ((pl, W.listOf #[.int pos tp] np) :: R)) (hS : StreamIn w mg R f pl b) (hR : Off pl R)
   (hdp : dp + 4 < recursionLimit) (hun : un + 32 < cLine)
   (hret : (cutAt ks pos 4).length = 4 → RdRet h₀ L m R pl (pos + 4) s Q (.int (sgn4 (leInt (cutAt ks pos 4)))))
   (herr : (cutAt ks pos 4).length ≠ 4 → RdErr base h₀ L m (envX cn cs L a ccd cl :: outer) R pl (pos + (cutAt ks pos 4).length) s E "not enough data in stream to read int4") :
   wpAny (model PG w) (ktrTop dp un gd cn cs L a ccd cl outer) (call (.ref 63) [.ref f]) Q E s := by
  obtain ⟨d, r, c1, c2, c, tn, t, tb, fdl, dc, ct, oc, o1, o2, vs, m1, m2, m3, m4, m5, m6, m7, m8, m9, m10⟩ := hS
  refine wpAny_call ?_
  k_dflt cell_enter
  w_strict k_steps
  · exact rd_ret_fin (hret (by omega)) (by assumption) (by assumption) (.tail _ (.head _)) (fun q h => .tail _ (.tail _ h)) (by omega)
  · (refine rd_err_fin (herr (by omega)) ?FG (by assumption) ?U rfl; (case FG => assumption); (case U => assumption))
theorem uint4_call {R : List (Addr × Obj)} {b : Array UInt8} {f pl : Addr} {pos : Int} {tp : Tok} {np : Nat} {ks : List Int} (hpos : 0 ≤ pos ∧ pos < 2 ^ 40) (hbk : KBw.bInts b = ks) (hb : ks.length ≤ 1000)
   (B : Below A₀ base outer h₀) (F : Fr h₀ L s.heap m) (X : (hd.heap_39 w.params).In h₀) (CH : CodeHd base 90 86) (T : Top p loose mean mg mb h₀) (hk : cs.kind = .function)
   (N : News h₀ L s.heap ((pl, W.listOf #[.int pos tp] np) :: R)) (hS : StreamIn w mg R f pl b) (hR : Off pl R)
   (hdp : dp + 4 < recursionLimit) (hun : un + 32 < cLine)
   (hret : (cutAt ks pos 4).length = 4 → RdRet h₀ L m R pl (pos + 4) s Q (.int (leInt (cutAt ks pos 4))))
   (herr : (cutAt ks pos 4).length ≠ 4 → RdErr base h₀ L m (envX cn cs L a ccd cl :: outer) R pl (pos + (cutAt ks pos 4).length) s E "not enough data in stream to read uint4") :
   wpAny (model PG w) (ktrTop dp un gd cn cs L a ccd cl outer) (call (.ref 70) [.ref f]) Q E s := by
  obtain ⟨d, r, c1, c2, c, tn, t, tb, fdl, dc, ct, oc, o1, o2, vs, m1, m2, m3, m4, m5, m6, m7, m8, m9, m10⟩ := hS
  refine wpAny_call ?_
  k_dflt cell_enter
  w_strict k_steps
  · exact rd_ret_fin (hret (by omega)) (by assumption) (by assumption) (.tail _ (.head _)) (fun q h => .tail _ (.tail _ h)) (by omega)
  · (refine rd_err_fin (herr (by omega)) ?FG (by assumption) ?U rfl; (case FG => assumption); (case U => assumption))
theorem uint8_call {R : List (Addr × Obj)} {b : Array UInt8} {f pl : Addr} {pos : Int} {tp : Tok} {np : Nat} {ks : List Int} (hpos : 0 ≤ pos ∧ pos < 2 ^ 40) (hbk : KBw.bInts b = ks) (hb : ks.length ≤ 1000)
   (B : Below A₀ base outer h₀) (F : Fr h₀ L s.heap m) (X : (hd.heap_39 w.params).In h₀) (CH : CodeHd base 90 86) (T : Top p loose mean mg mb h₀) (hk : cs.kind = .function)
   (N : News h₀ L s.heap ((pl, W.listOf #[.int pos tp] np) :: R)) (hS : StreamIn w mg R f pl b) (hR : Off pl R)
   (hdp : dp + 4 < recursionLimit) (hun : un + 32 < cLine)
   (hret : (cutAt ks pos 8).length = 8 → RdRet h₀ L m R pl (pos + 8) s Q (.int (leInt (cutAt ks pos 8))))
   (herr : (cutAt ks pos 8).length ≠ 8 → RdErr base h₀ L m (envX cn cs L a ccd cl :: outer) R pl (pos + (cutAt ks pos 8).length) s E "not enough data in stream to read uint8") :
   wpAny (model PG w) (ktrTop dp un gd cn cs L a ccd cl outer) (call (.ref 77) [.ref f]) Q E s := by
  obtain ⟨d, r, c1, c2, c, tn, t, tb, fdl, dc, ct, oc, o1, o2, vs, m1, m2, m3, m4, m5, m6, m7, m8, m9, m10⟩ := hS
  refine wpAny_call ?_
  k_dflt cell_enter
  w_strict k_steps
  · exact rd_ret_fin (hret (by omega)) (by assumption) (by assumption) (.tail _ (.head _)) (fun q h => .tail _ (.tail _ h)) (by omega)
  · (refine rd_err_fin (herr (by omega)) ?FG (by assumption) ?U rfl; (case FG => assumption); (case U => assumption))
theorem uint2_call {R : List (Addr × Obj)} {b : Array UInt8} {f pl : Addr} {pos : Int} {tp : Tok} {np : Nat} {ks : List Int} (hpos : 0 ≤ pos ∧ pos < 2 ^ 40) (hbk : KBw.bInts b = ks) (hb : ks.length ≤ 1000)
   (B : Below A₀ base outer h₀) (F : Fr h₀ L s.heap m) (X : (hd.heap_39 w.params).In h₀) (CH : CodeHd base 90 86) (T : Top p loose mean mg mb h₀) (hk : cs.kind = .function)
   (N : News h₀ L s.heap ((pl, W.listOf #[.int pos tp] np) :: R)) (hS : StreamIn w mg R f pl b) (hR : Off pl R)
   (hdp : dp + 4 < recursionLimit) (hun : un + 32 < cLine)
   (hret : (cutAt ks pos 2).length = 2 → RdRet h₀ L m R pl (pos + 2) s Q (.int (leInt (cutAt ks pos 2))))
   (herr : (cutAt ks pos 2).length ≠ 2 → RdErr base h₀ L m (envX cn cs L a ccd cl :: outer) R pl (pos + (cutAt ks pos 2).length) s E "not enough data in stream to read uint2") :
   wpAny (model PG w) (ktrTop dp un gd cn cs L a ccd cl outer) (call (.ref 56) [.ref f]) Q E s := by
  obtain ⟨d, r, c1, c2, c, tn, t, tb, fdl, dc, ct, oc, o1, o2, vs, m1, m2, m3, m4, m5, m6, m7, m8, m9, m10⟩ := hS
  refine wpAny_call ?_
  k_dflt cell_enter
  w_strict k_steps
  · exact rd_ret_fin (hret (by omega)) (by assumption) (by assumption) (.tail _ (.head _)) (fun q h => .tail _ (.tail _ h)) (by omega)
  · (refine rd_err_fin (herr (by omega)) ?FG (by assumption) ?U rfl; (case FG => assumption); (case U => assumption))
end SE1
section SE2
variable {w : World} {p : Program} {loose : List Str} {mean : ExcName → Option Value} {mg mb : Str → Option Value}
  {dp un : Nat} {gd : Option (List Code)} {cn : Str} {cs : Scope} {a : Addr} {ccd : Value} {cl : List (Str × Addr)} {outer : List Env} {A₀ : Around} {base h₀ : Heap} {L : Addr} {m : Str → Option Value} {s : Shared} {Q E : Value → Shared → Prop}
local macro_rules | `(tactic| k_all) => `(tactic| first | assumption | exact allLt_ne (by assumption) (by omega))
local macro_rules | `(tactic| k_mem) => `(tactic| first | assumption | exact List.mem_cons_of_mem _ (by assumption) | exact List.mem_cons_of_mem _ (List.mem_cons_of_mem _ (by assumption)))
local macro_rules | `(tactic| walk_at "getMethod ref") => `(tactic| (k_here; k_dflt (refine' fn_method ?a ?c ?d ?f ?D ?_; (case a => exact News.get (by k_asm) (by k_mem)); (case c => rfl); (case d => rfl); (case f => rfl); (case D => exact News.get (by k_asm) (by k_mem)))))
local macro_rules | `(tactic| walk_at "call ref") => `(tactic| (k_here; (with_reducible show wpAny _ _ (call (Value.ref _) [Value.int _ _]) _ _ _); k_dflt (refine' read_any ?q1 ?q2 ?q3 ?q4 ?kB ?kF ?kX ?kC ?kT ?kK ?kN ?m3 ?m4 ?m7 ?m9 ?hoc ?hvs ?ho1 ?ho2 ?hR ?kd ?ku ?_; (case m3 => assumption); (case m4 => assumption); (case m7 => assumption); (case m9 => assumption); (case q3 => assumption); (case q1 => assumption); (case q2 => omega); (case q4 => assumption); (case kB => k_asm); (case kF => k_asm); (case kX => k_asm); (case kC => assumption); (case kN => k_asm); (case kT => k_asm); (case kK => first | exact rfl | assumption); (case hoc => assumption); (case hvs => assumption); (case ho1 => assumption); (case ho2 => assumption); (case hR => assumption); (case kd => ktr_room); (case ku => ktr_units)); intro p' t' tp' np' h' tk' F' N' hK'; (try k_sweep)))
local macro_rules | `(tactic| walk_at "call builtin:len") => `(tactic| (k_here; (with_reducible show wpAny _ _ (call (Value.builtin "len") [Value.bytes _ _]) _ _ _); (refine KBw.len_K (by assumption) (cutAt_fit (by assumption)) ?_)))
local macro_rules | `(tactic| walk_at "truthy bytes") => `(tactic| (k_here; (refine KBw.truthy_K (by assumption) (cutAt_fit (by assumption)) ?_)))
local macro_rules | `(tactic| walk_at "call builtin:_struct.unpack") => `(tactic| (k_here; (with_reducible rename Fr _ _ _ _ => F'); (with_reducible rename News _ _ _ _ => N'); (first | refine unpack_i F' N' (by assumption) (by omega) ?_ | refine unpack_I F' N' (by assumption) (by omega) ?_ | refine unpack_H F' N' (by assumption) (by omega) ?_ | refine unpack_Q F' N' (by assumption) (by omega) ?_); intro t' tk' h' k' F' N' l1; (try k_sweep)))
local macro_rules | `(tactic| walk_at "leaving ref") => `(tactic| (k_here; first
  | (refine' leave_raiseS ?k1 ?k0 ?k2 ?k3 ?_; (case k0 => first | assumption | exact Heap.MadeExc.of (by assumption)); (case k2 => assumption); (case k1 => assumption); (case k3 => k_asm); k_whole; intro h' t' S' R' U'; (try dsimp only at S' R' U' ⊢))
  | (refine' leave_onS ?k1 ?k2 ?k3 ?k4 ?_; (case k3 => assumption); (case k2 => assumption); (case k1 => assumption); (case k4 => assumption); k_whole; intro h' S' R' U'; (try dsimp only at S' R' U' ⊢))))
local macro_rules | `(tactic| walk_at "exec Raise some none") => `(tactic| (k_here; (with_reducible show wpAny _ _ (exec (Stmt.Raise (some (Expr.Call (Expr.Name ("ValueError" : Str) _) (_ :: _) [] _)) none _) _) _ _ _); (with_reducible rename Fr _ _ _ _ => kF); k_dflt (refine' Raise_madeB PySem.F.excCall_ValueError PySem.F.excRaise_ValueError ?hh ?hx ?he ?hpl; (case hh => exact rfl); (case he => exact rfl); (case hpl => exact rfl); (refine' name_B kF ?k1 ?k2 ?k3 ?k4 ?k5 ?_; (case k1 => k_asm); (case k2 => k_asm); (case k3 => k_is); (case k4 => boot_by_name); (case k5 => decide); refine ⟨rfl, ?_⟩))))
local macro_rules | `(tactic| walk_at "subscriptTail") => `(tactic| (k_here; (with_reducible show wpAny _ _ (subscriptTail _ _ (Value.bytes _ _) (Value.int _ _)) _ _ _); (refine KBw.item_K (by assumption) (cutAt_fit (by assumption)) (by omega) (by omega) ?_); intro _ _ kbaLo kbaHi))
theorem cutAt_len_le (ks : List Int) (p : Int) (n : Nat) : (cutAt ks p n).length ≤ n := by
  unfold cutAt
  rw [List.length_take]
  omega
theorem uint1_call {R : List (Addr × Obj)} {b : Array UInt8} {f pl : Addr} {pos : Int} {tp : Tok} {np : Nat} {ks : List Int} (hpos : 0 ≤ pos ∧ pos < 2 ^ 40) (hbk : KBw.bInts b = ks) (hb : ks.length ≤ 1000)
   (B : Below A₀ base outer h₀) (F : Fr h₀ L s.heap m) (X : (hd.heap_39 w.params).In h₀) (CH : CodeHd base 90 86) (T : Top p loose mean mg mb h₀) (hk : cs.kind = .function)
   (N : News h₀ L s.heap ((pl, W.listOf #[.int pos tp] np) :: R)) (hS : StreamIn w mg R f pl b) (hR : Off pl R)
   (hdp : dp + 4 < recursionLimit) (hun : un + 32 < cLine)
   (hret : (cutAt ks pos 1).length = 1 → RdRet h₀ L m R pl (pos + 1) s Q (.int ((cutAt ks pos 1).getD 0 0)))
   (herr : (cutAt ks pos 1).length = 0 → RdErr base h₀ L m (envX cn cs L a ccd cl :: outer) R pl pos s E "not enough data in stream to read uint1") :
   wpAny (model PG w) (ktrTop dp un gd cn cs L a ccd cl outer) (call (.ref 49) [.ref f]) Q E s := by
  obtain ⟨d, r, c1, c2, c, tn, t, tb, fdl, dc, ct, oc, o1, o2, vs, m1, m2, m3, m4, m5, m6, m7, m8, m9, m10⟩ := hS
  refine wpAny_call ?_
  k_dflt cell_enter
  have hl : (cutAt ks pos 1).length ≤ 1 := cutAt_len_le ks pos 1
  w_strict k_steps
  · exact rd_ret_fin (hret (by omega)) (by assumption) (by assumption) (.head _) (fun q h => .tail _ h) (by omega)
  · (refine rd_err_fin (herr (by omega)) ?FG (by assumption) ?U (by omega); (case FG => assumption); (case U => assumption))
end SE2
section SP1
def expMsg (n k : Int) : Str := Str.ofString "expected " ++ Str.ofString (toString n) ++ Str.ofString " bytes in a string4, but only " ++ Str.ofString (toString k) ++ Str.ofString " remain"
theorem mod_exp {prog : Program} {w : World} {A : Around} {E : Value → Shared → Prop} {s : Shared} {t t1 t2 : Tok} {Q : Value → Shared → Prop} {b L : Addr} {n k : Int} {h₀ : Heap} {news : List (Addr × Obj)} (N : News h₀ L s.heap news) (hb : (b, ({ cls := .type "tuple", data := .seq [.int n t1, .int k t2].toArray 0 } : Obj)) ∈ news) (hn : 0 ≤ n ∧ n < 1000000) (hk : 0 ≤ k ∧ k < 1000000)
   (h : ∀ t' tk', Q (.str (expMsg n k) t') { s with toks := tk' }) : wpAny (model prog w) A (binaryOp .Mod (.str "expected %d bytes in a string4, but only %d remain" t) (.ref b)) Q E s := by
  obtain ⟨hn, hn'⟩ := hn
  obtain ⟨hk, hk'⟩ := hk
  refine' KPt.mod_tuple ?kptN ?kptb ?kptF ?kptm ?_; (case kptN => assumption); (case kptb => assumption); (case kptF => kpt_eq); (case kptm => kpt_run)
  intro _ _
  exact h _ _
end SP1
section SE3
variable {w : World} {p : Program} {loose : List Str} {mean : ExcName → Option Value} {mg mb : Str → Option Value}
  {dp un : Nat} {gd : Option (List Code)} {cn : Str} {cs : Scope} {a : Addr} {ccd : Value} {cl : List (Str × Addr)} {outer : List Env} {A₀ : Around} {base h₀ : Heap} {L : Addr} {m : Str → Option Value} {s : Shared} {Q E : Value → Shared → Prop}
local macro_rules | `(tactic| k_all) => `(tactic| first | assumption | exact allLt_ne (by assumption) (by omega))
local macro_rules | `(tactic| k_mem) => `(tactic| first | assumption | exact List.mem_cons_of_mem _ (by assumption) | exact List.mem_cons_of_mem _ (List.mem_cons_of_mem _ (by assumption)))
local macro_rules | `(tactic| walk_at "getMethod ref") => `(tactic| (k_here; k_dflt (refine' fn_method ?a ?c ?d ?f ?D ?_; (case a => exact News.get (by k_asm) (by k_mem)); (case c => rfl); (case d => rfl); (case f => rfl); (case D => exact News.get (by k_asm) (by k_mem)))))
local macro_rules | `(tactic| walk_at "call ref") => `(tactic| (k_here; (with_reducible show wpAny _ _ (call (Value.ref _) [Value.int _ _]) _ _ _); k_dflt (refine' read_any ?q1 ?q2 ?q3 ?q4 ?kB ?kF ?kX ?kC ?kT ?kK ?kN ?m3 ?m4 ?m7 ?m9 ?hoc ?hvs ?ho1 ?ho2 ?hR ?kd ?ku ?_; (case m3 => assumption); (case m4 => assumption); (case m7 => assumption); (case m9 => assumption); (case q3 => assumption); (case kN => k_asm); (case q1 => first | assumption | omega); (case q2 => omega); (case q4 => assumption); (case kB => k_asm); (case kF => k_asm); (case kX => k_asm); (case kC => assumption); (case kT => k_asm); (case kK => first | exact rfl | assumption); (case hoc => assumption); (case hvs => assumption); (case ho1 => assumption); (case ho2 => assumption); (case hR => assumption); (case kd => ktr_room); (case ku => ktr_units)); intro p' t' tp' np' h' tk' F' N' hK'; (try k_sweep)))
local macro_rules | `(tactic| walk_at "call builtin:len") => `(tactic| (k_here; (with_reducible show wpAny _ _ (call (Value.builtin "len") [Value.bytes _ _]) _ _ _); (refine KBw.len_K (by assumption) (cutAt_fit (by assumption)) ?_)))
local macro_rules | `(tactic| walk_at "truthy bytes") => `(tactic| (k_here; (refine KBw.truthy_K (by assumption) (cutAt_fit (by assumption)) ?_)))
local macro_rules | `(tactic| walk_at "call builtin:_struct.unpack") => `(tactic| (k_here; (with_reducible rename Fr _ _ _ _ => F'); (with_reducible rename News _ _ _ _ => N'); (first | refine unpack_i F' N' (by assumption) (by omega) ?_ | refine unpack_I F' N' (by assumption) (by omega) ?_ | refine unpack_H F' N' (by assumption) (by omega) ?_ | refine unpack_Q F' N' (by assumption) (by omega) ?_); intro t' tk' h' k' F' N' l1; (try k_sweep)))
local macro_rules | `(tactic| walk_at "leaving ref") => `(tactic| (k_here; first
  | (refine' leave_raiseS ?k1 ?k0 ?k2 ?k3 ?_; (case k0 => first | assumption | exact Heap.MadeExc.of (by assumption)); (case k2 => assumption); (case k1 => assumption); (case k3 => k_asm); k_whole; intro h' t' S' R' U'; (try dsimp only at S' R' U' ⊢))
  | (refine' leave_onS ?k1 ?k2 ?k3 ?k4 ?_; (case k3 => assumption); (case k2 => assumption); (case k1 => assumption); (case k4 => assumption); k_whole; intro h' S' R' U'; (try dsimp only at S' R' U' ⊢))))
local macro_rules | `(tactic| walk_at "exec Raise some none") => `(tactic| (k_here; (with_reducible show wpAny _ _ (exec (Stmt.Raise (some (Expr.Call (Expr.Name ("ValueError" : Str) _) (_ :: _) [] _)) none _) _) _ _ _); (with_reducible rename Fr _ _ _ _ => kF); k_dflt (refine' Raise_madeB PySem.F.excCall_ValueError PySem.F.excRaise_ValueError ?hh ?hx ?he ?hpl; (case hh => exact rfl); (case he => exact rfl); (case hpl => exact rfl); (refine' name_B kF ?k1 ?k2 ?k3 ?k4 ?k5 ?_; (case k1 => k_asm); (case k2 => k_asm); (case k3 => k_is); (case k4 => boot_by_name); (case k5 => decide); refine ⟨rfl, ?_⟩))))
local macro_rules | `(tactic| walk_at "subscriptTail") => `(tactic| (k_here; (with_reducible show wpAny _ _ (subscriptTail _ _ (Value.bytes _ _) (Value.int _ _)) _ _ _); (refine KBw.item_K (by assumption) (cutAt_fit (by assumption)) (by omega) (by omega) ?_); intro _ _ kbaLo kbaHi))
local macro_rules | `(tactic| walk_at "call ref") => `(tactic| (k_here; (with_reducible show wpAny _ _ (call (Value.ref 63) [Value.ref _]) _ _ _); k_dflt (refine' int4_call ?q1 ?q2 ?q3 ?kB ?kF ?kX ?kC ?kT ?kK ?kN ?hS ?hR ?kd ?ku ?r1 ?r2; (case hS => assumption); (case q2 => assumption); (case q3 => assumption); (case kN => k_asm); (case q1 => omega); (case kB => k_asm); (case kF => k_asm); (case kX => k_asm); (case kC => assumption); (case kT => k_asm); (case kK => first | exact rfl | assumption); (case hR => assumption); (case kd => ktr_room); (case ku => ktr_units)); (case' r1 => unfold RdRet; intro hl4 t' tp' np' h' tk' F' N'; (try k_sweep); (try ((with_reducible rename _ → _ ∧ _ => hI); have hq := hI hl4))); (case' r2 => unfold RdErr; intro hl4 e' t' G' tm' tp' np' h' tk' F' S' U')))
theorem cutAt_le3 {ks : List Int} {p n : Int} (h : n ≤ 3) : (cutAt ks p n).length ≤ 3 := by
  unfold cutAt
  rw [List.length_take]
  omega
local macro_rules | `(tactic| walk_at "call builtin:bytes.decode") => `(tactic| (k_here; (with_reducible show wpAny _ _ (call (Value.builtin "bytes.decode") [Value.bytes _ _, Value.str _ _]) _ _ _); (refine decode_K (by assumption) (cutAt_le3 (by omega)) ?_); intro _ _))
theorem cut_small {ks : List Int} {p n : Int} (hb : ks.length ≤ 1000) : (0 : Int) ≤ ((cutAt ks p n).length : Nat) ∧ (((cutAt ks p n).length : Nat) : Int) < 1000000 := by
  have := cutAt_le ks p n
  omega
local macro_rules | `(tactic| walk_at "binaryOp Mod str ref") => `(tactic| (k_here; (with_reducible show wpAny _ _ (binaryOp Operator.Mod (Value.str _ _) (Value.ref _)) _ _ _); k_dflt (refine' mod_exp ?kptN ?kptb ?n ?k ?_; (case kptN => k_asm); (case kptb => k_mem); (case n => omega); (case k => exact cut_small (by assumption))); intro _ _))
theorem raised_drop {base G : Heap} {l : List Env} {e t : Addr} {cls : Value} {vs : List Value} {news news' : List (Addr × Obj)} {h : Heap} (R : RaisedS base G l e cls t vs news h) (hs : ∀ q ∈ news', q ∈ news) : RaisedS base G l e cls t vs news' h := by
  obtain ⟨⟨B, h1, h2, h3, h4⟩, h5⟩ := R
  exact ⟨⟨B, h1, h2, fun q hq => h3 q (hs q hq), h4⟩, h5⟩
theorem string4_call {R : List (Addr × Obj)} {b : Array UInt8} {f pl : Addr} {pos : Int} {tp : Tok} {np : Nat} {ks : List Int} (hpos : 0 ≤ pos ∧ pos < 2 ^ 39) (hbk : KBw.bInts b = ks) (hb : ks.length ≤ 1000)
   (hn : (cutAt ks pos 4).length = 4 → 0 ≤ sgn4 (leInt (cutAt ks pos 4)) ∧ sgn4 (leInt (cutAt ks pos 4)) ≤ 3)
   (B : Below A₀ base outer h₀) (F : Fr h₀ L s.heap m) (X : (hd.heap_39 w.params).In h₀) (CH : CodeHd base 90 86) (T : Top p loose mean mg mb h₀) (hk : cs.kind = .function)
   (N : News h₀ L s.heap ((pl, W.listOf #[.int pos tp] np) :: R)) (hS : StreamIn w mg R f pl b) (hR : Off pl R)
   (hdp : dp + 6 < recursionLimit) (hun : un + 48 < cLine)
   (hret : (cutAt ks pos 4).length = 4 → ((cutAt ks (pos + 4) (sgn4 (leInt (cutAt ks pos 4)))).length : Int) = sgn4 (leInt (cutAt ks pos 4)) → RdRet h₀ L m R pl (pos + 4 + sgn4 (leInt (cutAt ks pos 4))) s Q (.str (textOf (cutAt ks (pos + 4) (sgn4 (leInt (cutAt ks pos 4)))))))
   (herrn : (cutAt ks pos 4).length = 4 → ((cutAt ks (pos + 4) (sgn4 (leInt (cutAt ks pos 4)))).length : Int) ≠ sgn4 (leInt (cutAt ks pos 4)) → RdErr base h₀ L m (envX cn cs L a ccd cl :: outer) R pl (pos + 4 + (cutAt ks (pos + 4) (sgn4 (leInt (cutAt ks pos 4)))).length) s E (expMsg (sgn4 (leInt (cutAt ks pos 4))) (cutAt ks (pos + 4) (sgn4 (leInt (cutAt ks pos 4)))).length))
   (herr4 : (cutAt ks pos 4).length ≠ 4 → RdErr base h₀ L m (envX cn cs L a ccd cl :: outer) R pl (pos + (cutAt ks pos 4).length) s E "not enough data in stream to read int4") :
   wpAny (model PG w) (ktrTop dp un gd cn cs L a ccd cl outer) (call (.ref 84) [.ref f]) Q E s := by
  have hS' := hS
  obtain ⟨d, r, c1, c2, c, tn, t, tb, fdl, dc, ct, oc, o1, o2, vs, m1, m2, m3, m4, m5, m6, m7, m8, m9, m10⟩ := hS
  refine wpAny_call ?_
  k_dflt cell_enter
  w_strict k_steps
  · (refine rd_err_fin (herr4 (by assumption)) ?FG (by assumption) ?U (by omega); (case FG => assumption); (case U => assumption))
  · exact rd_ret_fin (hret (by assumption) (by omega)) (by assumption) (by assumption) (.head _) (fun q h => .tail _ h) (by omega)
  · (refine rd_err_fin (herrn (by assumption) (by omega)) ?FG (raised_drop (by assumption) (fun q h => .tail _ h)) ?U (by omega); (case FG => assumption); (case U => assumption))
end SE3
section SG1
section
variable {prog : Program} {w : World} {A : Around} {E : Value → Shared → Prop} {s : Shared} {h₀ : Heap} {L : Addr} {m : Str → Option Value} {env : Env}
theorem srcAt_mono {ax : Addr} {its : Array Value} {q : Addr × Obj} {news : List (Addr × Obj)} (h : LCg.SrcAt h₀ ax its news) : LCg.SrcAt h₀ ax its (q :: news) := by
  rcases h with h | ⟨o, hm, r⟩
  · exact .inl h
  · exact .inr ⟨o, .tail _ hm, r⟩
/-- one turn's end: one more object, the element's -/
def Grew (S news : List (Addr × Obj)) (d : Dat) (y : Value) (news' : List (Addr × Obj)) : Prop := ∃ q, news' = q :: (S ++ news) ∧ DatIn (q :: S) y d ∧ (∀ p ∈ S ++ news, @LT.lt Nat _ p.1 q.1)
/-- a comprehension over a list of ints, each turn one more object in the ledger -/
theorem rest_grow {elt : Expr} {x : Str} {scope : Scope} {cl : List (Str × Addr)} {Fin : List Value → List (Addr × Obj) → Prop} {news : List (Addr × Obj)} {ax : Addr} {vs : List Value} {ns : List Int} (hi : IntsAre vs ns) (g : Int → Dat) (hS : LCg.SrcAt h₀ ax vs.toArray news)
    (turn : ∀ k t I oI C oC D m₂ ys S h tk (E' : Value → Shared → Prop), k ∈ ns → LCg.NsObj oC m₂ → m₂ x = some (.int k t) → Fr h₀ L h m → News h₀ L h ((I, oI) :: (C, oC) :: (D, LCg.lst ys) :: (S ++ news)) → LCg.Off3 I C D (S ++ news) → ((@Ne Nat I C) ∧ (@Ne Nat I D) ∧ (@Ne Nat C D)) →
      wpAny (model prog w) A (eval elt (compEnvC scope cl C env)) (LCg.CompEnd h₀ L m { s with heap := h, toks := tk } I oI C oC D (LCg.lst ys) (fun _ => True) (Grew S news (g k))) E' { s with heap := h, toks := tk })
    (fin : ∀ ys S, DatAll S ys (ns.map g) → (∀ q ∈ news, ∀ p ∈ S, p.1 ≠ q.1) → Fin ys (S ++ news)) : LCg.CompRest prog w A h₀ L m env elt x scope cl s (LCg.SrcAt h₀ ax vs.toArray) (fun i v => vs.toArray[i]? = some v) Fin vs.toArray.size 0 [] news := by
  have key : ∀ (j i : Nat) (ys : List Value) (S : List (Addr × Obj)), i + j = ns.length → DatAll S ys ((ns.take i).map g) → LCg.SrcAt h₀ ax vs.toArray (S ++ news) → (∀ q ∈ news, ∀ p ∈ S, p.1 ≠ q.1) →
      LCg.CompRest prog w A h₀ L m env elt x scope cl s (LCg.SrcAt h₀ ax vs.toArray) (fun i v => vs.toArray[i]? = some v) Fin j i ys (S ++ news) := by
    intro j
    induction j with
    | zero =>
      intro i ys S hi' hy _ hs
      have e : i = ns.length := by omega
      subst e
      rw [List.take_length] at hy
      exact LCg.CompRest.zero (fin ys S hy hs)
    | succ j ih =>
      intro i ys S hi' hy hS' hs
      refine LCg.CompRest.succ ?_
      intro v I oI C oC D m₂ h tk E' hv hC hx F N off ne
      have hlt : i < ns.length := by omega
      obtain ⟨t, hx'⟩ := hi.get i (ns[i]'hlt) (List.getElem?_eq_getElem hlt)
      have ev : v = .int (ns[i]'hlt) t := by
        have hv' : vs[i]? = some v := by simpa using hv
        rw [hx'] at hv'
        exact (Option.some.inj hv').symm
      subst ev
      refine wpAny_mono (turn _ t I oI C oC D m₂ ys S h tk E' (List.getElem_mem hlt) hC hx F N off ne) (fun y s₂ hq => ?_) fun _ _ e => e
      obtain ⟨h', tk', nw, e, F', N', off', _, q, rfl, hd, hlq⟩ := hq
      refine ⟨h', tk', q :: (S ++ news), e, F', N', off', srcAt_mono hS', ?_⟩
      refine ih (i + 1) (ys ++ [y]) (q :: S) (by omega) ?_ (srcAt_mono hS') ?_
      · have hs : ns.take (i + 1) = ns.take i ++ [ns[i]'hlt] := by rw [List.take_add_one, List.getElem?_eq_getElem hlt]; rfl
        rw [hs, List.map_append]
        exact (DatAll.mono (fun p hp => .tail _ hp) hy).append (.one hd)
      · intro p hp r hr
        rcases List.mem_cons.mp hr with rfl | hr
        · exact (Nat.ne_of_lt (hlq p (List.mem_append.mpr (.inr hp)))).symm
        · exact hs p hp r hr
  have hsz : vs.toArray.size = ns.length := by rw [List.size_toArray, hi.length]
  rw [hsz]
  exact key ns.length 0 [] [] (by omega) .nil hS (fun _ _ _ h => nomatch h)
/-- a place where the walk stands still -/
def Stop (P : Prop) : Prop := P
theorem stop_in {P : Prop} (h : Stop P) : P := h
theorem fr_put {L : Addr} {h : Heap} {m : Str → Option Value} {x : Str} {v : Value} (F : Fr h₀ L h m) (e : m x = some v) : Fr h₀ L h (fun y => if y = x then some v else m y) := by
  have em : (fun y => if y = x then some v else m y) = m := by
    funext y
    by_cases hy : y = x
    · rw [if_pos hy, hy, e]
    · rw [if_neg hy]
  rw [em]
  exact F
theorem own_range {Q : Flow → Shared → Prop} {x : Str} {body : List Stmt} {r : Addr} {a₀ b₀ : Int} {t₀ u₀ v₀ : Tok} {n : Nat} {m₀ : Str → Option Value} {news : List (Addr × Obj)} (J : Nat → (Str → Option Value) → List (Addr × Obj) → Prop)
    (hh : A.handled = none) (hr : IsRange s.heap r a₀ b₀ 1 t₀ u₀ v₀) (hsmall : Builtin.Range.small a₀ b₀ 1 = true) (hsz : Builtin.Range.rangeSize a₀ b₀ 1 = (n : Int)) (F : Fr h₀ env.locals s.heap m₀) (N : News h₀ env.locals s.heap news) (hj : J 0 m₀ news)
    (turn : ∀ i t m₁ nx h tk own, i < n → OwnOff own (nx.map (·.1)) → J i m₁ nx → Fr h₀ env.locals h (fun y => if y = x then some (.int (a₀ + (i : Int)) t) else m₁ y) → News h₀ env.locals h (nx ++ own) →
      wpAny (model prog w) A (execs body env) (InvPostG h₀ env.locals (J (i + 1)) own { s with heap := h, toks := tk } Q) E { s with heap := h, toks := tk })
    (done : ∀ m₁ nx h tk, J n m₁ nx → Fr h₀ env.locals h m₁ → News h₀ env.locals h nx → Q .next { s with heap := h, toks := tk }) :
    wpAny (model prog w) A (pyIter (.ref r)) (fun it s₂ => LoopAtV prog w A h₀ env x body Q E it s₂) E s := by
  refine wpAny_pyIter_range hr hsmall ?_
  have W : Walks prog w A s.heap.objs.size [s.heap.objs.size] [s.heap.objs.size] n (fun i v => i < n ∧ ∃ t, v = .int (a₀ + i * 1) t)
      (fun i h => IsRangeIter h s.heap.objs.size (a₀ + (i : Nat) * 1) ((n : Int) - (i : Nat)) 1) := (Walks.range hh _ a₀ 1 n).bound
  refine kdr_loop J W (fun _ h => h) (fun _ h => h) ?_ ?_ ?_ ?_ (by show IsRangeIter _ _ _ _ _; rw [hsz]; simpa using Heap.get?_push_size _ rfl) (F.push _) (fun p hp => ⟨Heap.get?_push_of_some _ (N p hp).1, (N p hp).2⟩) hj ?_ ?_
  · intro i h hi b hb
    rw [List.mem_singleton.mp hb]
    exact ⟨_, hi⟩
  · intro hm
    exact absurd F.ns.lt ((List.mem_singleton.mp hm) ▸ Nat.lt_irrefl _)
  · intro b hb
    rw [List.mem_singleton.mp hb]
    exact next_is_new F
  · intro p hp hI
    exact absurd (Heap.lt_size (N p hp).1) ((List.mem_singleton.mp hI) ▸ Nat.lt_irrefl _)
  · rintro i v m₁ nx h tk own hi ⟨_, t, rfl⟩ hoff hJ F₁ N₁
    have e1 : a₀ + (i : Int) * 1 = a₀ + (i : Int) := by omega
    rw [e1] at F₁
    exact turn i t m₁ nx h tk own hi hoff hJ F₁ N₁
  · exact done
end
end SG1
section SG3
def itemD (x : Int) : Dat := .tuple [.int (itemK x), itemV x, .bytes (byteArr (itemB x))]
def atI (ns : List Int) (k : Int) : Int := ns.getD k.toNat 0
/-- the order after the first i insertions -/
def ordOf (ns : List Int) : Nat → List Int
  | 0 => []
  | i + 1 => (ordOf ns i).take (((ns.getD i 0).fdiv 3).fmod ((i : Int) + 1)).toNat ++ (i : Int) :: (ordOf ns i).drop (((ns.getD i 0).fdiv 3).fmod ((i : Int) + 1)).toNat
theorem ordOf_length (ns : List Int) : ∀ i, (ordOf ns i).length = i
  | 0 => rfl
  | i + 1 => by
    have := ordOf_length ns i
    simp only [ordOf, List.length_append, List.length_cons, List.length_take, List.length_drop]
    omega
theorem ordOf_in (ns : List Int) : ∀ i, ∀ k ∈ ordOf ns i, 0 ≤ k ∧ k < (i : Int)
  | 0, _, h => nomatch h
  | i + 1, k, h => by
    simp only [ordOf, List.mem_append, List.mem_cons] at h
    rcases h with h | rfl | h
    · have := ordOf_in ns i k (List.mem_of_mem_take h); omega
    · omega
    · have := ordOf_in ns i k (List.mem_of_mem_drop h); omega
theorem ord_at {ns : List Int} {i n : Nat} (h : i < n) : 0 ≤ (ordOf ns n).getD i 0 ∧ (ordOf ns n).getD i 0 < (n : Int) := by
  have hl := ordOf_length ns n
  have : (ordOf ns n).getD i 0 = (ordOf ns n)[i]'(by omega) := by simp [List.getD, List.getElem?_eq_getElem (show i < (ordOf ns n).length by omega)]
  rw [this]
  exact ordOf_in ns n _ (List.getElem_mem _)
/-- the place after i turns over the order, and the places -/
def placeAt (ns ord : List Int) : Nat → Int
  | 0 => 4
  | i + 1 => placeAt ns ord i + (5 + ((itemB (atI ns (ord.getD i 0))).length : Int))
def placesOf (ns ord : List Int) : Nat → List Int
  | 0 => List.replicate ns.length 0
  | i + 1 => (placesOf ns ord i).set (ord.getD i 0).toNat (placeAt ns ord i)
theorem placesOf_length (ns ord : List Int) : ∀ i, (placesOf ns ord i).length = ns.length
  | 0 => by simp [placesOf]
  | i + 1 => by rw [placesOf, List.length_set]; exact placesOf_length ns ord i
theorem itemB_len (x : Int) : (itemB x).length ≤ 12 := by
  have := fmod4 (x.fdiv 5)
  unfold itemB
  repeat' split
  all_goals simp only [List.length_append, low_length, signsOf]
  all_goals omega
theorem placeAt_le (ns ord : List Int) : ∀ i, 4 ≤ placeAt ns ord i ∧ placeAt ns ord i ≤ 4 + 17 * (i : Int)
  | 0 => by simp [placeAt]
  | i + 1 => by
    have h1 := placeAt_le ns ord i
    have h2 := itemB_len (atI ns (ord.getD i 0))
    simp only [placeAt]
    omega
def wayOf (ns : List Int) (ps : List Int) (k : Int) : Int := if k + 1 < (ns.length : Int) then atI ps (k + 1) - atI ps k else 0
def segOf (ns ps : List Int) (k : Int) : List Int := low (wayOf ns ps k) 4 ++ [itemK (atI ns k)] ++ itemB (atI ns k)
def octAt (ns ord ps : List Int) : Nat → List Int
  | 0 => low (atI ps 0) 4
  | i + 1 => octAt ns ord ps i ++ segOf ns ps (ord.getD i 0)
theorem octAt_len (ns ord ps : List Int) : ∀ i, (octAt ns ord ps i).length ≤ 4 + 17 * i
  | 0 => by simp [octAt, low_length]
  | i + 1 => by
    have h1 := octAt_len ns ord ps i
    have h2 := itemB_len (atI ns (ord.getD i 0))
    simp only [octAt, segOf, List.length_append, low_length, List.length_cons, List.length_nil]
    omega
theorem itemK_in (x : Int) : 0 ≤ itemK x ∧ itemK x ≤ 4 := by
  unfold itemK
  repeat' split
  all_goals omega
theorem ints_one : ∀ {vs : List Value} {ns : List Int}, IntsAre vs ns → ∀ (i : Nat) (k : Int) (t : Tok), IntsAre (vs.take i ++ .int k t :: vs.drop i) (ns.take i ++ k :: ns.drop i) :=
  fun h i k t => (h.take i).append (.cons k t (h.drop i))
theorem ints_set : ∀ {vs : List Value} {ns : List Int}, IntsAre vs ns → ∀ (i : Nat) (k : Int) (t : Tok), IntsAre (vs.set i (.int k t)) (ns.set i k)
  | _, _, .nil, _, _, _ => .nil
  | _, _, .cons _ _ h, 0, k, t => .cons k t h
  | _, _, .cons n u h, i + 1, k, t => .cons n u (ints_set h i k t)
theorem ints_ins {os : List Value} {ks : List Int} (h : IntsAre os ks) {x : Int} (hx : 0 ≤ x) (k : Int) (t : Tok) : IntsAre (kl_ins os x (.int k t)) (ks.take x.toNat ++ k :: ks.drop x.toNat) := by
  have e : kl_ins os x (.int k t) = os.take x.toNat ++ .int k t :: os.drop x.toNat := by
    unfold kl_ins
    rw [if_neg (by omega)]
    by_cases hl : x.toNat ≤ os.length
    · rw [Nat.min_eq_left hl]
    · rw [Nat.min_eq_right (by omega), List.take_of_length_le (Nat.le_refl _), List.take_of_length_le (by omega), List.drop_of_length_le (Nat.le_refl _), List.drop_of_length_le (by omega)]
  rw [e]
  exact ints_one h _ _ _
theorem set_some : ∀ {l : List Value} {k : Nat} {v : Value}, k < l.length → ki_setL l k v = some (l.set k v)
  | [], _, _, h => absurd h (Nat.not_lt_zero _)
  | _ :: _, 0, _, _ => rfl
  | _ :: r, k + 1, v, h => by
    show (match ki_setL r k v with | some q => some (_ :: q) | none => none) = _
    rw [set_some (Nat.lt_of_succ_lt_succ h)]
    rfl
section
variable {prog : Program} {w : World} {A : Around} {E : Value → Shared → Prop} {s : Shared} {h₀ : Heap} {L : Addr} {m : Str → Option Value} {news : List (Addr × Obj)}
theorem len_own {Q : Value → Shared → Prop} {l : Addr} {us : List Value} {n k : Nat} (N : News h₀ L s.heap news) (hm : (l, W.listOf us.toArray n) ∈ news) (e : us.length = k) (hk : k ≤ 16)
    (h : Q (.int (k : Int) (s.toks + 1)) { s with toks := s.toks + 1 + 1 }) : wpAny (model prog w) A (call (.builtin "len") [.ref l]) Q E s := by
  subst e
  have hl : s.heap.IsList l us.toArray := ⟨_, (N _ hm).1, rfl, n, rfl⟩
  exact len_list hl (by rw [List.size_toArray]; omega) (by rw [List.size_toArray]; exact h)
/-- an item of a list of ints in the ledger -/
theorem item_own {value slice : Expr} {Q : Value → Shared → Prop} {l : Addr} {us : List Value} {ks : List Int} {n : Nat} {k : Int} {u : Tok} (N : News h₀ L s.heap news) (hm : (l, W.listOf us.toArray n) ∈ news) (hi : IntsAre us ks) (hk : 0 ≤ k ∧ k < (ks.length : Int)) (hf : ks.length ≤ 16)
    (h : ∀ t, Q (.int (atI ks k) t) s) (hs : subscripted slice false (.ref l) (.int k u) = operate [.ref l, .int k u] (getItem (.ref l) (.int k u)) := by with_unfolding_all rfl) :
    wpAny (model prog w) A (subscriptTail value slice (.ref l) (.int k u)) Q E s := by
  have hl : s.heap.IsList l us.toArray := ⟨_, (N _ hm).1, rfl, n, rfl⟩
  have hlt : k.toNat < ks.length := by omega
  obtain ⟨t, hx⟩ := hi.get k.toNat (ks[k.toNat]'hlt) (List.getElem?_eq_getElem hlt)
  have e : ks[k.toNat]'hlt = atI ks k := by simp [atI, List.getD, List.getElem?_eq_getElem hlt]
  rw [e] at hx
  exact item_listR hl hk.1 (by omega) (by simpa using hx) (h t) hs
/-- an item of the list of items: a tuple in the ledger -/
theorem item_row {value slice : Expr} {Q : Value → Shared → Prop} {l : Addr} {us : List Value} {ns : List Int} {S : List (Addr × Obj)} {n : Nat} {k : Int} {u : Tok} (N : News h₀ L s.heap news) (hm : (l, W.listOf us.toArray n) ∈ news) (hd : DatAll S us (ns.map itemD)) (hk : 0 ≤ k ∧ k < (ns.length : Int)) (hf : ns.length ≤ 16)
    (hS : ∀ q ∈ S, q ∈ news)
    (h : ∀ a n' t1 v t2, (a, ({ cls := .type "tuple", data := .seq [.int (itemK (atI ns k)) t1, v, .bytes (byteArr (itemB (atI ns k))) t2].toArray n' } : Obj)) ∈ news → DatIn S v (itemV (atI ns k)) → Q (.ref a) s)
    (hs : subscripted slice false (.ref l) (.int k u) = operate [.ref l, .int k u] (getItem (.ref l) (.int k u)) := by with_unfolding_all rfl) :
    wpAny (model prog w) A (subscriptTail value slice (.ref l) (.int k u)) Q E s := by
  have hl : s.heap.IsList l us.toArray := ⟨_, (N _ hm).1, rfl, n, rfl⟩
  have hlt : k.toNat < ns.length := by omega
  obtain ⟨v, hx, hv⟩ := hd.get (k := k.toNat) (by rw [List.length_map]; exact hlt)
  have e : (ns.map itemD)[k.toNat]'(by rw [List.length_map]; exact hlt) = itemD (atI ns k) := by simp [atI, List.getD, List.getElem?_eq_getElem hlt]
  rw [e] at hv
  refine item_listR hl hk.1 (by omega) (by simpa using hx) ?_ hs
  unfold itemD at hv
  cases hv with
  | tuple hm' hall =>
    cases hall with
    | cons h1 r =>
      cases r with
      | cons h2 r =>
        cases r with
        | cons h3 r =>
          cases r
          cases h1
          cases h3
          exact h _ _ _ _ _ (hS _ hm') h2
theorem tup_own {value slice : Expr} {Q : Value → Shared → Prop} {a : Addr} {us : List Value} {n : Nat} {k : Nat} {i : Int} {u : Tok} {x : Value} (N : News h₀ L s.heap news) (hm : (a, ({ cls := .type "tuple", data := .seq us.toArray n } : Obj)) ∈ news) (hx : us[k]? = some x) (hk : k < 16) (hi : i = (k : Int)) (h : Q x s)
    (hs : subscripted slice false (.ref a) (.int i u) = operate [.ref a, .int i u] (getItem (.ref a) (.int i u)) := by with_unfolding_all rfl) :
    wpAny (model prog w) A (subscriptTail value slice (.ref a) (.int i u)) Q E s := by
  have ht : IsTup s.heap a us.toArray := N.isTup hm
  subst hi
  have hlt : k < us.length := (List.getElem?_eq_some_iff.mp hx).1
  refine subscriptTail_builtinR ht.typeIs slot_tuple_getitem.lookup (getItem_tuple (Q := fun r s' => r = x ∧ Q r s') (j := k) ht (by omega) (by omega) ?_ (by simpa using hx) ⟨rfl, h⟩) hs
  unfold seqIndex?
  rw [List.size_toArray]
  simp
  omega
theorem insert_own {Q : Value → Shared → Prop} {D : Addr} {os : List Value} {n : Nat} {x : Int} {u : Tok} {y : Value} {rest : List (Addr × Obj)} (F : Fr h₀ L s.heap m) (N : News h₀ L s.heap ((D, W.listOf os.toArray n) :: rest)) (hsep : ∀ p ∈ rest, p.1 ≠ D) (hx : 0 ≤ x ∧ x < 100) (hl : os.length ≤ 16)
    (h : ∀ h', Fr h₀ L h' m → News h₀ L h' ((D, W.listOf (kl_ins os x y).toArray (n + 1)) :: rest) → Q .none { s with heap := h' }) : wpAny (model prog w) A (call (.builtin "list.insert") [.ref D, .int x u, y]) Q E s :=
  kl_insert F N (by simp [Builtin.List.listFitsIndex]; omega) rfl (.head hsep) (Nat.le_trans hl (by decide)) h
theorem set_own {Q : Unit → Shared → Prop} {D : Addr} {os : List Value} {n : Nat} {x : Int} {u : Tok} {y : Value} {rest : List (Addr × Obj)} (F : Fr h₀ L s.heap m) (N : News h₀ L s.heap ((D, W.listOf os.toArray n) :: rest)) (hsep : ∀ p ∈ rest, p.1 ≠ D) (hx : 0 ≤ x ∧ x < (os.length : Int)) (hl : os.length ≤ 16)
    (h : ∀ h', Fr h₀ L h' m → News h₀ L h' ((D, W.listOf (os.set x.toNat y).toArray n) :: rest) → Q () { s with heap := h' }) : wpAny (model prog w) A (setItem (.ref D) (.int x u) y) Q E s :=
  ki_set F N hx.1 (by omega) (set_some (by simpa using (show x.toNat < os.length by omega))) (.head hsep) h
theorem noI_bytes_add : typeLookup (.type "bytes") (dunderI "add") = pure none := by rw [typeLookup_type, builtinLookup_eq_fast]; kernel_rfl
theorem iadd_low {Q : Value → Shared → Prop} {a b : List Int} {t u : Tok} (hsz : a.length + b.length ≤ 16777216) (h : ∀ t' k, Q (.bytes (byteArr (a ++ b)) t') { s with toks := k }) : wpAny (model prog w) A (inplaceOp .Add (.bytes (byteArr a) t) (.bytes (byteArr b) u)) Q E s := by
  have hsz' : (byteArr a).size + (byteArr b).size ≤ 16777216 := by rw [byteArr_size, byteArr_size]; exact hsz
  have h' : ∀ t' k, Q (.bytes (byteArr a ++ byteArr b) t') { s with toks := k } := fun t' k => by rw [byteArr_append]; exact h t' k
  refine iconcat_gives (typeIs_bytes s _ t) (typeIs_bytes s _ u) noI_bytes_add KBy.noFill_bytes_add KBy.seq_bytes_add FB.slot_bytes_add FB.entry_bytes_add (FB.args_bytes_add_2 _ _) (KBy.gives_bytes_add (KBy.tooLong_not hsz')) ?_
  by_cases hb : (byteArr a).isEmpty = true
  · rw [if_pos hb]
    have e : byteArr a = #[] := Array.isEmpty_iff.1 hb
    have h'' := h' u s.toks
    rw [e, Array.empty_append] at h''
    exact h''
  · rw [if_neg hb]
    by_cases hc : (byteArr b).isEmpty = true
    · rw [if_pos hc]
      have e : byteArr b = #[] := Array.isEmpty_iff.1 hc
      have h'' := h' t s.toks
      rw [e, Array.append_empty] at h''
      exact h''
    · rw [if_neg hc]
      exact ⟨by rw [Array.size_append, sizeLine_eq]; exact hsz', h' s.toks (s.toks + 1)⟩
theorem bytes_one {Q : Value → Shared → Prop} {D : Addr} {k : Int} {t : Tok} {n : Nat} {rest : List (Addr × Obj)} (F : Fr h₀ L s.heap m) (N : News h₀ L s.heap ((D, W.listOf #[.int k t] n) :: rest)) (hh : A.handled = none) (hk : 0 ≤ k ∧ k ≤ 4)
    (h : ∀ h' t' tk', Fr h₀ L h' m → News h₀ L h' rest → Q (.bytes (byteArr [k]) t') { s with heap := h', toks := tk' }) : wpAny (model prog w) A (call (.type "bytes") [.ref D]) Q E s :=
  KBa.make_K (vs := [.int k t]) F N hh ⟨_, (N _ (.head _)).1, rfl, n, rfl⟩ (.cons _ _ .nil) (fun x hx => by rw [List.mem_singleton.mp hx]; omega) (by simp) fun h' t' tk' F' N' _ => h h' t' tk' F' fun p hp => N' p (.tail _ hp)
theorem room1 {w k : Int} : (low w (Int.toNat 4)).length + [k].length ≤ 16777216 := by rw [low_length]; have e : Int.toNat 4 = 4 := rfl; simp only [List.length_cons, List.length_nil]; omega
theorem room2 {w k x : Int} : (low w (Int.toNat 4) ++ [k]).length + (itemB x).length ≤ 16777216 := by
  have := itemB_len x
  rw [List.length_append, low_length]
  have e : Int.toNat 4 = 4 := rfl
  simp only [List.length_cons, List.length_nil]
  omega
theorem room3 {w k x : Int} {l : List Int} (h : l.length ≤ 300) : l.length + (low w (Int.toNat 4) ++ [k] ++ itemB x).length ≤ 16777216 := by
  have := @room2 w k x
  rw [List.length_append]
  have h2 := itemB_len x
  rw [List.length_append, low_length] at *
  have e : Int.toNat 4 = 4 := rfl
  simp only [List.length_cons, List.length_nil] at *
  omega
theorem seg_yes {ns ps : List Int} {k : Int} {o : List Int} (h : k + 1 < (ns.length : Int)) : byteArr (o ++ (low (atI ps (k + 1) - atI ps k) (Int.toNat 4) ++ [itemK (atI ns k)] ++ itemB (atI ns k))) = byteArr (o ++ segOf ns ps k) := by
  unfold segOf wayOf
  rw [if_pos h]
  rfl
theorem seg_no {ns ps : List Int} {k : Int} {o : List Int} (h : ¬ k + 1 < (ns.length : Int)) : byteArr (o ++ (low 0 (Int.toNat 4) ++ [itemK (atI ns k)] ++ itemB (atI ns k))) = byteArr (o ++ segOf ns ps k) := by
  unfold segOf wayOf
  rw [if_neg h]
  rfl
end
end SG3
section SG4
theorem own_sep {own rest : List (Addr × Obj)} {D : Addr} {o : Obj} (hsep : ∀ p ∈ rest, p.1 ≠ D) (hoff : OwnOff own (((D, o) :: rest).map (·.1))) : ∀ p ∈ rest ++ own, p.1 ≠ D := by
  intro p hp
  rcases List.mem_append.mp hp with hp | hp
  · exact hsep p hp
  · exact hoff p hp D (.head _)
def JOrd (ns : List Int) (nl il ol : Addr) (rest : List (Addr × Obj)) (i : Nat) (m : Str → Option Value) (nx : List (Addr × Obj)) : Prop :=
  m "numbers" = some (.ref nl) ∧ m "items" = some (.ref il) ∧ m "order" = some (.ref ol) ∧ ∃ os on, nx = (ol, W.listOf os.toArray on) :: rest ∧ IntsAre os (ordOf ns i)
def JPl (ns ord : List Int) (il ol pl : Addr) (rest : List (Addr × Obj)) (i : Nat) (m : Str → Option Value) (nx : List (Addr × Obj)) : Prop :=
  m "items" = some (.ref il) ∧ m "order" = some (.ref ol) ∧ m "places" = some (.ref pl) ∧ ∃ ps pn t, m "at" = some (.int (placeAt ns ord i) t) ∧ nx = (pl, W.listOf ps.toArray pn) :: rest ∧ IntsAre ps (placesOf ns ord i)
def JOc (ns ord ps : List Int) (il ol pl : Addr) (rest : List (Addr × Obj)) (i : Nat) (m : Str → Option Value) (nx : List (Addr × Obj)) : Prop :=
  m "items" = some (.ref il) ∧ m "order" = some (.ref ol) ∧ m "places" = some (.ref pl) ∧ ∃ t, m "octets" = some (.bytes (byteArr (octAt ns ord ps i)) t) ∧ nx = rest
section
variable {prog : Program} {w : World} {A : Around} {E : Value → Shared → Prop} {s : Shared} {h₀ : Heap} {L : Addr} {m₀ : Str → Option Value} {news : List (Addr × Obj)} {env : Env} {Q : Flow → Shared → Prop} {body : List Stmt} {ns : List Int} {nl il ol pl : Addr} {rest : List (Addr × Obj)}
theorem lay_loop1 {r : Addr} {t₀ u₀ v₀ : Tok} (hh : A.handled = none) (hr : IsRange s.heap r 0 (ns.length : Int) 1 t₀ u₀ v₀) (hn : ns.length ≤ 16) (F : Fr h₀ env.locals s.heap m₀) (N : News h₀ env.locals s.heap ((ol, W.listOf #[] 0) :: rest)) (hsep : ∀ p ∈ rest, p.1 ≠ ol)
    (e1 : m₀ "numbers" = some (.ref nl)) (e2 : m₀ "items" = some (.ref il)) (e3 : m₀ "order" = some (.ref ol))
    (turn : ∀ i t (u : Str → Option Value) os on h tk own, i < ns.length → IntsAre os (ordOf ns i) → (∀ p ∈ rest ++ own, p.1 ≠ ol) → OwnOff own (ol :: rest.map (·.1)) →
      Fr h₀ env.locals h (fun y => if y = "order" then some (.ref ol) else if y = "items" then some (.ref il) else if y = "numbers" then some (.ref nl) else if y = "k" then some (.int (i : Int) t) else u y) → News h₀ env.locals h ((ol, W.listOf os.toArray on) :: (rest ++ own)) →
      wpAny (model prog w) A (execs body env) (InvPostG h₀ env.locals (JOrd ns nl il ol rest (i + 1)) own { s with heap := h, toks := tk } Q) E { s with heap := h, toks := tk })
    (done : ∀ (u : Str → Option Value) os on h tk, IntsAre os (ordOf ns ns.length) → Fr h₀ env.locals h (fun y => if y = "order" then some (.ref ol) else if y = "items" then some (.ref il) else u y) → News h₀ env.locals h ((ol, W.listOf os.toArray on) :: rest) → Q .next { s with heap := h, toks := tk }) :
    wpAny (model prog w) A (pyIter (.ref r)) (fun it s₂ => LoopAtV prog w A h₀ env "k" body Q E it s₂) E s := by
  refine own_range (n := ns.length) (JOrd ns nl il ol rest) hh hr (small_one (by decide) (by decide) (by omega) (by omega)) (rangeSize_nat _ _) F N ⟨e1, e2, e3, [], 0, rfl, .nil⟩ ?_ ?_
  · rintro i t m₁ nx h tk own hi hoff ⟨d1, d2, d3, os, on, rfl, ho⟩ F₁ N₁
    rw [Int.zero_add] at F₁
    refine turn i t m₁ os on h tk own hi ho (own_sep hsep hoff) hoff ?_ N₁
    exact fr_put (fr_put (fr_put F₁ ((if_neg (by decide)).trans d1)) ((if_neg (by decide)).trans ((if_neg (by decide)).trans d2))) ((if_neg (by decide)).trans ((if_neg (by decide)).trans ((if_neg (by decide)).trans d3)))
  · rintro m₁ nx h tk ⟨d1, d2, d3, os, on, rfl, ho⟩ F₁ N₁
    exact done m₁ os on h tk ho (fr_put (fr_put F₁ d2) ((if_neg (by decide)).trans d3)) N₁
theorem ord_end {i : Nat} {t : Tok} {x : Int} {os : List Value} {on : Nat} {m' : Str → Option Value} {own : List (Addr × Obj)} {h' : Heap} {tk' : Nat} (ho : IntsAre os (ordOf ns i)) (F : Fr h₀ L h' m') (N : News h₀ L h' ((ol, W.listOf (kl_ins os x (.int (i : Int) t)).toArray (on + 1)) :: (rest ++ own)))
    (hoff : OwnOff own (ol :: rest.map (·.1))) (hx : 0 ≤ x) (ex : x = ((ns.getD i 0).fdiv 3).fmod ((i : Int) + 1)) (d1 : m' "numbers" = some (.ref nl)) (d2 : m' "items" = some (.ref il)) (d3 : m' "order" = some (.ref ol)) :
    InvEndG h₀ L (JOrd ns nl il ol rest (i + 1)) own s { s with heap := h', toks := tk' } := by
  have hi := ints_ins ho hx (i : Int) t
  subst ex
  exact InvEndG.intro F N (nx := (ol, W.listOf (kl_ins os _ (.int (i : Int) t)).toArray (on + 1)) :: rest) ⟨d1, d2, d3, _, _, rfl, hi⟩ hoff (fun p hp => by
    rcases List.mem_cons.mp hp with rfl | hp
    · exact .head _
    · exact .tail _ (List.mem_append.mpr (.inl hp))) (fun p hp => .tail _ (List.mem_append.mpr (.inr hp)))
theorem ints_at {vs : List Value} {ks : List Int} (hi : IntsAre vs ks) {i : Nat} {v : Value} (h : vs[i]? = some v) : i < ks.length ∧ ∃ t, v = .int (ks.getD i 0) t := by
  have hl : i < ks.length := by rw [← hi.length]; exact (List.getElem?_eq_some_iff.mp h).1
  obtain ⟨t, hx⟩ := hi.get i (ks[i]'hl) (List.getElem?_eq_getElem hl)
  refine ⟨hl, t, ?_⟩
  rw [h] at hx
  rw [Option.some.inj hx]
  simp [List.getD, List.getElem?_eq_getElem hl]
theorem lay_loop2 {os : List Value} {on : Nat} {ps : List Value} {pn : Nat} {t4 : Tok} (hh : A.handled = none) (hn : ns.length ≤ 16) (ho : IntsAre os (ordOf ns ns.length)) (hp0 : IntsAre ps (List.replicate ns.length 0)) (F : Fr h₀ env.locals s.heap m₀)
    (N : News h₀ env.locals s.heap ((pl, W.listOf ps.toArray pn) :: rest)) (hm : (ol, W.listOf os.toArray on) ∈ rest) (hsep : ∀ p ∈ rest, p.1 ≠ pl)
    (e1 : m₀ "items" = some (.ref il)) (e2 : m₀ "order" = some (.ref ol)) (e3 : m₀ "places" = some (.ref pl)) (e4 : m₀ "at" = some (.int 4 t4))
    (turn : ∀ i k t (u : Str → Option Value) ps pn ta h tk own, (0 ≤ k ∧ k < (ns.length : Int)) → k = (ordOf ns ns.length).getD i 0 → IntsAre ps (placesOf ns (ordOf ns ns.length) i) → (∀ p ∈ rest ++ own, p.1 ≠ pl) → OwnOff own (pl :: rest.map (·.1)) →
      Fr h₀ env.locals h (fun y => if y = "at" then some (.int (placeAt ns (ordOf ns ns.length) i) ta) else if y = "places" then some (.ref pl) else if y = "order" then some (.ref ol) else if y = "items" then some (.ref il) else if y = "k" then some (.int k t) else u y) →
      News h₀ env.locals h ((pl, W.listOf ps.toArray pn) :: (rest ++ own)) →
      wpAny (model prog w) A (execs body env) (InvPostG h₀ env.locals (fun m' nx => (ol, W.listOf os.toArray on) ∈ nx ∧ JPl ns (ordOf ns ns.length) il ol pl rest (i + 1) m' nx) own { s with heap := h, toks := tk } Q) E { s with heap := h, toks := tk })
    (done : ∀ (u : Str → Option Value) ps pn h tk, IntsAre ps (placesOf ns (ordOf ns ns.length) ns.length) → Fr h₀ env.locals h (fun y => if y = "places" then some (.ref pl) else if y = "order" then some (.ref ol) else if y = "items" then some (.ref il) else u y) → News h₀ env.locals h ((pl, W.listOf ps.toArray pn) :: rest) → Q .next { s with heap := h, toks := tk }) :
    wpAny (model prog w) A (pyIter (.ref ol)) (fun it s₂ => LoopAtV prog w A h₀ env "k" body Q E it s₂) E s := by
  have hlo : os.length = ns.length := by rw [ho.length, ordOf_length]
  refine kdl_iter (nn := on) (vs := os) (JPl ns (ordOf ns ns.length) il ol pl rest) hh (.tail _ hm) F N ⟨e1, e2, e3, ps, pn, t4, e4, rfl, hp0⟩ ?_ ?_
  · rintro i v m₁ nx h tk own hv hoff _ ⟨d1, d2, d3, ps', pn', ta, d4, rfl, hp⟩ F₁ N₁
    obtain ⟨hi, t, rfl⟩ := ints_at ho hv
    rw [ordOf_length] at hi
    refine turn i _ t m₁ ps' pn' ta h tk own (ord_at hi) rfl hp (own_sep hsep hoff) hoff ?_ N₁
    exact fr_put (fr_put (fr_put (fr_put F₁ ((if_neg (by decide)).trans d1)) ((if_neg (by decide)).trans ((if_neg (by decide)).trans d2))) ((if_neg (by decide)).trans ((if_neg (by decide)).trans ((if_neg (by decide)).trans d3)))) ((if_neg (by decide)).trans ((if_neg (by decide)).trans ((if_neg (by decide)).trans ((if_neg (by decide)).trans d4))))
  · rintro m₁ nx h tk ⟨d1, d2, d3, ps', pn', ta, d4, rfl, hp⟩ F₁ N₁
    rw [hlo] at hp
    exact done m₁ ps' pn' h tk hp (fr_put (fr_put (fr_put F₁ d1) ((if_neg (by decide)).trans d2)) ((if_neg (by decide)).trans ((if_neg (by decide)).trans d3))) N₁
theorem pl_end {os : List Value} {on : Nat} {i : Nat} {k : Int} {t ta : Tok} {ps : List Value} {pn : Nat} {a : Int} {m' : Str → Option Value} {own : List (Addr × Obj)} {ord : List Int} {h' : Heap} {tk' : Nat} (hm : (ol, W.listOf os.toArray on) ∈ rest) (hk : k = ord.getD i 0) (hp : IntsAre ps (placesOf ns ord i)) (F : Fr h₀ L h' m') (N : News h₀ L h' ((pl, W.listOf (ps.set k.toNat (.int (placeAt ns ord i) t)).toArray pn) :: (rest ++ own)))
    (hoff : OwnOff own (pl :: rest.map (·.1))) (d1 : m' "items" = some (.ref il)) (d2 : m' "order" = some (.ref ol)) (d3 : m' "places" = some (.ref pl)) (d4 : m' "at" = some (.int a ta)) (ea : a = placeAt ns ord i + (5 + ((itemB (atI ns k)).length : Int))) :
    InvEndG h₀ L (fun m' nx => (ol, W.listOf os.toArray on) ∈ nx ∧ JPl ns ord il ol pl rest (i + 1) m' nx) own s { s with heap := h', toks := tk' } := by
  have hi := ints_set hp k.toNat (placeAt ns ord i) t
  subst hk ea
  exact InvEndG.intro F N (nx := (pl, W.listOf (ps.set _ (.int (placeAt ns ord i) t)).toArray pn) :: rest) ⟨.tail _ hm, d1, d2, d3, _, _, _, d4, rfl, hi⟩ hoff (fun p hp => by
    rcases List.mem_cons.mp hp with rfl | hp
    · exact .head _
    · exact .tail _ (List.mem_append.mpr (.inl hp))) (fun p hp => .tail _ (List.mem_append.mpr (.inr hp)))
theorem lay_loop3 {os : List Value} {on : Nat} {ps : List Int} {to : Tok} (hh : A.handled = none) (hn : ns.length ≤ 16) (ho : IntsAre os (ordOf ns ns.length)) (F : Fr h₀ env.locals s.heap m₀)
    (N : News h₀ env.locals s.heap rest) (hm : (ol, W.listOf os.toArray on) ∈ rest)
    (e1 : m₀ "items" = some (.ref il)) (e2 : m₀ "order" = some (.ref ol)) (e3 : m₀ "places" = some (.ref pl)) (e4 : m₀ "octets" = some (.bytes (byteArr (octAt ns (ordOf ns ns.length) ps 0)) to))
    (turn : ∀ i k t (u : Str → Option Value) to h tk own, (0 ≤ k ∧ k < (ns.length : Int)) → k = (ordOf ns ns.length).getD i 0 → (octAt ns (ordOf ns ns.length) ps i).length ≤ 300 → OwnOff own (rest.map (·.1)) →
      Fr h₀ env.locals h (fun y => if y = "octets" then some (.bytes (byteArr (octAt ns (ordOf ns ns.length) ps i)) to) else if y = "places" then some (.ref pl) else if y = "order" then some (.ref ol) else if y = "items" then some (.ref il) else if y = "k" then some (.int k t) else u y) →
      News h₀ env.locals h (rest ++ own) →
      wpAny (model prog w) A (execs body env) (InvPostG h₀ env.locals (fun m' nx => (ol, W.listOf os.toArray on) ∈ nx ∧ JOc ns (ordOf ns ns.length) ps il ol pl rest (i + 1) m' nx) own { s with heap := h, toks := tk } Q) E { s with heap := h, toks := tk })
    (done : ∀ (u : Str → Option Value) to h tk, Fr h₀ env.locals h (fun y => if y = "octets" then some (.bytes (byteArr (octAt ns (ordOf ns ns.length) ps ns.length)) to) else if y = "places" then some (.ref pl) else if y = "items" then some (.ref il) else u y) → News h₀ env.locals h rest → Q .next { s with heap := h, toks := tk }) :
    wpAny (model prog w) A (pyIter (.ref ol)) (fun it s₂ => LoopAtV prog w A h₀ env "k" body Q E it s₂) E s := by
  have hlo : os.length = ns.length := by rw [ho.length, ordOf_length]
  refine kdl_iter (nn := on) (vs := os) (JOc ns (ordOf ns ns.length) ps il ol pl rest) hh hm F N ⟨e1, e2, e3, to, e4, rfl⟩ ?_ ?_
  · rintro i v m₁ nx h tk own hv hoff _ ⟨d1, d2, d3, ta, d4, rfl⟩ F₁ N₁
    obtain ⟨hi, t, rfl⟩ := ints_at ho hv
    rw [ordOf_length] at hi
    have hoc := octAt_len ns (ordOf ns ns.length) ps i
    refine turn i _ t m₁ ta h tk own (ord_at hi) rfl (by omega) hoff ?_ N₁
    exact fr_put (fr_put (fr_put (fr_put F₁ ((if_neg (by decide)).trans d1)) ((if_neg (by decide)).trans ((if_neg (by decide)).trans d2))) ((if_neg (by decide)).trans ((if_neg (by decide)).trans ((if_neg (by decide)).trans d3)))) ((if_neg (by decide)).trans ((if_neg (by decide)).trans ((if_neg (by decide)).trans ((if_neg (by decide)).trans d4))))
  · rintro m₁ nx h tk ⟨d1, d2, d3, ta, d4, rfl⟩ F₁ N₁
    rw [hlo] at d4
    exact done m₁ ta h tk (fr_put (fr_put (fr_put F₁ d1) ((if_neg (by decide)).trans d3)) ((if_neg (by decide)).trans ((if_neg (by decide)).trans d4))) N₁
theorem oc_end {os : List Value} {on : Nat} {i : Nat} {k : Int} {t : Tok} {ps : List Int} {oc : Array UInt8} {m' : Str → Option Value} {own news' : List (Addr × Obj)} {ord : List Int} {h' : Heap} {tk' : Nat} (hm : (ol, W.listOf os.toArray on) ∈ rest) (hk : k = ord.getD i 0) (F : Fr h₀ L h' m') (N : News h₀ L h' news') (hs : ∀ q ∈ rest ++ own, q ∈ news')
    (hoff : OwnOff own (rest.map (·.1))) (d1 : m' "items" = some (.ref il)) (d2 : m' "order" = some (.ref ol)) (d3 : m' "places" = some (.ref pl)) (d4 : m' "octets" = some (.bytes oc t)) (eo : oc = byteArr (octAt ns ord ps i ++ segOf ns ps k)) :
    InvEndG h₀ L (fun m' nx => (ol, W.listOf os.toArray on) ∈ nx ∧ JOc ns ord ps il ol pl rest (i + 1) m' nx) own s { s with heap := h', toks := tk' } := by
  subst hk eo
  exact InvEndG.intro F N (nx := rest) ⟨hm, d1, d2, d3, _, d4, rfl⟩ hoff (fun p hp => hs p (List.mem_append.mpr (.inl hp))) (fun p hp => hs p (List.mem_append.mpr (.inr hp)))
end
end SG4
section SG2
variable {w : World} {p : Program} {loose : List Str} {mean : ExcName → Option Value} {mg mb : Str → Option Value}
  {dp un : Nat} {gd : Option (List Code)} {cn : Str} {cs : Scope} {a : Addr} {ccd : Value} {cl : List (Str × Addr)} {outer : List Env} {A₀ : Around} {base h₀ : Heap} {L : Addr} {m : Str → Option Value} {s : Shared} {Q E : Value → Shared → Prop}
theorem in_at70 {ns : List Int} {x : Int} (h : x ∈ ns) (hin : ∀ x ∈ ns, 0 ≤ x ∧ x < 2 ^ 70) : 0 ≤ x ∧ x < 2 ^ 70 := hin x h
theorem ints_fit16 {vs : List Value} {ns : List Int} (h : IntsAre vs ns) (hl : ns.length ≤ 16) : vs.toArray.size ≤ sizeLine := by
  rw [List.size_toArray, h.length]; exact Nat.le_trans hl (by decide)
theorem lay_end {I C D t : Addr} {oI oC oD : Obj} {S news : List (Addr × Obj)} {k : Int} {tk tb : Tok} {v : Value} {h' : Heap} {tk' : Nat} (F : Fr h₀ L h' m) (N : News h₀ L h' ((t, tup3 (itemK k) tk v (itemB k) tb) :: (I, oI) :: (C, oC) :: (D, oD) :: (S ++ news)))
    (hd : ∀ nw, DatIn nw v (itemV k)) (hl : ∀ q ∈ ((I, oI) :: (C, oC) :: (D, oD) :: (S ++ news) : List (Addr × Obj)), q.1 < t) (off : LCg.Off3 I C D (S ++ news)) :
    LCg.CompEnd h₀ L m s I oI C oC D oD (fun _ => True) (Grew S news (itemD k)) (.ref t) { s with heap := h', toks := tk' } := by
  have h1 : @LT.lt Nat _ I t := hl (I, oI) (.head _)
  have h2 : @LT.lt Nat _ C t := hl (C, oC) (.tail _ (.head _))
  have h3 : @LT.lt Nat _ D t := hl (D, oD) (.tail _ (.tail _ (.head _)))
  refine LCg.CompEnd.intro F N ((t, tup3 (itemK k) tk v (itemB k) tb) :: (S ++ news)) ?_ ⟨⟨neN (by omega), neN (by omega), neN (by omega)⟩, off⟩ trivial ⟨_, rfl, ?_, fun p hp => hl p (.tail _ (.tail _ (.tail _ hp)))⟩
  · intro p hp
    simp only [List.mem_cons] at hp ⊢
    rcases hp with h | h | h | h | h <;> simp [h]
  · exact .tuple (vs := [.int (itemK k) tk, v, .bytes (byteArr (itemB k)) tb]) (.head _) (.cons (.int _ _) (.cons (hd _) (.cons (.bytes _ _) .nil)))
theorem datAll_len {S : List (Addr × Obj)} {ys : List Value} {ns : List Int} {g : Int → Dat} (h : DatAll S ys (ns.map g)) : ys.length = ns.length := by rw [h.length, List.length_map]
theorem lt_sep {d : Addr} : ∀ {l : List (Addr × Obj)}, AllLt d l → ∀ p ∈ l, p.1 ≠ d
  | [], _, _, h => nomatch h
  | q :: _, h, p, hp => by
    rcases List.mem_cons.mp hp with rfl | hp
    · exact Nat.ne_of_lt h.1
    · exact lt_sep h.2 p hp
theorem lt_sep1 {d x : Addr} {o : Obj} {l : List (Addr × Obj)} (h : x < d ∧ AllLt d l) : ∀ p ∈ (x, o) :: l, p.1 ≠ d := lt_sep (l := (x, o) :: l) h
theorem atI_in {ns : List Int} (hin : ∀ x ∈ ns, 0 ≤ x ∧ x < 2 ^ 70) {i : Nat} (h : i < ns.length) : 0 ≤ atI ns (i : Int) ∧ atI ns (i : Int) < 2 ^ 70 := by
  have e : atI ns (i : Int) = ns[i]'h := by simp [atI, List.getD, List.getElem?_eq_getElem h]
  rw [e]
  exact hin _ (List.getElem_mem _)
theorem fmod_small {x : Int} {i : Nat} (h : i < 16) : 0 ≤ x.fmod ((i : Int) + 1) ∧ x.fmod ((i : Int) + 1) < 100 := by
  have h1 := Int.fmod_nonneg_of_pos x (show (0 : Int) < (i : Int) + 1 by omega)
  have h2 := Int.fmod_lt_of_pos x (show (0 : Int) < (i : Int) + 1 by omega)
  omega
theorem lt_sep3 {d x y z : Addr} {o o' o'' : Obj} {l : List (Addr × Obj)} (h : x < d ∧ y < d ∧ z < d ∧ AllLt d l) : ∀ p ∈ (x, o) :: (y, o') :: (z, o'') :: l, p.1 ≠ d := lt_sep (l := (x, o) :: (y, o') :: (z, o'') :: l) h
theorem rep_zero {n : Nat} {vs : List Value} (h : IntsAre vs (List.replicate ((n : Int)).toNat [0]).flatten) : IntsAre vs (List.replicate n 0) := by
  have e : (List.replicate ((n : Int)).toNat [(0 : Int)]).flatten = List.replicate n 0 := by
    rw [Int.toNat_natCast]
    clear h
    induction n with
    | zero => rfl
    | succ n ih => rw [List.replicate_succ, List.flatten_cons, ih]; rfl
  rw [e] at h
  exact h
theorem itemB_sz {x : Int} : (byteArr (itemB x)).size ≤ 12 := by rw [byteArr_size]; exact itemB_len x
def ordN (ns : List Int) : List Int := ordOf ns ns.length
def placesN (ns : List Int) : List Int := placesOf ns (ordN ns) ns.length
def octN (ns : List Int) : List Int := octAt ns (ordN ns) (placesN ns) ns.length
def LayRet (h₀ : Heap) (L : Addr) (m : Str → Option Value) (news : List (Addr × Obj)) (s : Shared) (Q : Value → Shared → Prop) (ns : List Int) : Prop :=
  ∀ t il pl ivs pvs nI nP tb S h' tk', Fr h₀ L h' m → News h₀ L h' ((t, ({ cls := .type "tuple", data := .seq [.ref il, .ref pl, .bytes (byteArr (octN ns)) tb].toArray } : Obj)) :: (pl, W.listOf pvs.toArray nP) :: (il, W.listOf ivs.toArray nI) :: (S ++ news)) →
    DatAll S ivs (ns.map itemD) → IntsAre pvs (placesN ns) → (∀ q ∈ news, t ≠ q.1 ∧ pl ≠ q.1 ∧ il ≠ q.1) → (∀ q ∈ news, ∀ p ∈ S, p.1 ≠ q.1) → Q (.ref t) { s with heap := h', toks := tk' }
theorem off1_mem {D : Addr} : ∀ {l : List (Addr × Obj)}, LCg.Off1 D l → ∀ p ∈ l, p.1 ≠ D
  | [], _, _, h => nomatch h
  | _ :: _, x, p, h => by
    rcases List.mem_cons.mp h with rfl | h
    · exact x.1
    · exact off1_mem x.2 p h
theorem lay_fin {news S : List (Addr × Obj)} {ns : List Int} {t il pl x1 x2 : Addr} {o1 o2 : Obj} {ivs pvs : List Value} {nP : Nat} {tb : Tok} {h' : Heap} {tk' : Nat} (hret : LayRet h₀ L m news s Q ns) (F : Fr h₀ L h' m)
    (N : News h₀ L h' ((t, ({ cls := .type "tuple", data := .seq [.ref il, .ref pl, .bytes (byteArr (octN ns)) tb].toArray } : Obj)) :: (pl, W.listOf pvs.toArray nP) :: (x1, o1) :: (x2, o2) :: (il, LCg.lst ivs) :: (S ++ news)))
    (hD : DatAll S ivs (ns.map itemD)) (hp : IntsAre pvs (placesN ns)) (hlS : ∀ q ∈ news, ∀ p ∈ S, p.1 ≠ q.1) (ho : LCg.Off1 il (S ++ news)) (l1 : pl < t ∧ x1 < t ∧ x2 < t ∧ il < t ∧ AllLt t (S ++ news)) (l2 : x1 < pl ∧ x2 < pl ∧ il < pl ∧ AllLt pl (S ++ news)) :
    Q (.ref t) { s with heap := h', toks := tk' } := by
  refine hret t il pl ivs pvs ivs.length nP tb S h' tk' F (cb_drop N ?_) hD hp ?_ hlS
  · intro p hp
    simp only [List.mem_cons] at hp ⊢
    rcases hp with h | h | h | h <;> simp [h]
  · intro q hq
    have hq' : q ∈ S ++ news := List.mem_append.mpr (.inr hq)
    exact ⟨(lt_sep l1.2.2.2.2 q hq').symm, (lt_sep l2.2.2.2 q hq').symm, (off1_mem ho q hq').symm⟩
local macro_rules | `(tactic| walk_at "mine enterC") => `(tactic| (refine' code_defC ?k1 ?k2 ?k3 ?k4 ?k5 ?kA ?kF ?kK ?k6 ?k7 ?k8 ?k9 ?kB ?kD ?_ ?c2 ?c3 ?c4; (case kA => exact rfl); (case kF => exact rfl); (case kK => assumption); (case k1 => k_asm); (case k2 => k_asm); (case k3 => k_asm); (case k4 => k_asm); (case k5 => k_asm); (case k6 => k_is); (case k7 => k_is); (case k8 => ktr_room); (case k9 => exact BindsTo.of_eq rfl); (case kB => exact rfl); (case kD => decide +kernel); (case c2 => exact rfl); (case c3 => exact rfl); (case c4 => exact rfl); k_whole; intro g' L' h' tk' cells' FG' F' N' Y' B' X' T' l1; (try k_lt l1); k_cells Y'; (try simp only [List.cons_append, List.nil_append] at N'); (try dsimp only); (try k_lift B'); (try k_fold)))
local macro_rules | `(tactic| walk_at "call ref") => `(tactic| ((with_reducible show wpAny _ _ (call (Value.ref 96) [Value.int _ _, Value.int _ _]) _ _ _); k_dflt (refine' low_call ?hw ?kB ?kF ?kX ?kN ?kT ?kK ?kd ?ku ?_; (case hw => l_fact); (case kB => k_asm); (case kF => k_asm); (case kX => k_asm); (case kN => k_asm); (case kT => k_asm); (case kK => first | exact rfl | assumption); (case kd => ktr_room); (case ku => ktr_units)); intro t' h' tk' F' N'; (try k_sweep)))
local macro_rules | `(tactic| walk_at "call ref") => `(tactic| (k_here; (with_reducible show wpAny _ _ (call (Value.ref 101) [Value.int _ _]) _ _ _); k_dflt (refine' item_call ?hx ?kB ?kF ?kX ?kN ?kT ?kK ?kd ?ku ?_; (case hx => first | assumption | l_fact); (case kB => k_asm); (case kF => k_asm); (case kX => k_asm); (case kN => k_asm); (case kT => k_asm); (case kK => first | exact rfl | assumption); (case kd => ktr_room); (case ku => ktr_units)); intro t' tk' v' tb' h' tk2' F' N' hd' hl'))
local macro_rules | `(tactic| walk_at "exec Assign cons ListComp") => `(tactic| (k_here; k_dflt (refine LCg.Assign_ListComp_U (F₀ := by k_asm) (by rfl) (by with_unfolding_all rfl) (by with_unfolding_all rfl) (by decide) (by rfl) (by decide) (by rfl) (by rfl) (by rfl) ?_)))
local macro_rules | `(tactic| walk_at "CompSrc") => `(tactic| (k_here; (with_reducible rename IntsAre _ _ => hiX); k_dflt (refine LCg.CompSrc.ledger (by rfl) (by k_asm) (by k_asm) (by assumption) (ints_fit16 hiX (by omega)) ?_; intro g'; (refine' rest_grow hiX itemD (.inr ⟨_, by assumption, rfl, _, rfl⟩) (fun k' t' I' oI' C' oC' D' m' ys' S' h' tk' E' hk' hC' hx' F' N' off' ne' => ?turn) (fun ys' S' hD' hlS' => ?fin)); (case' turn => have hkb := in_at70 hk' (by assumption)); (case' fin => have hly := datAll_len hD'))))
local macro_rules | `(tactic| walk_at "CompEnd") => `(tactic| (k_here; k_dflt exact lay_end (by assumption) (by assumption) (by assumption) (by assumption) (by assumption)))
local macro_rules | `(tactic| walk_at "call builtin:len") => `(tactic| (k_here; (with_reducible show wpAny _ _ (call (Value.builtin "len") [Value.ref _]) _ _ _); k_dflt (refine' len_own ?k1 ?k2 ?k3 ?k4 ?_; (case k1 => k_asm); (case k2 => k_mem); (case k3 => assumption); (case k4 => omega))))
local macro_rules | `(tactic| walk_at "exec For Name Call cons nil") => `(tactic| (k_here; (rename Fr _ _ _ _ => lF'); (with_unfolding_all refine' For_invVF lF' ?k1 ?k2 ?_; (case k1 => exact rfl); (case k2 => exact rfl); k_whole)))
local macro_rules | `(tactic| walk_at "exec For Name Name cons nil") => `(tactic| (k_here; (rename Fr _ _ _ _ => lF'); (with_unfolding_all refine' For_invVF lF' ?k1 ?k2 ?_; (case k1 => exact rfl); (case k2 => exact rfl); k_whole)))
local macro_rules | `(tactic| walk_at "mine loop1") => `(tactic| (k_here; (with_reducible rename IsRange _ _ _ _ _ _ _ _ => hR'); (with_reducible rename _ ∧ AllLt _ _ => hAl'); k_dflt (refine' lay_loop1 ?hh hR' (by omega) ?F ?N ?sep ?e1 ?e2 ?e3 ?turn ?done; (case hh => exact rfl); (case F => k_asm); (case N => k_asm); (case sep => exact lt_sep1 hAl'); (case e1 => exact rfl); (case e2 => exact rfl); (case e3 => exact rfl); (case' turn => intro i' t' u' os' on' h' tk' own' hi' ho' hsp' hof' F' N'; have hlo' := (ho'.length).trans (ordOf_length _ _); have hxb' := atI_in (by assumption) hi'); (case' done => intro u' os' on' h' tk' ho' F' N'))))
local macro_rules | `(tactic| k_mem) => `(tactic| first | assumption | exact List.mem_cons_self | (apply List.mem_cons_of_mem; k_mem) | (apply List.mem_append_left; k_mem) | (apply List.mem_append_right; k_mem))
local macro_rules | `(tactic| walk_at "subscriptTail") => `(tactic| (k_here; (with_reducible show wpAny _ _ (subscriptTail _ _ (Value.ref _) (Value.int _ _)) _ _ _); k_dflt (refine' item_own ?N ?hm ?hi ?hk ?hf ?_; (case N => k_asm); (case hm => k_mem); (case hi => assumption); (case hk => omega); (case hf => omega)); intro _))
local macro_rules | `(tactic| walk_at "call builtin:list.insert") => `(tactic| (k_here; (with_reducible show wpAny _ _ (call (Value.builtin _) [Value.ref _, Value.int _ _, _]) _ _ _); k_dflt (refine' insert_own ?F ?N ?sep ?hx ?hl ?_; (case F => k_asm); (case N => k_asm); (case sep => assumption); (case hx => exact fmod_small (by omega)); (case hl => omega)); intro h' F' N'))
local macro_rules | `(tactic| walk_at "mine loop2") => `(tactic| (k_here; (with_reducible rename IntsAre _ (List.flatten _) => hZ'); (with_reducible rename _ ∧ _ ∧ _ ∧ AllLt _ _ => hAl'); k_dflt (refine' lay_loop2 ?hh ?hn ?ho (rep_zero hZ') ?F ?N ?hm (lt_sep3 hAl') ?e1 ?e2 ?e3 ?e4 ?turn ?done; (case hh => exact rfl); (case F => k_asm); (case N => k_asm); (case hn => omega); (case ho => assumption); (case hm => k_mem); (case e1 => exact rfl); (case e2 => exact rfl); (case e3 => exact rfl); (case e4 => exact rfl); (case' turn => intro i' k' t' u' ps' pn' ta' h' tk' own' hk' hke' hp' hsp' hof' F' N'; have hlp' := (hp'.length).trans (placesOf_length _ _ _); have hlq' := hp'.length); (case' done => intro u' ps' pn' h' tk' hp' F' N'; have hlp' := (hp'.length).trans (placesOf_length _ _ _); have hlq' := hp'.length))))
local macro_rules | `(tactic| walk_at "InvEndG") => `(tactic| (k_here; k_dflt (refine' ord_end ?ho ?F ?N ?hoff ?hx ?ex ?d1 ?d2 ?d3; (case ho => assumption); (case F => k_asm); (case N => assumption); (case hoff => assumption); (case hx => exact (fmod_small (by omega)).1); (case ex => exact rfl); (case d1 => exact rfl); (case d2 => exact rfl); (case d3 => exact rfl))))
local macro_rules | `(tactic| walk_at "subscriptTail") => `(tactic| (k_here; (with_reducible show wpAny _ _ (subscriptTail _ _ (Value.ref _) (Value.int _ _)) _ _ _); k_dflt (refine' item_row ?N ?hm ?hd ?hk ?hf ?hS ?_; (case N => k_asm); (case hm => k_mem); (case hd => assumption); (case hk => omega); (case hf => omega); (case hS => first | (intro q hq; (try simp only [List.cons_append, List.append_assoc]); k_mem))); intro a' n' t1' v' t2' hm' hv'))
local macro_rules | `(tactic| walk_at "subscriptTail") => `(tactic| (k_here; (with_reducible show wpAny _ _ (subscriptTail _ _ (Value.ref _) (Value.int 0 _)) _ _ _); k_dflt (refine' tup_own (k := 0) ?N ?hm ?hx (by decide) rfl ?_; (case N => k_asm); (case hm => assumption); (case hx => exact rfl))))
local macro_rules | `(tactic| walk_at "subscriptTail") => `(tactic| (k_here; (with_reducible show wpAny _ _ (subscriptTail _ _ (Value.ref _) (Value.int 2 _)) _ _ _); k_dflt (refine' tup_own (k := 2) ?N ?hm ?hx (by decide) rfl ?_; (case N => k_asm); (case hm => assumption); (case hx => exact rfl))))
local macro_rules | `(tactic| walk_at "setItem ref int") => `(tactic| (k_here; k_dflt (refine' set_own ?F ?N ?sep ?hx ?hl ?_; (case F => k_asm); (case N => k_asm); (case sep => assumption); (case hx => omega); (case hl => omega)); intro h' F' N'))
local macro_rules | `(tactic| walk_at "call builtin:len") => `(tactic| (k_here; (with_reducible show wpAny _ _ (call (Value.builtin "len") [Value.bytes (byteArr (itemB _)) _]) _ _ _); (refine len_bytes (Nat.le_trans itemB_sz (by decide)) ?_)))
local macro_rules | `(tactic| walk_at "InvEndG") => `(tactic| (k_here; k_dflt (refine' pl_end ?hm ?hk ?hp ?F ?N ?hoff ?d1 ?d2 ?d3 ?d4 ?ea; (case N => assumption); (case F => k_asm); (case hp => assumption); (case hm => k_mem); (case hk => assumption); (case hoff => assumption); (case d1 => exact rfl); (case d2 => exact rfl); (case d3 => exact rfl); (case d4 => exact rfl); (case ea => rw [byteArr_size]))))
local macro_rules | `(tactic| walk_at "mine loop3") => `(tactic| (k_here; k_dflt (refine' lay_loop3 ?hh ?hn ?ho ?F ?N ?hm ?e1 ?e2 ?e3 ?e4 ?turn ?done; (case hh => exact rfl); (case F => k_asm); (case N => k_asm); (case ho => assumption); (case hn => omega); (case hm => k_mem); (case e1 => exact rfl); (case e2 => exact rfl); (case e3 => exact rfl); (case e4 => exact rfl); (case' turn => intro i' k' t' u' to' h' tk' own' hk' hke' hoc' hof' F' N'); (case' done => intro u' to' h' tk' F' N'))))
local macro_rules | `(tactic| walk_at "pyIter ref") => `(tactic| (k_here; (with_reducible show wpAny _ _ (pyIter (Value.ref _)) (fun _ _ => LoopAtV _ _ _ _ _ _ _ _ _ _ _) _ _); refine stop_in ?_))
local macro_rules | `(tactic| walk_at "call type:bytes") => `(tactic| (k_here; (with_reducible show wpAny _ _ (call (Value.type "bytes") [Value.ref _]) _ _ _); k_dflt (refine' bytes_one ?F ?N ?hh ?hk ?_; (case F => k_asm); (case N => k_asm); (case hh => exact rfl); (case hk => exact itemK_in _)); intro h' t' tk' F' N'))
local macro_rules | `(tactic| walk_at "binaryOp Add bytes bytes") => `(tactic| (k_here; (with_reducible show wpAny _ _ (binaryOp Operator.Add (Value.bytes (byteArr _) _) (Value.bytes (byteArr _) _)) _ _ _); k_dflt (first | refine add_low room1 ?_ | refine add_low room2 ?_); intro _ _))
local macro_rules | `(tactic| walk_at "inplaceOp Add bytes bytes") => `(tactic| (k_here; (with_reducible show wpAny _ _ (inplaceOp Operator.Add (Value.bytes (byteArr _) _) (Value.bytes (byteArr _) _)) _ _ _); k_dflt (refine iadd_low (room3 (by assumption)) ?_); intro _ _))
local macro_rules | `(tactic| walk_at "InvEndG") => `(tactic| (k_here; k_dflt (refine' oc_end ?hm ?hk ?F ?N ?hs ?hoff ?d1 ?d2 ?d3 ?d4 ?eo; (case hk => assumption); (case F => k_asm); (case N => assumption); (case hm => k_mem); (case hs => (intro q hq; k_mem)); (case hoff => assumption); (case d1 => exact rfl); (case d2 => exact rfl); (case d3 => exact rfl); (case d4 => exact rfl); (case eo => first | exact seg_yes (by omega) | exact seg_no (by omega)))))
theorem lay_call {news : List (Addr × Obj)} {nl : Addr} {vs : List Value} {ns : List Int} {nn : Nat} (hi : IntsAre vs ns) (hin : ∀ x ∈ ns, 0 ≤ x ∧ x < 2 ^ 70) (hlen : 6 ≤ ns.length ∧ ns.length ≤ 16) (B : Below A₀ base outer h₀) (F : Fr h₀ L s.heap m) (X : (hd.heap_39 w.params).In h₀) (hm : (nl, W.listOf vs.toArray nn) ∈ news) (N : News h₀ L s.heap news) (T : Top p loose mean mg mb h₀) (hk : cs.kind = .function)
   (hdp : dp + 3 < recursionLimit) (hun : un + 32 < cLine)
   (hret : LayRet h₀ L m news s Q ns) :
   wpAny (model PG w) (ktrTop dp un gd cn cs L a ccd cl outer) (call (.ref 106) [.ref nl]) Q E s := by
  refine wpAny_call ?_
  k_dflt (first | cell_enter | walk_at "mine enterC")
  w_strict k_steps
  unfold Stop
  walk_at "mine loop1"
  all_goals w_strict k_steps
  unfold Stop
  walk_at "mine loop2"
  all_goals w_strict k_steps
  unfold Stop
  walk_at "mine loop3"
  all_goals w_strict k_steps
  exact lay_fin hret (by assumption) (by assumption) (by assumption) (by assumption) (by assumption) (by assumption) (by assumption) (by assumption)
end SG2
section SH1
def needs : List Int := [2, 4, 8, 4, 4]
def namesL : List Str := ["uint2", "uint4", "uint8", "int4", "int4"]
def wordsS : Str := Str.ofString "not enough data in stream to read "
def nameAt (k : Int) : Str := namesL.getD k.toNat (Str.ofString "")
/-- what _law_due tells from item i on, j items left -/
def dueGo (ns ps : List Int) (cut : Int) : Nat → Nat → List Dat → List Dat × Str
  | 0, _, told => (told, "all")
  | j + 1, i, told =>
    if cut - atI ps (i : Int) - 5 < -1 then (told, Str.ofString "not enough data in stream to read int4")
    else if cut - atI ps (i : Int) - 5 < 0 then (told, Str.ofString "not enough data in stream to read uint1")
    else if cut - atI ps (i : Int) - 5 < atI needs (itemK (atI ns (i : Int))) then (told, wordsS ++ nameAt (itemK (atI ns (i : Int))))
    else if cut - atI ps (i : Int) - 5 < ((itemB (atI ns (i : Int))).length : Int) then (told, expMsg ((signsOf ((atI ns (i : Int)).fdiv 5)).length : Int) (cut - atI ps (i : Int) - 5 - 4))
    else dueGo ns ps cut j (i + 1) (told ++ [itemV (atI ns (i : Int))])
def dueOf (ns ps : List Int) (cut : Int) : List Dat × Str := if cut < 4 then ([], Str.ofString "not enough data in stream to read uint4") else dueGo ns ps cut ns.length 0 []
theorem kinds {x : Int} : itemK x = 0 ∧ (itemB x).length = 2 ∨ itemK x = 1 ∧ (itemB x).length = 4 ∨ itemK x = 2 ∧ (itemB x).length = 8 ∨ itemK x = 3 ∧ (itemB x).length = 4 ∨ itemK x = 4 ∧ (itemB x).length = 4 + (signsOf (x.fdiv 5)).length ∧ itemV x = .str (textOf (signsOf (x.fdiv 5))) := by
  by_cases h0 : x.fmod 5 = 0
  · exact .inl (by simp [itemK, itemB, h0, low_length])
  by_cases h1 : x.fmod 5 = 1
  · exact .inr (.inl (by simp [itemK, itemB, h1, low_length]))
  by_cases h2 : x.fmod 5 = 2
  · exact .inr (.inr (.inl (by simp [itemK, itemB, h2, low_length])))
  by_cases h3 : x.fmod 5 = 3
  · exact .inr (.inr (.inr (.inl (by simp [itemK, itemB, h3, low_length]))))
  · exact .inr (.inr (.inr (.inr (by simp [itemK, itemB, itemV, h0, h1, h2, h3, low_length]))))
theorem signs_len (x : Int) : (signsOf x).length ≤ 3 := by
  unfold signsOf
  rw [low_length]
  exact fmod4 x
def JDue (ns : List Int) (il pl tl : Addr) (cut : Int) (tc tw : Tok) (S rest : List (Addr × Obj)) (ps : List Int) (i : Nat) (m : Str → Option Value) (nx : List (Addr × Obj)) : Prop :=
  m "items" = some (.ref il) ∧ m "places" = some (.ref pl) ∧ m "cut" = some (.int cut tc) ∧ m "words" = some (.str "not enough data in stream to read " tw) ∧ m "told" = some (.ref tl) ∧
    ∃ tvs tn ds, nx = (tl, W.listOf tvs.toArray tn) :: rest ∧ DatAll S tvs ds ∧ tvs.length = i ∧ dueOf ns ps cut = dueGo ns ps cut (ns.length - i) i ds
section
variable {prog : Program} {w : World} {A : Around} {E : Value → Shared → Prop} {s : Shared} {h₀ : Heap} {L : Addr} {m₀ : Str → Option Value} {env : Env} {Q : Flow → Shared → Prop} {body : List Stmt} {ns ps : List Int} {il pl tl : Addr} {cut : Int} {tc tw : Tok} {S rest : List (Addr × Obj)}
theorem due_loop {r : Addr} {t₀ u₀ v₀ : Tok} {n0 : Nat} (hh : A.handled = none) (hr : IsRange s.heap r 0 (ns.length : Int) 1 t₀ u₀ v₀) (hn : ns.length ≤ 16) (hc : ¬ cut < 4) (F : Fr h₀ env.locals s.heap m₀) (N : News h₀ env.locals s.heap ((tl, W.listOf #[] n0) :: rest)) (hsep : ∀ p ∈ rest, p.1 ≠ tl)
    (e1 : m₀ "items" = some (.ref il)) (e2 : m₀ "places" = some (.ref pl)) (e3 : m₀ "cut" = some (.int cut tc)) (e4 : m₀ "words" = some (.str "not enough data in stream to read " tw)) (e5 : m₀ "told" = some (.ref tl))
    (turn : ∀ i t (u : Str → Option Value) tvs tn ds h tk own, i < ns.length → DatAll S tvs ds → tvs.length = i → dueOf ns ps cut = dueGo ns ps cut (ns.length - i) i ds → (∀ p ∈ rest ++ own, p.1 ≠ tl) → OwnOff own (tl :: rest.map (·.1)) →
      Fr h₀ env.locals h (fun y => if y = "told" then some (.ref tl) else if y = "words" then some (.str "not enough data in stream to read " tw) else if y = "cut" then some (.int cut tc) else if y = "places" then some (.ref pl) else if y = "items" then some (.ref il) else if y = "k" then some (.int (i : Int) t) else u y) →
      News h₀ env.locals h ((tl, W.listOf tvs.toArray tn) :: (rest ++ own)) →
      wpAny (model prog w) A (execs body env) (InvPostG h₀ env.locals (JDue ns il pl tl cut tc tw S rest ps (i + 1)) own { s with heap := h, toks := tk } Q) E { s with heap := h, toks := tk })
    (done : ∀ (u : Str → Option Value) tvs tn h tk, DatAll S tvs (dueOf ns ps cut).1 → "all" = (dueOf ns ps cut).2 → Fr h₀ env.locals h (fun y => if y = "told" then some (.ref tl) else u y) → News h₀ env.locals h ((tl, W.listOf tvs.toArray tn) :: rest) → Q .next { s with heap := h, toks := tk }) :
    wpAny (model prog w) A (pyIter (.ref r)) (fun it s₂ => LoopAtV prog w A h₀ env "k" body Q E it s₂) E s := by
  refine own_range (n := ns.length) (JDue ns il pl tl cut tc tw S rest ps) hh hr (small_one (by decide) (by decide) (by omega) (by omega)) (rangeSize_nat _ _) F N ⟨e1, e2, e3, e4, e5, [], n0, [], rfl, .nil, rfl, by unfold dueOf; rw [if_neg hc]; rfl⟩ ?_ ?_
  · rintro i t m₁ nx h tk own hi hoff ⟨d1, d2, d3, d4, d5, tvs, tn, ds, rfl, hd, hl, he⟩ F₁ N₁
    rw [Int.zero_add] at F₁
    refine turn i t m₁ tvs tn ds h tk own hi hd hl he (own_sep hsep hoff) hoff ?_ N₁
    exact fr_put (fr_put (fr_put (fr_put (fr_put F₁ ((if_neg (by decide)).trans d1)) ((if_neg (by decide)).trans ((if_neg (by decide)).trans d2))) ((if_neg (by decide)).trans ((if_neg (by decide)).trans ((if_neg (by decide)).trans d3)))) ((if_neg (by decide)).trans ((if_neg (by decide)).trans ((if_neg (by decide)).trans ((if_neg (by decide)).trans d4))))) ((if_neg (by decide)).trans ((if_neg (by decide)).trans ((if_neg (by decide)).trans ((if_neg (by decide)).trans ((if_neg (by decide)).trans d5)))))
  · rintro m₁ nx h tk ⟨d1, d2, d3, d4, d5, tvs, tn, ds, rfl, hd, hl, he⟩ F₁ N₁
    rw [Nat.sub_self] at he
    have e1 : (dueOf ns ps cut).1 = ds := by rw [he]; rfl
    have e2 : (dueOf ns ps cut).2 = "all" := by rw [he]; rfl
    exact done m₁ tvs tn h tk (by rw [e1]; exact hd) e2.symm (fr_put F₁ d5) N₁
theorem due_step {i : Nat} {ds : List Dat} (hi : i < ns.length) : dueGo ns ps cut (ns.length - i) i ds =
    if cut - atI ps (i : Int) - 5 < -1 then (ds, Str.ofString "not enough data in stream to read int4")
    else if cut - atI ps (i : Int) - 5 < 0 then (ds, Str.ofString "not enough data in stream to read uint1")
    else if cut - atI ps (i : Int) - 5 < atI needs (itemK (atI ns (i : Int))) then (ds, wordsS ++ nameAt (itemK (atI ns (i : Int))))
    else if cut - atI ps (i : Int) - 5 < ((itemB (atI ns (i : Int))).length : Int) then (ds, expMsg ((signsOf ((atI ns (i : Int)).fdiv 5)).length : Int) (cut - atI ps (i : Int) - 5 - 4))
    else dueGo ns ps cut (ns.length - (i + 1)) (i + 1) (ds ++ [itemV (atI ns (i : Int))]) := by
  have e : ns.length - i = (ns.length - (i + 1)) + 1 := by omega
  rw [e]
  rfl
theorem due_end {i : Nat} {tvs : List Value} {tn : Nat} {ds : List Dat} {v : Value} {m' : Str → Option Value} {own : List (Addr × Obj)} {news' : List (Addr × Obj)} {h' : Heap} {tk' : Nat} (hi : i < ns.length) (hd : DatAll S tvs ds) (hl : tvs.length = i) (he : dueOf ns ps cut = dueGo ns ps cut (ns.length - i) i ds) (hv : DatIn S v (itemV (atI ns (i : Int))))
    (h1 : ¬ cut - atI ps (i : Int) - 5 < -1) (h2 : ¬ cut - atI ps (i : Int) - 5 < 0) (h3 : ¬ cut - atI ps (i : Int) - 5 < atI needs (itemK (atI ns (i : Int)))) (h4 : ¬ cut - atI ps (i : Int) - 5 < ((itemB (atI ns (i : Int))).length : Int))
    (F : Fr h₀ L h' m') (N : News h₀ L h' news') (hm : (tl, W.listOf (tvs.toArray.push v) tn) ∈ news') (hs : ∀ q ∈ rest ++ own, q ∈ news') (hoff : OwnOff own (tl :: rest.map (·.1)))
    (d1 : m' "items" = some (.ref il)) (d2 : m' "places" = some (.ref pl)) (d3 : m' "cut" = some (.int cut tc)) (d4 : m' "words" = some (.str "not enough data in stream to read " tw)) (d5 : m' "told" = some (.ref tl)) :
    InvEndG h₀ L (JDue ns il pl tl cut tc tw S rest ps (i + 1)) own s { s with heap := h', toks := tk' } := by
  rw [due_step hi, if_neg h1, if_neg h2, if_neg h3, if_neg h4] at he
  have e : tvs.toArray.push v = (tvs ++ [v]).toArray := by simp
  rw [e] at hm
  refine InvEndG.intro F N (nx := (tl, W.listOf (tvs ++ [v]).toArray tn) :: rest) ⟨d1, d2, d3, d4, d5, tvs ++ [v], tn, ds ++ [itemV (atI ns (i : Int))], rfl, hd.append (.one hv), by rw [List.length_append, hl]; rfl, he⟩ hoff (fun p hp => ?_) (fun p hp => hs p (List.mem_append.mpr (.inr hp)))
  rcases List.mem_cons.mp hp with rfl | hp
  · exact hm
  · exact hs p (List.mem_append.mpr (.inl hp))
end
section
variable {prog : Program} {w : World} {A : Around} {E : Value → Shared → Prop} {s : Shared} {h₀ : Heap} {L : Addr} {m : Str → Option Value} {news : List (Addr × Obj)} {Q : Value → Shared → Prop}
theorem len_value {S : List (Addr × Obj)} {v : Value} {x spare : Int} (hv : DatIn S v (itemV x)) (h1 : ¬ spare < atI needs (itemK x)) (h2 : spare < ((itemB x).length : Int)) (h : 4 ≤ spare → spare < 100 → ∀ t k, Q (.int ((signsOf (x.fdiv 5)).length : Int) t) { s with toks := k }) :
    wpAny (model prog w) A (call (.builtin "len") [v]) Q E s := by
  have hs := signs_len (x.fdiv 5)
  rcases @kinds x with ⟨h3, h4⟩ | ⟨h3, h4⟩ | ⟨h3, h4⟩ | ⟨h3, h4⟩ | ⟨h3, h4, h5⟩
  · rw [h3] at h1; rw [h4] at h2; have e4 : atI needs 0 = 2 := rfl; omega
  · rw [h3] at h1; rw [h4] at h2; have e4 : atI needs 1 = 4 := rfl; omega
  · rw [h3] at h1; rw [h4] at h2; have e4 : atI needs 2 = 8 := rfl; omega
  · rw [h3] at h1; rw [h4] at h2; have e4 : atI needs 3 = 4 := rfl; omega
  · rw [h5] at hv
    cases hv
    rw [h3] at h1
    have e4 : atI needs 4 = 4 := rfl
    have el : (textOf (signsOf (x.fdiv 5))).length = (signsOf (x.fdiv 5)).length := by simp [textOf, PySem.Str.length]
    refine P.len_str (by rw [el]; omega) ?_
    rw [el]
    exact h (by omega) (by omega) _ _
/-- an item of a written list of texts -/
theorem name_own {value slice : Expr} {l : Addr} {us : List Value} {xs : List Str} {n : Nat} {k : Int} {u : Tok} (N : News h₀ L s.heap news) (hm : (l, W.listOf us.toArray n) ∈ news) (hi : StrsAre us xs) (hk : 0 ≤ k ∧ k < (xs.length : Int)) (hf : xs.length ≤ 16)
    (h : ∀ t, Q (.str (xs.getD k.toNat (Str.ofString "")) t) s) (hs : subscripted slice false (.ref l) (.int k u) = operate [.ref l, .int k u] (getItem (.ref l) (.int k u)) := by with_unfolding_all rfl) :
    wpAny (model prog w) A (subscriptTail value slice (.ref l) (.int k u)) Q E s := by
  have hl : s.heap.IsList l us.toArray := ⟨_, (N _ hm).1, rfl, n, rfl⟩
  have hlt : k.toNat < xs.length := by omega
  obtain ⟨t, hx⟩ := hi.get k.toNat (xs[k.toNat]'hlt) (List.getElem?_eq_getElem hlt)
  have e : xs[k.toNat]'hlt = xs.getD k.toNat (Str.ofString "") := by simp [List.getD, List.getElem?_eq_getElem hlt]
  rw [e] at hx
  exact item_listR hl hk.1 (by omega) (by simpa using hx) (h t) hs
theorem append_own {D : Addr} {its : Array Value} {n : Nat} {v : Value} {rest : List (Addr × Obj)} (F : Fr h₀ L s.heap m) (N : News h₀ L s.heap ((D, W.listOf its n) :: rest)) (hsep : ∀ p ∈ rest, p.1 ≠ D) (hl : its.size ≤ 100)
    (h : ∀ h', Fr h₀ L h' m → News h₀ L h' ((D, W.listOf (its.push v) (n + 1)) :: rest) → Q .none { s with heap := h' }) : wpAny (model prog w) A (call (.builtin "list.append") [.ref D, v]) Q E s :=
  append_K F N (.head hsep) h (Nat.le_trans hl (by decide))
end
section
variable {ns ps : List Int} {cut : Int} {i : Nat} {ds : List Dat}
theorem due_r1 (he : dueOf ns ps cut = dueGo ns ps cut (ns.length - i) i ds) (hi : i < ns.length) (h1 : cut - atI ps (i : Int) - 5 < -1) : dueOf ns ps cut = (ds, Str.ofString "not enough data in stream to read int4") := by
  rw [he, due_step hi, if_pos h1]
theorem due_r2 (he : dueOf ns ps cut = dueGo ns ps cut (ns.length - i) i ds) (hi : i < ns.length) (h1 : ¬ cut - atI ps (i : Int) - 5 < -1) (h2 : cut - atI ps (i : Int) - 5 < 0) : dueOf ns ps cut = (ds, Str.ofString "not enough data in stream to read uint1") := by
  rw [he, due_step hi, if_neg h1, if_pos h2]
theorem due_r3 (he : dueOf ns ps cut = dueGo ns ps cut (ns.length - i) i ds) (hi : i < ns.length) (h1 : ¬ cut - atI ps (i : Int) - 5 < -1) (h2 : ¬ cut - atI ps (i : Int) - 5 < 0) (h3 : cut - atI ps (i : Int) - 5 < atI needs (itemK (atI ns (i : Int)))) : dueOf ns ps cut = (ds, wordsS ++ nameAt (itemK (atI ns (i : Int)))) := by
  rw [he, due_step hi, if_neg h1, if_neg h2, if_pos h3]
theorem due_r4 (he : dueOf ns ps cut = dueGo ns ps cut (ns.length - i) i ds) (hi : i < ns.length) (h1 : ¬ cut - atI ps (i : Int) - 5 < -1) (h2 : ¬ cut - atI ps (i : Int) - 5 < 0) (h3 : ¬ cut - atI ps (i : Int) - 5 < atI needs (itemK (atI ns (i : Int)))) (h4 : cut - atI ps (i : Int) - 5 < ((itemB (atI ns (i : Int))).length : Int)) :
    dueOf ns ps cut = (ds, expMsg ((signsOf ((atI ns (i : Int)).fdiv 5)).length : Int) (cut - atI ps (i : Int) - 5 - 4)) := by
  rw [he, due_step hi, if_neg h1, if_neg h2, if_neg h3, if_pos h4]
theorem due_r0 (h : cut < 4) : dueOf ns ps cut = ([], Str.ofString "not enough data in stream to read uint4") := by
  unfold dueOf
  rw [if_pos h]
end
end SH1
section SH2
variable {w : World} {p : Program} {loose : List Str} {mean : ExcName → Option Value} {mg mb : Str → Option Value}
  {dp un : Nat} {gd : Option (List Code)} {cn : Str} {cs : Scope} {a : Addr} {ccd : Value} {cl : List (Str × Addr)} {outer : List Env} {A₀ : Around} {base h₀ : Heap} {L : Addr} {m : Str → Option Value} {s : Shared} {Q E : Value → Shared → Prop}
theorem itemK_lt5 {x : Int} : 0 ≤ itemK x ∧ itemK x < (5 : Int) := by
  have := itemK_in x
  omega
theorem len_body {prog : Program} {A : Around} {x : Int} {t : Tok} (h : Q (.int ((itemB x).length : Int) (s.toks + 1)) { s with toks := s.toks + 1 + 1 }) : wpAny (model prog w) A (call (.builtin "len") [.bytes (byteArr (itemB x)) t]) Q E s := by
  have hz : (byteArr (itemB x)).size ≤ 12 := by rw [byteArr_size]; exact itemB_len x
  exact len_bytes (Nat.le_trans hz (by decide)) (by rw [byteArr_size]; exact h)
theorem news_tail {g h : Heap} {l : Addr} {q : Addr × Obj} {r : List (Addr × Obj)} (N : News g l h (q :: r)) : News g l h r := fun p hp => N p (.tail _ hp)
theorem sep_of {d : Addr} {l : List (Addr × Obj)} (h : ∀ p ∈ l, p.1 < d) : ∀ p ∈ l, p.1 ≠ d := fun p hp => Nat.ne_of_lt (h p hp)
theorem lt_sep' {d : Addr} : ∀ {l : List (Addr × Obj)}, AllLt d l → ∀ p ∈ l, p.1 ≠ d
  | [], _, _, h => nomatch h
  | q :: _, h, p, hp => by
    rcases List.mem_cons.mp hp with rfl | hp
    · exact Nat.ne_of_lt h.1
    · exact lt_sep' h.2 p hp
theorem itemB_sz' {x : Int} : (byteArr (itemB x)).size ≤ 12 := by rw [byteArr_size]; exact itemB_len x
theorem signs_small {x : Int} : (0 : Int) ≤ ((signsOf x).length : Int) ∧ ((signsOf x).length : Int) < 1000000 := by
  have := signs_len x
  omega
def DueRet (h₀ : Heap) (L : Addr) (m : Str → Option Value) (news S : List (Addr × Obj)) (s : Shared) (Q : Value → Shared → Prop) (ns ps : List Int) (cut : Int) : Prop :=
  ∀ t tl tvs tn X tX h' tk', Fr h₀ L h' m → News h₀ L h' ((t, ({ cls := .type "tuple", data := .seq [.ref tl, .str X tX].toArray } : Obj)) :: (tl, W.listOf tvs.toArray tn) :: news) →
    DatAll S tvs (dueOf ns ps cut).1 → X = (dueOf ns ps cut).2 → (∀ q ∈ news, t ≠ q.1 ∧ tl ≠ q.1) → Q (.ref t) { s with heap := h', toks := tk' }
theorem due_fin {news S news'' : List (Addr × Obj)} {ns ps : List Int} {cut : Int} {t tl : Addr} {tvs : List Value} {tn : Nat} {X : Str} {tX : Tok} {h' : Heap} {tk' : Nat} (hret : DueRet h₀ L m news S s Q ns ps cut) (hd : DatAll S tvs (dueOf ns ps cut).1) (hX : X = (dueOf ns ps cut).2) (F : Fr h₀ L h' m) (N : News h₀ L h' news'')
    (m1 : (t, ({ cls := .type "tuple", data := .seq [.ref tl, .str X tX].toArray } : Obj)) ∈ news'') (m2 : (tl, W.listOf tvs.toArray tn) ∈ news'') (hs : ∀ q ∈ news, q ∈ news'') (s1 : ∀ q ∈ news, t ≠ q.1) (s2 : ∀ p ∈ news, p.1 < tl) : Q (.ref t) { s with heap := h', toks := tk' } := by
  refine hret t tl tvs tn X tX h' tk' F (cb_drop N ?_) hd hX fun q hq => ⟨s1 q hq, (Nat.ne_of_lt (s2 q hq)).symm⟩
  intro p hp
  rcases List.mem_cons.mp hp with rfl | hp
  · exact m1
  · rcases List.mem_cons.mp hp with rfl | hp
    · exact m2
    · exact hs p hp
theorem due_fin2 {news S news'' : List (Addr × Obj)} {ns ps : List Int} {cut : Int} {t tl : Addr} {tvs : List Value} {ds : List Dat} {tn : Nat} {X : Str} {tX : Tok} {h' : Heap} {tk' : Nat} (hret : DueRet h₀ L m news S s Q ns ps cut) (hd : DatAll S tvs ds) (hX : dueOf ns ps cut = (ds, X)) (F : Fr h₀ L h' m) (N : News h₀ L h' news'')
    (m1 : (t, ({ cls := .type "tuple", data := .seq [.ref tl, .str X tX].toArray } : Obj)) ∈ news'') (m2 : (tl, W.listOf tvs.toArray tn) ∈ news'') (hs : ∀ q ∈ news, q ∈ news'') (s1 : ∀ q ∈ news, t ≠ q.1) (s2 : ∀ p ∈ news, p.1 < tl) : Q (.ref t) { s with heap := h', toks := tk' } :=
  due_fin hret (by rw [hX]; exact hd) (by rw [hX]) F N m1 m2 hs s1 s2
theorem sep_l {d : Addr} {l : List (Addr × Obj)} (h : AllLt d l) : ∀ q ∈ l, d ≠ q.1 := fun q hq => (lt_sep' h q hq).symm
theorem sep_la {d : Addr} {l r : List (Addr × Obj)} (h : AllLt d (l ++ r)) : ∀ q ∈ l, d ≠ q.1 := fun q hq => (lt_sep' h q (List.mem_append.mpr (.inl hq))).symm
local macro_rules | `(tactic| walk_at "mine enterC") => `(tactic| (refine' code_defC ?k1 ?k2 ?k3 ?k4 ?k5 ?kA ?kF ?kK ?k6 ?k7 ?k8 ?k9 ?kB ?kD ?_ ?c2 ?c3 ?c4; (case kA => exact rfl); (case kF => exact rfl); (case kK => assumption); (case k1 => k_asm); (case k2 => k_asm); (case k3 => k_asm); (case k4 => k_asm); (case k5 => k_asm); (case k6 => k_is); (case k7 => k_is); (case k8 => ktr_room); (case k9 => exact BindsTo.of_eq rfl); (case kB => exact rfl); (case kD => decide +kernel); (case c2 => exact rfl); (case c3 => exact rfl); (case c4 => exact rfl); k_whole; intro g' L' h' tk' cells' FG' F' N' Y' B' X' T' l1; (try k_lt l1); k_cells Y'; (try simp only [List.cons_append, List.nil_append] at N'); (try dsimp only); (try k_lift B'); (try k_fold)))
local macro_rules | `(tactic| walk_at "call builtin:len") => `(tactic| (k_here; (with_reducible show wpAny _ _ (call (Value.builtin "len") [Value.ref _]) _ _ _); k_dflt (refine' len_own ?k1 ?k2 ?k3 ?k4 ?_; (case k1 => k_asm); (case k2 => k_mem); (case k3 => assumption); (case k4 => omega))))
local macro_rules | `(tactic| walk_at "exec For Name Call cons nil") => `(tactic| (k_here; (rename Fr _ _ _ _ => lF'); (with_unfolding_all refine' For_invVF lF' ?k1 ?k2 ?_; (case k1 => exact rfl); (case k2 => exact rfl); k_whole)))
local macro_rules | `(tactic| k_mem) => `(tactic| first | assumption | exact List.mem_cons_self | (apply List.mem_cons_of_mem; k_mem) | (apply List.mem_append_left; k_mem) | (apply List.mem_append_right; k_mem))
local macro_rules | `(tactic| walk_at "subscriptTail") => `(tactic| (k_here; (with_reducible show wpAny _ _ (subscriptTail _ _ (Value.ref _) (Value.int _ _)) _ _ _); k_dflt (refine' item_own ?N ?hm ?hi ?hk ?hf ?_; (case N => k_asm); (case hm => k_mem); (case hi => first | assumption | exact .cons _ _ (.cons _ _ (.cons _ _ (.cons _ _ (.cons _ _ .nil))))); (case hk => first | omega | exact itemK_lt5); (case hf => first | omega | decide)); intro _))
local macro_rules | `(tactic| walk_at "subscriptTail") => `(tactic| (k_here; (with_reducible show wpAny _ _ (subscriptTail _ _ (Value.ref _) (Value.int _ _)) _ _ _); k_dflt (refine' item_row ?N ?hm ?hd ?hk ?hf ?hS ?_; (case N => k_asm); (case hm => k_mem); (case hd => assumption); (case hk => omega); (case hf => first | omega | decide); (case hS => intro q hq; have hq' := (by assumption : ∀ q ∈ _, q ∈ _) q hq; k_mem)); intro a' n' t1' v' t2' hm' hv'))
local macro_rules | `(tactic| walk_at "subscriptTail") => `(tactic| (k_here; (with_reducible show wpAny _ _ (subscriptTail (Expr.List _ _) _ (Value.ref _) (Value.int _ _)) _ _ _); k_dflt (refine' name_own ?N ?hm ?hi ?hk ?hf ?_; (case N => k_asm); (case hm => k_mem); (case hi => exact .cons _ _ (.cons _ _ (.cons _ _ (.cons _ _ (.cons _ _ .nil))))); (case hk => exact itemK_lt5); (case hf => decide)); intro _))
local macro_rules | `(tactic| walk_at "call builtin:len") => `(tactic| (k_here; (with_reducible show wpAny _ _ (call (Value.builtin "len") [Value.bytes (byteArr (itemB _)) _]) _ _ _); (refine len_body ?_)))
local macro_rules | `(tactic| walk_at "call builtin:len") => `(tactic| (k_here; (with_reducible show wpAny _ _ (call (Value.builtin "len") [_]) _ _ _); k_dflt (refine' len_value (by assumption) ?h1 ?h2 ?_; (case h1 => assumption); (case h2 => assumption)); intro hsp4' hsp5' t' k'))
local macro_rules | `(tactic| walk_at "call builtin:list.append") => `(tactic| (k_here; (with_reducible show wpAny _ _ (call (Value.builtin _) [Value.ref _, _]) _ _ _); k_dflt (refine' append_own ?F ?N ?sep ?hl ?_; (case F => k_asm); (case N => first | k_asm | exact news_tail (by k_asm)); (case sep => assumption); (case hl => (rw [List.size_toArray]; omega))); intro h' F' N'))
local macro_rules | `(tactic| walk_at "binaryOp Mod str ref") => `(tactic| (k_here; (with_reducible show wpAny _ _ (binaryOp Operator.Mod (Value.str _ _) (Value.ref _)) _ _ _); k_dflt (refine' mod_exp ?kptN ?kptb ?n ?k ?_; (case kptN => k_asm); (case kptb => k_mem); (case n => exact signs_small); (case k => omega)); intro _ _))
local macro_rules | `(tactic| walk_at "pyIter ref") => `(tactic| (k_here; (with_reducible show wpAny _ _ (pyIter (Value.ref _)) (fun _ _ => LoopAtV _ _ _ _ _ _ _ _ _ _ _) _ _); refine stop_in ?_))
theorem due_call {news S : List (Addr × Obj)} {il pl : Addr} {ivs pvs : List Value} {nI nP : Nat} {ns ps : List Int} {cut : Int} {tc : Tok} (hdA : DatAll S ivs (ns.map itemD)) (hS : ∀ q ∈ S, q ∈ news) (hp : IntsAre pvs ps) (hps : ps.length = ns.length) (hlen : 6 ≤ ns.length ∧ ns.length ≤ 16) (mI : (il, W.listOf ivs.toArray nI) ∈ news) (mP : (pl, W.listOf pvs.toArray nP) ∈ news)
   (B : Below A₀ base outer h₀) (F : Fr h₀ L s.heap m) (X : (hd.heap_39 w.params).In h₀) (N : News h₀ L s.heap news) (T : Top p loose mean mg mb h₀) (hk : cs.kind = .function)
   (hdp : dp + 3 < recursionLimit) (hun : un + 32 < cLine)
   (hret : DueRet h₀ L m news S s Q ns ps cut) :
   wpAny (model PG w) (ktrTop dp un gd cn cs L a ccd cl outer) (call (.ref 113) [.ref il, .ref pl, .int cut tc]) Q E s := by
  have hli : ivs.length = ns.length := by rw [hdA.length, List.length_map]
  refine wpAny_call ?_
  k_dflt (first | cell_enter | walk_at "mine enterC")
  w_strict k_steps
  rotate_left
  unfold Stop
  rename IsRange _ _ _ _ _ _ _ _ => hR'
  refine due_loop (ps := ps) (S := S) rfl hR' (by omega) (by omega) (by k_asm) (by k_asm) (sep_of (by assumption)) rfl rfl rfl rfl rfl ?turn ?done
  case' turn => intro i' t' u' tvs' tn' ds' h' tk' own' hi' hds' htl' hdu' hsp' hof' F' N'
  case' done => intro u' tvs' tn' h' tk' hds' hdu' F' N'
  all_goals w_strict k_steps
  · exact due_fin hret hds' hdu' (by assumption) (by assumption) (.head _) (.tail _ (.head _)) (fun q h => .tail _ (.tail _ h)) (sep_l (by assumption : _ ∧ AllLt _ _).2) (by assumption)
  · exact due_fin2 hret hds' (due_r1 hdu' hi' (by assumption)) (by assumption) (by assumption) (.head _) (.tail _ (.head _)) (fun q h => .tail _ (.tail _ (List.mem_append.mpr (.inl h)))) (sep_la (by assumption : _ ∧ AllLt _ _).2) (by assumption)
  · exact due_fin2 hret hds' (due_r2 hdu' hi' (by assumption) (by assumption)) (by assumption) (by assumption) (.head _) (.tail _ (.head _)) (fun q h => .tail _ (.tail _ (List.mem_append.mpr (.inl h)))) (sep_la (by assumption : _ ∧ AllLt _ _).2) (by assumption)
  · exact due_fin2 hret hds' (due_r3 hdu' hi' (by assumption) (by assumption) (by assumption)) (by assumption) (by assumption) (.head _) (.tail _ (.tail _ (.tail _ (.head _)))) (fun q h => .tail _ (.tail _ (.tail _ (.tail _ (List.mem_append.mpr (.inl h)))))) (sep_la (by assumption : _ ∧ _ ∧ _ ∧ AllLt _ _).2.2.2) (by assumption)
  · exact due_fin2 hret hds' (due_r4 hdu' hi' (by assumption) (by assumption) (by assumption) (by assumption)) (by assumption) (by assumption) (.head _) (.tail _ (.tail _ (.tail _ (.head _)))) (fun q h => .tail _ (.tail _ (.tail _ (.tail _ (List.mem_append.mpr (.inl h)))))) (sep_la (by assumption : _ ∧ _ ∧ _ ∧ AllLt _ _).2.2.2) (by assumption)
  · refine due_end hi' hds' htl' hdu' (by assumption) (by assumption) (by assumption) (by assumption) (by assumption) (by assumption) (by assumption) (by k_mem) (fun q h => ?_) hof' rfl rfl rfl rfl rfl
    k_mem
  · exact due_fin2 hret .nil (due_r0 (by assumption)) (by assumption) (by assumption) (.head _) (.tail _ (.head _)) (fun q h => .tail _ (.tail _ h)) (sep_l (by assumption : _ ∧ AllLt _ _).2) (by assumption)
end SH2
section SJ1
/-- the octets X lie at P in oc -/
def Lies (oc : List Int) (P : Nat) (X : List Int) : Prop := ∃ R, oc.drop P = X ++ R
theorem Lies.cut {oc X : List Int} {P : Nat} (h : Lies oc P X) (cut : Nat) : cutAt (oc.take cut) (P : Int) (X.length : Int) = X.take (cut - P) := by
  obtain ⟨R, h⟩ := h
  unfold cutAt
  rw [Int.toNat_natCast, Int.toNat_natCast, List.drop_take, h, List.take_take, List.take_append_of_le_length (Nat.min_le_left _ _)]
  by_cases hc : X.length ≤ cut - P
  · rw [Nat.min_eq_left hc, List.take_of_length_le (Nat.le_refl _), List.take_of_length_le hc]
  · rw [Nat.min_eq_right (by omega)]
theorem Lies.left {oc X Y : List Int} {P : Nat} (h : Lies oc P (X ++ Y)) : Lies oc P X := by
  obtain ⟨R, h⟩ := h
  exact ⟨Y ++ R, by rw [h, List.append_assoc]⟩
theorem Lies.right {oc X Y : List Int} {P : Nat} (h : Lies oc P (X ++ Y)) : Lies oc (P + X.length) Y := by
  obtain ⟨R, h⟩ := h
  refine ⟨R, ?_⟩
  rw [← List.drop_drop, h, List.append_assoc, List.drop_append_of_le_length (Nat.le_refl _), List.drop_of_length_le (Nat.le_refl _)]
  rfl
theorem ordOf_perm (ns : List Int) : ∀ i, (ordOf ns i).Nodup ∧ ∀ k : Nat, k < i → (k : Int) ∈ ordOf ns i
  | 0 => ⟨List.nodup_nil, fun _ h => absurd h (Nat.not_lt_zero _)⟩
  | i + 1 => by
    obtain ⟨h1, h2⟩ := ordOf_perm ns i
    have hp : (ordOf ns (i + 1)).Perm ((i : Int) :: ordOf ns i) := by
      simp only [ordOf]
      refine List.perm_middle.trans ?_
      rw [List.take_append_drop]
    refine ⟨hp.nodup_iff.mpr (List.nodup_cons.mpr ⟨fun hm => ?_, h1⟩), fun k hk => ?_⟩
    · have := ordOf_in ns i _ hm
      omega
    · refine hp.mem_iff.mpr ?_
      by_cases e : k = i
      · rw [e]; exact List.mem_cons_self
      · exact List.mem_cons_of_mem _ (h2 k (by omega))
theorem ordN_at (ns : List Int) {i : Nat} (h : i < ns.length) : ∃ t, t < ns.length ∧ (ordN ns).getD t 0 = (i : Int) := by
  have hm := (ordOf_perm ns ns.length).2 i h
  obtain ⟨t, ht, e⟩ := List.getElem_of_mem hm
  rw [ordOf_length] at ht
  refine ⟨t, ht, ?_⟩
  unfold ordN
  rw [List.getD_eq_getElem?_getD, List.getElem?_eq_getElem (by rw [ordOf_length]; exact ht), ← e]
  rfl
theorem ordN_inj (ns : List Int) {t u : Nat} (ht : t < ns.length) (hu : u < ns.length) (h : (ordN ns).getD t 0 = (ordN ns).getD u 0) : t = u := by
  have hn := (ordOf_perm ns ns.length).1
  unfold ordN at h
  have ht' : t < (ordOf ns ns.length).length := by rw [ordOf_length]; exact ht
  have hu' : u < (ordOf ns ns.length).length := by rw [ordOf_length]; exact hu
  rw [List.getD_eq_getElem?_getD, List.getElem?_eq_getElem ht', List.getD_eq_getElem?_getD, List.getElem?_eq_getElem hu'] at h
  exact (List.getElem_inj (h₀ := ht') (h₁ := hu') hn).mp h
theorem atI_set_ne {l : List Int} {a : Nat} {b : Nat} {v : Int} (h : a ≠ b) : atI (l.set a v) (b : Int) = atI l (b : Int) := by
  unfold atI
  rw [Int.toNat_natCast, List.getD_eq_getElem?_getD, List.getD_eq_getElem?_getD, List.getElem?_set_ne h]
theorem atI_set_eq {l : List Int} {a : Nat} {v : Int} (h : a < l.length) : atI (l.set a v) (a : Int) = v := by
  unfold atI
  rw [Int.toNat_natCast, List.getD_eq_getElem?_getD, List.getElem?_set_self h]
  rfl
theorem placesOf_at (ns : List Int) : ∀ j, j ≤ ns.length → ∀ t, t < j → atI (placesOf ns (ordN ns) j) ((ordN ns).getD t 0) = placeAt ns (ordN ns) t
  | 0, _, _, h => absurd h (Nat.not_lt_zero _)
  | j + 1, hj, t, ht => by
    have ho := @ord_at ns j ns.length (by omega)
    have hot := @ord_at ns t ns.length (by omega)
    have e1 : (ordN ns).getD t 0 = (((ordN ns).getD t 0).toNat : Int) := (Int.toNat_of_nonneg hot.1).symm
    simp only [placesOf]
    by_cases e : t = j
    · subst e
      rw [e1]
      have : (((ordN ns).getD t 0).toNat : Int).toNat = ((ordN ns).getD t 0).toNat := Int.toNat_natCast _
      refine (congrArg (fun l => atI l _) ?_).trans (atI_set_eq (l := placesOf ns (ordN ns) t) (a := ((ordN ns).getD t 0).toNat) (v := placeAt ns (ordN ns) t) ?_)
      · rw [← e1]
      · rw [placesOf_length]
        have := hot.2
        have := hot.1
        unfold ordN
        omega
    · rw [e1, atI_set_ne ?_, ← e1]
      · exact placesOf_at ns j (by omega) t (by omega)
      · intro e'
        have : (ordN ns).getD j 0 = (ordN ns).getD t 0 := by
          have h1 := ho.1
          have h2 := hot.1
          unfold ordN at e' ⊢
          omega
        exact e (ordN_inj ns (by omega) (by omega) this).symm
theorem placesN_at (ns : List Int) {i : Nat} (h : i < ns.length) : ∃ t, t < ns.length ∧ (ordN ns).getD t 0 = (i : Int) ∧ atI (placesN ns) (i : Int) = placeAt ns (ordN ns) t := by
  obtain ⟨t, ht, e⟩ := ordN_at ns h
  exact ⟨t, ht, e, by rw [← e]; exact placesOf_at ns ns.length (Nat.le_refl _) t ht⟩
theorem placeAt_lt (ns ord : List Int) : ∀ t d, placeAt ns ord t < placeAt ns ord (t + d + 1)
  | t, 0 => by simp only [placeAt]; omega
  | t, d + 1 => by
    have := placeAt_lt ns ord t d
    have e : t + (d + 1) + 1 = (t + d + 1) + 1 := by omega
    rw [e]
    simp only [placeAt] at this ⊢
    omega
theorem placeAt_inj (ns ord : List Int) {t u : Nat} (h : placeAt ns ord t = placeAt ns ord u) : t = u := by
  rcases Nat.lt_trichotomy t u with hl | e | hl
  · obtain ⟨d, rfl⟩ : ∃ d, u = t + d + 1 := ⟨u - t - 1, by omega⟩
    have := placeAt_lt ns ord t d
    omega
  · exact e
  · obtain ⟨d, rfl⟩ : ∃ d, t = u + d + 1 := ⟨t - u - 1, by omega⟩
    have := placeAt_lt ns ord u d
    omega
theorem seg_len (ns ps : List Int) (k : Int) : (segOf ns ps k).length = 5 + (itemB (atI ns k)).length := by
  simp only [segOf, List.length_append, low_length, List.length_cons, List.length_nil]
theorem octAt_length (ns ord ps : List Int) : ∀ t, ((octAt ns ord ps t).length : Int) = placeAt ns ord t
  | 0 => by simp [octAt, placeAt, low_length]
  | t + 1 => by
    have := octAt_length ns ord ps t
    simp only [octAt, placeAt, List.length_append, seg_len]
    omega
theorem octAt_more (ns ord ps : List Int) (t : Nat) : ∀ d, ∃ R, octAt ns ord ps (t + d) = octAt ns ord ps t ++ R
  | 0 => ⟨[], by simp⟩
  | d + 1 => by
    obtain ⟨R, h⟩ := octAt_more ns ord ps t d
    exact ⟨R ++ segOf ns ps (ord.getD (t + d) 0), by rw [← Nat.add_assoc]; simp only [octAt]; rw [h, List.append_assoc]⟩
theorem placesN_in (ns : List Int) {i : Nat} (h : i < ns.length) : 4 ≤ atI (placesN ns) (i : Int) ∧ atI (placesN ns) (i : Int) ≤ 4 + 17 * (ns.length : Int) := by
  obtain ⟨t, ht, _, e⟩ := placesN_at ns h
  have := placeAt_le ns (ordN ns) t
  rw [e]
  omega
theorem seg_lies (ns : List Int) {i : Nat} (h : i < ns.length) : Lies (octN ns) (atI (placesN ns) (i : Int)).toNat (segOf ns (placesN ns) (i : Int)) := by
  obtain ⟨t, ht, eo, e⟩ := placesN_at ns h
  obtain ⟨d, hd⟩ : ∃ d, ns.length = t + 1 + d := ⟨ns.length - t - 1, by omega⟩
  obtain ⟨R, hR⟩ := octAt_more ns (ordN ns) (placesN ns) (t + 1) d
  refine ⟨R, ?_⟩
  unfold octN
  rw [hd, hR]
  simp only [octAt]
  rw [eo, e]
  have hl := octAt_length ns (ordN ns) (placesN ns) t
  have hl' : (placeAt ns (ordN ns) t).toNat = (octAt ns (ordN ns) (placesN ns) t).length := by omega
  rw [hl', List.append_assoc, List.drop_append_of_le_length (Nat.le_refl _), List.drop_of_length_le (Nat.le_refl _)]
  rfl
theorem start_lies (ns : List Int) : Lies (octN ns) 0 (low (atI (placesN ns) 0) 4) := by
  obtain ⟨R, hR⟩ := octAt_more ns (ordN ns) (placesN ns) 0 ns.length
  rw [Nat.zero_add] at hR
  exact ⟨R, by unfold octN; rw [hR]; rfl⟩
theorem way_zero (ns : List Int) {i : Nat} (h : i < ns.length) : wayOf ns (placesN ns) (i : Int) = 0 ↔ i + 1 = ns.length := by
  unfold wayOf
  by_cases hl : i + 1 < ns.length
  · rw [if_pos (by omega)]
    obtain ⟨t, ht, eo, e⟩ := placesN_at ns h
    obtain ⟨u, hu, eo', e'⟩ := placesN_at ns hl
    have e2 : ((i : Int) + 1) = ((i + 1 : Nat) : Int) := by omega
    rw [e2, e, e']
    constructor
    · intro hz
      have := placeAt_inj ns (ordN ns) (show placeAt ns (ordN ns) u = placeAt ns (ordN ns) t by omega)
      subst this
      omega
    · intro hz; omega
  · rw [if_neg (by omega)]
    simp only [true_iff]
    omega
theorem way_in (ns : List Int) {i : Nat} (hl : ns.length ≤ 16) (h : i < ns.length) : -300 ≤ wayOf ns (placesN ns) (i : Int) ∧ wayOf ns (placesN ns) (i : Int) ≤ 300 := by
  unfold wayOf
  split
  · have h1 := placesN_in ns h
    have h2 := placesN_in ns (show i + 1 < ns.length by omega)
    have e2 : ((i : Int) + 1) = ((i + 1 : Nat) : Int) := by omega
    rw [e2]
    omega
  · omega
end SJ1
section SJ2
theorem low_range (x : Int) (n : Nat) : low x n = (List.range n).map fun i => (x / 256 ^ i) % 256 := by
  unfold low rangeKs
  rw [List.map_map]
  refine List.map_congr_left fun i _ => ?_
  simp only [Function.comp, Int.zero_add, Int.toNat_natCast]
  rw [Int.fdiv_eq_ediv_of_nonneg _ (Int.le_of_lt (Int.pow_pos (by decide))), Int.fmod_eq_emod_of_nonneg _ (by decide)]
theorem low_succ (x : Int) (n : Nat) : low x (n + 1) = x % 256 :: low (x / 256) n := by
  rw [low_range, low_range, List.range_succ_eq_map, List.map_cons, List.map_map]
  congr 1
  · simp
  · refine List.map_congr_left fun i _ => ?_
    simp only [Function.comp]
    rw [Int.pow_succ, Int.mul_comm, ← Int.ediv_ediv_of_nonneg (by decide)]
theorem mod_step (x M : Int) (hM : 0 < M) : (x / 256 % M) * 256 + x % 256 = x % (M * 256) := by
  have h1 := Int.emod_nonneg (x / 256) (Int.ne_of_gt hM)
  have h2 := Int.emod_lt_of_pos (x / 256) hM
  have h3 := Int.emod_nonneg x (show (256 : Int) ≠ 0 by decide)
  have h4 := Int.emod_lt_of_pos x (show (0 : Int) < 256 by decide)
  have h5 := Int.mul_ediv_add_emod (x / 256) M
  have h6 := Int.mul_ediv_add_emod x 256
  have hb : (0 : Int) < M * 256 := Int.mul_pos hM (by decide)
  refine ((Int.ediv_emod_unique hb (a := x) (q := x / 256 / M) (r := (x / 256 % M) * 256 + x % 256)).mpr ⟨?_, ?_, ?_⟩).2.symm
  · have e : M * 256 * (x / 256 / M) = 256 * (M * (x / 256 / M)) := by rw [Int.mul_comm M 256, Int.mul_assoc]
    rw [e]
    omega
  · omega
  · have : x / 256 % M ≤ M - 1 := by omega
    have h7 : (x / 256 % M) * 256 ≤ (M - 1) * 256 := Int.mul_le_mul_of_nonneg_right this (by decide)
    have e : (M - 1) * 256 = M * 256 - 256 := by rw [Int.sub_mul, Int.one_mul]
    omega
theorem leInt_low : ∀ (n : Nat) (x : Int), leInt (low x n) = x % 256 ^ n
  | 0, x => by simp [low_range, leInt, Int.emod_one]
  | n + 1, x => by
    have ih := leInt_low n (x / 256)
    rw [low_succ]
    show leInt (low (x / 256) n) * 256 + x % 256 = _
    rw [ih, Int.pow_succ]
    exact mod_step x _ (Int.pow_pos (by decide))
theorem sgn4_low {x : Int} (h : -2147483648 ≤ x ∧ x < 2147483648) : sgn4 (leInt (low x 4)) = x := by
  rw [leInt_low]
  unfold sgn4
  have e : (256 : Int) ^ 4 = 4294967296 := by decide
  rw [e]
  split <;> omega
theorem low_cut {oc : List Int} {P : Nat} {x : Int} {n : Nat} (h : Lies oc P (low x n)) (cut : Nat) : cutAt (oc.take cut) (P : Int) (n : Int) = (low x n).take (cut - P) := by
  have := h.cut cut
  rw [low_length] at this
  exact this
section
variable {ns : List Int} {i cut : Nat}
def placeZ (ns : List Int) (i : Nat) : Nat := (atI (placesN ns) (i : Int)).toNat
theorem placeZ_eq (h : i < ns.length) : (placeZ ns i : Int) = atI (placesN ns) (i : Int) := by
  have := placesN_in ns h
  unfold placeZ
  omega
theorem way_lies (h : i < ns.length) : Lies (octN ns) (placeZ ns i) (low (wayOf ns (placesN ns) (i : Int)) 4) := by
  have := seg_lies ns h
  unfold segOf at this
  exact this.left.left
theorem kind_lies (h : i < ns.length) : Lies (octN ns) (placeZ ns i + 4) [itemK (atI ns (i : Int))] := by
  have := seg_lies ns h
  unfold segOf at this
  have := this.left.right
  rw [low_length] at this
  exact this
theorem body_lies (h : i < ns.length) : Lies (octN ns) (placeZ ns i + 5) (itemB (atI ns (i : Int))) := by
  have := seg_lies ns h
  unfold segOf at this
  have := this.right
  rw [List.length_append, low_length] at this
  exact this
theorem start_len : (cutAt ((octN ns).take cut) 0 4).length = 4 ↔ ¬ cut < 4 := by
  have e : cutAt ((octN ns).take cut) 0 4 = (low (atI (placesN ns) 0) 4).take (cut - 0) := low_cut (start_lies ns) cut
  rw [e, List.length_take, low_length]
  omega
theorem start_val (hl : 6 ≤ ns.length ∧ ns.length ≤ 16) (h : ¬ cut < 4) : leInt (cutAt ((octN ns).take cut) 0 4) = atI (placesN ns) 0 := by
  have e : cutAt ((octN ns).take cut) 0 4 = (low (atI (placesN ns) 0) 4).take (cut - 0) := low_cut (start_lies ns) cut
  rw [e, List.take_of_length_le (by rw [low_length]; omega), leInt_low]
  have : 4 ≤ atI (placesN ns) 0 ∧ atI (placesN ns) 0 ≤ 4 + 17 * (ns.length : Int) := placesN_in ns (i := 0) (by omega)
  have e4 : (256 : Int) ^ 4 = 4294967296 := by decide
  rw [e4]
  exact Int.emod_eq_of_lt (by omega) (by omega)
theorem way_cut (h : i < ns.length) : cutAt ((octN ns).take cut) (atI (placesN ns) (i : Int)) 4 = (low (wayOf ns (placesN ns) (i : Int)) 4).take (cut - placeZ ns i) := by
  rw [← placeZ_eq h]
  exact low_cut (way_lies h) cut
theorem way_len (h : i < ns.length) : (cutAt ((octN ns).take cut) (atI (placesN ns) (i : Int)) 4).length = 4 ↔ ¬ (cut : Int) - atI (placesN ns) (i : Int) - 5 < -1 := by
  rw [way_cut h, List.length_take, low_length, ← placeZ_eq h]
  omega
theorem way_val (hl : ns.length ≤ 16) (h : i < ns.length) (hc : (cutAt ((octN ns).take cut) (atI (placesN ns) (i : Int)) 4).length = 4) : sgn4 (leInt (cutAt ((octN ns).take cut) (atI (placesN ns) (i : Int)) 4)) = wayOf ns (placesN ns) (i : Int) := by
  rw [way_cut h, List.length_take, low_length] at hc
  rw [way_cut h, List.take_of_length_le (by rw [low_length]; omega)]
  have := way_in ns hl h
  exact sgn4_low (by omega)
theorem kind_cut (h : i < ns.length) : cutAt ((octN ns).take cut) (atI (placesN ns) (i : Int) + 4) 1 = [itemK (atI ns (i : Int))].take (cut - (placeZ ns i + 4)) := by
  rw [← placeZ_eq h]
  exact (kind_lies h).cut cut
theorem kind_len1 (h : i < ns.length) : (cutAt ((octN ns).take cut) (atI (placesN ns) (i : Int) + 4) 1).length = 1 ↔ ¬ (cut : Int) - atI (placesN ns) (i : Int) - 5 < 0 := by
  rw [kind_cut h, List.length_take, ← placeZ_eq h]
  simp only [List.length_cons, List.length_nil]
  omega
theorem kind_len0 (h : i < ns.length) : (cutAt ((octN ns).take cut) (atI (placesN ns) (i : Int) + 4) 1).length = 0 ↔ (cut : Int) - atI (placesN ns) (i : Int) - 5 < 0 := by
  rw [kind_cut h, List.length_take, ← placeZ_eq h]
  simp only [List.length_cons, List.length_nil]
  omega
theorem kind_val (h : i < ns.length) (hc : (cutAt ((octN ns).take cut) (atI (placesN ns) (i : Int) + 4) 1).length = 1) : (cutAt ((octN ns).take cut) (atI (placesN ns) (i : Int) + 4) 1).getD 0 0 = itemK (atI ns (i : Int)) := by
  rw [kind_len1 h, ← placeZ_eq h] at hc
  rw [kind_cut h, List.take_of_length_le (by simp only [List.length_cons, List.length_nil]; omega)]
  rfl
/-- a body of one number -/
theorem body_cut {y : Int} {k : Nat} (h : i < ns.length) (e : itemB (atI ns (i : Int)) = low y k) : cutAt ((octN ns).take cut) (atI (placesN ns) (i : Int) + 5) (k : Int) = (low y k).take (cut - (placeZ ns i + 5)) := by
  have hb := body_lies h
  rw [e] at hb
  rw [← placeZ_eq h]
  exact low_cut hb cut
theorem body_len {y : Int} {k : Nat} (h : i < ns.length) (e : itemB (atI ns (i : Int)) = low y k) (hk : 0 < k) : (cutAt ((octN ns).take cut) (atI (placesN ns) (i : Int) + 5) (k : Int)).length = k ↔ ¬ (cut : Int) - atI (placesN ns) (i : Int) - 5 < (k : Int) := by
  rw [body_cut h e, List.length_take, low_length, ← placeZ_eq h]
  omega
theorem body_val {y : Int} {k : Nat} (h : i < ns.length) (e : itemB (atI ns (i : Int)) = low y k) (hc : (cutAt ((octN ns).take cut) (atI (placesN ns) (i : Int) + 5) (k : Int)).length = k) : leInt (cutAt ((octN ns).take cut) (atI (placesN ns) (i : Int) + 5) (k : Int)) = y % 256 ^ k := by
  rw [body_cut h e] at hc ⊢
  rw [List.length_take, low_length] at hc
  rw [List.take_of_length_le (by rw [low_length]; omega), leInt_low]
theorem str_lies {y z : Int} {k : Nat} (h : i < ns.length) (e : itemB (atI ns (i : Int)) = low y 4 ++ low z k) : Lies (octN ns) (placeZ ns i + 5) (low y 4) ∧ Lies (octN ns) (placeZ ns i + 9) (low z k) := by
  have hb := body_lies h
  rw [e] at hb
  refine ⟨hb.left, ?_⟩
  have := hb.right
  rw [low_length] at this
  exact this
theorem str_len {y z : Int} {k : Nat} (h : i < ns.length) (e : itemB (atI ns (i : Int)) = low y 4 ++ low z k) : (cutAt ((octN ns).take cut) (atI (placesN ns) (i : Int) + 5) 4).length = 4 ↔ ¬ (cut : Int) - atI (placesN ns) (i : Int) - 5 < 4 := by
  have := low_cut (str_lies h e).1 cut
  rw [← placeZ_eq h]
  have e' : cutAt ((octN ns).take cut) ((placeZ ns i : Int) + 5) 4 = _ := this
  rw [e', List.length_take, low_length]
  omega
theorem str_num {y z : Int} {k : Nat} (h : i < ns.length) (e : itemB (atI ns (i : Int)) = low y 4 ++ low z k) (hy : 0 ≤ y ∧ y ≤ 3) (hc : (cutAt ((octN ns).take cut) (atI (placesN ns) (i : Int) + 5) 4).length = 4) : sgn4 (leInt (cutAt ((octN ns).take cut) (atI (placesN ns) (i : Int) + 5) 4)) = y := by
  rw [str_len h e, ← placeZ_eq h] at hc
  have e' : cutAt ((octN ns).take cut) ((placeZ ns i : Int) + 5) 4 = _ := low_cut (str_lies h e).1 cut
  rw [← placeZ_eq h, e', List.take_of_length_le (by rw [low_length]; omega)]
  exact sgn4_low (by omega)
theorem str_cut {y z : Int} {k : Nat} (h : i < ns.length) (e : itemB (atI ns (i : Int)) = low y 4 ++ low z k) : cutAt ((octN ns).take cut) (atI (placesN ns) (i : Int) + 5 + 4) (k : Int) = (low z k).take (cut - (placeZ ns i + 9)) := by
  rw [← placeZ_eq h]
  have e' : (placeZ ns i : Int) + 5 + 4 = ((placeZ ns i + 9 : Nat) : Int) := by omega
  rw [e']
  exact low_cut (str_lies h e).2 cut
end
end SJ2
section SK0
variable {w : World} {p : Program} {loose : List Str} {mean : ExcName → Option Value} {mg mb : Str → Option Value}
  {dp un : Nat} {gd : Option (List Code)} {cn : Str} {cs : Scope} {a : Addr} {ccd : Value} {cl : List (Str × Addr)} {outer : List Env} {A₀ : Around} {base h₀ : Heap} {L : Addr} {m : Str → Option Value} {s : Shared} {Q E : Value → Shared → Prop}
def readerAt (k : Int) : Addr := if k = 0 then 56 else if k = 1 then 70 else if k = 2 then 77 else if k = 3 then 63 else 84
abbrev spareAt (ns : List Int) (cut i : Nat) : Int := (cut : Int) - atI (placesN ns) (i : Int) - 5
theorem octs_le (ns : List Int) (cut : Nat) (hl : ns.length ≤ 16) : ((octN ns).take cut).length ≤ 1000 := by
  have := octAt_len ns (ordN ns) (placesN ns) ns.length
  unfold octN
  rw [List.length_take]
  omega
theorem numAt_in (y : Int) : -2147483648 ≤ numAt y ∧ numAt y < 2147483648 := by
  unfold numAt
  have h1 := Int.fmod_nonneg_of_pos y (show (0 : Int) < 2 ^ 32 by decide)
  have h2 := Int.fmod_lt_of_pos y (show (0 : Int) < 2 ^ 32 by decide)
  generalize y.fmod (2 ^ 32) = z at *
  rw [Int.fdiv_eq_ediv_of_nonneg z (by decide)]
  split <;> omega
section
variable {R : List (Addr × Obj)} {b : Array UInt8} {f pl : Addr} {tp : Tok} {np : Nat} {ns : List Int} {cut i : Nat}
theorem at_call (hlen : 6 ≤ ns.length ∧ ns.length ≤ 16) (hbk : KBw.bInts b = (octN ns).take cut)
   (B : Below A₀ base outer h₀) (F : Fr h₀ L s.heap m) (X : (hd.heap_39 w.params).In h₀) (CH : CodeHd base 90 86) (T : Top p loose mean mg mb h₀) (hk : cs.kind = .function)
   (N : News h₀ L s.heap ((pl, W.listOf #[.int 0 tp] np) :: R)) (hS : StreamIn w mg R f pl b) (hR : Off pl R) (hdp : dp + 4 < recursionLimit) (hun : un + 32 < cLine)
   (hret : ¬ cut < 4 → RdRet h₀ L m R pl 4 s Q (.int (atI (placesN ns) 0)))
   (herr : cut < 4 → ∀ pos', RdErr base h₀ L m (envX cn cs L a ccd cl :: outer) R pl pos' s E "not enough data in stream to read uint4") :
   wpAny (model PG w) (ktrTop dp un gd cn cs L a ccd cl outer) (call (.ref 70) [.ref f]) Q E s := by
  refine uint4_call (by omega) hbk (octs_le ns cut hlen.2) B F X CH T hk N hS hR hdp hun (fun hl => ?_) (fun hl => ?_)
  · have hc := start_len.mp hl
    rw [start_val hlen hc]
    exact hret hc
  · exact herr (by
      have := mt start_len.mpr hl
      omega) _
theorem way_call (hi : i < ns.length) (hlen : 6 ≤ ns.length ∧ ns.length ≤ 16) (hbk : KBw.bInts b = (octN ns).take cut)
   (B : Below A₀ base outer h₀) (F : Fr h₀ L s.heap m) (X : (hd.heap_39 w.params).In h₀) (CH : CodeHd base 90 86) (T : Top p loose mean mg mb h₀) (hk : cs.kind = .function)
   (N : News h₀ L s.heap ((pl, W.listOf #[.int (atI (placesN ns) (i : Int)) tp] np) :: R)) (hS : StreamIn w mg R f pl b) (hR : Off pl R) (hdp : dp + 4 < recursionLimit) (hun : un + 32 < cLine)
   (hret : ¬ spareAt ns cut i < -1 → RdRet h₀ L m R pl (atI (placesN ns) (i : Int) + 4) s Q (.int (wayOf ns (placesN ns) (i : Int))))
   (herr : spareAt ns cut i < -1 → ∀ pos', RdErr base h₀ L m (envX cn cs L a ccd cl :: outer) R pl pos' s E "not enough data in stream to read int4") :
   wpAny (model PG w) (ktrTop dp un gd cn cs L a ccd cl outer) (call (.ref 63) [.ref f]) Q E s := by
  have hp := placesN_in ns hi
  refine int4_call (by omega) hbk (octs_le ns cut hlen.2) B F X CH T hk N hS hR hdp hun (fun hl => ?_) (fun hl => ?_)
  · rw [way_val hlen.2 hi hl]
    exact hret ((way_len hi).mp hl)
  · exact herr (by
      have := mt (way_len hi).mpr hl
      unfold spareAt
      omega) _
theorem kind_call (hi : i < ns.length) (hlen : 6 ≤ ns.length ∧ ns.length ≤ 16) (hbk : KBw.bInts b = (octN ns).take cut)
   (B : Below A₀ base outer h₀) (F : Fr h₀ L s.heap m) (X : (hd.heap_39 w.params).In h₀) (CH : CodeHd base 90 86) (T : Top p loose mean mg mb h₀) (hk : cs.kind = .function)
   (N : News h₀ L s.heap ((pl, W.listOf #[.int (atI (placesN ns) (i : Int) + 4) tp] np) :: R)) (hS : StreamIn w mg R f pl b) (hR : Off pl R) (hdp : dp + 4 < recursionLimit) (hun : un + 32 < cLine)
   (hret : ¬ spareAt ns cut i < 0 → RdRet h₀ L m R pl (atI (placesN ns) (i : Int) + 5) s Q (.int (itemK (atI ns (i : Int)))))
   (herr : spareAt ns cut i < 0 → ∀ pos', RdErr base h₀ L m (envX cn cs L a ccd cl :: outer) R pl pos' s E "not enough data in stream to read uint1") :
   wpAny (model PG w) (ktrTop dp un gd cn cs L a ccd cl outer) (call (.ref 49) [.ref f]) Q E s := by
  have hp := placesN_in ns hi
  refine uint1_call (by omega) hbk (octs_le ns cut hlen.2) B F X CH T hk N hS hR hdp hun (fun hl => ?_) (fun hl => ?_)
  · rw [kind_val hi hl]
    have e : atI (placesN ns) (i : Int) + 4 + 1 = atI (placesN ns) (i : Int) + 5 := by omega
    rw [e]
    exact hret ((kind_len1 hi).mp hl)
  · exact herr ((kind_len0 hi).mp hl) _
theorem value_call (hi : i < ns.length) (hlen : 6 ≤ ns.length ∧ ns.length ≤ 16) (hbk : KBw.bInts b = (octN ns).take cut) (h0 : ¬ spareAt ns cut i < 0)
   (B : Below A₀ base outer h₀) (F : Fr h₀ L s.heap m) (X : (hd.heap_39 w.params).In h₀) (CH : CodeHd base 90 86) (T : Top p loose mean mg mb h₀) (hk : cs.kind = .function)
   (N : News h₀ L s.heap ((pl, W.listOf #[.int (atI (placesN ns) (i : Int) + 5) tp] np) :: R)) (hS : StreamIn w mg R f pl b) (hR : Off pl R) (hdp : dp + 6 < recursionLimit) (hun : un + 48 < cLine)
   (hret : ¬ spareAt ns cut i < atI needs (itemK (atI ns (i : Int))) → ¬ spareAt ns cut i < ((itemB (atI ns (i : Int))).length : Int) → ∀ mk pos', (∀ t nw, DatIn nw (mk t) (itemV (atI ns (i : Int)))) → RdRet h₀ L m R pl pos' s Q mk)
   (herr1 : spareAt ns cut i < atI needs (itemK (atI ns (i : Int))) → ∀ pos', RdErr base h₀ L m (envX cn cs L a ccd cl :: outer) R pl pos' s E (wordsS ++ nameAt (itemK (atI ns (i : Int)))))
   (herr2 : ¬ spareAt ns cut i < atI needs (itemK (atI ns (i : Int))) → spareAt ns cut i < ((itemB (atI ns (i : Int))).length : Int) → ∀ pos', RdErr base h₀ L m (envX cn cs L a ccd cl :: outer) R pl pos' s E (expMsg ((signsOf ((atI ns (i : Int)).fdiv 5)).length : Int) (spareAt ns cut i - 4))) :
   wpAny (model PG w) (ktrTop dp un gd cn cs L a ccd cl outer) (call (.ref (readerAt (itemK (atI ns (i : Int))))) [.ref f]) Q E s := by
  have hp := placesN_in ns hi
  have ho := octs_le ns cut hlen.2
  have hpos : 0 ≤ atI (placesN ns) (i : Int) + 5 ∧ atI (placesN ns) (i : Int) + 5 < 2 ^ 39 := by omega
  have hpos' : 0 ≤ atI (placesN ns) (i : Int) + 5 ∧ atI (placesN ns) (i : Int) + 5 < 2 ^ 40 := by omega
  by_cases h0 : (atI ns (i : Int)).fmod 5 = 0
  · have eK : itemK (atI ns (i : Int)) = 0 := by simp [itemK, h0]
    have eB : itemB (atI ns (i : Int)) = low ((atI ns (i : Int)).fdiv 5) 2 := by simp [itemB, h0]
    have eV : itemV (atI ns (i : Int)) = .int (((atI ns (i : Int)).fdiv 5).fmod 65536) := by simp [itemV, h0]
    rw [eK] at hret herr1 herr2 ⊢
    have eN : atI needs 0 = 2 := rfl
    rw [eN] at hret herr1 herr2
    rw [eV, eB, low_length] at hret
    have hbl : (cutAt ((octN ns).take cut) (atI (placesN ns) (i : Int) + 5) 2).length = 2 ↔ ¬ spareAt ns cut i < 2 := body_len hi eB (by decide)
    refine uint2_call hpos' hbk ho B F X CH T hk N hS hR (by omega) (by omega) (fun hl => ?_) (fun hl => ?_)
    · have hv : leInt (cutAt ((octN ns).take cut) (atI (placesN ns) (i : Int) + 5) 2) = ((atI ns (i : Int)).fdiv 5).fmod 65536 := by
        rw [Int.fmod_eq_emod_of_nonneg _ (by decide)]
        exact body_val hi eB hl
      rw [hv]
      exact hret (hbl.mp hl) (hbl.mp hl) _ _ fun _ _ => .int _ _
    · exact herr1 (by have := mt hbl.mpr hl; omega) _
  by_cases h1 : (atI ns (i : Int)).fmod 5 = 1
  · have eK : itemK (atI ns (i : Int)) = 1 := by simp [itemK, h1]
    have eB : itemB (atI ns (i : Int)) = low ((atI ns (i : Int)).fdiv 5) 4 := by simp [itemB, h1]
    have eV : itemV (atI ns (i : Int)) = .int (((atI ns (i : Int)).fdiv 5).fmod (2 ^ 32)) := by simp [itemV, h1]
    rw [eK] at hret herr1 herr2 ⊢
    have eN : atI needs 1 = 4 := rfl
    rw [eN] at hret herr1 herr2
    rw [eV, eB, low_length] at hret
    have hbl : (cutAt ((octN ns).take cut) (atI (placesN ns) (i : Int) + 5) 4).length = 4 ↔ ¬ spareAt ns cut i < 4 := body_len hi eB (by decide)
    refine uint4_call hpos' hbk ho B F X CH T hk N hS hR (by omega) (by omega) (fun hl => ?_) (fun hl => ?_)
    · have hv : leInt (cutAt ((octN ns).take cut) (atI (placesN ns) (i : Int) + 5) 4) = ((atI ns (i : Int)).fdiv 5).fmod (2 ^ 32) := by
        rw [Int.fmod_eq_emod_of_nonneg _ (by decide)]
        exact body_val hi eB hl
      rw [hv]
      exact hret (hbl.mp hl) (hbl.mp hl) _ _ fun _ _ => .int _ _
    · exact herr1 (by have := mt hbl.mpr hl; omega) _
  by_cases h2 : (atI ns (i : Int)).fmod 5 = 2
  · have eK : itemK (atI ns (i : Int)) = 2 := by simp [itemK, h2]
    have eB : itemB (atI ns (i : Int)) = low ((atI ns (i : Int)).fdiv 5) 8 := by simp [itemB, h2]
    have eV : itemV (atI ns (i : Int)) = .int (((atI ns (i : Int)).fdiv 5).fmod (2 ^ 64)) := by simp [itemV, h2]
    rw [eK] at hret herr1 herr2 ⊢
    have eN : atI needs 2 = 8 := rfl
    rw [eN] at hret herr1 herr2
    rw [eV, eB, low_length] at hret
    have hbl : (cutAt ((octN ns).take cut) (atI (placesN ns) (i : Int) + 5) 8).length = 8 ↔ ¬ spareAt ns cut i < 8 := body_len hi eB (by decide)
    refine uint8_call hpos' hbk ho B F X CH T hk N hS hR (by omega) (by omega) (fun hl => ?_) (fun hl => ?_)
    · have hv : leInt (cutAt ((octN ns).take cut) (atI (placesN ns) (i : Int) + 5) 8) = ((atI ns (i : Int)).fdiv 5).fmod (2 ^ 64) := by
        rw [Int.fmod_eq_emod_of_nonneg _ (by decide)]
        exact body_val hi eB hl
      rw [hv]
      exact hret (hbl.mp hl) (hbl.mp hl) _ _ fun _ _ => .int _ _
    · exact herr1 (by have := mt hbl.mpr hl; omega) _
  by_cases h3 : (atI ns (i : Int)).fmod 5 = 3
  · have eK : itemK (atI ns (i : Int)) = 3 := by simp [itemK, h3]
    have eB : itemB (atI ns (i : Int)) = low (numAt ((atI ns (i : Int)).fdiv 5)) 4 := by simp [itemB, h3]
    have eV : itemV (atI ns (i : Int)) = .int (numAt ((atI ns (i : Int)).fdiv 5)) := by simp [itemV, h3]
    rw [eK] at hret herr1 herr2 ⊢
    have eN : atI needs 3 = 4 := rfl
    rw [eN] at hret herr1 herr2
    rw [eV, eB, low_length] at hret
    have hbl : (cutAt ((octN ns).take cut) (atI (placesN ns) (i : Int) + 5) 4).length = 4 ↔ ¬ spareAt ns cut i < 4 := body_len hi eB (by decide)
    refine int4_call hpos' hbk ho B F X CH T hk N hS hR (by omega) (by omega) (fun hl => ?_) (fun hl => ?_)
    · have hv : sgn4 (leInt (cutAt ((octN ns).take cut) (atI (placesN ns) (i : Int) + 5) 4)) = numAt ((atI ns (i : Int)).fdiv 5) := by
        have hc : cutAt ((octN ns).take cut) (atI (placesN ns) (i : Int) + 5) 4 = (low (numAt ((atI ns (i : Int)).fdiv 5)) 4).take (cut - (placeZ ns i + 5)) := body_cut hi eB
        have hl' := hl
        rw [hc, List.length_take, low_length] at hl'
        rw [hc, List.take_of_length_le (by rw [low_length]; omega)]
        exact sgn4_low (numAt_in _)
      rw [hv]
      exact hret (hbl.mp hl) (hbl.mp hl) _ _ fun _ _ => .int _ _
    · exact herr1 (by have := mt hbl.mpr hl; omega) _
  · have eK : itemK (atI ns (i : Int)) = 4 := by simp [itemK, h0, h1, h2, h3]
    have eB : itemB (atI ns (i : Int)) = low ((signsOf ((atI ns (i : Int)).fdiv 5)).length : Int) 4 ++ low (((atI ns (i : Int)).fdiv 5).fdiv 4) (((atI ns (i : Int)).fdiv 5).fmod 4).toNat := by simp [itemB, signsOf, h0, h1, h2, h3]
    have eV : itemV (atI ns (i : Int)) = .str (textOf (signsOf ((atI ns (i : Int)).fdiv 5))) := by simp [itemV, h0, h1, h2, h3]
    have eL : (signsOf ((atI ns (i : Int)).fdiv 5)).length = (((atI ns (i : Int)).fdiv 5).fmod 4).toNat := by unfold signsOf; rw [low_length]
    have hs := signs_len ((atI ns (i : Int)).fdiv 5)
    rw [eK] at hret herr1 herr2 ⊢
    have eN : atI needs 4 = 4 := rfl
    rw [eN] at hret herr1 herr2
    have eBl : ((itemB (atI ns (i : Int))).length : Int) = 4 + ((signsOf ((atI ns (i : Int)).fdiv 5)).length : Int) := by rw [eB, List.length_append, low_length, low_length, eL]; omega
    rw [eBl] at hret herr2
    rw [eV] at hret
    have hl4 := @str_len ns i cut _ _ _ hi eB
    have hnum : (cutAt ((octN ns).take cut) (atI (placesN ns) (i : Int) + 5) 4).length = 4 → sgn4 (leInt (cutAt ((octN ns).take cut) (atI (placesN ns) (i : Int) + 5) 4)) = ((signsOf ((atI ns (i : Int)).fdiv 5)).length : Int) := str_num hi eB (by omega)
    have hcut : cutAt ((octN ns).take cut) (atI (placesN ns) (i : Int) + 5 + 4) ((signsOf ((atI ns (i : Int)).fdiv 5)).length : Int) = (signsOf ((atI ns (i : Int)).fdiv 5)).take (cut - (placeZ ns i + 9)) := by
      rw [eL]
      exact str_cut hi eB
    have hz := placeZ_eq hi
    refine string4_call hpos hbk ho (fun hl => ?_) B F X CH T hk N hS hR (by omega) (by omega) (fun hl hn => ?_) (fun hl hn => ?_) (fun hl => ?_)
    · rw [hnum hl]; omega
    · rw [hnum hl, hcut, List.length_take] at hn
      rw [hnum hl, hcut, List.take_of_length_le (by omega)]
      have h5 := hl4.mp hl
      exact hret h5 (by show ¬ (cut : Int) - _ - 5 < _; omega) _ _ fun _ _ => .str _ _
    · rw [hnum hl, hcut, List.length_take] at hn
      rw [hnum hl, hcut, List.length_take]
      have h5 := hl4.mp hl
      have e : ((min (cut - (placeZ ns i + 9)) (signsOf ((atI ns (i : Int)).fdiv 5)).length : Nat) : Int) = spareAt ns cut i - 4 := by
        show _ = (cut : Int) - _ - 5 - 4
        omega
      rw [e]
      exact herr2 h5 (by show (cut : Int) - _ - 5 < _; omega) _
    · exact herr1 (by have := mt hl4.mpr hl; show (cut : Int) - _ - 5 < _; omega) _
end
end SK0
section SK2
theorem tabOk_mono {ps : Array Value} {R R' : List (Addr × Obj)} (h : TabOk ps R) (hs : ∀ q ∈ R, q ∈ R') : TabOk ps R' := by
  rcases h with h | ⟨c, c', oc, vs, t, h1, h2, h3⟩
  · exact .inl h
  · exact .inr ⟨c, c', oc, vs, t, h1, hs _ h2, h3⟩
theorem streamIn_mono {w : World} {mg : Str → Option Value} {R R' : List (Addr × Obj)} {f pl : Addr} {b : Array UInt8} (h : StreamIn w mg R f pl b) (hs : ∀ q ∈ R, q ∈ R') : StreamIn w mg R' f pl b := by
  obtain ⟨d, r, c1, c2, c, tn, t, tb, fdl, dc, ct, oc, o1, o2, vs, m1, m2, m3, m4, m5, m6, m7, m8, m9, m10⟩ := h
  exact ⟨d, r, c1, c2, c, tn, t, tb, fdl, dc, ct, oc, o1, o2, vs, hs _ m1, hs _ m2, hs _ m3, hs _ m4, m5, m6, hs _ m7, m8, hs _ m9, m10⟩
theorem off_cons {x y : Addr} {o : Obj} {R : List (Addr × Obj)} (h : Off x R) (e : @Ne Nat y x) : Off x ((y, o) :: R) := by
  intro q hq
  rcases List.mem_cons.mp hq with rfl | hq
  · exact e
  · exact h q hq
abbrev readersO : Obj := W.listOf #[.ref 56, .ref 70, .ref 77, .ref 63, .ref 84] 0
def JFol (ns : List Int) (cut : Nat) (f pl rl tl : Addr) (R0 : List (Addr × Obj)) (i : Nat) (m : Str → Option Value) (nx : List (Addr × Obj)) : Prop :=
  i < ns.length ∧ m "f" = some (.ref f) ∧ m "place" = some (.ref pl) ∧ m "readers" = some (.ref rl) ∧ m "told" = some (.ref tl) ∧
    ∃ ta pos tp np tvs tn ds, m "at" = some (.int (atI (placesN ns) (i : Int)) ta) ∧ nx = (pl, W.listOf #[.int pos tp] np) :: (tl, W.listOf tvs.toArray tn) :: R0 ∧ DatAll [] tvs ds ∧ tvs.length = i ∧
      dueOf ns (placesN ns) cut = dueGo ns (placesN ns) cut (ns.length - i) i ds
section
variable {prog : Program} {w : World} {A : Around} {E : Value → Shared → Prop} {s : Shared} {h₀ : Heap} {L : Addr} {m₀ mg : Str → Option Value} {env : Env} {Q : Flow → Shared → Prop} {body : List Stmt} {ns : List Int} {cut : Nat} {f pl rl tl : Addr} {R0 : List (Addr × Obj)} {b : Array UInt8}
theorem fol_loop {r : Addr} {t₀ u₀ v₀ : Tok} {n0 np0 : Nat} {tp0 ta0 : Tok} {pos0 : Int} (hh : A.handled = none) (hr : IsRange s.heap r 0 20 1 t₀ u₀ v₀) (hlen : 6 ≤ ns.length ∧ ns.length ≤ 16) (hc : ¬ cut < 4) (F : Fr h₀ env.locals s.heap m₀) (N : News h₀ env.locals s.heap ((pl, W.listOf #[.int pos0 tp0] np0) :: (tl, W.listOf #[] n0) :: R0))
    (s1 : Off pl R0) (s2 : Off tl R0) (s3 : @Ne Nat tl pl) (hS : StreamIn w mg R0 f pl b)
    (e1 : m₀ "f" = some (.ref f)) (e2 : m₀ "place" = some (.ref pl)) (e3 : m₀ "readers" = some (.ref rl)) (e4 : m₀ "told" = some (.ref tl)) (e5 : m₀ "at" = some (.int (atI (placesN ns) 0) ta0))
    (turn : ∀ i t (u : Str → Option Value) pos tp np tvs tn ds ta h tk own, i < ns.length → DatAll [] tvs ds → tvs.length = i → dueOf ns (placesN ns) cut = dueGo ns (placesN ns) cut (ns.length - i) i ds →
      Off pl ((tl, W.listOf tvs.toArray tn) :: (R0 ++ own)) → Off tl (R0 ++ own) → OwnOff own (pl :: tl :: R0.map (·.1)) → StreamIn w mg ((tl, W.listOf tvs.toArray tn) :: (R0 ++ own)) f pl b →
      Fr h₀ env.locals h (fun y => if y = "at" then some (.int (atI (placesN ns) (i : Int)) ta) else if y = "told" then some (.ref tl) else if y = "readers" then some (.ref rl) else if y = "place" then some (.ref pl) else if y = "f" then some (.ref f) else if y = "k" then some (.int (i : Int) t) else u y) →
      News h₀ env.locals h ((pl, W.listOf #[.int pos tp] np) :: (tl, W.listOf tvs.toArray tn) :: (R0 ++ own)) →
      wpAny (model prog w) A (execs body env) (InvPostG h₀ env.locals (JFol ns cut f pl rl tl R0 (i + 1)) own { s with heap := h, toks := tk } Q) E { s with heap := h, toks := tk }) :
    wpAny (model prog w) A (pyIter (.ref r)) (fun it s₂ => LoopAtV prog w A h₀ env "k" body Q E it s₂) E s := by
  refine own_range (n := 20) (JFol ns cut f pl rl tl R0) hh hr (by decide) (by decide) F N ⟨by omega, e1, e2, e3, e4, ta0, pos0, tp0, np0, [], n0, [], e5, rfl, .nil, rfl, by unfold dueOf; rw [if_neg (by omega)]; rfl⟩ ?_ ?_
  · rintro i t m₁ nx h tk own _ hoff ⟨hi, d1, d2, d3, d4, ta, pos, tp, np, tvs, tn, ds, d5, rfl, hd, hl, he⟩ F₁ N₁
    rw [Int.zero_add] at F₁
    have o1 : Off pl (R0 ++ own) := by
      intro p hp
      rcases List.mem_append.mp hp with hp | hp
      · exact s1 p hp
      · exact hoff p hp pl (.head _)
    have o2 : Off tl (R0 ++ own) := by
      intro p hp
      rcases List.mem_append.mp hp with hp | hp
      · exact s2 p hp
      · exact hoff p hp tl (.tail _ (.head _))
    refine turn i t m₁ pos tp np tvs tn ds ta h tk own hi hd hl he (off_cons o1 s3) o2 hoff (streamIn_mono hS fun q hq => .tail _ (List.mem_append.mpr (.inl hq))) ?_ N₁
    exact fr_put (fr_put (fr_put (fr_put (fr_put F₁ ((if_neg (by decide)).trans d1)) ((if_neg (by decide)).trans ((if_neg (by decide)).trans d2))) ((if_neg (by decide)).trans ((if_neg (by decide)).trans ((if_neg (by decide)).trans d3)))) ((if_neg (by decide)).trans ((if_neg (by decide)).trans ((if_neg (by decide)).trans ((if_neg (by decide)).trans d4))))) ((if_neg (by decide)).trans ((if_neg (by decide)).trans ((if_neg (by decide)).trans ((if_neg (by decide)).trans ((if_neg (by decide)).trans d5)))))
  · rintro m₁ nx h tk ⟨hi, _⟩ _ _
    omega
theorem fol_end {i : Nat} {tvs : List Value} {tn : Nat} {ds : List Dat} {v : Value} {m' : Str → Option Value} {own : List (Addr × Obj)} {news' : List (Addr × Obj)} {h' : Heap} {tk' np : Nat} {pos at' : Int} {tp ta : Tok} (hlen : ns.length ≤ 16) (hi : i < ns.length) (hd : DatAll [] tvs ds) (hl : tvs.length = i) (he : dueOf ns (placesN ns) cut = dueGo ns (placesN ns) cut (ns.length - i) i ds) (hv : ∀ nw, DatIn nw v (itemV (atI ns (i : Int))))
    (h1 : ¬ spareAt ns cut i < -1) (h2 : ¬ spareAt ns cut i < 0) (h3 : ¬ spareAt ns cut i < atI needs (itemK (atI ns (i : Int)))) (h4 : ¬ spareAt ns cut i < ((itemB (atI ns (i : Int))).length : Int)) (hw : ¬ wayOf ns (placesN ns) (i : Int) = 0)
    (F : Fr h₀ L h' m') (N : News h₀ L h' news') (hp : (pl, W.listOf #[.int pos tp] np) ∈ news') (hm : (tl, W.listOf (tvs.toArray.push v) tn) ∈ news') (hs : ∀ q ∈ R0 ++ own, q ∈ news') (hoff : OwnOff own (pl :: tl :: R0.map (·.1)))
    (d1 : m' "f" = some (.ref f)) (d2 : m' "place" = some (.ref pl)) (d3 : m' "readers" = some (.ref rl)) (d4 : m' "told" = some (.ref tl)) (d5 : m' "at" = some (.int at' ta)) (ea : at' = atI (placesN ns) (i : Int) + wayOf ns (placesN ns) (i : Int)) :
    InvEndG h₀ L (JFol ns cut f pl rl tl R0 (i + 1)) own s { s with heap := h', toks := tk' } := by
  have h1' : ¬ (cut : Int) - atI (placesN ns) (i : Int) - 5 < -1 := h1
  have h2' : ¬ (cut : Int) - atI (placesN ns) (i : Int) - 5 < 0 := h2
  have h3' : ¬ (cut : Int) - atI (placesN ns) (i : Int) - 5 < atI needs (itemK (atI ns (i : Int))) := h3
  have h4' : ¬ (cut : Int) - atI (placesN ns) (i : Int) - 5 < ((itemB (atI ns (i : Int))).length : Int) := h4
  rw [due_step hi, if_neg h1', if_neg h2', if_neg h3', if_neg h4'] at he
  have hn : i + 1 < ns.length := by
    have := mt (way_zero ns hi).mpr hw
    omega
  have ew : at' = atI (placesN ns) ((i + 1 : Nat) : Int) := by
    rw [ea]
    unfold wayOf
    rw [if_pos (by omega)]
    have e2 : ((i : Int) + 1) = ((i + 1 : Nat) : Int) := by omega
    rw [e2]
    omega
  rw [ew] at d5
  have e : tvs.toArray.push v = (tvs ++ [v]).toArray := by simp
  rw [e] at hm
  refine InvEndG.intro F N (nx := (pl, W.listOf #[.int pos tp] np) :: (tl, W.listOf (tvs ++ [v]).toArray tn) :: R0) ⟨hn, d1, d2, d3, d4, ta, pos, tp, np, tvs ++ [v], tn, ds ++ [itemV (atI ns (i : Int))], d5, rfl, hd.append (.one (hv [])), by rw [List.length_append, hl]; rfl, he⟩ hoff (fun p hp' => ?_) (fun p hp' => hs p (List.mem_append.mpr (.inr hp')))
  rcases List.mem_cons.mp hp' with rfl | hp'
  · exact hp
  rcases List.mem_cons.mp hp' with rfl | hp'
  · exact hm
  · exact hs p (List.mem_append.mpr (.inl hp'))
theorem fol_all {i : Nat} {ds : List Dat} (hi : i < ns.length) (he : dueOf ns (placesN ns) cut = dueGo ns (placesN ns) cut (ns.length - i) i ds)
    (h1 : ¬ spareAt ns cut i < -1) (h2 : ¬ spareAt ns cut i < 0) (h3 : ¬ spareAt ns cut i < atI needs (itemK (atI ns (i : Int)))) (h4 : ¬ spareAt ns cut i < ((itemB (atI ns (i : Int))).length : Int)) (hw : wayOf ns (placesN ns) (i : Int) = 0) :
    dueOf ns (placesN ns) cut = (ds ++ [itemV (atI ns (i : Int))], ("all" : Str)) := by
  have h1' : ¬ (cut : Int) - atI (placesN ns) (i : Int) - 5 < -1 := h1
  have h2' : ¬ (cut : Int) - atI (placesN ns) (i : Int) - 5 < 0 := h2
  have h3' : ¬ (cut : Int) - atI (placesN ns) (i : Int) - 5 < atI needs (itemK (atI ns (i : Int))) := h3
  have h4' : ¬ (cut : Int) - atI (placesN ns) (i : Int) - 5 < ((itemB (atI ns (i : Int))).length : Int) := h4
  rw [due_step hi, if_neg h1', if_neg h2', if_neg h3', if_neg h4'] at he
  have hn := (way_zero ns hi).mp hw
  rw [hn, Nat.sub_self] at he
  exact he
end
section
variable {prog : Program} {w : World} {A : Around} {E : Value → Shared → Prop} {s : Shared} {h₀ : Heap} {L : Addr} {m : Str → Option Value} {news : List (Addr × Obj)}
theorem reader_own {Q : Value → Shared → Prop} {value slice : Expr} {l : Addr} {k : Int} {u : Tok} {x : Int} (N : News h₀ L s.heap news) (hm : (l, readersO) ∈ news) (hk : k = itemK x)
    (h : Q (.ref (readerAt (itemK x))) s) (hs : subscripted slice false (.ref l) (.int k u) = operate [.ref l, .int k u] (getItem (.ref l) (.int k u)) := by with_unfolding_all rfl) :
    wpAny (model prog w) A (subscriptTail value slice (.ref l) (.int k u)) Q E s := by
  have hl : s.heap.IsList l [.ref 56, .ref 70, .ref 77, .ref 63, .ref 84].toArray := ⟨_, (N _ hm).1, rfl, 0, rfl⟩
  have hb := itemK_in x
  subst hk
  refine item_listR hl hb.1 (by omega) ?_ h hs
  rcases (by omega : itemK x = 0 ∨ itemK x = 1 ∨ itemK x = 2 ∨ itemK x = 3 ∨ itemK x = 4) with e | e | e | e | e <;> (rw [e]; rfl)
theorem place_own {Q : Unit → Shared → Prop} {D : Addr} {pos : Int} {tp u : Tok} {n : Nat} {v : Value} {rest : List (Addr × Obj)} (F : Fr h₀ L s.heap m) (N : News h₀ L s.heap ((D, W.listOf #[.int pos tp] n) :: rest)) (hsep : ∀ p ∈ rest, p.1 ≠ D)
    (h : ∀ h', Fr h₀ L h' m → News h₀ L h' ((D, W.listOf #[v] n) :: rest) → Q () { s with heap := h' }) : wpAny (model prog w) A (setItem (.ref D) (.int 0 u) v) Q E s :=
  set_own (os := [.int pos tp]) F N hsep ⟨by decide, by simp⟩ (by simp) h
theorem append_own2 {Q : Value → Shared → Prop} {D : Addr} {its : Array Value} {n : Nat} {v : Value} {q : Addr × Obj} {rest : List (Addr × Obj)} (F : Fr h₀ L s.heap m) (N : News h₀ L s.heap (q :: (D, W.listOf its n) :: rest)) (hq : q.1 ≠ D) (hsep : ∀ p ∈ rest, p.1 ≠ D) (hl : its.size ≤ 100)
    (h : ∀ h', Fr h₀ L h' m → News h₀ L h' (q :: (D, W.listOf (its.push v) (n + 1)) :: rest) → Q .none { s with heap := h' }) : wpAny (model prog w) A (call (.builtin "list.append") [.ref D, v]) Q E s :=
  append_K F N (.tail hq (.head hsep)) h (Nat.le_trans hl (by decide))
end
end SK2
section SK1
variable {w : World} {p : Program} {loose : List Str} {mean : ExcName → Option Value} {mg mb : Str → Option Value}
  {dp un : Nat} {gd : Option (List Code)} {cn : Str} {cs : Scope} {a : Addr} {ccd : Value} {cl : List (Str × Addr)} {outer : List Env} {A₀ : Around} {base h₀ : Heap} {L : Addr} {m : Str → Option Value} {s : Shared} {Q E : Value → Shared → Prop}
theorem stream_at {news old : List (Addr × Obj)} {oct : Array UInt8} {tx : Tok} {ps : Array Value} {l : Addr} {o : Obj} (B : Below A₀ base outer h₀) (F : Fr h₀ L s.heap m) (X : (hd.heap_39 w.params).In h₀) (CH : CodeHd base 90 86) (N : News h₀ L s.heap ((l, o) :: (86, tabObj ps) :: news)) (T : Top p loose mean mg mb h₀) (hk : cs.kind = .function)
   (hold : ∀ q ∈ old, q ∈ news) (hP : TabOk ps old) (hO : Off 86 news) (hl : @LT.lt Nat _ 86 l) (hdp : dp + 2 < recursionLimit) (hun : un + 16 < cLine) (hret : StreamRet w mg h₀ L m ((l, o) :: news) old oct s Q) :
   wpAny (model PG w) (ktrTop dp un gd cn cs L a ccd cl outer) (call (.ref 91) [.bytes oct tx]) Q E s :=
  stream_any (news := (l, o) :: news) B F X CH (cb_drop N fun p hp => by
    simp only [List.mem_cons] at hp ⊢
    rcases hp with h | h | h <;> simp [h]) T hk (fun q h => .tail _ (hold q h)) hP (off_cons hO (neN (by omega))) hdp hun hret
theorem at_here {S news : List (Addr × Obj)} {b : Array UInt8} {ns : List Int} {cut : Nat} {t pl tl rl f : Addr} {tp : Tok} {np : Nat} {o1 o2 orl : Obj} {ps' : Array Value} (hlen : 6 ≤ ns.length ∧ ns.length ≤ 16) (hbk : KBw.bInts b = (octN ns).take cut)
   (B : Below A₀ base outer h₀) (F : Fr h₀ L s.heap m) (X : (hd.heap_39 w.params).In h₀) (CH : CodeHd base 90 86) (T : Top p loose mean mg mb h₀) (hk : cs.kind = .function)
   (N : News h₀ L s.heap ((tl, o1) :: (t, o2) :: (pl, W.listOf #[.int 0 tp] np) :: (86, tabObj ps') :: (S ++ (rl, orl) :: news))) (hS : StreamIn w mg (S ++ (rl, orl) :: news) f pl b) (hOf : Off pl (S ++ (rl, orl) :: news)) (hne : pl ≠ 86) (hlt : t < tl ∧ pl < tl ∧ 86 < tl ∧ AllLt tl (S ++ (rl, orl) :: news))
   (hdp : dp + 4 < recursionLimit) (hun : un + 32 < cLine)
   (hret : ¬ cut < 4 → RdRet h₀ L m ((tl, o1) :: (86, tabObj ps') :: (S ++ (rl, orl) :: news)) pl 4 s Q (.int (atI (placesN ns) 0)))
   (herr : cut < 4 → ∀ pos', RdErr base h₀ L m (envX cn cs L a ccd cl :: outer) ((tl, o1) :: (86, tabObj ps') :: (S ++ (rl, orl) :: news)) pl pos' s E "not enough data in stream to read uint4") :
   wpAny (model PG w) (ktrTop dp un gd cn cs L a ccd cl outer) (call (.ref 70) [.ref f]) Q E s :=
  at_call (tp := tp) (np := np) (R := (tl, o1) :: (86, tabObj ps') :: (S ++ (rl, orl) :: news)) hlen hbk B F X CH T hk (cb_drop N fun p hp => by
    simp only [List.mem_cons] at hp ⊢
    rcases hp with h | h | h | h <;> simp [h]) (streamIn_mono hS fun q h => .tail _ (.tail _ h)) (off_cons (off_cons hOf (Ne.symm hne)) (Nat.ne_of_gt hlt.2.1)) hdp hun hret herr
theorem fol_seps {t tl pl : Addr} {o : Obj} {R : List (Addr × Obj)} (l1 : t < tl ∧ pl < tl ∧ 86 < tl ∧ AllLt tl R) (hOf : Off pl R) (hne : pl ≠ 86) : Off pl ((86, o) :: R) ∧ Off tl ((86, o) :: R) ∧ @Ne Nat tl pl := by
  have h1 : @LT.lt Nat _ pl tl := l1.2.1
  have h2 : @LT.lt Nat _ 86 tl := l1.2.2.1
  exact ⟨off_cons hOf (Ne.symm hne), off_cons (fun q hq => lt_sep l1.2.2.2 q hq) (neN (by omega)), neN (by omega)⟩
theorem append_pl {prog : Program} {A : Around} {D pl : Addr} {opl : Obj} {its : Array Value} {n : Nat} {v : Value} {rest : List (Addr × Obj)} (F : Fr h₀ L s.heap m) (N : News h₀ L s.heap ((pl, opl) :: (D, W.listOf its n) :: rest)) (hq : Off pl ((D, W.listOf its n) :: rest)) (hsep : Off D rest) (hl : its.size ≤ 100)
    (h : ∀ h', Fr h₀ L h' m → News h₀ L h' ((pl, opl) :: (D, W.listOf (its.push v) (n + 1)) :: rest) → Q .none { s with heap := h' }) : wpAny (model prog w) A (call (.builtin "list.append") [.ref D, v]) Q E s :=
  append_own2 F N (Ne.symm (hq _ (.head _))) hsep hl h
def FolRet (h₀ : Heap) (L : Addr) (m : Str → Option Value) (news old : List (Addr × Obj)) (s : Shared) (Q : Value → Shared → Prop) (ns : List Int) (cut : Nat) : Prop :=
  ∀ t tl tvs tn X tX ps' S h' tk', Fr h₀ L h' m → News h₀ L h' ((t, ({ cls := .type "tuple", data := .seq [.ref tl, .str X tX].toArray } : Obj)) :: (tl, W.listOf tvs.toArray tn) :: (86, tabObj ps') :: (S ++ news)) →
    DatAll [] tvs (dueOf ns (placesN ns) cut).1 → X = (dueOf ns (placesN ns) cut).2 → TabOk ps' (S ++ old) → Off 86 (S ++ news) → (@Ne Nat t 86 ∧ @Ne Nat tl 86) → (∀ q ∈ news, t ≠ q.1 ∧ tl ≠ q.1) → (∀ q ∈ news, ∀ p ∈ S, p.1 ≠ q.1) → Q (.ref t) { s with heap := h', toks := tk' }
theorem push_toArr (l : List Value) (v : Value) : l.toArray.push v = (l ++ [v]).toArray := by simp
theorem at_l1 {t tl pl : Addr} {o : Obj} {R : List (Addr × Obj)} (h : pl < t ∧ tl < t ∧ 86 < t ∧ AllLt t R) : pl < t ∧ tl < t ∧ AllLt t ((86, o) :: R) := h
theorem fol_fin {news old S R' : List (Addr × Obj)} {ns : List Int} {cut : Nat} {t t0 tl pl pl' rl : Addr} {opl orl : Obj} {tvs : List Value} {Ar : Array Value} {tn : Nat} {ds : List Dat} {X : Str} {tX : Tok} {ps' : Array Value} {h' : Heap} {tk' : Nat} (hret : FolRet h₀ L m news old s Q ns cut) (hX : dueOf ns (placesN ns) cut = (ds, X)) (hd : DatAll [] tvs ds) (hA : Ar = tvs.toArray) (F : Fr h₀ L h' m)
    (N : News h₀ L h' ((t, ({ cls := .type "tuple", data := .seq [.ref tl, .str X tX].toArray } : Obj)) :: (pl, opl) :: (tl, W.listOf Ar tn) :: R')) (l1 : pl < t ∧ tl < t ∧ AllLt t R') (hR : ∀ q ∈ (86, tabObj ps') :: (S ++ (rl, orl) :: news), q ∈ R')
    (l2 : t0 < tl ∧ pl' < tl ∧ 86 < tl ∧ AllLt tl (S ++ (rl, orl) :: news)) (l3 : 86 < rl ∧ AllLt rl news) (hTb : TabOk ps' (S ++ old)) (hO : Off 86 (S ++ (rl, orl) :: news)) (hsp : ∀ q ∈ (rl, orl) :: news, ∀ p ∈ S, p.1 ≠ q.1) : Q (.ref t) { s with heap := h', toks := tk' } := by
  subst hA
  have e : S ++ (rl, orl) :: news = (S ++ [(rl, orl)]) ++ news := by rw [List.append_assoc]; rfl
  have h86 : @LT.lt Nat _ 86 tl := l2.2.2.1
  have ht : ∀ q ∈ R', q.1 ≠ t := lt_sep l1.2.2
  refine hret t tl tvs tn X tX ps' (S ++ [(rl, orl)]) h' tk' F (cb_drop N ?_) (by rw [hX]; exact hd) (by rw [hX]) (tabOk_mono hTb fun q hq => (List.mem_append.mp hq).elim (fun h => List.mem_append.mpr (.inl (List.mem_append.mpr (.inl h)))) fun h => List.mem_append.mpr (.inr h)) (e ▸ hO) ⟨?_, neN (by omega)⟩ ?_ ?_
  · intro p hp
    rw [← e] at hp
    rcases List.mem_cons.mp hp with rfl | hp
    · exact .head _
    rcases List.mem_cons.mp hp with rfl | hp
    · exact .tail _ (.tail _ (.head _))
    · exact .tail _ (.tail _ (.tail _ (hR p hp)))
  · exact (ht _ (hR _ (.head _))).symm
  · intro q hq
    have hq' : q ∈ S ++ (rl, orl) :: news := List.mem_append.mpr (.inr (.tail _ hq))
    exact ⟨(ht q (hR q (.tail _ hq'))).symm, (lt_sep l2.2.2.2 q hq').symm⟩
  · intro q hq p hp
    rcases List.mem_append.mp hp with hp | hp
    · exact hsp q (.tail _ hq) p hp
    · rw [List.mem_singleton.mp hp]
      exact (lt_sep l3.2 q hq).symm
section
variable {ns : List Int} {cut i : Nat} {ds : List Dat}
theorem fol_r0 (h : cut < 4) : dueOf ns (placesN ns) cut = ([], Str.ofString "not enough data in stream to read uint4") := due_r0 (by omega)
end
theorem keep_readers {w : World} {x : Int} : keepIn (hd.heap_39 w.params) (.ref (readerAt (itemK x))) = true := by
  have hb := itemK_in x
  rcases (by omega : itemK x = 0 ∨ itemK x = 1 ∨ itemK x = 2 ∨ itemK x = 3 ∨ itemK x = 4) with e | e | e | e | e <;> rw [e]
  · show keepIn _ (.ref 56) = true; k_is
  · show keepIn _ (.ref 70) = true; k_is
  · show keepIn _ (.ref 77) = true; k_is
  · show keepIn _ (.ref 63) = true; k_is
  · show keepIn _ (.ref 84) = true; k_is
local macro_rules | `(tactic| walk_at "exec For Name Call cons nil") => `(tactic| (k_here; (rename Fr _ _ _ _ => lF'); (with_unfolding_all refine' For_invVF lF' ?k1 ?k2 ?_; (case k1 => exact rfl); (case k2 => exact rfl); k_whole)))
local macro_rules | `(tactic| k_mem) => `(tactic| first | assumption | exact List.mem_cons_self | (apply List.mem_cons_of_mem; k_mem) | (apply List.mem_append_left; k_mem) | (apply List.mem_append_right; k_mem))
local macro_rules | `(tactic| walk_at "call ref") => `(tactic| (k_here; (with_reducible show wpAny _ _ (call (Value.ref 70) [Value.ref _]) _ _ _); k_dflt (refine' at_here ?q1 ?q2 ?kB ?kF ?kX ?kC ?kT ?kK ?kN ?hS ?hR ?hne ?hlt ?kd ?ku ?r1 ?r2; (case q1 => assumption); (case q2 => assumption); (case kN => k_asm); (case hS => assumption); (case hR => assumption); (case hne => assumption); (case hlt => assumption); (case kB => k_asm); (case kF => k_asm); (case kX => k_asm); (case kC => assumption); (case kT => k_asm); (case kK => first | exact rfl | assumption); (case kd => ktr_room); (case ku => ktr_units)); (case' r1 => intro hc4; unfold RdRet; intro t' tp' np' h' tk' F' N'; (try k_sweep)); (case' r2 => intro hc4 pos'; unfold RdErr; intro e' t' G' tm' tp' np' h' tk' F' S' U')))
local macro_rules | `(tactic| walk_at "call ref") => `(tactic| (k_here; (with_reducible show wpAny _ _ (call (Value.ref 91) [Value.bytes _ _]) _ _ _); k_dflt (refine' stream_at ?kB ?kF ?kX ?kC ?kN ?kT ?kK ?kH ?kP ?kO ?kl ?kd ?ku ?_; (case kB => k_asm); (case kF => k_asm); (case kX => k_asm); (case kC => assumption); (case kN => k_asm); (case kT => k_asm); (case kK => first | exact rfl | assumption); (case kP => assumption); (case kH => assumption); (case kO => assumption); (case kl => omega); (case kd => ktr_room); (case ku => ktr_units)); unfold StreamRet; intro t' f' pl' tk' S' ps' h' tk2' F' N' hSt' hTb' hOf' hne' hO86' hlt' hsp'; (try k_sweep)))
local macro_rules | `(tactic| walk_at "pyIter ref") => `(tactic| (k_here; (with_reducible show wpAny _ _ (pyIter (Value.ref _)) (fun _ _ => LoopAtV _ _ _ _ _ _ _ _ _ _ _) _ _); refine stop_in ?_))
local macro_rules | `(tactic| walk_at "mine way") => `(tactic| (k_here; (with_reducible show wpAny _ _ (call (Value.ref 63) [Value.ref _]) _ _ _); k_dflt (refine' way_call ?q1 ?q2 ?q3 ?kB ?kF ?kX ?kC ?kT ?kK ?kN ?hS ?hR ?kd ?ku ?r1 ?r2; (case kN => k_asm); (case q2 => assumption); (case q1 => assumption); (case q3 => assumption); (case hS => assumption); (case hR => assumption); (case kB => k_asm); (case kF => k_asm); (case kX => k_asm); (case kC => assumption); (case kT => k_asm); (case kK => first | exact rfl | assumption); (case kd => ktr_room); (case ku => ktr_units)); (case' r1 => intro hs1; unfold RdRet; intro t' tp' np' h' tk' F' N'; (try k_sweep)); (case' r2 => intro hs1 pos'; unfold RdErr; intro e' t' G' tm' tp' np' h' tk' F' S' U')))
local macro_rules | `(tactic| walk_at "mine kind") => `(tactic| (k_here; (with_reducible show wpAny _ _ (call (Value.ref 49) [Value.ref _]) _ _ _); k_dflt (refine' kind_call ?q1 ?q2 ?q3 ?kB ?kF ?kX ?kC ?kT ?kK ?kN ?hS ?hR ?kd ?ku ?r1 ?r2; (case kN => k_asm); (case q2 => assumption); (case q1 => assumption); (case q3 => assumption); (case hS => assumption); (case hR => assumption); (case kB => k_asm); (case kF => k_asm); (case kX => k_asm); (case kC => assumption); (case kT => k_asm); (case kK => first | exact rfl | assumption); (case kd => ktr_room); (case ku => ktr_units)); (case' r1 => intro hs2; unfold RdRet; intro t' tp' np' h' tk' F' N'; (try k_sweep)); (case' r2 => intro hs2 pos'; unfold RdErr; intro e' t' G' tm' tp' np' h' tk' F' S' U')))
local macro_rules | `(tactic| walk_at "mine value") => `(tactic| (k_here; (with_reducible show wpAny _ _ (call (Value.ref (readerAt _)) [Value.ref _]) _ _ _); k_dflt (refine' value_call ?q1 ?q2 ?q3 ?q4 ?kB ?kF ?kX ?kC ?kT ?kK ?kN ?hS ?hR ?kd ?ku ?r1 ?r2 ?r3; (case kN => k_asm); (case q2 => assumption); (case q1 => assumption); (case q3 => assumption); (case q4 => assumption); (case hS => assumption); (case hR => assumption); (case kB => k_asm); (case kF => k_asm); (case kX => k_asm); (case kC => assumption); (case kT => k_asm); (case kK => first | exact rfl | assumption); (case kd => ktr_room); (case ku => ktr_units)); (case' r1 => intro hs3 hs4 mk' pos' hmk'; unfold RdRet; intro t' tp' np' h' tk' F' N'; (try k_sweep)); (case' r2 => intro hs3 pos'; unfold RdErr; intro e' t' G' tm' tp' np' h' tk' F' S' U'); (case' r3 => intro hs3 hs4 pos'; unfold RdErr; intro e' t' G' tm' tp' np' h' tk' F' S' U')))
local macro_rules | `(tactic| walk_at "subscriptTail") => `(tactic| (k_here; (with_reducible show wpAny _ _ (subscriptTail _ _ (Value.ref _) (Value.int (itemK _) _)) _ _ _); k_dflt (refine' reader_own ?N ?hm rfl ?_; (case N => k_asm); (case hm => k_mem))))
local macro_rules | `(tactic| walk_at "setItem ref int") => `(tactic| (k_here; k_dflt (refine' place_own ?F ?N ?sep ?_; (case F => k_asm); (case N => k_asm); (case sep => assumption)); intro h' F' N'))
local macro_rules | `(tactic| walk_at "call builtin:list.append") => `(tactic| (k_here; (with_reducible show wpAny _ _ (call (Value.builtin _) [Value.ref _, _]) _ _ _); k_dflt (refine' append_pl ?F ?N ?hq ?sep ?hl ?_; (case F => k_asm); (case N => k_asm); (case sep => assumption); (case hq => assumption); (case hl => (rw [List.size_toArray]; omega))); intro h' F' N'))
local macro_rules | `(tactic| walk_at "call ref") => `(tactic| (k_here; (with_reducible show wpAny _ _ (call (Value.ref 63) [Value.ref _]) _ _ _); refine stop_in ?_))
local macro_rules | `(tactic| walk_at "call ref") => `(tactic| (k_here; (with_reducible show wpAny _ _ (call (Value.ref 49) [Value.ref _]) _ _ _); refine stop_in ?_))
local macro_rules | `(tactic| walk_at "call ref") => `(tactic| (k_here; (with_reducible show wpAny _ _ (call (Value.ref (readerAt _)) [Value.ref _]) _ _ _); refine stop_in ?_))
local macro_rules | `(tactic| walk_at "callWith ref") => `(tactic| (k_here; (with_reducible show wpAny _ _ (callWith _ (Value.ref (readerAt _)) _ _ _) _ _ _); k_dflt (refine' callWith_K ?k1 keep_readers ?_; (case k1 => k_asm); k_whole)))
theorem follow_call {news old : List (Addr × Obj)} {ns : List Int} {cut : Nat} {b : Array UInt8} {tb : Tok} {ps₀ : Array Value} (hlen : 6 ≤ ns.length ∧ ns.length ≤ 16) (hbk : KBw.bInts b = (octN ns).take cut)
   (B : Below A₀ base [] h₀) (F : Fr h₀ L s.heap m) (X : (hd.heap_39 w.params).In h₀) (XB : (hd.heap_39 w.params).In base) (TB : Top p loose mean mg mb base) (CH : CodeHd base 90 86) (N : News h₀ L s.heap ((86, tabObj ps₀) :: news)) (T : Top p loose mean mg mb h₀) (hk : cs.kind = .function) (hold : ∀ q ∈ old, q ∈ news) (hP : TabOk ps₀ old) (hO : Off 86 news)
   (hdp : dp + 10 < recursionLimit) (hun : un + 100 < cLine)
   (hret : FolRet h₀ L m news old s Q ns cut) :
   wpAny (model PG w) (ktrTop dp un gd cn cs L a ccd [] []) (call (.ref 120) [.bytes b tb]) Q E s := by
  refine wpAny_call ?_
  k_dflt (refine' code_defS0 ?k1 ?k2 ?k3 ?k4 ?k5 ?kA ?k6 ?k7 ?k8 ?k9 ?kB ?_ ?cK ?c2 ?c3 ?c4 ?c5; (case kA => exact rfl); (case k2 => k_asm); (case k1 => k_asm); (case k3 => k_asm); (case k4 => k_asm); (case k5 => k_asm); (case k6 => k_is); (case k7 => k_is); (case k8 => ktr_room); (case k9 => exact BindsTo.of_eq rfl); (case kB => exact locs rfl); (case cK => assumption); (case c2 => exact rfl); (case c3 => exact rfl); (case c4 => exact rfl); (case c5 => decide); k_whole; intro g' L' h' FG' F' N' B' X' T' D'; (try dsimp only); (try k_lift B'); (try k_fold))
  w_strict k_steps
  rotate_left
  · unfold Stop
    rename IsRange _ _ _ _ _ _ _ _ => hR'
    rename StreamIn _ _ _ _ _ _ => hSt
    rename _ ∧ _ ∧ _ ∧ AllLt _ _ => hAl
    rename _ ≠ 86 => hne86
    refine fol_loop (cut := cut) (ns := ns) rfl hR' hlen (by assumption) (by k_asm) (by k_asm) (fol_seps hAl (by assumption) hne86).1 (fol_seps hAl (by assumption) hne86).2.1 (fol_seps (o := tabObj #[]) hAl (by assumption) hne86).2.2 (streamIn_mono hSt fun q h => .tail _ h) rfl rfl rfl rfl rfl ?turn
    intro i' t' u' pos' tp' np' tvs' tn' ds' ta' h' tk' own' hi' hds' htl' hdu' hsp1' hsp2' hof' hst' F' N'
    have hk5 := itemK_in (atI ns (i' : Int))
    w_strict k_steps
    unfold Stop
    walk_at "mine way"
    · w_strict k_steps
      exact fol_fin hret (due_r1 hdu' hi' (by assumption)) hds' rfl (by assumption) (by assumption) (by assumption) (fun q h => List.mem_append.mpr (.inl h)) hAl (by assumption) (by assumption) (by assumption) (by assumption)
    · w_strict k_steps
      unfold Stop
      walk_at "mine kind"
      · w_strict k_steps
        exact fol_fin hret (due_r2 hdu' hi' (by assumption) (by assumption)) hds' rfl (by assumption) (by assumption) (by assumption) (fun q h => List.mem_append.mpr (.inl h)) hAl (by assumption) (by assumption) (by assumption) (by assumption)
      · w_strict k_steps
        unfold Stop
        walk_at "mine value"
        · w_strict k_steps
          exact fol_fin hret (due_r4 hdu' hi' (by assumption) (by assumption) (by assumption) (by assumption)) hds' rfl (by assumption) (by assumption) (by assumption) (fun q h => List.mem_append.mpr (.inl h)) hAl (by assumption) (by assumption) (by assumption) (by assumption)
        · w_strict k_steps
          exact fol_fin hret (due_r3 hdu' hi' (by assumption) (by assumption) (by assumption)) hds' rfl (by assumption) (by assumption) (by assumption) (fun q h => List.mem_append.mpr (.inl h)) hAl (by assumption) (by assumption) (by assumption) (by assumption)
        · w_strict k_steps
          · rename ∀ _ _, DatIn _ _ _ => hmk
            exact fol_fin hret (fol_all hi' hdu' (by assumption) (by assumption) (by assumption) (by assumption) (by assumption)) (hds'.append (.one (hmk _ _))) (push_toArr _ _) (by assumption) (by assumption) (by assumption) (fun q h => List.mem_append.mpr (.inl h)) hAl (by assumption) (by assumption) (by assumption) (by assumption)
          · rename ∀ _ _, DatIn _ _ _ => hmk
            refine fol_end hlen.2 hi' hds' htl' hdu' (hmk _) (by assumption) (by assumption) (by assumption) (by assumption) (by assumption) (by k_asm) (by assumption) (.head _) (.tail _ (.head _)) (fun q h => .tail _ (.tail _ h)) hof' rfl rfl rfl rfl rfl rfl
  · exact fol_fin hret (fol_r0 (by assumption)) .nil rfl (by assumption) (by assumption) (at_l1 (by assumption)) (fun q h => h) (by assumption) (by assumption) (by assumption) (by assumption) (by assumption)
end SK1
section SN1
theorem strOk_of (x : String) : PyData.strOk (Str.ofString x) = true := by
  unfold PyData.strOk
  rw [Str.ofString_eq_toList]
  simp only [List.all_toArray, List.all_map, List.all_eq_true]
  intro c _
  have h := c.valid
  simp only [Function.comp]
  refine decide_eq_true ?_
  rcases h with h | h
  · exact Nat.lt_trans h (by decide)
  · exact h.2
theorem strOk_app {a b : Str} (ha : PyData.strOk a = true) (hb : PyData.strOk b = true) : PyData.strOk (a ++ b) = true := by
  unfold PyData.strOk at *
  rw [Str.cps_append, Array.all_append, ha, hb]
  rfl
theorem strOk_text (x : Int) (n : Nat) : PyData.strOk (textOf (low x n)) = true := by
  unfold PyData.strOk textOf
  simp only [List.all_toArray, List.all_map, List.all_eq_true]
  intro k hk
  obtain ⟨j, _, rfl⟩ := List.mem_map.mp hk
  have := Int.fmod_lt_of_pos (x.fdiv (256 ^ j.toNat)) (show (0 : Int) < 256 by decide)
  simp only [Function.comp]
  exact decide_eq_true (by omega)
def plainD (d : Dat) : Bool := match d with | .int _ => true | .str x => PyData.strOk x | _ => false
theorem plainD_ok {n : Nat} {d : Dat} (h : plainD d = true) : kqdOk n d = true := by
  cases d <;> simp [plainD] at h
  · cases n <;> rfl
  · cases n <;> simp [kqdOk, h]
theorem itemV_plain (x : Int) : plainD (itemV x) = true := by
  unfold itemV
  repeat' split
  all_goals first | rfl | exact strOk_text _ _
theorem exp_ok (n k : Int) : PyData.strOk (expMsg n k) = true :=
  strOk_app (strOk_app (strOk_app (strOk_app (strOk_of _) (strOk_of _)) (strOk_of _)) (strOk_of _)) (strOk_of _)
theorem nameAt_ok (k : Int) : PyData.strOk (nameAt k) = true := by
  unfold nameAt namesL
  generalize k.toNat = j
  match j with
  | 0 => exact strOk_of _
  | 1 => exact strOk_of _
  | 2 => exact strOk_of _
  | 3 => exact strOk_of _
  | 4 => exact strOk_of _
  | _ + 5 => exact strOk_of _
theorem dueGo_ok (ns ps : List Int) (cut : Int) : ∀ (j i : Nat) (told : List Dat), (∀ d ∈ told, plainD d = true) → (∀ d ∈ (dueGo ns ps cut j i told).1, plainD d = true) ∧ PyData.strOk (dueGo ns ps cut j i told).2 = true
  | 0, _, told, h => ⟨h, strOk_of _⟩
  | j + 1, i, told, h => by
    unfold dueGo
    repeat' split
    · exact ⟨h, strOk_of _⟩
    · exact ⟨h, strOk_of _⟩
    · exact ⟨h, strOk_app (strOk_of _) (nameAt_ok _)⟩
    · exact ⟨h, exp_ok _ _⟩
    · refine dueGo_ok ns ps cut j (i + 1) _ fun d hd => ?_
      rcases List.mem_append.mp hd with hd | hd
      · exact h d hd
      · rw [List.mem_singleton.mp hd]; exact itemV_plain _
theorem dueOf_ok (ns ps : List Int) (cut : Int) : (∀ d ∈ (dueOf ns ps cut).1, plainD d = true) ∧ PyData.strOk (dueOf ns ps cut).2 = true := by
  unfold dueOf
  split
  · exact ⟨fun _ h => (nomatch h), strOk_of _⟩
  · exact dueGo_ok ns ps cut _ _ _ fun _ h => nomatch h
theorem due_dat_ok (ns ps : List Int) (cut : Int) : kqdOk 9 (.tuple [.list (dueOf ns ps cut).1, .str (dueOf ns ps cut).2]) = true := by
  have h := dueOf_ok ns ps cut
  simp only [kqdOk, List.all_cons, List.all_nil, Bool.and_true, Bool.and_eq_true, List.all_eq_true]
  exact ⟨fun d hd => plainD_ok (h.1 d hd), h.2⟩
section
variable {prog : Program} {w : World} {A : Around} {E : Value → Shared → Prop} {s : Shared} {h₀ : Heap} {L a b : Addr} {news : List (Addr × Obj)} {Q : Value → Shared → Prop}
theorem ne_same {d : Dat} (N : News h₀ L s.heap news) (ha : DatIn news (.ref a) d) (hb : DatIn news (.ref b) d) (hk : kqdOk 9 d = true) (hu : A.units + 64 < cLine) (h : Q (.bool false) s) : wpAny (model prog w) A (compareOp .NotEq (.ref a) (.ref b)) Q E s := by
  obtain ⟨as, ra⟩ := kqd_in N 9 ha hk
  obtain ⟨bs, rb⟩ := kqd_in N 9 hb hk
  have la := kqd_lay 9 d hk
  have e : PyData.eqv (kqdP d) (kqdP d) = true := (kqd_eqv 9 d d 9 hk hk).mpr rfl
  have hs : SeqAt.shaped (kqdP d) = true := by
    unfold SeqAt.shaped
    rw [la.1, Bool.true_and]
    exact decide_eq_true (Nat.le_trans la.2 (by decide))
  exact ne_dataH ra rb hs hs hu (by rw [e]; exact h)
end
section
variable {prog : Program} {w : World} {A : Around} {E : Value → Shared → Prop} {s : Shared} {h₀ : Heap} {L : Addr} {m : Str → Option Value} {env : Env}
def Small (v : Value) : Prop := (∃ i t, v = .int i t) ∨ ∃ y t, v = .str y t
theorem small_all {S : List (Addr × Obj)} : ∀ {us : List Value} {ds : List Dat}, DatAll S us ds → (∀ d ∈ ds, plainD d = true) → ∀ v ∈ us, Small v
  | _, _, .nil, _, _, h => nomatch h
  | _, _, .cons (d := d) hd r, hp, v, h => by
    rcases List.mem_cons.mp h with rfl | h
    · have := hp d (.head _)
      cases hd with
      | int i t => exact .inl ⟨_, _, rfl⟩
      | str x t => exact .inr ⟨_, _, rfl⟩
      | _ => simp [plainD] at this
    · exact small_all r (fun d hd => hp d (.tail _ hd)) v h
open LCg LCt in
/-- a comprehension whose test is never true -/
theorem rest_none {ct elt : Expr} {x : Str} {scope : Scope} {cl : List (Str × Addr)} {Fin : List Value → List (Addr × Obj) → Prop} {news : List (Addr × Obj)} {ax : Addr} {us : List Value} (hp : ∀ v ∈ us, Small v) (hS : SrcAt h₀ ax us.toArray news)
    (turn : ∀ v I oI C oC D m₂ h tk (E' : Value → Shared → Prop), Small v → NsObj oC m₂ → m₂ x = some v → Fr h₀ L h m → News h₀ L h ((I, oI) :: (C, oC) :: (D, lst []) :: news) → Off3 I C D news → ((@Ne Nat I C) ∧ (@Ne Nat I D) ∧ (@Ne Nat C D)) →
      wpAny (model prog w) A (isTrue ct (compEnvC scope cl C env) (eval ct (compEnvC scope cl C env))) (fun ok s' => ok = false ∧ CompEnd h₀ L m { s with heap := h, toks := tk } I oI C oC D (lst []) (fun _ => True) (fun _ news' => news' = news) Value.none s') E' { s with heap := h, toks := tk })
    (fin : Fin [] news) : CompRestT prog w A h₀ L m env ct elt x scope cl s (SrcAt h₀ ax us.toArray) (fun i v => us.toArray[i]? = some v) Fin us.toArray.size 0 [] news := by
  have key : ∀ (j i : Nat), CompRestT prog w A h₀ L m env ct elt x scope cl s (SrcAt h₀ ax us.toArray) (fun i v => us.toArray[i]? = some v) Fin j i [] news := by
    intro j
    induction j with
    | zero => intro i; exact CompRestT.zero fin
    | succ j ih =>
      intro i
      refine CompRestT.succ ?_
      intro v I oI C oC D m₂ h tk E' hv hC hx F N off ne
      have hm : v ∈ us := List.mem_of_getElem? (by simpa using hv)
      refine wpAny_mono (turn v I oI C oC D m₂ h tk E' (hp v hm) hC hx F N off ne) (fun ok s₂ hq => ?_) fun _ _ e => e
      obtain ⟨rfl, h', tk', nw, e, F', N', off', _, rfl⟩ := hq
      exact ⟨h', tk', nw, e, F', N', off', hS, ih (i + 1)⟩
  exact key _ 0
end
end SN1
section SN2
theorem low_in (x : Int) (n : Nat) : ∀ k ∈ low x n, 0 ≤ k ∧ k < 256 := by
  intro k hk
  obtain ⟨j, _, rfl⟩ := List.mem_map.mp hk
  exact ⟨Int.fmod_nonneg_of_pos _ (by decide), Int.fmod_lt_of_pos _ (by decide)⟩
theorem itemB_in (x : Int) : ∀ k ∈ itemB x, 0 ≤ k ∧ k < 256 := by
  unfold itemB
  repeat' split
  all_goals first
    | exact low_in _ _
    | (intro k hk
       rcases List.mem_append.mp hk with hk | hk
       · exact low_in _ _ k hk
       · exact low_in _ _ k hk)
theorem octAt_in (ns ord ps : List Int) : ∀ i, ∀ k ∈ octAt ns ord ps i, 0 ≤ k ∧ k < 256
  | 0 => low_in _ _
  | i + 1 => by
    intro k hk
    simp only [octAt, segOf, List.mem_append, List.mem_singleton] at hk
    rcases hk with hk | (hk | hk) | hk
    · exact octAt_in ns ord ps i k hk
    · exact low_in _ _ k hk
    · rw [hk]; have := itemK_in (atI ns (ord.getD i 0)); omega
    · exact itemB_in _ k hk
theorem octN_ints (ns : List Int) : KBw.bInts (byteArr (octN ns)) = octN ns := KBa.ints_make (octAt_in ns (ordN ns) (placesN ns) ns.length)
def JLaw (il pl : Addr) (oct : Array UInt8) (tb : Tok) (base : List (Addr × Obj)) (_i : Nat) (m : Str → Option Value) (nx : List (Addr × Obj)) : Prop :=
  m "items" = some (.ref il) ∧ m "places" = some (.ref pl) ∧ m "octets" = some (.bytes oct tb) ∧ ∃ ps R, nx = (86, tabObj ps) :: R ∧ TabOk ps R ∧ Off 86 R ∧ ∀ q ∈ base, q ∈ R
section
variable {prog : Program} {w : World} {A : Around} {E : Value → Shared → Prop} {s : Shared} {h₀ : Heap} {L : Addr} {m₀ : Str → Option Value} {env : Env} {Q : Flow → Shared → Prop} {body : List Stmt} {il pl cl : Addr} {oct : Array UInt8} {tb : Tok} {base : List (Addr × Obj)}
theorem law_loop {ps0 : Array Value} {R0 : List (Addr × Obj)} {cvs : List Value} {cs : List Int} {cn : Nat} (hh : A.handled = none) (hcs : IntsAre cvs cs) (hcb : ∀ c ∈ cs, 0 ≤ c ∧ c ≤ 300) (hm : (cl, W.listOf cvs.toArray cn) ∈ base)
    (F : Fr h₀ env.locals s.heap m₀) (N : News h₀ env.locals s.heap ((86, tabObj ps0) :: R0)) (hT : TabOk ps0 R0) (hO : Off 86 R0) (hb : ∀ q ∈ base, q ∈ R0)
    (e1 : m₀ "items" = some (.ref il)) (e2 : m₀ "places" = some (.ref pl)) (e3 : m₀ "octets" = some (.bytes oct tb))
    (turn : ∀ i (c : Nat) t (u : Str → Option Value) ps R h tk own, c ≤ 300 → TabOk ps R → Off 86 R → (∀ q ∈ base, q ∈ R) → OwnOff own (86 :: R.map (·.1)) →
      Fr h₀ env.locals h (fun y => if y = "octets" then some (.bytes oct tb) else if y = "places" then some (.ref pl) else if y = "items" then some (.ref il) else if y = "cut" then some (.int (c : Int) t) else u y) →
      News h₀ env.locals h ((86, tabObj ps) :: (R ++ own)) →
      wpAny (model prog w) A (execs body env) (InvPostG h₀ env.locals (fun m' nx => (cl, W.listOf cvs.toArray cn) ∈ nx ∧ JLaw il pl oct tb base (i + 1) m' nx) own { s with heap := h, toks := tk } Q) E { s with heap := h, toks := tk })
    (done : ∀ (u : Str → Option Value) ps R h tk, TabOk ps R → Off 86 R → Fr h₀ env.locals h u → News h₀ env.locals h ((86, tabObj ps) :: R) → Q .next { s with heap := h, toks := tk }) :
    wpAny (model prog w) A (pyIter (.ref cl)) (fun it s₂ => LoopAtV prog w A h₀ env "cut" body Q E it s₂) E s := by
  refine kdl_iter (nn := cn) (vs := cvs) (JLaw il pl oct tb base) hh (.tail _ (hb _ hm)) F N ⟨e1, e2, e3, ps0, R0, rfl, hT, hO, hb⟩ ?_ ?_
  · rintro i v m₁ nx h tk own hv hoff _ ⟨d1, d2, d3, ps, R, rfl, hT', hO', hb'⟩ F₁ N₁
    obtain ⟨hi, t, rfl⟩ := ints_at hcs hv
    have hc : cs.getD i 0 ∈ cs := by
      have e : cs.getD i 0 = cs[i]'hi := by simp [List.getD, List.getElem?_eq_getElem hi]
      rw [e]
      exact List.getElem_mem _
    obtain ⟨hc1, hc2⟩ := hcb _ hc
    obtain ⟨c, hce⟩ := Int.eq_ofNat_of_zero_le hc1
    rw [hce] at F₁ hc2
    refine turn i c t m₁ ps R h tk own (by omega) hT' hO' hb' hoff ?_ N₁
    exact fr_put (fr_put (fr_put F₁ ((if_neg (by decide)).trans d1)) ((if_neg (by decide)).trans ((if_neg (by decide)).trans d2))) ((if_neg (by decide)).trans ((if_neg (by decide)).trans ((if_neg (by decide)).trans d3)))
  · rintro m₁ nx h tk ⟨d1, d2, d3, ps, R, rfl, hT', hO', hb'⟩ F₁ N₁
    exact done m₁ ps R h tk hT' hO' F₁ N₁
theorem law_end {i : Nat} {cvs : List Value} {cn : Nat} {m' : Str → Option Value} {own news' R S2 : List (Addr × Obj)} {ps2 : Array Value} {h' : Heap} {tk' : Nat} (hm : (cl, W.listOf cvs.toArray cn) ∈ base) (hb : ∀ q ∈ base, q ∈ R) (hO : Off 86 (S2 ++ (R ++ own))) (hs2 : ∀ q ∈ R ++ own, ∀ p ∈ S2, p.1 ≠ q.1)
    (F : Fr h₀ L h' m') (N : News h₀ L h' news') (hs : ∀ q ∈ (86, tabObj ps2) :: (S2 ++ (R ++ own)), q ∈ news') (hoff : OwnOff own (86 :: R.map (·.1)))
    (hTR : TabOk ps2 (S2 ++ R)) (d1 : m' "items" = some (.ref il)) (d2 : m' "places" = some (.ref pl)) (d3 : m' "octets" = some (.bytes oct tb)) :
    InvEndG h₀ L (fun m' nx => (cl, W.listOf cvs.toArray cn) ∈ nx ∧ JLaw il pl oct tb base (i + 1) m' nx) own s { s with heap := h', toks := tk' } := by
  have hsub : ∀ q ∈ S2 ++ R, q ∈ S2 ++ (R ++ own) := fun q hq => by
    rcases List.mem_append.mp hq with hq | hq
    · exact List.mem_append.mpr (.inl hq)
    · exact List.mem_append.mpr (.inr (List.mem_append.mpr (.inl hq)))
  refine InvEndG.intro F N (nx := (86, tabObj ps2) :: (S2 ++ R)) ⟨.tail _ (List.mem_append.mpr (.inr (hb _ hm))), d1, d2, d3, ps2, S2 ++ R, rfl, hTR, fun q hq => hO q (hsub q hq), fun q hq => List.mem_append.mpr (.inr (hb q hq))⟩ ?_ (fun p hp => ?_) (fun p hp => ?_)
  · intro p hp b hbm
    rcases List.mem_cons.mp hbm with rfl | hbm
    · exact hoff p hp 86 (.head _)
    · obtain ⟨q, hq, rfl⟩ := List.mem_map.mp hbm
      rcases List.mem_append.mp hq with hq | hq
      · exact (hs2 p (List.mem_append.mpr (.inr hp)) q hq).symm
      · exact hoff p hp _ (.tail _ (List.mem_map.mpr ⟨q, hq, rfl⟩))
  · rcases List.mem_cons.mp hp with rfl | hp
    · exact hs _ (.head _)
    · exact hs p (.tail _ (hsub p hp))
  · exact hs p (.tail _ (List.mem_append.mpr (.inr (List.mem_append.mpr (.inr hp)))))
end
section
variable {prog : Program} {w : World} {A : Around} {E : Value → Shared → Prop} {s : Shared} {h₀ : Heap} {L : Addr} {news : List (Addr × Obj)} {Q : Value → Shared → Prop}
theorem ne_due {S : List (Addr × Obj)} {ns ps : List Int} {cut : Int} {t2 tl t3 tl3 : Addr} {tvs tvs3 : List Value} {tn tn3 : Nat} {X X3 : Str} {tX tX3 : Tok} (N : News h₀ L s.heap news) (m2 : (t2, ({ cls := .type "tuple", data := .seq [.ref tl, .str X tX].toArray } : Obj)) ∈ news) (ml : (tl, W.listOf tvs.toArray tn) ∈ news) (hD : DatAll [] tvs (dueOf ns ps cut).1) (hX : X = (dueOf ns ps cut).2)
    (m3 : (t3, ({ cls := .type "tuple", data := .seq [.ref tl3, .str X3 tX3].toArray } : Obj)) ∈ news) (ml3 : (tl3, W.listOf tvs3.toArray tn3) ∈ news) (hD3 : DatAll S tvs3 (dueOf ns ps cut).1) (hS : ∀ q ∈ S, q ∈ news) (hX3 : X3 = (dueOf ns ps cut).2) (hu : A.units + 64 < cLine) (h : Q (.bool false) s) :
    wpAny (model prog w) A (compareOp .NotEq (.ref t2) (.ref t3)) Q E s := by
  subst hX hX3
  exact ne_same (d := .tuple [.list (dueOf ns ps cut).1, .str (dueOf ns ps cut).2]) N (.tuple (vs := [.ref tl, .str _ tX]) m2 (.cons (.list ml (DatAll.mono (news := []) (fun _ h => absurd h List.not_mem_nil) hD)) (.cons (.str _ _) .nil))) (.tuple (vs := [.ref tl3, .str _ tX3]) m3 (.cons (.list ml3 (hD3.mono hS)) (.cons (.str _ _) .nil))) (due_dat_ok ns ps cut) hu h
theorem ne_nil {a b : Addr} {n n' : Nat} (N : News h₀ L s.heap news) (ha : (a, W.listOf #[] n) ∈ news) (hb : (b, W.listOf #[] n') ∈ news) (hu : A.units + 64 < cLine) (h : Q (.bool false) s) : wpAny (model prog w) A (compareOp .NotEq (.ref a) (.ref b)) Q E s :=
  ne_same (d := .list []) N (.list (vs := []) ha .nil) (.list (vs := []) hb .nil) (by rfl) hu h
end
end SN2
section SM1
theorem drop5 {g h : Heap} {l : Addr} {a b c d e : Addr × Obj} (N : News g l h [a, b, c, d, e]) : News g l h [a, e] := cb_drop N fun p hp => by
  simp only [List.mem_cons, List.not_mem_nil, or_false] at hp ⊢
  rcases hp with h | h <;> simp [h]
theorem nums_in {l : List Int} : ∀ x ∈ l.map (fun k' => k'.fmod (2 ^ Int.toNat 70)), 0 ≤ x ∧ x < 2 ^ 70 := by
  intro x hx
  obtain ⟨k, _, rfl⟩ := List.mem_map.mp hx
  exact ⟨Int.fmod_nonneg_of_pos _ (by decide), Int.fmod_lt_of_pos _ (by decide)⟩
theorem nums_len {a b c d e f : Int} {l : List Int} {g : Int → Int} : 6 ≤ (([a, b, c, d, e, f] ++ l.take 10).map g).length ∧ (([a, b, c, d, e, f] ++ l.take 10).map g).length ≤ 16 := by
  simp only [List.length_map, List.length_append, List.length_cons, List.length_nil, List.length_take]
  omega
theorem octN_len (ns : List Int) (h : ns.length ≤ 16) : 4 ≤ (octN ns).length ∧ (octN ns).length ≤ 300 := by
  have h1 := octAt_length ns (ordN ns) (placesN ns) ns.length
  have h2 := placeAt_le ns (ordN ns) ns.length
  unfold octN
  omega
theorem len_octs {prog : Program} {w : World} {A : Around} {E : Value → Shared → Prop} {s : Shared} {Q : Value → Shared → Prop} {ns : List Int} {t : Tok} (hl : ns.length ≤ 16) (h : Q (.int ((octN ns).length : Int) (s.toks + 1)) { s with toks := s.toks + 1 + 1 }) : wpAny (model prog w) A (call (.builtin "len") [.bytes (byteArr (octN ns)) t]) Q E s := by
  have := octN_len ns hl
  exact len_bytes (by rw [byteArr_size]; omega) (by rw [byteArr_size]; exact h)
theorem sum_own {prog : Program} {w : World} {A : Around} {E : Value → Shared → Prop} {s : Shared} {Q : Value → Shared → Prop} {h₀ : Heap} {L : Addr} {m : Str → Option Value} {news : List (Addr × Obj)} {l : Addr} {us : List Value} {n : Nat} {ns : List Int} (F : Fr h₀ L s.heap m) (N : News h₀ L s.heap news) (hh : A.handled = none) (hm : (l, W.listOf us.toArray n) ∈ news) (hi : IntsAre us ns)
    (h : ∀ h' tk t', Fr h₀ L h' m → News h₀ L h' news → Q (.int ns.sum t') { s with heap := h', toks := tk }) : wpAny (model prog w) A (call (.builtin "sum") [.ref l]) Q E s :=
  LSm.sum_ints F N hh ⟨_, (N _ hm).1, rfl, n, rfl⟩ hi h
theorem pre_loop {g h : Heap} {l : Addr} {cl t pl il D : Addr} {oc ot op oi oD o : Obj} {S : List (Addr × Obj)} (N : News g l h ((cl, oc) :: (t, ot) :: (pl, op) :: (il, oi) :: (S ++ [(D, oD), (86, o)]))) : News g l h ((86, o) :: (cl, oc) :: (pl, op) :: (il, oi) :: S) := cb_drop N fun p hp => by
  simp only [List.mem_cons, List.mem_append, List.not_mem_nil, or_false] at hp ⊢
  rcases hp with h | h | h | h | h <;> simp [h]
theorem pre_off {cl t pl il D : Addr} {oc op oi oD o : Obj} {S : List (Addr × Obj)} (l1 : t < cl ∧ pl < cl ∧ il < cl ∧ AllLt cl (S ++ [(D, oD), (86, o)])) (hs1 : ∀ q ∈ [(D, oD), (86, o)], t ≠ q.1 ∧ pl ≠ q.1 ∧ il ≠ q.1) (hs2 : ∀ q ∈ [(D, oD), (86, o)], ∀ p ∈ S, p.1 ≠ q.1) : Off 86 ((cl, oc) :: (pl, op) :: (il, oi) :: S) := by
  have h1 := hs1 (86, o) (.tail _ (.head _))
  refine off_cons (off_cons (off_cons (fun q hq => hs2 (86, o) (.tail _ (.head _)) q hq) h1.2.2) h1.2.1) ?_
  exact (lt_sep l1.2.2.2 (86, o) (List.mem_append.mpr (.inr (.tail _ (.head _))))).symm
theorem cuts_ok {z : Nat} (hz : 4 ≤ z ∧ z ≤ 300) {a b c : Int} : ∀ x ∈ [(z : Int), (z : Int) - 1, a.fmod z, b.fmod z, c.fmod z], 0 ≤ x ∧ x ≤ 300 := by
  have hp : (0 : Int) < (z : Int) := by omega
  intro x hx
  simp only [List.mem_cons, List.not_mem_nil, or_false] at hx
  rcases hx with rfl | rfl | rfl | rfl | rfl
  · omega
  · omega
  · have h1 := Int.fmod_nonneg_of_pos a hp; have h2 := Int.fmod_lt_of_pos a hp; omega
  · have h1 := Int.fmod_nonneg_of_pos b hp; have h2 := Int.fmod_lt_of_pos b hp; omega
  · have h1 := Int.fmod_nonneg_of_pos c hp; have h2 := Int.fmod_lt_of_pos c hp; omega
theorem cut_oct {ks : List Int} {c : Nat} : (ks.drop (Option.elim none 0 (clipAt ks.length))).take (Option.elim (some (c : Int)) ks.length (clipAt ks.length) - Option.elim none 0 (clipAt ks.length)) = ks.take c := by
  simp only [Option.elim, clipAt_nat, List.drop_zero, Nat.sub_zero]
  by_cases h : c ≤ ks.length
  · rw [Nat.min_eq_left h]
  · rw [Nat.min_eq_right (by omega), List.take_of_length_le (Nat.le_refl _), List.take_of_length_le (by omega)]
theorem off_own {R own : List (Addr × Obj)} (hO : Off 86 R) (hof : OwnOff own (86 :: R.map (·.1))) : Off 86 (R ++ own) := by
  intro q hq
  rcases List.mem_append.mp hq with hq | hq
  · exact hO q hq
  · exact hof q hq 86 (.head _)
theorem dueGo_len (ns ps : List Int) (cut : Int) : ∀ (j i : Nat) (told : List Dat), (dueGo ns ps cut j i told).1.length ≤ told.length + j
  | 0, _, _ => Nat.le_refl _
  | j + 1, i, told => by
    have h := dueGo_len ns ps cut j (i + 1) (told ++ [itemV (atI ns (i : Int))])
    rw [List.length_append] at h
    unfold dueGo
    repeat' split
    all_goals simp only [List.length_cons, List.length_nil] at *
    all_goals omega
theorem told_fit {S : List (Addr × Obj)} {us : List Value} {ns ps : List Int} {cut : Int} (h : DatAll S us (dueOf ns ps cut).1) (hl : ns.length ≤ 16) : us.toArray.size ≤ sizeLine := by
  rw [List.size_toArray, h.length]
  have : (dueOf ns ps cut).1.length ≤ ns.length := by
    unfold dueOf
    split
    · exact Nat.zero_le _
    · have := dueGo_len ns ps cut ns.length 0 []
      simpa using this
  exact Nat.le_trans this (Nat.le_trans hl (by decide))
theorem told_mem {l : Addr} {us : List Value} {n : Nat} {news : List (Addr × Obj)} (h : (l, W.listOf us.toArray n) ∈ news) : (l, ({ cls := .type "list", data := .seq us.toArray n } : Obj)) ∈ news := h
local macro_rules | `(tactic| walk_at "call ref") => `(tactic| (k_here; (with_reducible show wpAny _ _ (call (Value.ref 106) [Value.ref _]) _ _ _); refine stop_in ?_))
local macro_rules | `(tactic| walk_at "exec For Name List cons nil") => `(tactic| (k_here; (rename Fr _ _ _ _ => lF'); (with_unfolding_all refine' For_invVF lF' ?k1 ?k2 ?_; (case k1 => exact rfl); (case k2 => exact rfl); k_whole)))
local macro_rules | `(tactic| walk_at "pyIter ref") => `(tactic| (k_here; (with_reducible show wpAny _ _ (pyIter (Value.ref _)) (fun _ _ => LoopAtV _ _ _ _ _ _ _ _ _ _ _) _ _); refine stop_in ?_))
local macro_rules | `(tactic| k_mem) => `(tactic| first | assumption | exact List.mem_cons_self | (apply List.mem_cons_of_mem; k_mem) | (apply List.mem_append_left; k_mem) | (apply List.mem_append_right; k_mem))
local macro_rules | `(tactic| walk_at "call builtin:sum") => `(tactic| (k_here; (with_reducible show wpAny _ _ (call (Value.builtin "sum") [Value.ref _]) _ _ _); k_dflt (refine' sum_own ?F ?N ?hh ?hm ?hi ?_; (case F => k_asm); (case N => k_asm); (case hh => exact rfl); (case hm => k_mem); (case hi => assumption)); intro h' tk' t' F' N'))
local macro_rules | `(tactic| walk_at "call builtin:len") => `(tactic| (k_here; (with_reducible show wpAny _ _ (call (Value.builtin "len") [Value.bytes (byteArr (octN _)) _]) _ _ _); (refine len_octs (by omega) ?_)))
local macro_rules | `(tactic| walk_at "subscriptTail") => `(tactic| (k_here; (with_reducible show wpAny _ _ (subscriptTail _ (Expr.Slice _ _ none _) (Value.bytes _ _) (Value.ref _)) _ _ _); (with_reducible rename Fr _ _ _ _ => F'); (with_reducible rename News _ _ _ _ => N'); (refine KBc.slice_K (s := ⟨_, _, _, _, _⟩) F' N' (octN_ints _) (by constructor) (by constructor) (by omega) ?_); intro _ _ _ _ _ kbcK; rw [cut_oct] at kbcK))
local macro_rules | `(tactic| walk_at "call ref") => `(tactic| (k_here; (with_reducible show wpAny _ _ (call (Value.ref 120) [Value.bytes _ _]) _ _ _); refine stop_in ?_))
local macro_rules | `(tactic| walk_at "call ref") => `(tactic| (k_here; (with_reducible show wpAny _ _ (call (Value.ref 113) [Value.ref _, Value.ref _, Value.int _ _]) _ _ _); refine stop_in ?_))
local macro_rules | `(tactic| walk_at "compareOp NotEq ref ref") => `(tactic| (k_here; k_dflt (refine' ne_due ?N ?m2 ?ml ?hD ?hX ?m3 ?ml3 ?hD3 ?hS ?hX3 ?hu ?_; (case N => k_asm); (case m2 => k_mem); (case m3 => k_mem); (case hX => assumption); (case hX3 => assumption); (case hD => assumption); (case hD3 => assumption); (case ml => k_mem); (case ml3 => k_mem); (case hS => (intro q hq; have hq' := (by assumption : ∀ q ∈ _, q ∈ _) q hq; k_mem)); (case hu => ktr_units))))
local macro_rules | `(tactic| walk_at "compareOp NotEq ref ref") => `(tactic| (k_here; k_dflt (refine' ne_nil ?N ?m2 ?m3 ?hu ?_; (case N => k_asm); (case m2 => k_mem); (case m3 => k_mem); (case hu => ktr_units))))
local macro_rules | `(tactic| walk_at "eval ListComp") => `(tactic| (k_here; k_dflt (refine LCt.ListComp_T (F₀ := by k_asm) (by with_unfolding_all rfl) (by decide) (by rfl) (by decide) (by rfl) ?_)))
local macro_rules | `(tactic| walk_at "And") => `(tactic| ((with_reducible show (_ = _) ∧ LCg.CompEnd _ _ _ _ _ _ _ _ _ _ _ _ _ _); refine ⟨rfl, ?_⟩))
local macro_rules | `(tactic| walk_at "CompEnd") => `(tactic| (k_here; k_dflt exact LCg.CompEnd.intro (by k_asm) (by k_asm) _ (fun _ h => h) (by assumption) trivial rfl))
theorem law0 : PySem.Challenge.rw_in0032_01.Holds := hd (by
  w_strict (k_go0; (all_goals try k_fold))
  w_strict k_steps
  unfold Stop
  rename IntsAre _ (List.map _ _) => hNum
  rename News _ _ _ _ => hN
  have N2 := drop5 hN
  obtain ⟨ns, hNs, hin, hlen⟩ : ∃ ns, IntsAre _ ns ∧ (∀ x ∈ ns, 0 ≤ x ∧ x < 2 ^ 70) ∧ (6 ≤ ns.length ∧ ns.length ≤ 16) := ⟨_, hNum, nums_in, nums_len⟩
  clear hNum
  refine lay_call hNs hin hlen (by assumption) (by assumption) (by assumption) (.head _) N2 (by assumption) rfl (by decide) (by decide) ?_
  unfold LayRet
  have hoz := octN_len ns hlen.2
  intro t' il' pl' ivs' pvs' nI' nP' tb' S' h' tk' F' N' hD' hP' hs1' hs2'
  w_strict k_steps
  unfold Stop
  rename t' < _ ∧ _ ∧ _ ∧ AllLt _ _ => hAl
  refine law_loop (cs := [((octN ns).length : Int), ((octN ns).length : Int) - 1, ns.sum.fmod ((octN ns).length : Int), (ns.sum.fdiv 7).fmod ((octN ns).length : Int), (ns.sum.fdiv 11).fmod ((octN ns).length : Int)]) rfl (.cons _ _ (.cons _ _ (.cons _ _ (.cons _ _ (.cons _ _ .nil))))) (cuts_ok hoz) (.head _) (by k_asm) (pre_loop (by k_asm)) (.inl rfl) (pre_off hAl hs1' hs2') (fun _ h => h) rfl rfl rfl ?turn ?done
  case' turn => intro i' c' tc' u' ps' R' h2' tk2' own' hc' hT' hO' hb' hof' F2' N2'
  case' done => intro u' ps' R' h2' tk2' hT' hO' F2' N2'
  all_goals w_strict k_steps
  have mI : (il', W.listOf ivs'.toArray nI') ∈ R' := hb' _ (.tail _ (.tail _ (.head _)))
  have mP : (pl', W.listOf pvs'.toArray nP') ∈ R' := hb' _ (.tail _ (.head _))
  have mS : ∀ q ∈ S', q ∈ R' := fun q h => hb' q (.tail _ (.tail _ (.tail _ h)))
  have hpl := placesOf_length ns (ordN ns) ns.length
  have hO2 := off_own hO' hof'
  unfold Stop
  refine follow_call (ns := ns) (cut := c') (old := R') hlen (by assumption) (by assumption) (by k_asm) (by assumption) (by assumption) (by assumption) (by assumption) (by k_asm) (by assumption) rfl (fun q h => List.mem_append.mpr (.inl h)) hT' hO2 (by decide) (by decide) ?_
  unfold FolRet
  intro t3 tl3 tvs3 tn3 X3 tX3 ps3 S3 h3 tk3 F3 N3 hD3 hX3 hT3 hO3 h863 hq3 hsp3
  w_strict k_steps
  unfold Stop
  refine due_call (S := S') (nI := nI') (nP := nP') hD' ?hS hP' hpl hlen ?mI ?mP (by assumption) (by k_asm) (by assumption) (by k_asm) (by assumption) rfl (by decide) (by decide) ?_
  case hS => intro q hq; have hq' := mS q hq; k_mem
  case mI => k_mem
  case mP => k_mem
  unfold DueRet
  intro t4 tl4 tvs4 tn4 X4 tX4 h4 tk4 F4 N4 hD4 hX4 hs4
  w_strict k_steps
  refine LCt.CompSrcT.ledger rfl (by k_asm) (by k_asm) (told_mem (us := tvs3) (n := tn3) (by k_mem)) (told_fit hD3 hlen.2) ?_
  intro g5
  refine rest_none (small_all hD3 (dueOf_ok _ _ _).1) (.inr ⟨_, told_mem (us := tvs3) (n := tn3) (by k_mem), rfl, _, rfl⟩) ?turn2 ?fin2
  case' turn2 =>
    intro v5 I5 oI5 C5 oC5 D5 m5 h5 tk5 E5 hsm5 hC5 hx5 F5 N5 off5 ne5
    rcases hsm5 with ⟨i5, t5, rfl⟩ | ⟨i5, t5, rfl⟩
  all_goals w_strict k_steps
  · exact LCg.CompEnd.intro (by k_asm) (by k_asm) _ (fun _ h => .tail _ h) off5 trivial rfl
  · exact LCg.CompEnd.intro (by k_asm) (by k_asm) _ (fun _ h => .tail _ h) off5 trivial rfl
  · refine law_end (R := R') (own := own') (S2 := S3) (ps2 := ps3) (.head _) hb' hO3 hsp3 (by k_asm) (by k_asm) (fun q h => ?_) hof' hT3 rfl rfl rfl
    k_mem)
end SM1
end Mine
theorem PySem.Challenge.cw_in0032_01_holds : PySem.Challenge.rw_in0032_01.Holds :=
  Mine.law0
