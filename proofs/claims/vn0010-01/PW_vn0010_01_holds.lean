import PyProof.Rows.All
import Wide.All
import OpenK.AllK
import Wide.FinOn
import PySem.Challenge.RW_vn0010_01
set_option Elab.async false
namespace Mine

section
open PySem PySem.W PyProof.Rows
set_option maxRecDepth 100000 in
set_option maxHeartbeats 8000000 in
open_top hd for PySem.Challenge.rw_vn0010_01
end

section
open PySem PySem.W PyProof.Rows PySem.Spec

theorem xor_cast (a b : Nat) : Builtin.bitXor (a : Int) (b : Int) = ((a ^^^ b : Nat) : Int) := by
  rw [bitXor_and, bitAnd_pp (Int.natCast_nonneg a) (Int.natCast_nonneg b)]
  simp only [Int.toNat_natCast]
  have key : ∀ n : Nat, ∀ a b : Nat, a < 2 ^ n → b < 2 ^ n → (a ^^^ b) + 2 * (a &&& b) = a + b := by
    intro n
    induction n with
    | zero => intro a b ha hb; have : a = 0 := by omega
              have : b = 0 := by omega
              subst_vars; rfl
    | succ n ih =>
      intro a b ha hb
      have h := ih (a / 2) (b / 2) (by rw [Nat.pow_succ] at ha; omega) (by rw [Nat.pow_succ] at hb; omega)
      have h1 : (a ^^^ b) / 2 = a / 2 ^^^ b / 2 := Nat.xor_div_two
      have h2 : (a &&& b) / 2 = a / 2 &&& b / 2 := Nat.and_div_two
      have h3 := @Nat.xor_mod_two_eq_one a b
      have h4 := @Nat.and_mod_two_eq_one a b
      rcases Nat.mod_two_eq_zero_or_one a with ea | ea <;> rcases Nat.mod_two_eq_zero_or_one b with eb | eb <;> omega
  have hn : ∃ n, a < 2 ^ n ∧ b < 2 ^ n := ⟨a + b, Nat.lt_of_le_of_lt (Nat.le_add_right a b) Nat.lt_two_pow_self, Nat.lt_of_le_of_lt (Nat.le_add_left b a) Nat.lt_two_pow_self⟩
  obtain ⟨n, ha, hb⟩ := hn
  have := key n a b ha hb
  omega

theorem and_cast (a b : Nat) : Builtin.bitAnd (a : Int) (b : Int) = ((a &&& b : Nat) : Int) := by
  rw [bitAnd_pp (Int.natCast_nonneg a) (Int.natCast_nonneg b)]
  simp only [Int.toNat_natCast]

def gen : Nat → Nat
  | 0 => 996825010
  | 1 => 642813549
  | 2 => 513874426
  | 3 => 1027748829
  | _ => 705979059
def sel (c i : Nat) : Nat := if c.testBit (25 + i) = true then gen i else 0
def stepN (c v : Nat) : Nat := ((((((c &&& 33554431) <<< 5) ^^^ v) ^^^ sel c 0) ^^^ sel c 1) ^^^ sel c 2) ^^^ sel c 3 ^^^ sel c 4
def pmN (c : Nat) (l : List Nat) : Nat := l.foldl stepN c

/-- the selection as the walk reckons it -/
def selI (tp k : Int) : Int := if Builtin.bitAnd (tp.fdiv (2 ^ k.toNat)) 1 ≠ 0 then (gen k.toNat : Int) else 0
def PmInv (pre : List Int) (c : Int) : Prop := c = (pmN 1 (pre.map Int.toNat) : Int)
theorem pmInv_nil : PmInv [] 1 := rfl
theorem shr_cast (a k : Nat) : (a : Int).fdiv (2 ^ k) = ((a >>> k : Nat) : Int) := by
  rw [Int.fdiv_eq_ediv_of_nonneg _ (Int.le_of_lt (kbt_pos k)), Nat.shiftRight_eq_div_pow, Int.natCast_ediv, kbt_cast]
theorem selI_cast (c k : Nat) : selI ((c : Int).fdiv (2 ^ 25)) (k : Int) = (sel c k : Int) := by
  unfold selI sel
  rw [shr_cast, Int.toNat_natCast, shr_cast, show (1 : Int) = ((1 : Nat) : Int) from rfl, and_cast, ← Nat.shiftRight_add]
  unfold Nat.testBit
  rw [Nat.and_comm]
  by_cases h : 1 &&& c >>> (25 + k) = 0
  · rw [h]; simp
  · rw [if_pos (by exact_mod_cast h), if_pos (by simpa using h)]
theorem pmInv_step {pre : List Int} {c k : Int} (h : PmInv pre c) (h0 : 0 ≤ k) : PmInv (pre ++ [k]) (Builtin.bitXor (Builtin.bitXor (Builtin.bitXor (Builtin.bitXor (Builtin.bitXor (Builtin.bitXor (Builtin.bitAnd c 33554431 * 2 ^ 5) k) (selI (c.fdiv (2 ^ 25)) 0)) (selI (c.fdiv (2 ^ 25)) 1)) (selI (c.fdiv (2 ^ 25)) 2)) (selI (c.fdiv (2 ^ 25)) 3)) (selI (c.fdiv (2 ^ 25)) 4)) := by
  obtain ⟨n, rfl⟩ := Int.eq_ofNat_of_zero_le h0
  unfold PmInv at h ⊢
  rw [h]
  generalize hm : pmN 1 (pre.map Int.toNat) = m
  have e : pmN 1 ((pre ++ [(n : Int)]).map Int.toNat) = stepN m n := by rw [← hm]; simp [pmN, List.foldl_append]
  rw [e]
  have s0 : selI ((m : Int).fdiv (2 ^ 25)) 0 = (sel m 0 : Int) := selI_cast m 0
  have s1 : selI ((m : Int).fdiv (2 ^ 25)) 1 = (sel m 1 : Int) := selI_cast m 1
  have s2 : selI ((m : Int).fdiv (2 ^ 25)) 2 = (sel m 2 : Int) := selI_cast m 2
  have s3 : selI ((m : Int).fdiv (2 ^ 25)) 3 = (sel m 3 : Int) := selI_cast m 3
  have s4 : selI ((m : Int).fdiv (2 ^ 25)) 4 = (sel m 4 : Int) := selI_cast m 4
  have sa : Builtin.bitAnd (m : Int) 33554431 * (2 : Int) ^ 5 = (((m &&& 33554431) <<< 5 : Nat) : Int) := by
    rw [show (33554431 : Int) = ((33554431 : Nat) : Int) from rfl, and_cast, Nat.shiftLeft_eq, Int.natCast_mul]
    rfl
  rw [s0, s1, s2, s3, s4, sa]
  simp only [xor_cast]
  rfl
end

section
open PySem PySem.W PyProof.Rows PySem.Spec PySem.Calls
section
variable {prog : Program} {w : World} {A : Around} {E : Value → Shared → Prop} {s : Shared} {h₀ : Heap} {L : Addr} {m : Str → Option Value} {env : Env}

/-- a comprehension over the signs of a text -/
def StrSrc (prog : Program) (w : World) (A : Around) (h₀ : Heap) (L : Addr) (m : Str → Option Value) (env : Env) (elt : Expr) (x : Str) (scope : Scope) (cl : List (Str × Addr)) (Q : Value → Shared → Prop) (xv : Value) (s₁ : Shared) : Prop :=
  ∃ y t news, xv = .str y t ∧ A.handled = none ∧ Fr h₀ L s₁.heap m ∧ News h₀ L s₁.heap news ∧ y.cps.size ≤ sizeLine ∧
    ∀ g, LCg.CompRest prog w A h₀ L m env elt x scope cl { s₁ with heap := g } (fun _ => True) (SignAt y) (LCg.FinE h₀ L m { s₁ with heap := g } Q) y.cps.size 0 [] news

theorem strIter_st {I : Addr} {T : String} {y : Str} {t : Tok} (i : Nat) (h h' : Heap) (o : Obj) (nw : List (Addr × Obj)) (st : h.IsStrIter I T y t i) (e : h.get? I = some o) (e' : h'.get? I = some o)
    (_ : ∀ b o, h₀.get? b = some o → h'.get? b = some o) (_ : News h₀ L h' nw) (_ : True) : h'.IsStrIter I T y t i := by
  obtain ⟨o', q, r⟩ := st
  rw [e] at q
  cases q
  exact ⟨o, e', r⟩

theorem ListComp_str {elt iter : Expr} {x : Str} {px : Pos} {scope : Scope} {cl : List (Str × Addr)} {pos : Pos} {Q : Value → Shared → Prop} (_F : Fr h₀ L s.heap m)
    (hclos : closureFor scope env = pure cl) (hcell : ∀ y ∈ scope.names, y.2 ≠ .cell) (hkind : scope.kind = .function)
    (hnames : ∀ y ∈ scope.names, y.2 = .local → scope.names.lookup y.1 = some .local) (hx : scope.names.lookup x = some .local)
    (h : wpAny (model prog w) A (eval iter env) (StrSrc prog w A h₀ L m env elt x scope cl Q) E s)
    (hs : ∀ x, foldedSetIterable iter env x = pure x := by intro _; rfl) :
    wpAny (model prog w) A (eval (.ListComp elt [⟨.Name x px, iter, [], 0⟩] scope pos) env) Q E s := by
  rw [eval_ListComp]
  refine wpAny_comprehension_free (use := none) rfl hs hclos hkind hnames (wpAny_mono h (fun xv s₁ h₁ => ?_) fun _ _ e => e)
  obtain ⟨y, t, news, rfl, hh, F, N, hsz, R⟩ := h₁
  have main : ∀ (T : String) (o : Obj), Walks prog w A s₁.heap.objs.size [s₁.heap.objs.size] [s₁.heap.objs.size] y.cps.size (SignAt y) (fun i h => h.IsStrIter s₁.heap.objs.size T y t i) →
      (s₁.heap.push o).IsStrIter s₁.heap.objs.size T y t 0 →
      wpAny (model prog w) A (newList []) (fun acc s₃ => wpAny (model prog w) A (newFunctionEnv scope env.globals cl [] env.qual none .none (some env)) (fun cenv s₄ =>
        codeAny (model prog w) A (.compStart (.ListComp elt [⟨.Name x px, iter, [], 0⟩] scope pos) 0 (.ref s₁.heap.objs.size) acc { cenv with scope := relabel scope env })
          (compPost (model prog w) A E none Q acc cenv.locals) s₄) E s₃) E { s₁ with heap := s₁.heap.push o } := by
    intro T o W hst
    refine LCg.block_U W hsz (fun i h st => by obtain ⟨o, e, _⟩ := st; exact ⟨o, e⟩) strIter_st hcell hkind hx hst (fun b hb => ?_)
      (F.keeps fun _ _ e => Heap.get?_push_of_some _ e) (N.grown fun _ _ e => Heap.get?_push_of_some _ e) (Nat.ne_of_lt F.ns.lt) (next_is_new F) (fun p hp => Nat.ne_of_lt (Heap.lt_size (N p hp).1)) trivial (R _) ?_
    · rw [List.mem_singleton.mp hb]
      show s₁.heap.objs.size < (s₁.heap.push _).objs.size
      rw [Heap.size_push]
      exact Nat.lt_succ_self _
    · intro D C h tk m' ys news' F' N' o1 hn hC₀ hD₀ hCL hDL hCD offC fin
      refine ⟨m', hn, fun h'' hs'' => fin D h'' tk (F'.change hs'' hCL hC₀) (fun p hp => ?_) o1⟩
      refine ⟨hs''.extBut _ _ ?_ (N' p hp).1, (N' p hp).2⟩
      rcases List.mem_cons.mp hp with rfl | hp
      · exact Ne.symm hCD
      · exact offC p hp
  cases ha : y.cps.all (· < 128)
  · exact wpAny_pyIter_wide ha (main "str_iterator" _ (Walks.strWide hh _ y t) ⟨_, Heap.get?_push_size _ rfl, rfl, rfl⟩)
  · exact wpAny_pyIter_ascii ha (main "str_ascii_iterator" _ (Walks.strAscii hh _ y t) ⟨_, Heap.get?_push_size _ rfl, rfl, rfl⟩)

/-- its turns, where each element is an int reckoned of the sign's number -/
theorem str_rest {elt : Expr} {x : Str} {scope : Scope} {cl : List (Str × Addr)} {news : List (Addr × Obj)} {y : Str} {Fin : List Value → List (Addr × Obj) → Prop} (g : Nat → Int)
    (turn : ∀ c u I oI C oC D m₂ ys h tk (E' : Value → Shared → Prop), c ∈ y.cps.toList → LCg.NsObj oC m₂ → m₂ x = some (.str ⟨#[c]⟩ u) → Fr h₀ L h m → News h₀ L h ((I, oI) :: (C, oC) :: (D, LCg.lst ys) :: news) → LCg.Off3 I C D news →
      wpAny (model prog w) A (eval elt (compEnvC scope cl C env)) (LCg.CompEnd h₀ L m { s with heap := h, toks := tk } I oI C oC D (LCg.lst ys) (fun _ => True) (fun y news' => KCfEl news (g c) y news')) E' { s with heap := h, toks := tk })
    (fin : ∀ ys, IntsAre ys (y.cps.toList.map g) → Fin ys news) : LCg.CompRest prog w A h₀ L m env elt x scope cl s (fun _ => True) (SignAt y) Fin y.cps.size 0 [] news := by
  have key : ∀ (j i : Nat) (ys : List Value), i + j = y.cps.size → IntsAre ys ((y.cps.toList.take i).map g) → LCg.CompRest prog w A h₀ L m env elt x scope cl s (fun _ => True) (SignAt y) Fin j i ys news := by
    intro j
    induction j with
    | zero =>
      intro i ys hi hy
      have e : i = y.cps.toList.length := by rw [Array.length_toList]; omega
      subst e
      rw [List.take_length] at hy
      exact LCg.CompRest.zero (fin ys hy)
    | succ j ih =>
      intro i ys hi hy
      refine LCg.CompRest.succ ?_
      rintro v I oI C oC D m₂ h tk E' ⟨c, u, hc, rfl⟩ hC hx F N off ne
      have hc' : y.cps.toList[i]? = some c := by rw [Array.getElem?_toList]; exact hc
      refine wpAny_mono (turn c u I oI C oC D m₂ ys h tk E' (List.mem_of_getElem? hc') hC hx F N off) (fun v s₂ hq => ?_) fun _ _ e => e
      obtain ⟨h', tk', nw, e, F', N', off', hS, hn, t', hy'⟩ := hq
      rw [hn] at N' off'
      refine ⟨h', tk', news, e, F', N', off', hS, ?_⟩
      rw [hy']
      refine ih (i + 1) _ (by omega) ?_
      rw [List.take_add_one, hc']
      simpa using IntsAre.append hy (.cons (g c) t' .nil)
  exact key y.cps.size 0 [] (by omega) (by simp only [List.take_zero, List.map_nil]; exact .nil)

theorem StrSrc.intro {elt : Expr} {x : Str} {scope : Scope} {cl : List (Str × Addr)} {news : List (Addr × Obj)} {y : Str} {t : Tok} {Q : Value → Shared → Prop} (hh : A.handled = none) (F : Fr h₀ L s.heap m) (N : News h₀ L s.heap news) (hsz : y.cps.size ≤ sizeLine)
    (g : Nat → Int)
    (turn : ∀ c u I oI C oC D m₂ ys h tk (E' : Value → Shared → Prop), c ∈ y.cps.toList → LCg.NsObj oC m₂ → m₂ x = some (.str ⟨#[c]⟩ u) → Fr h₀ L h m → News h₀ L h ((I, oI) :: (C, oC) :: (D, LCg.lst ys) :: news) → LCg.Off3 I C D news →
      wpAny (model prog w) A (eval elt (compEnvC scope cl C env)) (LCg.CompEnd h₀ L m { s with heap := h, toks := tk } I oI C oC D (LCg.lst ys) (fun _ => True) (fun y news' => KCfEl news (g c) y news')) E' { s with heap := h, toks := tk })
    (fin : ∀ D ys h tk, IntsAre ys (y.cps.toList.map g) → Fr h₀ L h m → News h₀ L h ((D, LCg.lst ys) :: news) → LCg.Off1 D news → Q (.ref D) { s with heap := h, toks := tk }) :
    StrSrc prog w A h₀ L m env elt x scope cl Q (.str y t) s :=
  ⟨y, t, news, rfl, hh, F, N, hsz, fun g' => str_rest (s := { s with heap := g' }) g turn fun ys hy D h tk F' N' o1 => fin D ys h tk hy F' N' o1⟩

/-- a comprehension over two lists of ints side by side -/
def ZipK (prog : Program) (w : World) (A : Around) (env : Env) (elt iter : Expr) (x x₂ : Str) (px px₂ tp : Pos) (tk : Nat) (scope : Scope) (cl : List (Str × Addr)) (pos : Pos) (Q : Value → Shared → Prop) (E : Value → Shared → Prop) (xv : Value) (s₁ : Shared) : Prop :=
  wpAny (model prog w) A (pyIter xv) (fun it s₂ => wpAny (model prog w) A (newList []) (fun acc s₃ => wpAny (model prog w) A (newFunctionEnv scope env.globals cl [] env.qual none .none (some env)) (fun cenv s₄ =>
    codeAny (model prog w) A (.compStart (.ListComp elt [⟨.Tuple [.Name x px, .Name x₂ px₂] tk tp, iter, [], 0⟩] scope pos) 0 it acc { cenv with scope := relabel scope env }) (compPost (model prog w) A E none Q acc cenv.locals) s₄) E s₃) E s₂) E s₁

theorem ListComp_zip {elt iter : Expr} {x x₂ : Str} {px px₂ tp : Pos} {tk : Nat} {scope : Scope} {cl : List (Str × Addr)} {pos : Pos} {Q : Value → Shared → Prop}
    (hclos : closureFor scope env = pure cl) (hkind : scope.kind = .function)
    (hnames : ∀ y ∈ scope.names, y.2 = .local → scope.names.lookup y.1 = some .local)
    (h : wpAny (model prog w) A (eval iter env) (ZipK prog w A env elt iter x x₂ px px₂ tp tk scope cl pos Q E) E s)
    (hs : ∀ x, foldedSetIterable iter env x = pure x := by intro _; rfl) :
    wpAny (model prog w) A (eval (.ListComp elt [⟨.Tuple [.Name x px, .Name x₂ px₂] tk tp, iter, [], 0⟩] scope pos) env) Q E s := by
  rw [eval_ListComp]
  exact wpAny_comprehension_free (use := none) rfl hs hclos hkind hnames h

theorem xor_elt {scope : Scope} {cl : List (Str × Addr)} {C : Addr} {x x₂ : Str} {p₁ p₂ p₃ : Pos} {m₂ : Str → Option Value} {a b : Int} {t u : Tok} {Q : Value → Shared → Prop} (hkind : scope.kind = .function) (hx : scope.names.lookup x = some .local) (hx₂ : scope.names.lookup x₂ = some .local)
    (hd : (x == ("__debug__" : Str)) = false) (hd₂ : (x₂ == ("__debug__" : Str)) = false) (hn : s.heap.Ns C m₂) (ha : m₂ x = some (.int a t)) (hb : m₂ x₂ = some (.int b u)) (h : ∀ t' tk', Q (.int (Builtin.bitXor a b) t') { s with toks := tk' }) :
    wpAny (model prog w) A (eval (.BinOp (.Name x p₁) .BitXor (.Name x₂ p₂) p₃) (compEnvC scope cl C env)) Q E s :=
  wpAny_BinOp (wpAny_Name (wpAny_loadName_local hkind (lookup_relabel_local hx) hn ha (wpAny_Name (wpAny_loadName_local hkind (lookup_relabel_local hx₂) hn hb (xor_int (h _ _))) hd₂)) hd)

theorem zip_comp {elt iter : Expr} {x x₂ : Str} {px px₂ tp : Pos} {tk : Nat} {scope : Scope} {cl : List (Str × Addr)} {pos : Pos} {Q : Value → Shared → Prop} {l₁ l₂ : Addr} {vs₁ vs₂ : List Value} {ks₁ ks₂ : List Int} {news : List (Addr × Obj)} (g : Int → Int → Int)
    (hh : A.handled = none) (hcell : ∀ y ∈ scope.names, y.2 ≠ .cell) (hkind : scope.kind = .function) (hx : scope.names.lookup x = some .local) (hx₂ : scope.names.lookup x₂ = some .local) (hxx : x ≠ x₂)
    (F : Fr h₀ L s.heap m) (N : News h₀ L s.heap news) (hl₁ : s.heap.IsList l₁ vs₁.toArray) (hl₂ : s.heap.IsList l₂ vs₂.toArray) (hi₁ : IntsAre vs₁ ks₁) (hi₂ : IntsAre vs₂ ks₂) (hsz : ks₁.length ≤ sizeLine)
    (helt : ∀ (C : Addr) (h : Heap) (m₂ : Str → Option Value) (tk : Nat) (a b : Int) (t u : Tok) (E' Q' : Value → Shared → Prop), h.Ns C m₂ → m₂ x = some (.int a t) → m₂ x₂ = some (.int b u) →
      (∀ t' tk', Q' (.int (g a b) t') { s with heap := h, toks := tk' }) → wpAny (model prog w) A (eval elt (compEnvC scope cl C env)) Q' E' { s with heap := h, toks := tk })
    (fin : ∀ D ys h tk, IntsAre ys (List.zipWith g ks₁ ks₂) → Fr h₀ L h m → News h₀ L h ((D, LCg.lst ys) :: news) → Q (.ref D) { s with heap := h, toks := tk }) :
    wpAny (model prog w) A (call (.type "zip") [.ref l₁, .ref l₂]) (ZipK prog w A env elt iter x x₂ px px₂ tp tk scope cl pos Q E) E s := by
  refine zip_rows F hl₁ hl₂ fun h' z TI TO i1 i2 D st F' hk bz bTO b1 b2 _ => ?_
  have W := WalksT.zip2 (prog := prog) (w := w) hh z TI TO i1 i2 l₁ l₂ D vs₁.toArray vs₂.toArray
  unfold ZipK
  refine W.self 0 _ _ _ st ?_
  have hn₁ : vs₁.toArray.size = ks₁.length := by rw [List.size_toArray, hi₁.length]
  have hn₂ : vs₂.toArray.size = ks₂.length := by rw [List.size_toArray, hi₂.length]
  generalize hn : min vs₁.toArray.size vs₂.toArray.size = n at W
  have hzl : (List.zipWith g ks₁ ks₂).length = n := by rw [List.length_zipWith, ← hn, hn₁, hn₂]
  have hnsz : n ≤ sizeLine := by rw [← hn]; exact Nat.le_trans (Nat.min_le_left ..) (by rw [hn₁]; exact hsz)
  refine wpAny_newObj_type (wpAny_newFunctionEnv hcell (by intro y hy; simp at hy) (fun h₁ hns₁ hsb₁ => ?_) hkind)
  dsimp only at hns₁ hsb₁ ⊢
  generalize hH2 : h'.push { cls := .type "list", dict := none, data := .seq ([] : List Value).toArray } = H2 at hns₁ hsb₁ ⊢
  have hC : H2.objs.size = h'.objs.size + 1 := by rw [← hH2, Heap.size_push]
  have hDC : h'.objs.size ≠ H2.objs.size := by rw [hC]; exact Nat.ne_of_lt (Nat.lt_succ_self _)
  have old : ∀ b o, h'.get? b = some o → h₁.get? b = some o := fun b o e => hsb₁.extBut b o (by have := Heap.lt_size e; rw [hC]; exact Nat.ne_of_lt (Nat.lt_succ_of_lt this)) (Heap.get?_push_of_some _ (hH2 ▸ Heap.get?_push_of_some _ e))
  have hacc : h₁.get? h'.objs.size = some (LCg.lst []) := hsb₁.extBut _ _ hDC (Heap.get?_push_of_some _ (hH2 ▸ Heap.get?_push_size _ rfl))
  have lt' : ∀ {b o}, h'.get? b = some o → b < h'.objs.size := fun e => Heap.lt_size e
  obtain ⟨hz, hTI, ⟨ta, tb, hTO⟩, hI1, hI2, hL1, hL2⟩ := id st
  have lz : z < h'.objs.size := lt' hz
  have lTI : TI < h'.objs.size := lt' hTI
  have lTO : TO < h'.objs.size := lt' hTO
  have li1 : i1 < h'.objs.size := by obtain ⟨_, e, _⟩ := hI1; exact lt' e
  have li2 : i2 < h'.objs.size := by obtain ⟨_, e, _⟩ := hI2; exact lt' e
  have ll1 : l₁ < h'.objs.size := by obtain ⟨_, e, _⟩ := hL1; exact lt' e
  have ll2 : l₂ < h'.objs.size := by obtain ⟨_, e, _⟩ := hL2; exact lt' e
  have hfp : ∀ b ∈ [z, TI, TO, i1, i2, l₁, l₂], b < h'.objs.size := by
    intro b hb
    simp only [List.mem_cons, List.not_mem_nil, or_false] at hb
    rcases hb with rfl | rfl | rfl | rfl | rfl | rfl | rfl <;> assumption
  have hwr : ∀ b ∈ [z, TO, i1, i2], s.heap.objs.size ≤ b ∧ b < h'.objs.size := by
    intro b hb
    simp only [List.mem_cons, List.not_mem_nil, or_false] at hb
    rcases hb with rfl | rfl | rfl | rfl
    · exact ⟨bz, lz⟩
    · exact ⟨bTO, lTO⟩
    · exact ⟨b1, li1⟩
    · exact ⟨b2, li2⟩
  have offwr : ∀ {b o}, s.heap.get? b = some o → b ∉ [z, TO, i1, i2] := fun {b o} e hm => Nat.lt_irrefl _ (Nat.lt_of_lt_of_le (Heap.lt_size e) (hwr b hm).1)
  have hDwr : h'.objs.size ∉ [z, TO, i1, i2] := fun hm => Nat.lt_irrefl _ (hwr _ hm).2
  have hCwr : H2.objs.size ∉ [z, TO, i1, i2] := fun hm => by have := (hwr _ hm).2; rw [hC] at this; exact Nat.lt_irrefl _ (Nat.lt_of_succ_lt this)
  have hDfp : ∀ b ∈ [z, TI, TO, i1, i2, l₁, l₂], b ≠ h'.objs.size := fun b hb => Nat.ne_of_lt (hfp b hb)
  have hCfp : ∀ b ∈ [z, TI, TO, i1, i2, l₁, l₂], b ≠ H2.objs.size := fun b hb => by rw [hC]; exact Nat.ne_of_lt (Nat.lt_succ_of_lt (hfp b hb))
  have hsle : ∀ {b o}, s.heap.get? b = some o → b < h'.objs.size := fun e => Heap.lt_size (hk _ _ e)
  have hst₁ : _ := W.frame 0 _ h₁ st fun b _ o e => old b o e
  have loop : ∀ s₃ : Shared, s₃ = { s with heap := h₁, toks := s.toks + ([] : List (Str × Value)).length } →
      codeAny (model prog w) A (.compLoop (.ListComp elt [⟨.Tuple [.Name x px, .Name x₂ px₂] tk tp, iter, [], 0⟩] scope pos) 0 (.ref z) (.ref h'.objs.size) (compEnvC scope cl H2.objs.size env))
        (compPost (model prog w) A E none Q (.ref h'.objs.size) H2.objs.size) s₃ := by
    rintro s₃ rfl
    refine LCp.codeAny_compLoop_pair
      (fun k s' => ∃ h₂ tk i ys m', s' = { s with heap := h₂, toks := tk } ∧ i ≤ n ∧ k = n + 1 - i ∧ ys.length = i ∧ IntsAre ys ((List.zipWith g ks₁ ks₂).take i) ∧
        (IsZip h₂ z TI TO .none ∧ IsPair h₂ TI (.ref i1) (.ref i2) ∧ (∃ a b, IsPair h₂ TO a b) ∧ h₂.IsListIter i1 l₁ i ∧ h₂.IsListIter i2 l₂ i ∧ h₂.IsList l₁ vs₁.toArray ∧ h₂.IsList l₂ vs₂.toArray) ∧
        (∀ b o, s.heap.get? b = some o → h₂.get? b = some o) ∧ h₂.Ns H2.objs.size m' ∧ h₂.get? h'.objs.size = some (LCg.lst ys)) ?_ (n + 1)
      ⟨h₁, _, 0, [], _, rfl, Nat.zero_le _, rfl, rfl, by simp only [List.take_zero]; exact .nil, hst₁, fun b o e => old b o (hk b o e), hns₁, hacc⟩
    rintro k s' ⟨h₂, tk₂, i, ys, m', rfl, hi, rfl, hyl, hys, hst', keep, hnC, hD⟩
    by_cases hlt : i < n
    · refine W.item i _ _ _ hlt hst' fun T vals h₃ tk₃ hP hTge hT hMid hk₃ => ?_
      obtain ⟨va, vb, ha, hb, rfl⟩ := hP
      refine W.go _ _ _ i T _ _ _ hMid fun h₄ hst₄ hk₄ => ?_
      have hTw : T ∉ [z, TO, i1, i2] := W.apart i T _ hMid
      have hT₄ : IsTup h₄ T #[va, vb] := by
        obtain ⟨o, e, c, d⟩ := hT
        exact ⟨o, hk₄ T o hTw e, c, d⟩
      have keep₄ : ∀ b o, b ∉ [z, TO, i1, i2] → h₂.get? b = some o → h₄.get? b = some o := fun b o hb e => hk₄ b o hb (hk₃ b o hb e)
      obtain ⟨ka, ta, rfl, hka⟩ := IntsAre.at hi₁ i va (by simpa using ha)
      obtain ⟨kb, tb, rfl, hkb⟩ := IntsAre.at hi₂ i vb (by simpa using hb)
      refine assign_Tuple_tuple hh hT₄ rfl rfl fun h₅ he => ?_
      have he' : ∀ b o, h₄.get? b = some o → h₅.get? b = some o := fun b o e => he b o (Nat.ne_of_lt (Heap.lt_size e)) e
      have hn₅ : h₅.Ns H2.objs.size m' := hnC.at' fun o e => he' _ o (keep₄ _ o hCwr e)
      refine assignInOrder_cons (wpAny_assign_Name (wpAny_storeName_local (lookup_relabel_local hx) hn₅ (fun h₆ hn₆ hs₆ => ?_) (by simp [compEnvC, relabel, hkind])))
      refine assignInOrder_cons (wpAny_assign_Name (wpAny_storeName_local (lookup_relabel_local hx₂) hn₆ (fun h₇ hn₇ hs₇ => ?_) (by simp [compEnvC, relabel, hkind])))
      refine assignInOrder_nil ?_
      have keep₇ : ∀ b o, b ≠ H2.objs.size → h₅.get? b = some o → h₇.get? b = some o := fun b o hb e => hs₇.extBut b o hb (hs₆.extBut b o hb e)
      refine helt H2.objs.size h₇ _ _ ka kb ta tb _ _ hn₇ (by simp [hxx]) (by simp) fun t' tk' => ?_
      have hD₇ : h₇.get? h'.objs.size = some (LCg.lst ys) := keep₇ _ _ hDC (he' _ _ (keep₄ _ _ hDwr hD))
      refine append_at (hsz := by show ys.toArray.size ≤ sizeLine; rw [List.size_toArray, hyl]; exact Nat.le_trans hi hnsz) hD₇ fun h₈ hs₈ hD₈ => ?_
      refine ⟨n + 1 - (i + 1), by omega, h₈, _, i + 1, ys ++ [.int (g ka kb) t'], _, rfl, hlt, rfl, by rw [List.length_append, List.length_singleton, hyl], ?_, ?_, ?_, hn₇.sameBut hs₈ (Ne.symm hDC), hD₈.trans (congrArg some (LCg.lst_snoc ys _))⟩
      · have hz' : (List.zipWith g ks₁ ks₂)[i]? = some (g ka kb) := by rw [List.getElem?_zipWith, hka, hkb]
        rw [List.take_add_one, hz']
        simpa using IntsAre.append hys (.cons (g ka kb) t' .nil)
      · exact W.frame (i + 1) _ _ hst₄ fun b hb o e => hs₈.extBut b o (hDfp b hb) (keep₇ b o (hCfp b hb) (he' b o e))
      · intro b o e
        have hlt' := hsle e
        exact hs₈.extBut b o (Nat.ne_of_lt hlt') (keep₇ b o (by rw [hC]; exact Nat.ne_of_lt (Nat.lt_succ_of_lt hlt')) (he' b o (keep₄ b o (offwr e) (keep b o e))))
    · obtain rfl : i = n := Nat.le_antisymm hi (Nat.not_lt.mp hlt)
      refine W.done _ _ _ hst' fun h₃ tk₃ hk₃ => ?_
      refine ⟨m', hnC.at' fun o e => hk₃ _ o hCwr e, fun h₄ hs₄ => ?_⟩
      have all : ∀ b o, s.heap.get? b = some o → h₄.get? b = some o := fun b o e => hs₄.extBut b o (by have := hsle e; rw [hC]; exact Nat.ne_of_lt (Nat.lt_succ_of_lt this)) (hk₃ b o (offwr e) (keep b o e))
      rw [← hzl, List.take_length] at hys
      refine fin h'.objs.size ys h₄ _ hys (F.keeps all) fun p hp => ?_
      rcases List.mem_cons.mp hp with rfl | hp
      · refine ⟨hs₄.extBut _ _ hDC (hk₃ _ _ hDwr hD), Nat.ne_of_gt F'.ns.lt, next_is_new F'⟩
      · exact ⟨all _ _ (N p hp).1, (N p hp).2⟩
  exact codeAny_compStart_list (loop _ rfl) (W.self 0 _ _ _ hst₁ (loop _ rfl))
end
end

section
open PySem PySem.W PyProof.Rows PySem.Spec

theorem fillit : PySem.Challenge.rw_vn0010_01.prog = PySem.Challenge.rw_vn0010_01.prog ∧ hd.heap_39 = hd.heap_39 := by
  k_fill
  exact ⟨rfl, rfl⟩

/-- what a call of the def at f says, whatever stands around it -/
def Says (f : Addr) (args : List Value) (news : List (Addr × Obj)) (dep : Nat) (Ret : Heap → Addr → (Str → Option Value) → Shared → (Value → Shared → Prop) → Prop) : Prop :=
  ∀ (w : World) (p : Program) (loose : List Str) (mean : ExcName → Option Value) (mg mb : Str → Option Value)
    (dp un : Nat) (gd : Option (List Code)) (cn : Str) (cs : Scope) (a : Addr) (ccd : Value) (cl : List (Str × Addr)) (outer : List Env) (A₀ : Around) (base h₀ : Heap) (L : Addr) (m : Str → Option Value) (s : Shared) (Q E : Value → Shared → Prop),
    Below A₀ base outer h₀ → Fr h₀ L s.heap m → (hd.heap_39 w.params).In h₀ → News h₀ L s.heap news → Top p loose mean mg mb h₀ → cs.kind = .function →
    dp + dep < recursionLimit → un + 8 * dep < cLine → Ret h₀ L m s Q →
    wpAny (model PySem.Challenge.rw_vn0010_01.row.prog w) (ktrTop dp un gd cn cs L a ccd cl outer) (call (.ref f) args) Q E s

def RetI (news : List (Addr × Obj)) (x : Int) (h₀ : Heap) (L : Addr) (m : Str → Option Value) (s : Shared) (Q : Value → Shared → Prop) : Prop :=
  ∀ (t : Tok) (h' : Heap) (tk' : Nat), Fr h₀ L h' m → News h₀ L h' news → Q (.int x t) { s with heap := h', toks := tk' }
def RetB (news : List (Addr × Obj)) (b : Bool) (h₀ : Heap) (L : Addr) (m : Str → Option Value) (s : Shared) (Q : Value → Shared → Prop) : Prop :=
  ∀ (h' : Heap) (tk' : Nat), Fr h₀ L h' m → News h₀ L h' news → Q (.bool b) { s with heap := h', toks := tk' }
def RetL (news : List (Addr × Obj)) (ks : List Int) (h₀ : Heap) (L : Addr) (m : Str → Option Value) (s : Shared) (Q : Value → Shared → Prop) : Prop :=
  ∀ (r : Addr) (us : List Value) (n : Nat) (h' : Heap) (tk' : Nat), IntsAre us ks → Fr h₀ L h' m → News h₀ L h' ((r, listOf us.toArray n) :: news) → Q (.ref r) { s with heap := h', toks := tk' }

def toI (l : List Nat) : List Int := l.map Int.ofNat
def Dig (l : List Nat) : Prop := ∀ k ∈ l, k < 32
def NameOk (x : Str) : Prop := x.cps.size ≤ 5 ∧ ∀ c ∈ x.cps.toList, c < 128
def hxN (cs : List Nat) : List Nat := cs.map (· >>> 5) ++ 0 :: cs.map (· &&& 31)
def nmN (x : Str) : List Nat := hxN x.cps.toList

theorem toI_app (a b : List Nat) : toI (a ++ b) = toI a ++ toI b := List.map_append
theorem toI_len (a : List Nat) : (toI a).length = a.length := List.length_map _
theorem toI_nat (a : List Nat) : (toI a).map Int.toNat = a := by
  unfold toI
  rw [List.map_map]
  conv => rhs; rw [← List.map_id a]
  exact List.map_congr_left fun _ _ => rfl
theorem toI_bound {a : List Nat} (h : Dig a) : ∀ k ∈ toI a, 0 ≤ k ∧ k < 32 := by
  intro k hk
  obtain ⟨n, hn, rfl⟩ := List.mem_map.mp hk
  have := h n hn
  exact ⟨Int.natCast_nonneg n, by show (n : Int) < 32; omega⟩
theorem hx_toI (cs : List Nat) : cs.map (fun c' => Int.fdiv (c' : Nat) (2 ^ 5)) ++ [0] ++ cs.map (fun c' => Builtin.bitAnd (c' : Nat) 31) = toI (hxN cs) := by
  have e1 : cs.map (fun c' => Int.fdiv (c' : Nat) (2 ^ 5)) = (cs.map (· >>> 5)).map Int.ofNat := by
    rw [List.map_map]
    exact List.map_congr_left fun c _ => shr_cast c 5
  have e2 : cs.map (fun c' => Builtin.bitAnd (c' : Nat) 31) = (cs.map (· &&& 31)).map Int.ofNat := by
    rw [List.map_map]
    exact List.map_congr_left fun c _ => and_cast c 31
  unfold toI hxN
  rw [List.map_append, List.map_cons, e1, e2, List.append_assoc]
  rfl
theorem nameOk_len {x : Str} (h : NameOk x) : x.cps.size ≤ 5 := h.1
theorem nameOk_size {x : Str} (h : NameOk x) : x.cps.size ≤ sizeLine := Nat.le_trans h.1 (by rw [PySem.sizeLine_eq]; decide)
theorem nmN_len {x : Str} (h : NameOk x) : (nmN x).length ≤ 11 := by
  have := h.1
  unfold nmN hxN
  simp only [List.length_append, List.length_map, List.length_cons, Array.length_toList]
  omega
theorem nmN_dig {x : Str} (h : NameOk x) : Dig (nmN x) := by
  intro k hk
  unfold nmN hxN at hk
  rcases List.mem_append.mp hk with hk | hk
  · obtain ⟨c, hc, rfl⟩ := List.mem_map.mp hk
    have := h.2 c hc
    show c >>> 5 < 32
    rw [Nat.shiftRight_eq_div_pow]
    omega
  · rcases List.mem_cons.mp hk with rfl | hk
    · decide
    · obtain ⟨c, _, rfl⟩ := List.mem_map.mp hk
      show c &&& 31 < 32
      exact Nat.lt_succ_of_le Nat.and_le_right

section
variable {h₀ h : Heap} {L : Addr} {a : Addr} {o : Obj} {news : List (Addr × Obj)}
theorem news_pick (N : News h₀ L h news) (hm : (a, o) ∈ news) : News h₀ L h ((a, o) :: news) := fun p hp => by
  rcases List.mem_cons.mp hp with rfl | hp
  · exact N _ hm
  · exact N p hp
theorem news_tail (N : News h₀ L h ((a, o) :: news)) : News h₀ L h news := fun p hp => N p (.tail _ hp)
end

section
variable {M : Model} {A : Around} {E : Value → Shared → Prop} {s : Shared} {h₀ : Heap} {L a : Addr} {m : Str → Option Value} {cn : Str} {cs : Scope} {ccd : Value} {cl : List (Str × Addr)}
  {x : Str} {v : Value} {Q : Unit → Shared → Prop} {R : List (Addr × Obj)} {c : Addr} {o : Obj} {v₀ : Option Value}
theorem store_cell (R' : List (Addr × Obj)) (F : Fr h₀ L s.heap m) (N : News h₀ L s.heap R) (hc : cl.lookup x = some c) (hm : (c, o) ∈ R) (hd : o.data = .cell v₀) (sub : ∀ p ∈ R', p ∈ R) (off : ∀ p ∈ R', p.1 ≠ c)
    (h : ∀ h' o', Fr h₀ L h' m → News h₀ L h' ((c, o') :: R') → o'.data = .cell (some v) → Q () { s with heap := h' })
    (hk : cs.kind = .function := by rfl) (hx : (envX cn cs L a ccd cl).kindOf x = some .cell := by rfl) : wpAny M A (storeName (envX cn cs L a ccd cl) x v) Q E s := by
  have hmem := N _ hm
  refine wpAny_storeName_cell hk hx hc ⟨o, hmem.1, hd⟩ fun h' hv hs => ?_
  obtain ⟨o', ho', hd'⟩ := hv
  refine h h' o' ⟨F.ns.sameBut hs (Ne.symm hmem.2.1), fun b ob e => (hs.2 b (fun q => ?_)).trans (F.keep b ob e), F.above⟩ (fun p hp => ?_) hd'
  · rw [q, hmem.2.2] at e
    cases e
  · rcases List.mem_cons.mp hp with rfl | hp
    · exact ⟨ho', hmem.2.1, hmem.2.2⟩
    · exact ⟨(hs.2 _ (off p hp)).trans (N p (sub p hp)).1, (N p (sub p hp)).2⟩
theorem off_next {d : Addr} (h : AllLt d R) : ∀ p ∈ R, p.1 ≠ d + 1 := fun p hp => Nat.ne_of_lt (Nat.lt_succ_of_lt (ktn_ltOf h p hp))
end
def PmSays (f : Addr) : Prop := ∀ (l : Addr) (vs : List Value) (n : Nat) (ns : List Nat) (rest : List (Addr × Obj)), IntsAre vs (toI ns) → Dig ns → ns.length ≤ 100 →
  Says f [.ref l] ((l, listOf vs.toArray n) :: rest) 1 (RetI ((l, listOf vs.toArray n) :: rest) (pmN 1 ns : Nat))
def HxSays (f : Addr) : Prop := ∀ (x : Str) (u : Tok) (rest : List (Addr × Obj)), NameOk x → Says f [.str x u] rest 1 (RetL rest (toI (nmN x)))
def SmSays (f : Addr) : Prop := ∀ (l₁ l₂ : Addr) (vs₁ vs₂ : List Value) (n₁ n₂ : Nat) (ks₁ ks₂ : List Int) (rest : List (Addr × Obj)), IntsAre vs₁ ks₁ → IntsAre vs₂ ks₂ → ks₁.length ≤ 12 →
  Says f [.ref l₁, .ref l₂] ((l₁, listOf vs₁.toArray n₁) :: (l₂, listOf vs₂.toArray n₂) :: rest) 1 (RetL ((l₁, listOf vs₁.toArray n₁) :: (l₂, listOf vs₂.toArray n₂) :: rest) (List.zipWith Builtin.bitXor ks₁ ks₂))

def RetN (news : List (Addr × Obj)) (h₀ : Heap) (L : Addr) (m : Str → Option Value) (s : Shared) (Q : Value → Shared → Prop) : Prop :=
  ∀ (h' : Heap) (tk' : Nat), Fr h₀ L h' m → News h₀ L h' news → Q .none { s with heap := h', toks := tk' }
def RetV (news : List (Addr × Obj)) (p : Nat) (h₀ : Heap) (L : Addr) (m : Str → Option Value) (s : Shared) (Q : Value → Shared → Prop) : Prop :=
  (p = 1 → RetI news 1 h₀ L m s Q) ∧ (p = 734539939 → RetI news 2 h₀ L m s Q) ∧ (p ≠ 1 → p ≠ 734539939 → RetN news h₀ L m s Q)
def digN (p : Nat) : List Nat := [p >>> 25 &&& 31, p >>> 20 &&& 31, p >>> 15 &&& 31, p >>> 10 &&& 31, p >>> 5 &&& 31, p >>> 0 &&& 31]
theorem dig_ints {ys : List Value} {pm K : Nat} (h : IntsAre ys (List.map (fun k' => Builtin.bitAnd ((Builtin.bitXor (pm : Int) (K : Int)).fdiv (2 ^ (5 * (5 - k')).toNat)) 31) (rangeKs 0 6))) : IntsAre ys (toI (digN (pm ^^^ K))) := by
  rw [xor_cast] at h
  generalize pm ^^^ K = P at h
  have key : ∀ k : Nat, Builtin.bitAnd ((P : Int).fdiv (2 ^ k)) 31 = ((P >>> k &&& 31 : Nat) : Int) := fun k => by rw [shr_cast]; exact and_cast _ 31
  have e : List.map (fun k' => Builtin.bitAnd ((P : Int).fdiv (2 ^ (5 * (5 - k')).toNat)) 31) (rangeKs 0 6) = toI (digN P) := by
    have r : rangeKs 0 6 = [0, 1, 2, 3, 4, 5] := by decide
    rw [r]
    unfold toI digN
    simp only [List.map_cons, List.map_nil]
    rw [show (5 * (5 - 0) : Int).toNat = 25 from rfl, show (5 * (5 - 1) : Int).toNat = 20 from rfl, show (5 * (5 - 2) : Int).toNat = 15 from rfl, show (5 * (5 - 3) : Int).toNat = 10 from rfl, show (5 * (5 - 4) : Int).toNat = 5 from rfl, show (5 * (5 - 5) : Int).toNat = 0 from rfl]
    simp only [key]
    rfl
  rw [e] at h
  exact h
theorem eq_one_cast (p : Nat) : ((p : Int) == 1) = decide (p = 1) := by
  rw [Bool.eq_iff_iff, beq_iff_eq, decide_eq_true_eq]
  omega
def chkN (K : Nat) (x : Str) (ns : List Nat) : List Nat := digN (pmN 1 (nmN x ++ ns ++ [0, 0, 0, 0, 0, 0]) ^^^ K)
def V2Says (f : Addr) : Prop := ∀ (x : Str) (u : Tok) (l : Addr) (vs : List Value) (n : Nat) (ns : List Nat) (rest : List (Addr × Obj)), NameOk x → IntsAre vs (toI ns) → Dig ns → ns.length ≤ 24 →
  Says f [.str x u, .ref l] ((l, listOf vs.toArray n) :: rest) 2 (RetB ((l, listOf vs.toArray n) :: rest) (decide (pmN 1 (nmN x ++ ns) = 1)))
def V1Says (f : Addr) : Prop := ∀ (x : Str) (u : Tok) (l : Addr) (vs : List Value) (n : Nat) (ns : List Nat) (rest : List (Addr × Obj)), NameOk x → IntsAre vs (toI ns) → Dig ns → ns.length ≤ 24 →
  Says f [.str x u, .ref l] ((l, listOf vs.toArray n) :: rest) 2 (RetV ((l, listOf vs.toArray n) :: rest) (pmN 1 (nmN x ++ ns)))
def C2Says (f : Addr) : Prop := ∀ (x : Str) (u : Tok) (l : Addr) (vs : List Value) (n : Nat) (ns : List Nat) (rest : List (Addr × Obj)), NameOk x → IntsAre vs (toI ns) → Dig ns → ns.length ≤ 24 →
  Says f [.str x u, .ref l] ((l, listOf vs.toArray n) :: rest) 2 (RetL ((l, listOf vs.toArray n) :: rest) (toI (chkN 1 x ns)))
def C1Says (f : Addr) (e : Int) (K : Nat) : Prop := ∀ (te : Tok) (x : Str) (u : Tok) (l : Addr) (vs : List Value) (n : Nat) (ns : List Nat) (rest : List (Addr × Obj)), NameOk x → IntsAre vs (toI ns) → Dig ns → ns.length ≤ 24 →
  Says f [.int e te, .str x u, .ref l] ((l, listOf vs.toArray n) :: rest) 2 (RetL ((l, listOf vs.toArray n) :: rest) (toI (chkN K x ns)))

theorem Dig.app {a b : List Nat} (h : Dig a) (h' : Dig b) : Dig (a ++ b) := fun k hk => (List.mem_append.mp hk).elim (h k) (h' k)
theorem ints_size {vs : List Value} {ks : List Int} (h : IntsAre vs ks) (hk : ks.length ≤ 1000) : vs.toArray.size ≤ sizeLine := by
  rw [List.size_toArray, h.length, PySem.sizeLine_eq]
  omega
theorem dig_z6 : Dig [0, 0, 0, 0, 0, 0] := by intro k hk; simp at hk; omega
theorem toI_app1 (a b : List Nat) : toI a ++ toI b = toI (a ++ b) := (toI_app a b).symm
theorem toI_z (a b : List Nat) : toI a ++ toI b ++ [0, 0, 0, 0, 0, 0] = toI (a ++ b ++ [0, 0, 0, 0, 0, 0]) := by rw [toI_app, toI_app]; rfl

section
variable {w : World} {p : Program} {loose : List Str} {mean : ExcName → Option Value} {mg mb : Str → Option Value}
    {dp un : Nat} {gd : Option (List Code)} {cn : Str} {cs : Scope} {a : Addr} {ccd : Value} {cl : List (Str × Addr)} {outer : List Env} {A₀ : Around} {base h₀ : Heap} {L : Addr} {m : Str → Option Value} {s : Shared} {Q E : Value → Shared → Prop}
    {f l l' : Addr} {vs vs' : List Value} {n n' : Nat} {ks ks' : List Int} {ns : List Nat} {R : List (Addr × Obj)} {x : Str} {u te : Tok} {e : Int} {K : Nat}
theorem use_pm (C : PmSays f) (B : Below A₀ base outer h₀) (F : Fr h₀ L s.heap m) (X : (hd.heap_39 w.params).In h₀) (N : News h₀ L s.heap R) (T : Top p loose mean mg mb h₀) (hk : cs.kind = .function)
    (hm : (l, listOf vs.toArray n) ∈ R) (hi : IntsAre vs ks) (he : ks = toI ns) (hb : Dig ns) (hle : ns.length ≤ 100) (hd : dp + 1 < recursionLimit) (hu : un + 8 < cLine)
    (k : RetI R (pmN 1 ns : Nat) h₀ L m s Q) : wpAny (model PySem.Challenge.rw_vn0010_01.row.prog w) (ktrTop dp un gd cn cs L a ccd cl outer) (call (.ref f) [.ref l]) Q E s :=
  C l vs n ns R (he ▸ hi) hb hle _ _ _ _ _ _ _ _ _ _ _ _ _ _ _ _ _ _ _ _ _ _ _ B F X (news_pick N hm) T hk hd hu fun t h' tk' F' N' => k t h' tk' F' (news_tail N')
theorem use_hx (C : HxSays f) (B : Below A₀ base outer h₀) (F : Fr h₀ L s.heap m) (X : (hd.heap_39 w.params).In h₀) (N : News h₀ L s.heap R) (T : Top p loose mean mg mb h₀) (hk : cs.kind = .function)
    (hx : NameOk x) (hd : dp + 1 < recursionLimit) (hu : un + 8 < cLine)
    (k : RetL R (toI (nmN x)) h₀ L m s Q) : wpAny (model PySem.Challenge.rw_vn0010_01.row.prog w) (ktrTop dp un gd cn cs L a ccd cl outer) (call (.ref f) [.str x u]) Q E s :=
  C x u R hx _ _ _ _ _ _ _ _ _ _ _ _ _ _ _ _ _ _ _ _ _ _ _ B F X N T hk hd hu k
theorem use_sm (C : SmSays f) (B : Below A₀ base outer h₀) (F : Fr h₀ L s.heap m) (X : (hd.heap_39 w.params).In h₀) (N : News h₀ L s.heap R) (T : Top p loose mean mg mb h₀) (hk : cs.kind = .function)
    (hm : (l, listOf vs.toArray n) ∈ R) (hm' : (l', listOf vs'.toArray n') ∈ R) (hi : IntsAre vs ks) (hi' : IntsAre vs' ks') (hle : ks.length ≤ 12) (hd : dp + 1 < recursionLimit) (hu : un + 8 < cLine)
    (k : RetL R (List.zipWith Builtin.bitXor ks ks') h₀ L m s Q) : wpAny (model PySem.Challenge.rw_vn0010_01.row.prog w) (ktrTop dp un gd cn cs L a ccd cl outer) (call (.ref f) [.ref l, .ref l']) Q E s :=
  C l l' vs vs' n n' ks ks' R hi hi' hle _ _ _ _ _ _ _ _ _ _ _ _ _ _ _ _ _ _ _ _ _ _ _ B F X (news_pick (news_pick N hm') (.tail _ hm)) T hk hd hu fun r us c h' tk' hU F' N' => k r us c h' tk' hU F' fun q hq => N' q (by
    rcases List.mem_cons.mp hq with rfl | hq
    · exact .head _
    · exact .tail _ (.tail _ (.tail _ hq)))
theorem use_v2 (C : V2Says f) (B : Below A₀ base outer h₀) (F : Fr h₀ L s.heap m) (X : (hd.heap_39 w.params).In h₀) (N : News h₀ L s.heap R) (T : Top p loose mean mg mb h₀) (hk : cs.kind = .function)
    (hx : NameOk x) (hm : (l, listOf vs.toArray n) ∈ R) (hi : IntsAre vs ks) (he : ks = toI ns) (hb : Dig ns) (hle : ns.length ≤ 24) (hd : dp + 2 < recursionLimit) (hu : un + 16 < cLine)
    (k : RetB R (decide (pmN 1 (nmN x ++ ns) = 1)) h₀ L m s Q) : wpAny (model PySem.Challenge.rw_vn0010_01.row.prog w) (ktrTop dp un gd cn cs L a ccd cl outer) (call (.ref f) [.str x u, .ref l]) Q E s :=
  C x u l vs n ns R hx (he ▸ hi) hb hle _ _ _ _ _ _ _ _ _ _ _ _ _ _ _ _ _ _ _ _ _ _ _ B F X (news_pick N hm) T hk hd hu fun h' tk' F' N' => k h' tk' F' (news_tail N')
theorem use_v1 (C : V1Says f) (B : Below A₀ base outer h₀) (F : Fr h₀ L s.heap m) (X : (hd.heap_39 w.params).In h₀) (N : News h₀ L s.heap R) (T : Top p loose mean mg mb h₀) (hk : cs.kind = .function)
    (hx : NameOk x) (hm : (l, listOf vs.toArray n) ∈ R) (hi : IntsAre vs ks) (he : ks = toI ns) (hb : Dig ns) (hle : ns.length ≤ 24) (hd : dp + 2 < recursionLimit) (hu : un + 16 < cLine)
    (k : RetV R (pmN 1 (nmN x ++ ns)) h₀ L m s Q) : wpAny (model PySem.Challenge.rw_vn0010_01.row.prog w) (ktrTop dp un gd cn cs L a ccd cl outer) (call (.ref f) [.str x u, .ref l]) Q E s :=
  C x u l vs n ns R hx (he ▸ hi) hb hle _ _ _ _ _ _ _ _ _ _ _ _ _ _ _ _ _ _ _ _ _ _ _ B F X (news_pick N hm) T hk hd hu ⟨fun q t h' tk' F' N' => k.1 q t h' tk' F' (news_tail N'), fun q t h' tk' F' N' => k.2.1 q t h' tk' F' (news_tail N'), fun q q' h' tk' F' N' => k.2.2 q q' h' tk' F' (news_tail N')⟩
theorem use_c2 (C : C2Says f) (B : Below A₀ base outer h₀) (F : Fr h₀ L s.heap m) (X : (hd.heap_39 w.params).In h₀) (N : News h₀ L s.heap R) (T : Top p loose mean mg mb h₀) (hk : cs.kind = .function)
    (hx : NameOk x) (hm : (l, listOf vs.toArray n) ∈ R) (hi : IntsAre vs ks) (he : ks = toI ns) (hb : Dig ns) (hle : ns.length ≤ 24) (hd : dp + 2 < recursionLimit) (hu : un + 16 < cLine)
    (k : RetL R (toI (chkN 1 x ns)) h₀ L m s Q) : wpAny (model PySem.Challenge.rw_vn0010_01.row.prog w) (ktrTop dp un gd cn cs L a ccd cl outer) (call (.ref f) [.str x u, .ref l]) Q E s :=
  C x u l vs n ns R hx (he ▸ hi) hb hle _ _ _ _ _ _ _ _ _ _ _ _ _ _ _ _ _ _ _ _ _ _ _ B F X (news_pick N hm) T hk hd hu fun r us c h' tk' hU F' N' => k r us c h' tk' hU F' fun q hq => N' q (by
    rcases List.mem_cons.mp hq with rfl | hq
    · exact .head _
    · exact .tail _ (.tail _ hq))
theorem use_c1 (C : C1Says f e K) (B : Below A₀ base outer h₀) (F : Fr h₀ L s.heap m) (X : (hd.heap_39 w.params).In h₀) (N : News h₀ L s.heap R) (T : Top p loose mean mg mb h₀) (hk : cs.kind = .function)
    (hx : NameOk x) (hm : (l, listOf vs.toArray n) ∈ R) (hi : IntsAre vs ks) (he : ks = toI ns) (hb : Dig ns) (hle : ns.length ≤ 24) (hd : dp + 2 < recursionLimit) (hu : un + 16 < cLine)
    (k : RetL R (toI (chkN K x ns)) h₀ L m s Q) : wpAny (model PySem.Challenge.rw_vn0010_01.row.prog w) (ktrTop dp un gd cn cs L a ccd cl outer) (call (.ref f) [.int e te, .str x u, .ref l]) Q E s :=
  C te x u l vs n ns R hx (he ▸ hi) hb hle _ _ _ _ _ _ _ _ _ _ _ _ _ _ _ _ _ _ _ _ _ _ _ B F X (news_pick N hm) T hk hd hu fun r us c h' tk' hU F' N' => k r us c h' tk' hU F' fun q hq => N' q (by
    rcases List.mem_cons.mp hq with rfl | hq
    · exact .head _
    · exact .tail _ (.tail _ hq))
end
end

section
open PySem PySem.W PyProof.Rows PySem.Spec
section
def JInt (g : Heap) (L : Addr) (m : Str → Option Value) (news : List (Addr × Obj)) (x : Int) (s : Shared) (v : Value) (s' : Shared) : Prop :=
  ∃ (t : Tok) (h' : Heap) (tk : Nat), v = .int x t ∧ s' = { s with heap := h', toks := tk } ∧ Fr g L h' m ∧ News g L h' news
section
variable {M : Model} {A : Around} {E : Value → Shared → Prop} {s : Shared} {g : Heap} {L : Addr} {m : Str → Option Value} {news : List (Addr × Obj)} {Q : Value → Shared → Prop}
theorem join_sel {tp k : Int} {t1 t2 : Tok} {e : Sem Value} (_F : Fr g L s.heap m) (_N : News g L s.heap news) (_hi : m (Str.ofString "i") = some (.int k t2)) (_ht : m (Str.ofString "top") = some (.int tp t1))
    (walk : wpAny M A e (JInt g L m news (selI tp k) s) E s)
    (main : ∀ t h' tk, Fr g L h' m → News g L h' news → Q (.int (selI tp k) t) { s with heap := h', toks := tk }) : wpAny M A e Q E s := by
  refine wpAny_mono walk (fun v s' hj => ?_) fun _ _ x => x
  obtain ⟨t, h', tk, rfl, rfl, F', N'⟩ := hj
  exact main t h' tk F' N'
theorem jint_intro {x y : Int} {t : Tok} {h' : Heap} {tk : Nat} (e : x = y) (F : Fr g L h' m) (N : News g L h' news) : JInt g L m news x s (.int y t) { s with heap := h', toks := tk } := ⟨t, h', tk, by rw [e], rfl, F, N⟩
end
section
variable {prog : Program} {w : World} {A : Around} {E : Value → Shared → Prop} {s : Shared} {Q : Value → Shared → Prop} {a : Int} {t u : Tok}
theorem shl_low (h : Q (.int (Builtin.bitAnd a 33554431 * 2 ^ 5) s.toks) { s with toks := s.toks + 1 }) :
    wpAny (model prog w) A (binaryOp .LShift (.int (Builtin.bitAnd a 33554431) t) (.int 5 u)) Q E s := by
  refine lshift_int_small (by decide) (by decide) ?_ h
  have e := kbt_mask a 25
  have e' : ((2 : Int) ^ 25 - 1) = 33554431 := rfl
  rw [e'] at e
  rw [e]
  have h1 := Int.emod_nonneg a (show (2 : Int) ^ 25 ≠ 0 by decide)
  have h2 := Int.emod_lt_of_pos a (show (0 : Int) < 2 ^ 25 by decide)
  omega
end
theorem sel_on {tp k x : Int} (h : Builtin.bitAnd (tp.fdiv (2 ^ k.toNat)) 1 ≠ 0) (e : (gen k.toNat : Int) = x) : selI tp k = x := by unfold selI; rw [if_pos h, e]
theorem sel_off {tp k : Int} (h : Builtin.bitAnd (tp.fdiv (2 ^ k.toNat)) 1 = 0) : selI tp k = 0 := by unfold selI; rw [if_neg (fun q => q h)]
section
variable {h₀ : Heap} {L I : Addr} {it : Obj} {rest : (Str → Option Value) → List (Addr × Obj) → Prop} {s₁ : Shared} {h' : Heap} {tk : Nat} {m' : Str → Option Value} {news' : List (Addr × Obj)}
theorem unr_end (F : Fr h₀ L h' m') (N : News h₀ L h' ((I, it) :: news')) (hl : AllLt I news') (r : rest m' news') : UnrEnd h₀ L s₁ I it rest { s₁ with heap := h', toks := tk } :=
  UnrEnd.intro F N news' (fun _ hp => hp) (fun p hp => Nat.ne_of_lt (ktn_ltOf hl p hp)) r
end
local macro_rules | `(tactic| walk_at "UnrEnd") => `(tactic| (k_here; refine' unr_end ?k1 ?k2 ?k3 ?_; (case k1 => k_asm); (case k2 => k_asm); (case k3 => assumption)))
local macro_rules | `(tactic| walk_at "binaryOp LShift int int") => `(tactic| ((with_reducible refine shl_low ?_)))
local macro_rules | `(tactic| walk_at "JInt") => `(tactic| (refine jint_intro ?e1 ?e2 ?e3; (case e2 => k_asm); (case e3 => k_asm); (case e1 => first | exact sel_on (by assumption) rfl | exact sel_off (by assumption))))
local macro_rules | `(tactic| walk_at "eval IfExp") => `(tactic| (k_here; (with_reducible show wpAny _ _ (eval (Expr.IfExp (Expr.BinOp _ _ _ _) _ _ _) _) _ _ _); (fail_if_success (with_reducible show wpAny _ _ _ (JInt _ _ _ _ _ _) _ _)); k_dflt (refine' join_sel ?k1 ?k2 ?k3 ?k4 ?k5 ?_; (case k1 => k_asm); (case k2 => k_asm); (case k3 => with_unfolding_all rfl); (case k4 => with_unfolding_all rfl); (case k5 => (k_steps; done)); intro t' h' tk' F' N'; (try dsimp only); (try k_fold))))
set_option maxRecDepth 100000 in
set_option maxHeartbeats 8000000 in
theorem pm1 : PmSays 35 := by
  intro l vs n ns rest hi hb hlen w p loose mean mg mb dp un gd cn cs a ccd cl outer A₀ base h₀ L m s Q E B F X N T hk hd hu hret
  have hb' := toI_bound hb
  refine wpAny_call ?_
  k_dflt cell_enter
  k_with_none
  k_with "pyIter ref" => k_state (fun pre c => PmInv pre c) "chk"
  k_with "state" => first | exact pmInv_nil | exact pmInv_step (by assumption) (hb' _ (by assumption)).1
  k_steps
  rename PmInv _ _ => hinv
  unfold PmInv at hinv
  rw [toI_nat] at hinv
  subst hinv
  exact hret _ _ _ (by k_asm) (cb_drop (by k_asm) (fun _ hp => .tail _ hp))
set_option maxRecDepth 100000 in
set_option maxHeartbeats 8000000 in
theorem pm2 : PmSays 59 := by
  intro l vs n ns rest hi hb hlen w p loose mean mg mb dp un gd cn cs a ccd cl outer A₀ base h₀ L m s Q E B F X N T hk hd hu hret
  have hb' := toI_bound hb
  refine wpAny_call ?_
  k_dflt cell_enter
  k_with_none
  k_with "pyIter ref" => k_state (fun pre c => PmInv pre c) "chk"
  k_with "state" => first | exact pmInv_nil | exact pmInv_step (by assumption) (hb' _ (by assumption)).1
  k_steps
  rename PmInv _ _ => hinv
  unfold PmInv at hinv
  rw [toI_nat] at hinv
  subst hinv
  exact hret _ _ _ (by k_asm) (cb_drop (by k_asm) (fun _ hp => .tail _ hp))
end
end

section
open PySem PySem.W PyProof.Rows PySem.Spec
section
local macro_rules | `(tactic| walk_at "eval ListComp") => `(tactic| (k_here; (with_reducible show wpAny _ _ (eval (Expr.ListComp (Expr.BinOp (Expr.Call _ _ _ _) _ _ _) _ _ _) _) _ _ _); k_dflt (refine ListComp_str (by k_asm) (by with_unfolding_all rfl) (by decide) (by rfl) (by decide) (by rfl) ?_)))
local macro_rules | `(tactic| walk_at "StrSrc") => `(tactic| (k_here; (with_reducible show StrSrc _ _ _ _ _ _ _ (Expr.BinOp _ Operator.RShift _ _) _ _ _ _ _ _); k_dflt (refine' StrSrc.intro ?k1 ?k2 ?k3 ?k4 (fun c' => Int.fdiv (c' : Nat) (2 ^ 5)) ?_ ?_; (case k1 => with_unfolding_all rfl); (case k2 => k_asm); (case k3 => k_asm); (case k4 => exact nameOk_size (by assumption)))))
local macro_rules | `(tactic| walk_at "StrSrc") => `(tactic| (k_here; (with_reducible show StrSrc _ _ _ _ _ _ _ (Expr.BinOp _ Operator.BitAnd _ _) _ _ _ _ _ _); k_dflt (refine' StrSrc.intro ?k1 ?k2 ?k3 ?k4 (fun c' => Builtin.bitAnd (c' : Nat) 31) ?_ ?_; (case k1 => with_unfolding_all rfl); (case k2 => k_asm); (case k3 => k_asm); (case k4 => exact nameOk_size (by assumption)))))
local macro_rules | `(tactic| walk_at "KCfEl") => `(tactic| exact kcf_el rfl rfl rfl)
local macro_rules | `(tactic| walk_at "binaryOp Add ref ref") => `(tactic| (k_here; (with_reducible show wpAny _ _ (binaryOp _ (Value.ref _) (Value.ref _)) _ _ _); k_dflt (refine' kmk_add_ints ?F ?N ?a ?b ?i ?j ?_ ?z; (case F => k_asm); (case N => k_asm); (case a => exact News.isList (by k_asm) (by k_mem)); (case b => exact News.isList (by k_asm) (by k_mem)); (case i => first | assumption | l_ints); (case j => first | assumption | l_ints); (case z => ((simp only [List.length_append, List.length_map, List.length_cons, List.length_nil, Array.length_toList, PySem.sizeLine_eq]); first | omega | ((have hn9 := nameOk_len (by assumption)); omega)))); intro D' ws' h' F' N' l1 hI'; (try k_lt l1)))

set_option maxRecDepth 100000 in
set_option maxHeartbeats 8000000 in
theorem hx1 : HxSays 40 := by
  intro x u rest hx w p loose mean mg mb dp un gd cn cs a ccd cl outer A₀ base h₀ L m s Q E B F X N T hk hd hu hret
  refine wpAny_call ?_
  k_dflt cell_enter
  k_with_none
  k_steps
  rename IntsAre _ _ => hI
  rw [hx_toI] at hI
  exact hret _ _ _ _ _ hI (by k_asm) (cb_drop (by k_asm) (fun _ hp => by rcases List.mem_cons.mp hp with rfl | hp; exact .head _; (repeat (first | exact hp | apply List.mem_cons_of_mem))))
set_option maxRecDepth 100000 in
set_option maxHeartbeats 8000000 in
theorem hx2 : HxSays 64 := by
  intro x u rest hx w p loose mean mg mb dp un gd cn cs a ccd cl outer A₀ base h₀ L m s Q E B F X N T hk hd hu hret
  refine wpAny_call ?_
  k_dflt cell_enter
  k_with_none
  k_steps
  rename IntsAre _ _ => hI
  rw [hx_toI] at hI
  exact hret _ _ _ _ _ hI (by k_asm) (cb_drop (by k_asm) (fun _ hp => by rcases List.mem_cons.mp hp with rfl | hp; exact .head _; (repeat (first | exact hp | apply List.mem_cons_of_mem))))
end
section
local macro_rules | `(tactic| walk_at "eval ListComp") => `(tactic| (k_here; (with_reducible show wpAny _ _ (eval (Expr.ListComp _ [Comprehension.mk (Expr.Tuple _ _ _) _ _ _] _ _) _) _ _ _); k_dflt (refine ListComp_zip (by with_unfolding_all rfl) (by rfl) (by decide) ?_)))
local macro_rules | `(tactic| walk_at "call type:zip") => `(tactic| (k_here; k_dflt (refine' zip_comp Builtin.bitXor ?a1 ?a2 ?a3 ?a4 ?a5 ?a6 ?a7 ?a8 ?a9 ?b1 ?b2 ?b3 ?b4 ?b5 ?_; (case a1 => with_unfolding_all rfl); (case a2 => decide); (case a3 => rfl); (case a4 => rfl); (case a5 => rfl); (case a6 => decide); (case a7 => k_asm); (case a8 => k_asm); (case a9 => exact News.isList (by k_asm) (by k_mem)); (case b1 => exact News.isList (by k_asm) (by k_mem)); (case b2 => assumption); (case b3 => assumption); (case b4 => (rw [PySem.sizeLine_eq]; omega)); (case b5 => (intro C9 h9 m9 tk9 a9 b9 t9 u9 E9 Q9 n9 p9 q9 r9; exact xor_elt (by rfl) (by rfl) (by rfl) (by decide) (by decide) n9 p9 q9 r9)); intro D' ys' h' tk' hI' F' N'; (try dsimp only); (try k_fold))))
set_option maxRecDepth 100000 in
set_option maxHeartbeats 8000000 in
theorem sm1 : SmSays 86 := by
  intro l₁ l₂ vs₁ vs₂ n₁ n₂ ks₁ ks₂ rest hi₁ hi₂ hle w p loose mean mg mb dp un gd cn cs a ccd cl outer A₀ base h₀ L m s Q E B F X N T hk hd hu hret
  refine wpAny_call ?_
  k_dflt cell_enter
  k_with_none
  k_steps
  exact hret _ _ _ _ _ (by assumption) (by k_asm) (by k_asm)
end
end

section
open PySem PySem.W PyProof.Rows PySem.Spec
section
local macro_rules | `(tactic| walk_at "mine pm") => `(tactic| ((case k1 => k_asm); (case k2 => k_asm); (case k3 => k_asm); (case k4 => k_asm); (case k5 => k_asm); (case kK => first | exact rfl | assumption); (case hm => k_mem); (case hi => assumption); (case he => first | exact rfl | exact toI_app1 _ _ | exact toI_z _ _); (case hb => first | exact Dig.app (nmN_dig (by assumption)) (by assumption) | exact Dig.app (Dig.app (nmN_dig (by assumption)) (by assumption)) dig_z6); (case hle => ((simp only [List.length_append, List.length_cons, List.length_nil]); (have hn9 := nmN_len (by assumption)); omega)); (case hd => ktr_room); (case hu => ktr_units); intro t9 h9 tk9 F9 N9; (try dsimp only); (try k_fold)))
local macro_rules | `(tactic| walk_at "mine hx") => `(tactic| ((case k1 => k_asm); (case k2 => k_asm); (case k3 => k_asm); (case k4 => k_asm); (case k5 => k_asm); (case kK => first | exact rfl | assumption); (case hx => assumption); (case hd => ktr_room); (case hu => ktr_units); intro r9 us9 n9 h9 tk9 hU9 F9 N9; (try dsimp only); (try k_fold)))
local macro_rules | `(tactic| walk_at "call ref") => `(tactic| (k_here; (with_reducible show wpAny _ _ (call (Value.ref 35) [Value.ref _]) _ _ _); k_dflt (refine' use_pm pm1 ?k1 ?k2 ?k3 ?k4 ?k5 ?kK ?hm ?hi ?he ?hb ?hle ?hd ?hu ?_; walk_at "mine pm")))
local macro_rules | `(tactic| walk_at "call ref") => `(tactic| (k_here; (with_reducible show wpAny _ _ (call (Value.ref 59) [Value.ref _]) _ _ _); k_dflt (refine' use_pm pm2 ?k1 ?k2 ?k3 ?k4 ?k5 ?kK ?hm ?hi ?he ?hb ?hle ?hd ?hu ?_; walk_at "mine pm")))
local macro_rules | `(tactic| walk_at "call ref") => `(tactic| (k_here; (with_reducible show wpAny _ _ (call (Value.ref 40) [Value.str _ _]) _ _ _); k_dflt (refine' use_hx hx1 ?k1 ?k2 ?k3 ?k4 ?k5 ?kK ?hx ?hd ?hu ?_; walk_at "mine hx")))
local macro_rules | `(tactic| walk_at "call ref") => `(tactic| (k_here; (with_reducible show wpAny _ _ (call (Value.ref 64) [Value.str _ _]) _ _ _); k_dflt (refine' use_hx hx2 ?k1 ?k2 ?k3 ?k4 ?k5 ?kK ?hx ?hd ?hu ?_; walk_at "mine hx")))
local macro_rules | `(tactic| walk_at "binaryOp Add ref ref") => `(tactic| (k_here; (with_reducible show wpAny _ _ (binaryOp _ (Value.ref _) (Value.ref _)) _ _ _); k_dflt (refine' kmk_add_ints ?F ?N ?a ?b ?i ?j ?_ ?z; (case F => k_asm); (case N => k_asm); (case a => exact News.isList (by k_asm) (by k_mem)); (case b => exact News.isList (by k_asm) (by k_mem)); (case i => first | assumption | l_ints); (case j => first | assumption | l_ints); (case z => ((simp only [List.length_append, toI_len, List.length_cons, List.length_nil, PySem.sizeLine_eq]); (have hn9 := nmN_len (by assumption)); omega))); intro D' ws' h' F' N' l1 hI'; (try k_lt l1)))

local macro_rules | `(tactic| walk_at "call type:list") => `(tactic| (k_here; (with_reducible show wpAny _ _ (call (Value.type _) [Value.ref _]) _ _ _); k_dflt (refine' list_copyK ?k1 ?k2 ?k3 ?_ ?z; (case k1 => k_asm); (case k2 => k_asm); (case k3 => exact News.isList (by k_asm) (by k_mem)); (case z => exact ints_size (by assumption) (by (simp only [toI_len]); omega)); intro D' c' h' F' N' l1)))

set_option maxRecDepth 100000 in
set_option maxHeartbeats 8000000 in
theorem vf2 : V2Says 71 := by
  intro x u l vs n ns rest hx hi hb hle w p loose mean mg mb dp un gd cn cs a ccd cl outer A₀ base h₀ L m s Q E B F X N T hk hd hu hret
  refine wpAny_call ?_
  k_dflt cell_enter
  k_with_none
  k_steps
  rw [eq_one_cast]
  exact hret _ _ (by k_asm) (cb_drop (by k_asm) (fun _ hp => .tail _ (.tail _ (.tail _ hp))))
set_option maxRecDepth 100000 in
set_option maxHeartbeats 8000000 in
theorem vf1 : V1Says 47 := by
  intro x u l vs n ns rest hx hi hb hle w p loose mean mg mb dp un gd cn cs a ccd cl outer A₀ base h₀ L m s Q E B F X N T hk hd hu hret
  refine wpAny_call ?_
  k_dflt cell_enter
  k_with_none
  k_steps
  · exact hret.1 (by omega) _ _ _ (by k_asm) (cb_drop (by k_asm) (fun _ hp => .tail _ (.tail _ hp)))
  · exact hret.2.1 (by omega) _ _ _ (by k_asm) (cb_drop (by k_asm) (fun _ hp => .tail _ (.tail _ hp)))
  · exact hret.2.2 (by omega) (by omega) _ _ (by k_asm) (cb_drop (by k_asm) (fun _ hp => .tail _ (.tail _ hp)))
end
section
local macro_rules | `(tactic| walk_at "mine enter") => `(tactic| (refine' code_defC ?k1 ?k2 ?k3 ?k4 ?k5 ?kA ?kF ?kK ?k6 ?k7 ?k8 ?k9 ?kB ?kD ?_ ?c2 ?c3 ?c4; (case kA => exact rfl); (case kF => exact rfl); (case kK => assumption); (case k1 => k_asm); (case k2 => k_asm); (case k3 => k_asm); (case k4 => k_asm); (case k5 => k_asm); (case k6 => k_is); (case k7 => k_is); (case k8 => ktr_room); (case k9 => exact BindsTo.of_eq rfl); (case kB => exact rfl); (case kD => decide +kernel); (case c2 => exact rfl); (case c3 => exact rfl); (case c4 => exact rfl); k_whole; intro g' L' h' tk' cells' FG' F' N' Y' B' X' T' l1; (try k_lt l1); k_cells Y'; (try simp only [List.cons_append, List.nil_append] at N'); (try dsimp only); (try k_lift B'); (try k_fold)))
local macro_rules | `(tactic| walk_at "mine pm") => `(tactic| ((case k1 => k_asm); (case k2 => k_asm); (case k3 => k_asm); (case k4 => k_asm); (case k5 => k_asm); (case kK => first | exact rfl | assumption); (case hm => k_mem); (case hi => assumption); (case he => first | exact rfl | exact toI_app1 _ _ | exact toI_z _ _); (case hb => first | exact Dig.app (nmN_dig (by assumption)) (by assumption) | exact Dig.app (Dig.app (nmN_dig (by assumption)) (by assumption)) dig_z6); (case hle => ((simp only [List.length_append, List.length_cons, List.length_nil]); (have hn9 := nmN_len (by assumption)); omega)); (case hd => ktr_room); (case hu => ktr_units); intro t9 h9 tk9 F9 N9; (try dsimp only); (try k_fold)))
local macro_rules | `(tactic| walk_at "mine hx") => `(tactic| ((case k1 => k_asm); (case k2 => k_asm); (case k3 => k_asm); (case k4 => k_asm); (case k5 => k_asm); (case kK => first | exact rfl | assumption); (case hx => assumption); (case hd => ktr_room); (case hu => ktr_units); intro r9 us9 n9 h9 tk9 hU9 F9 N9; (try dsimp only); (try k_fold)))
local macro_rules | `(tactic| walk_at "call ref") => `(tactic| (k_here; (with_reducible show wpAny _ _ (call (Value.ref 35) [Value.ref _]) _ _ _); k_dflt (refine' use_pm pm1 ?k1 ?k2 ?k3 ?k4 ?k5 ?kK ?hm ?hi ?he ?hb ?hle ?hd ?hu ?_; walk_at "mine pm")))
local macro_rules | `(tactic| walk_at "call ref") => `(tactic| (k_here; (with_reducible show wpAny _ _ (call (Value.ref 59) [Value.ref _]) _ _ _); k_dflt (refine' use_pm pm2 ?k1 ?k2 ?k3 ?k4 ?k5 ?kK ?hm ?hi ?he ?hb ?hle ?hd ?hu ?_; walk_at "mine pm")))
local macro_rules | `(tactic| walk_at "call ref") => `(tactic| (k_here; (with_reducible show wpAny _ _ (call (Value.ref 40) [Value.str _ _]) _ _ _); k_dflt (refine' use_hx hx1 ?k1 ?k2 ?k3 ?k4 ?k5 ?kK ?hx ?hd ?hu ?_; walk_at "mine hx")))
local macro_rules | `(tactic| walk_at "call ref") => `(tactic| (k_here; (with_reducible show wpAny _ _ (call (Value.ref 64) [Value.str _ _]) _ _ _); k_dflt (refine' use_hx hx2 ?k1 ?k2 ?k3 ?k4 ?k5 ?kK ?hx ?hd ?hu ?_; walk_at "mine hx")))
local macro_rules | `(tactic| walk_at "binaryOp Add ref ref") => `(tactic| (k_here; (with_reducible show wpAny _ _ (binaryOp _ (Value.ref _) (Value.ref _)) _ _ _); k_dflt (refine' kmk_add_ints ?F ?N ?a ?b ?i ?j ?_ ?z; (case F => k_asm); (case N => k_asm); (case a => exact News.isList (by k_asm) (by k_mem)); (case b => exact News.isList (by k_asm) (by k_mem)); (case i => first | assumption | l_ints); (case j => first | assumption | l_ints); (case z => ((simp only [List.length_append, toI_len, List.length_cons, List.length_nil, PySem.sizeLine_eq]); (have hn9 := nmN_len (by assumption)); omega))); intro D' ws' h' F' N' l1 hI'; (try k_lt l1)))

local macro_rules | `(tactic| walk_at "call type:list") => `(tactic| (k_here; (with_reducible show wpAny _ _ (call (Value.type _) [Value.ref _]) _ _ _); k_dflt (refine' list_copyK ?k1 ?k2 ?k3 ?_ ?z; (case k1 => k_asm); (case k2 => k_asm); (case k3 => exact News.isList (by k_asm) (by k_mem)); (case z => exact ints_size (by assumption) (by (simp only [toI_len]); omega)); intro D' c' h' F' N' l1)))

set_option maxRecDepth 100000 in
set_option maxHeartbeats 8000000 in
theorem cr2 : C2Says 76 := by
  intro x u l vs n ns rest hx hi hb hle w p loose mean mg mb dp un gd cn cs a ccd cl outer A₀ base h₀ L m s Q E B F X N T hk hd hu hret
  refine wpAny_call ?_
  k_dflt walk_at "mine enter"
  k_with_none
  k_steps
  refine' store_cell ((l, listOf vs.toArray n) :: rest) ?k1 ?k2 ?k3 ?k4 ?k5 ?k6 ?k7 ?_
  case k1 => k_asm
  case k2 => k_asm
  case k3 => rfl
  case k4 => k_mem
  case k5 => assumption
  case k6 => exact fun p hp => by (repeat (first | exact hp | apply List.mem_cons_of_mem))
  case k7 => exact off_next (by assumption)
  intro h' o' F' N' d'
  k_steps
  rename IntsAre _ _ => hI
  exact hret _ _ _ _ _ (dig_ints (K := 1) hI) (by k_asm) (cb_drop (by k_asm) (fun _ hp => by rcases List.mem_cons.mp hp with rfl | hp; exact .head _; exact .tail _ (.tail _ hp)))
set_option maxRecDepth 100000 in
set_option maxHeartbeats 8000000 in
theorem cr1m : C1Says 52 2 734539939 := by
  intro te x u l vs n ns rest hx hi hb hle w p loose mean mg mb dp un gd cn cs a ccd cl outer A₀ base h₀ L m s Q E B F X N T hk hd hu hret
  refine wpAny_call ?_
  k_dflt walk_at "mine enter"
  k_with_none
  k_steps
  refine' store_cell ((l, listOf vs.toArray n) :: rest) ?k1 ?k2 ?k3 ?k4 ?k5 ?k6 ?k7 ?_
  case k1 => k_asm
  case k2 => k_asm
  case k3 => rfl
  case k4 => k_mem
  case k5 => assumption
  case k6 => exact fun p hp => by (repeat (first | exact hp | apply List.mem_cons_of_mem))
  case k7 => exact off_next (by assumption)
  intro h' o' F' N' d'
  k_steps
  rename IntsAre _ _ => hI
  exact hret _ _ _ _ _ (dig_ints (K := 734539939) hI) (by k_asm) (cb_drop (by k_asm) (fun _ hp => by rcases List.mem_cons.mp hp with rfl | hp; exact .head _; exact .tail _ (.tail _ hp)))
set_option maxRecDepth 100000 in
set_option maxHeartbeats 8000000 in
theorem cr1 : C1Says 52 1 1 := by
  intro te x u l vs n ns rest hx hi hb hle w p loose mean mg mb dp un gd cn cs a ccd cl outer A₀ base h₀ L m s Q E B F X N T hk hd hu hret
  refine wpAny_call ?_
  k_dflt walk_at "mine enter"
  k_with_none
  k_steps
  refine' store_cell ((l, listOf vs.toArray n) :: rest) ?k1 ?k2 ?k3 ?k4 ?k5 ?k6 ?k7 ?_
  case k1 => k_asm
  case k2 => k_asm
  case k3 => rfl
  case k4 => k_mem
  case k5 => assumption
  case k6 => exact fun p hp => by (repeat (first | exact hp | apply List.mem_cons_of_mem))
  case k7 => exact off_next (by assumption)
  intro h' o' F' N' d'
  k_steps
  rename IntsAre _ _ => hI
  exact hret _ _ _ _ _ (dig_ints (K := 1) hI) (by k_asm) (cb_drop (by k_asm) (fun _ hp => by rcases List.mem_cons.mp hp with rfl | hp; exact .head _; exact .tail _ (.tail _ hp)))
end
end

section
open PySem PySem.W PyProof.Rows PySem.Spec
def NumSays (f : Addr) : Prop := ∀ (w : World) (p : Program) (loose : List Str) (mean : ExcName → Option Value) (mg mb : Str → Option Value)
    (dp un : Nat) (gd : Option (List Code)) (cn : Str) (cs : Scope) (a : Addr) (ccd : Value) (cl : List (Str × Addr)) (outer : List Env) (A₀ : Around) (base h₀ : Heap) (L : Addr) (m : Str → Option Value) (s : Shared) (Q E : Value → Shared → Prop)
    (l : Addr) (vs : List Value) (ns : List Int) (t : Tok) (R : List (Addr × Obj)),
    Below A₀ base outer h₀ → Fr h₀ L s.heap m → (hd.heap_39 w.params).In h₀ → News h₀ L s.heap R → Top p loose mean mg mb h₀ → cs.kind = .function →
    dp + 1 < recursionLimit → un + 8 < cLine → base.IsList l vs.toArray → IntsAre vs ns → ns.length ≤ 63 →
    (∀ (r : Addr) (us : List Value) (n : Nat) (h' : Heap) (tk' : Nat) (d0 d1 d2 d3 d4 d5 : Int), IntsAre us [d0, d1, d2, d3, d4, d5] → Fr h₀ L h' m → News h₀ L h' ((r, listOf us.toArray n) :: R) → Q (.ref r) { s with heap := h', toks := tk' }) →
    wpAny (model PySem.Challenge.rw_vn0010_01.row.prog w) (ktrTop dp un gd cn cs L a ccd cl outer) (call (.ref f) [.ref l, .int 6 t]) Q E s
theorem six (f : Int → Int) : List.map f (rangeKs 0 6) = [f 0, f 1, f 2, f 3, f 4, f 5] := rfl
section
local macro_rules | `(tactic| walk_at "mine enter") => `(tactic| (refine' code_defC ?k1 ?k2 ?k3 ?k4 ?k5 ?kA ?kF ?kK ?k6 ?k7 ?k8 ?k9 ?kB ?kD ?_ ?c2 ?c3 ?c4; (case kA => exact rfl); (case kF => exact rfl); (case kK => assumption); (case k1 => k_asm); (case k2 => k_asm); (case k3 => k_asm); (case k4 => k_asm); (case k5 => k_asm); (case k6 => k_is); (case k7 => k_is); (case k8 => ktr_room); (case k9 => exact BindsTo.of_eq rfl); (case kB => exact rfl); (case kD => decide +kernel); (case c2 => exact rfl); (case c3 => exact rfl); (case c4 => exact rfl); k_whole; intro g' L' h' tk' cells' FG' F' N' Y' B' X' T' l1; (try k_lt l1); k_cells Y'; (try simp only [List.cons_append, List.nil_append] at N'); (try dsimp only); (try k_lift B'); (try k_fold)))
set_option maxRecDepth 100000 in
set_option maxHeartbeats 8000000 in
theorem num1 : NumSays 81 := by
  intro w p loose mean mg mb dp un gd cn cs a ccd cl outer A₀ base h₀ L m s Q E l vs ns t R B F X N T hk hd hu hL hi hle hret
  refine wpAny_call ?_
  k_dflt walk_at "mine enter"
  k_with_none
  k_steps
  rename IntsAre ys _ => hI
  exact hret _ _ _ _ _ _ _ _ _ _ _ (show IntsAre _ [_, _, _, _, _, _] from six _ ▸ hI) (by k_asm) (cb_drop (by k_asm) (fun _ hp => by rcases List.mem_cons.mp hp with rfl | hp; exact .head _; (repeat (first | exact hp | apply List.mem_cons_of_mem))))
end
end

section
open PySem PySem.W PyProof.Rows PySem.Spec PySem.Calls
def cpAt (d k : Int) : Nat := (Txt.charAt (Str.ofString "abz19!_") ((Int.fdiv d (7 ^ k.toNat)).fmod 7)).getD 0
def nameAt (d k : Int) : Str := Txt.item (Str.ofString "abz19!_") ((Int.fdiv d (7 ^ k.toNat)).fmod 7)
theorem nameAt_eq (d k : Int) : nameAt d k = ⟨#[cpAt d k]⟩ := rfl
theorem charAt_lt (i : Int) : (Txt.charAt (Str.ofString "abz19!_") i).getD 0 < 128 := by
  unfold Txt.charAt
  generalize seqIndex? i (Str.ofString "abz19!_").length = r
  cases r with
  | none => decide
  | some j =>
    show ((Str.ofString "abz19!_").cps[j]?).getD 0 < 128
    cases h : (Str.ofString "abz19!_").cps[j]? with
    | none => decide
    | some c =>
      have hm : c ∈ (Str.ofString "abz19!_").cps.toList := by
        rw [← Array.getElem?_toList] at h
        exact List.mem_of_getElem? h
      have all : ∀ c ∈ (Str.ofString "abz19!_").cps.toList, c < 128 := by decide
      exact all c hm
theorem join_items (f : Int → Nat) (l : List Int) : Txt.join (Str.ofString "") (l.map fun k => (⟨#[f k]⟩ : Str)) = ⟨(l.map f).toArray⟩ := by
  show Builtin.Str.glued (Str.ofString "") _ = _
  rw [StrLaws.glued_eq_join, show Str.ofString "" = (⟨#[]⟩ : Str) by decide]
  have e := PyProof.Rows.join_ones (l.map f)
  rw [List.map_map] at e
  exact e
section
variable {prog : Program} {w : World} {A : Around} {E : Value → Shared → Prop} {s : Shared} {t : Tok} {Q : Value → Shared → Prop} {D : Addr} {ys : List Value} {d : Int} {n : Nat}
theorem join_name (hl : s.heap.IsList D ys.toArray) (hc : CarriedAll ys ((rangeKs 0 n).map fun k => PyData.str (nameAt d k))) (hn : n ≤ 5) (h : ∀ t' k x, NameOk x → Q (.str x t') { s with toks := k }) :
    wpAny (model prog w) A (call (.builtin "str.join") [.str (Str.ofString "") t, .ref D]) Q E s := by
  refine KT.join_1 (g := nameAt d) hl hc (fun a _ => rfl) (by rw [rangeKs_length]; omega) fun t' k _ => ?_
  have e : Txt.join (Str.ofString "") ((rangeKs 0 n).map (nameAt d)) = ⟨((rangeKs 0 n).map (cpAt d)).toArray⟩ := join_items (cpAt d) (rangeKs 0 n)
  rw [e]
  refine h t' k _ ⟨?_, fun c hc => ?_⟩
  · show ((rangeKs 0 n).map (cpAt d)).toArray.size ≤ 5
    rw [List.size_toArray, List.length_map, rangeKs_length]
    exact hn
  · have hc' : c ∈ (rangeKs 0 n).map (cpAt d) := by simpa using hc
    obtain ⟨k, _, rfl⟩ := List.mem_map.mp hc'
    exact charAt_lt _
end
def rowAt (d k : Int) : Int := (Int.fdiv d (32 ^ k.toNat)).fmod 32
def rowN (d : Int) (n : Nat) : List Nat := (rangeKs 0 n).map fun k => (rowAt d k).toNat
theorem rowAt_lo (d k : Int) : 0 ≤ rowAt d k := by
  unfold rowAt
  rw [Int.fmod_eq_emod_of_nonneg _ (by decide)]
  exact Int.emod_nonneg _ (by decide)
theorem rowAt_hi (d k : Int) : rowAt d k < 32 := by
  unfold rowAt
  rw [Int.fmod_eq_emod_of_nonneg _ (by decide)]
  exact Int.emod_lt_of_pos _ (by decide)
theorem rowN_toI (d : Int) (n : Nat) : (rangeKs 0 n).map (rowAt d) = toI (rowN d n) := by
  unfold toI rowN
  rw [List.map_map]
  refine List.map_congr_left fun k _ => ?_
  exact (Int.toNat_of_nonneg (rowAt_lo d k)).symm
theorem rowN_dig (d : Int) (n : Nat) : Dig (rowN d n) := by
  intro c hc
  obtain ⟨k, _, rfl⟩ := List.mem_map.mp hc
  have h1 := rowAt_lo d k
  have h2 := rowAt_hi d k
  omega
theorem rowN_len (d : Int) (n : Nat) : (rowN d n).length = n := by
  unfold rowN
  rw [List.length_map, rangeKs_length]
section
variable {prog : Program} {w : World} {A : Around} {h₀ : Heap} {L : Addr} {m : Str → Option Value} {env : Env} {elt : Expr} {x : Str} {scope : Scope} {cl : List (Str × Addr)} {s : Shared} {S : List (Addr × Obj) → Prop} {Fin : List Value → List (Addr × Obj) → Prop} {news : List (Addr × Obj)}
theorem row_rest {n : Nat} (d : Int)
    (turn : ∀ k t I oI C oC D m₂ ys h tk (E' : Value → Shared → Prop), 0 ≤ k → k < 0 + (n : Int) → LCg.NsObj oC m₂ → m₂ x = some (.int k t) → Fr h₀ L h m → News h₀ L h ((I, oI) :: (C, oC) :: (D, LCg.lst ys) :: news) → LCg.Off3 I C D news → ((@Ne Nat I C) ∧ (@Ne Nat I D) ∧ (@Ne Nat C D)) → KPfMark →
      wpAny (model prog w) A (eval elt (compEnvC scope cl C env)) (LCg.CompEnd h₀ L m { s with heap := h, toks := tk } I oI C oC D (LCg.lst ys) S (fun y news' => KCfEl news (rowAt d k) y news')) E' { s with heap := h, toks := tk })
    (fin : ∀ ys ns, IntsAre ys (toI ns) → Dig ns → ns.length = n → Fin ys news) : LCg.CompRest prog w A h₀ L m env elt x scope cl s S (fun i v => ∃ t, v = .int (0 + (i : Int)) t) Fin n 0 [] news :=
  kcf_range (a := 0) (rowAt d) turn (show ∀ ys, _ → _ from fun ys h => fin ys (rowN d n) (by rw [rowN_toI] at h; exact h) (rowN_dig d n) (rowN_len d n))
end
section
variable {prog : Program} {w : World} {A : Around} {h₀ : Heap} {L : Addr} {m : Str → Option Value} {env : Env} {elt : Expr} {x : Str} {scope : Scope} {cl : List (Str × Addr)} {s : Shared} {S : List (Addr × Obj) → Prop} {Fin : List Value → List (Addr × Obj) → Prop} {news : List (Addr × Obj)} {us : List Value} {d0 d1 d2 d3 d4 d5 : Int}
def SrcTurns (prog : Program) (w : World) (A : Around) (h₀ : Heap) (L : Addr) (m : Str → Option Value) (env : Env) (elt : Expr) (x : Str) (scope : Scope) (cl : List (Str × Addr)) (s : Shared) (S : List (Addr × Obj) → Prop) (news : List (Addr × Obj)) (n : Nat) (El : Int → Value → List (Addr × Obj) → Prop) : Prop :=
  ∀ k t I oI C oC D m₂ ys h tk (E' : Value → Shared → Prop), 0 ≤ k → k < 0 + (n : Int) → LCg.NsObj oC m₂ → m₂ x = some (.int k t) → Fr h₀ L h m → News h₀ L h ((I, oI) :: (C, oC) :: (D, LCg.lst ys) :: news) → LCg.Off3 I C D news → ((@Ne Nat I C) ∧ (@Ne Nat I D) ∧ (@Ne Nat C D)) → KPfMark →
      wpAny (model prog w) A (eval elt (compEnvC scope cl C env)) (LCg.CompEnd h₀ L m { s with heap := h, toks := tk } I oI C oC D (LCg.lst ys) S (fun y news' => El k y news')) E' { s with heap := h, toks := tk }
theorem row_two {n : Nat} (_h : IntsAre us [d0, d1, d2, d3, d4, d5]) (hn : n ≤ 12) (turn : SrcTurns prog w A h₀ L m env elt x scope cl s S news n fun k y news' => KCfEl news (rowAt d2 k) y news')
    (fin : ∀ ys ns, IntsAre ys (toI ns) → Dig ns → ns.length = n → ns.length ≤ 12 → Fin ys news) : LCg.CompRest prog w A h₀ L m env elt x scope cl s S (fun i v => ∃ t, v = .int (0 + (i : Int)) t) Fin n 0 [] news := row_rest d2 turn fun ys ns h1 h2 h3 => fin ys ns h1 h2 h3 (h3 ▸ hn)
theorem row_three {n : Nat} (_h : IntsAre us [d0, d1, d2, d3, d4, d5]) (hn : n ≤ 12) (turn : SrcTurns prog w A h₀ L m env elt x scope cl s S news n fun k y news' => KCfEl news (rowAt d3 k) y news')
    (fin : ∀ ys ns, IntsAre ys (toI ns) → Dig ns → ns.length = n → ns.length ≤ 12 → Fin ys news) : LCg.CompRest prog w A h₀ L m env elt x scope cl s S (fun i v => ∃ t, v = .int (0 + (i : Int)) t) Fin n 0 [] news := row_rest d3 turn fun ys ns h1 h2 h3 => fin ys ns h1 h2 h3 (h3 ▸ hn)
theorem name_zero {n : Nat} (_h : IntsAre us [d0, d1, d2, d3, d4, d5]) (turn : SrcTurns prog w A h₀ L m env elt x scope cl s S news n fun k y news' => KCtEl news (nameAt d0 k) y news')
    (fin : ∀ ys, CarriedAll ys ((rangeKs 0 n).map fun k => PyData.str (nameAt d0 k)) → Fin ys news) : LCg.CompRest prog w A h₀ L m env elt x scope cl s S (fun i v => ∃ t, v = .int (0 + (i : Int)) t) Fin n 0 [] news :=
  kct_range (a := 0) (nameAt d0) turn (show ∀ ys, _ → _ → _ from fun ys h _ => fin ys h)
end
section
variable {prog : Program} {w : World} {A : Around} {h₀ : Heap} {L : Addr} {m : Str → Option Value} {env : Env} {elt : Expr} {x : Str} {scope : Scope} {cl : List (Str × Addr)} {s : Shared} {S : List (Addr × Obj) → Prop} {Fin : List Value → List (Addr × Obj) → Prop} {news : List (Addr × Obj)}
def apAt (k : Int) : Int := (Int.fdiv 734539938 (32 ^ (5 - k).toNat)).fmod 32
theorem apAt_toI : (rangeKs 0 6).map apAt = toI (digN 734539938) := by decide
theorem apart_rest (turn : SrcTurns prog w A h₀ L m env elt x scope cl s S news 6 fun k y news' => KCfEl news (apAt k) y news')
    (fin : ∀ ys, IntsAre ys (toI (digN 734539938)) → Fin ys news) : LCg.CompRest prog w A h₀ L m env elt x scope cl s S (fun i v => ∃ t, v = .int (0 + (i : Int)) t) Fin 6 0 [] news :=
  kcf_range (a := 0) (n := 6) apAt turn (show ∀ ys, _ → _ from fun ys h => fin ys (apAt_toI ▸ h))
end
section
variable {prog : Program} {w : World} {A : Around} {E : Value → Shared → Prop} {s : Shared} {Q : Value → Shared → Prop} {a : Int} {t u : Tok}
theorem pow_ne0 {b : Int} (h : 0 < b) (k : Nat) : b ^ k ≠ 0 := fun e => by have := pow_pos_of h k; omega
end
end

section
open PySem PySem.W PyProof.Rows PySem.Spec
/-! the plain law, over numbers alone -/
theorem sel_xor (c d i : Nat) : sel (c ^^^ d) i = sel c i ^^^ sel d i := by
  unfold sel
  rw [Nat.testBit_xor]
  cases c.testBit (25 + i) <;> cases d.testBit (25 + i) <;> simp
theorem xor4 (a b c d : Nat) : (a ^^^ b) ^^^ (c ^^^ d) = (a ^^^ c) ^^^ (b ^^^ d) := by
  rw [Nat.xor_assoc, Nat.xor_assoc, ← Nat.xor_assoc b c d, Nat.xor_comm b c, Nat.xor_assoc c b d]
theorem step_xor (c d v u : Nat) : stepN (c ^^^ d) (v ^^^ u) = stepN c v ^^^ stepN d u := by
  unfold stepN
  rw [sel_xor, sel_xor, sel_xor, sel_xor, sel_xor, Nat.and_xor_distrib_right, Nat.shiftLeft_xor_distrib]
  ac_rfl
theorem pm_xor : ∀ (l k : List Nat) (c d : Nat), l.length = k.length → pmN (c ^^^ d) (List.zipWith (· ^^^ ·) l k) = pmN c l ^^^ pmN d k
  | [], [], _, _, _ => rfl
  | [], _ :: _, _, _, h => by simp at h
  | _ :: _, [], _, _, h => by simp at h
  | a :: l, b :: k, c, d, h => by
    show pmN (stepN (c ^^^ d) (a ^^^ b)) _ = pmN (stepN c a) l ^^^ pmN (stepN d b) k
    rw [step_xor]
    exact pm_xor l k _ _ (by simpa using h)
theorem pm_app (c : Nat) (a b : List Nat) : pmN c (a ++ b) = pmN (pmN c a) b := List.foldl_append
theorem sel_lt (c i : Nat) : sel c i < 2 ^ 30 := by
  unfold sel
  split
  · unfold gen
    split <;> decide
  · decide
theorem step_lt (c : Nat) {v : Nat} (hv : v < 32) : stepN c v < 2 ^ 30 := by
  unfold stepN
  have h1 : (c &&& 33554431) <<< 5 < 2 ^ 30 := by
    have : c &&& 33554431 ≤ 33554431 := Nat.and_le_right
    rw [Nat.shiftLeft_eq]
    omega
  refine Nat.xor_lt_two_pow (Nat.xor_lt_two_pow (Nat.xor_lt_two_pow (Nat.xor_lt_two_pow (Nat.xor_lt_two_pow (Nat.xor_lt_two_pow h1 ?_) ?_) ?_) ?_) ?_) ?_
  · omega
  all_goals exact sel_lt _ _
theorem sel_small {c : Nat} (hc : c < 2 ^ 25) (i : Nat) : sel c i = 0 := by
  unfold sel
  rw [Nat.testBit_lt_two_pow (Nat.lt_of_lt_of_le hc (Nat.pow_le_pow_right (by decide) (Nat.le_add_right 25 i)))]
  rfl
theorem step_small {c v : Nat} (hc : c < 2 ^ 25) (hv : v < 32) : stepN c v = c * 32 + v := by
  unfold stepN
  rw [sel_small hc, sel_small hc, sel_small hc, sel_small hc, sel_small hc, Nat.xor_zero, Nat.xor_zero, Nat.xor_zero, Nat.xor_zero, Nat.xor_zero]
  have e : c &&& 33554431 = c := by
    have := Nat.and_two_pow_sub_one_eq_mod c 25
    rw [show (33554431 : Nat) = 2 ^ 25 - 1 from rfl, this]
    exact Nat.mod_eq_of_lt hc
  rw [e]
  have h := Nat.shiftLeft_add_eq_or_of_lt (i := 5) (b := v) hv c
  have h2 : c <<< 5 &&& v = 0 := by
    apply Nat.eq_of_testBit_eq
    intro i
    rw [Nat.testBit_and, Nat.testBit_shiftLeft, Nat.zero_testBit]
    by_cases hi : 5 ≤ i
    · have hv' : v < 2 ^ i := Nat.lt_of_lt_of_le (show v < 2 ^ 5 from hv) (Nat.pow_le_pow_right (by decide) hi)
      rw [Nat.testBit_lt_two_pow hv', Bool.and_false]
    · simp [hi]
  have h3 := xor_cast (c <<< 5) v
  rw [bitXor_and, and_cast, h2] at h3
  rw [Nat.shiftLeft_eq] at h3 ⊢
  omega
theorem dig_lt (P k : Nat) : P >>> k &&& 31 < 32 := Nat.lt_succ_of_le Nat.and_le_right
theorem digN_dig (P : Nat) : Dig (digN P) := by
  intro k hk
  unfold digN at hk
  simp only [List.mem_cons, List.not_mem_nil, or_false] at hk
  rcases hk with rfl | rfl | rfl | rfl | rfl | rfl <;> exact dig_lt _ _
theorem pm0_dig {P : Nat} (h : P < 2 ^ 30) : pmN 0 (digN P) = P := by
  have e : ∀ k, P >>> k &&& 31 = P / 2 ^ k % 32 := fun k => by
    rw [Nat.shiftRight_eq_div_pow]
    exact Nat.and_two_pow_sub_one_eq_mod _ 5
  unfold digN pmN
  simp only [List.foldl_cons, List.foldl_nil, e]
  generalize h0 : P / 2 ^ 25 % 32 = a0
  generalize h1 : P / 2 ^ 20 % 32 = a1
  generalize h2 : P / 2 ^ 15 % 32 = a2
  generalize h3 : P / 2 ^ 10 % 32 = a3
  generalize h4 : P / 2 ^ 5 % 32 = a4
  generalize h5 : P / 2 ^ 0 % 32 = a5
  rw [step_small (c := 0) (v := a0) (by decide) (by omega)]
  rw [step_small (c := 0 * 32 + a0) (v := a1) (by omega) (by omega)]
  rw [step_small (c := (0 * 32 + a0) * 32 + a1) (v := a2) (by omega) (by omega)]
  rw [step_small (c := ((0 * 32 + a0) * 32 + a1) * 32 + a2) (v := a3) (by omega) (by omega)]
  rw [step_small (c := (((0 * 32 + a0) * 32 + a1) * 32 + a2) * 32 + a3) (v := a4) (by omega) (by omega)]
  rw [step_small (c := ((((0 * 32 + a0) * 32 + a1) * 32 + a2) * 32 + a3) * 32 + a4) (v := a5) (by omega) (by omega)]
  omega
def z6 : List Nat := [0, 0, 0, 0, 0, 0]
theorem pm_z6_lt (c : Nat) : pmN c z6 < 2 ^ 30 := step_lt _ (by decide)
theorem digN_xor (a b : Nat) : List.zipWith (· ^^^ ·) (digN a) (digN b) = digN (a ^^^ b) := by
  unfold digN
  simp only [List.zipWith_cons_cons, List.zipWith_nil_left, Nat.shiftRight_xor_distrib, Nat.and_xor_distrib_right]
theorem zip_z6 (P : Nat) : List.zipWith (· ^^^ ·) z6 (digN P) = digN P := by
  unfold digN z6
  simp only [List.zipWith_cons_cons, List.zipWith_nil_left, Nat.zero_xor]
theorem chk_eq (K : Nat) (x : Str) (ns : List Nat) : chkN K x ns = digN (pmN (pmN 1 (nmN x ++ ns)) z6 ^^^ K) := by
  unfold chkN
  rw [pm_app]
  rfl
theorem xor_cancel (a b : Nat) : a ^^^ (a ^^^ b) = b := by rw [← Nat.xor_assoc, Nat.xor_self, Nat.zero_xor]
theorem pm_chk {K : Nat} (hK : K < 2 ^ 30) (x : Str) (ns : List Nat) : pmN 1 (nmN x ++ (ns ++ chkN K x ns)) = K := by
  rw [← List.append_assoc, pm_app, chk_eq]
  generalize pmN 1 (nmN x ++ ns) = c
  have h := pm_xor z6 (digN (pmN c z6 ^^^ K)) c 0 rfl
  rw [zip_z6, Nat.xor_zero, pm0_dig (Nat.xor_lt_two_pow (pm_z6_lt c) hK), xor_cancel] at h
  exact h
theorem pm_last {e : Nat} (he : e < 32) : pmN 0 [0, 0, 0, 0, 0, e] = e := by
  show stepN (stepN (stepN (stepN (stepN (stepN 0 0) 0) 0) 0) 0) e = e
  have z : stepN 0 0 = 0 := by decide
  rw [z, z, z, z, z, step_small (by decide) he]
  omega
/-- the six with its last number turned -/
def wrN (e : Nat) (l : List Nat) : List Nat := List.zipWith (· ^^^ ·) l [0, 0, 0, 0, 0, e]
theorem pm_wrong {e : Nat} (he : e < 32) (x : Str) (ns : List Nat) : pmN 1 (nmN x ++ (ns ++ wrN e (chkN 1 x ns))) = 1 ^^^ e := by
  have h1 := pm_chk (K := 1) (by decide) x ns
  rw [← List.append_assoc, pm_app] at h1 ⊢
  generalize pmN 1 (nmN x ++ ns) = c at h1 ⊢
  have h := pm_xor (chkN 1 x ns) [0, 0, 0, 0, 0, e] c 0 rfl
  rw [Nat.xor_zero, h1, pm_last he] at h
  exact h
theorem wrong_ne1 {e : Nat} (h0 : 0 < e) (he : e < 32) : 1 ^^^ e ≠ 1 := by
  intro h
  have := xor_cancel 1 e
  rw [h, Nat.xor_self] at this
  omega
theorem wrong_neM {e : Nat} (he : e < 32) : 1 ^^^ e ≠ 734539939 := by
  have : 1 ^^^ e < 2 ^ 5 := Nat.xor_lt_two_pow (by decide) he
  omega
theorem apartN (x : Str) (ns : List Nat) : List.zipWith (· ^^^ ·) (chkN 1 x ns) (chkN 734539939 x ns) = digN 734539938 := by
  rw [chk_eq, chk_eq, digN_xor, xor4, Nat.xor_self, Nat.zero_xor]
  rfl
theorem zip_zeros : ∀ (l : List Nat), List.zipWith (· ^^^ ·) l (List.replicate l.length 0) = l
  | [] => rfl
  | a :: l => by
    rw [List.length_cons, List.replicate_succ, List.zipWith_cons_cons, Nat.xor_zero, zip_zeros l]
theorem pm_mix (h r o : List Nat) (hl : r.length = o.length) : pmN 1 (h ++ r ++ z6) ^^^ pmN 1 (h ++ o ++ z6) = pmN 1 (h ++ List.zipWith (· ^^^ ·) r o ++ z6) ^^^ pmN 1 (h ++ List.replicate r.length 0 ++ z6) := by
  rw [pm_app, pm_app, pm_app, pm_app, pm_app, pm_app, pm_app, pm_app]
  generalize pmN 1 h = c
  have a1 := pm_xor r o c c hl
  have hz : (List.zipWith (· ^^^ ·) r o).length = r.length := by rw [List.length_zipWith, ← hl, Nat.min_self]
  have a2 := pm_xor (List.zipWith (· ^^^ ·) r o) (List.replicate r.length 0) c c (by rw [hz, List.length_replicate])
  have a3 := zip_zeros (List.zipWith (· ^^^ ·) r o)
  rw [hz] at a3
  rw [a3] at a2
  rw [← pm_xor z6 z6 _ _ rfl, ← pm_xor z6 z6 _ _ rfl, ← a1, ← a2]
theorem mixN (x : Str) (r o : List Nat) (hl : r.length = o.length) : List.zipWith (· ^^^ ·) (chkN 1 x r) (chkN 734539939 x o) = List.zipWith (· ^^^ ·) (chkN 1 x (List.zipWith (· ^^^ ·) r o)) (chkN 734539939 x (List.replicate r.length 0)) := by
  unfold chkN
  rw [digN_xor, digN_xor, xor4, xor4 _ 1]
  congr 1
  congr 1
  exact pm_mix (nmN x) r o hl
theorem zip_toI : ∀ (a b : List Nat), List.zipWith Builtin.bitXor (toI a) (toI b) = toI (List.zipWith (· ^^^ ·) a b)
  | [], _ => rfl
  | _ :: _, [] => rfl
  | a :: l, b :: k => by
    have ih := zip_toI l k
    show Builtin.bitXor (a : Int) (b : Int) :: List.zipWith Builtin.bitXor (toI l) (toI k) = Int.ofNat (a ^^^ b) :: toI (List.zipWith (· ^^^ ·) l k)
    rw [ih, xor_cast]
    rfl
theorem zip_dig {a b : List Nat} (ha : Dig a) (hb : Dig b) : Dig (List.zipWith (· ^^^ ·) a b) := by
  intro k hk
  obtain ⟨i, hi, rfl⟩ := List.mem_iff_getElem.mp hk
  rw [List.getElem_zipWith]
  exact Nat.xor_lt_two_pow (n := 5) (ha _ (List.getElem_mem _)) (hb _ (List.getElem_mem _))
theorem hx_32 (cs : List Nat) : toI (hxN cs) = cs.map (fun c' => Int.fdiv (c' : Nat) 32) ++ [0] ++ cs.map (fun c' => Int.fmod (c' : Nat) 32) := by
  rw [← hx_toI]
  congr 1
  refine List.map_congr_left fun c _ => ?_
  rw [show (31 : Int) = 2 ^ 5 - 1 from rfl, kbt_maskF]
  rfl
end

section
open PySem PySem.W PyProof.Rows PySem.Spec
theorem nameOk_q : NameOk (Str.ofString "q") := ⟨by decide, by decide⟩
section
variable {a b : List Nat} {f g : Nat → Int} {x y : Str} {K e : Nat} {ns : List Nat} {h : Nat → Nat → Nat}
theorem len24 (ha : a.length ≤ 12) : a.length ≤ 24 := Nat.le_trans ha (by decide)
theorem len_app2 (ha : a.length ≤ 12) (hb : b.length ≤ 12) : (a ++ b).length ≤ 100 := by rw [List.length_append]; omega
theorem len_chk24 (ha : a.length ≤ 12) : (a ++ chkN K x ns).length ≤ 24 := by
  have : (chkN K x ns).length = 6 := rfl
  rw [List.length_append]
  omega
theorem len_wr24 (ha : a.length ≤ 12) : (a ++ wrN e (chkN K x ns)).length ≤ 24 := by
  have : (wrN e (chkN K x ns)).length = 6 := rfl
  rw [List.length_append]
  omega
theorem len_zip24 (ha : a.length ≤ 12) : (List.zipWith h a b).length ≤ 24 := by rw [List.length_zipWith]; omega
theorem chk12 : (chkN K x ns).length ≤ 12 := by
  have : (chkN K x ns).length = 6 := rfl
  omega
theorem add_rr (ha : a.length ≤ 12) (hb : b.length ≤ 12) : (toI a).length + (toI b).length ≤ sizeLine := by rw [toI_len, toI_len, PySem.sizeLine_eq]; omega
theorem add_rc (ha : a.length ≤ 12) : (toI a).length + (toI (chkN K x ns)).length ≤ sizeLine := by
  have : (chkN K x ns).length = 6 := rfl
  rw [toI_len, toI_len, PySem.sizeLine_eq]
  omega
theorem add_h1 (hx : NameOk x) : (x.cps.toList.map f).length + ([0] : List Int).length ≤ sizeLine := by
  have := hx.1
  rw [List.length_map, Array.length_toList, PySem.sizeLine_eq, List.length_cons, List.length_nil]
  omega
theorem add_h2 (hx : NameOk x) : (x.cps.toList.map f ++ [0]).length + (x.cps.toList.map g).length ≤ sizeLine := by
  have := hx.1
  rw [List.length_append, List.length_map, List.length_map, Array.length_toList, PySem.sizeLine_eq, List.length_cons, List.length_nil]
  omega
end
theorem chk_dig (K : Nat) (x : Str) (ns : List Nat) : Dig (chkN K x ns) := digN_dig _
theorem chk_len (K : Nat) (x : Str) (ns : List Nat) : (chkN K x ns).length = 6 := rfl
theorem wr_len (e : Nat) (K : Nat) (x : Str) (ns : List Nat) : (wrN e (chkN K x ns)).length = 6 := rfl
theorem zip_len {a b : List Nat} (h : a.length = b.length) : (List.zipWith (· ^^^ ·) a b).length = a.length := by rw [List.length_zipWith, ← h, Nat.min_self]
theorem wr_dig {e : Nat} (he : e < 32) (K : Nat) (x : Str) (ns : List Nat) : Dig (wrN e (chkN K x ns)) := by
  refine zip_dig (chk_dig _ _ _) ?_
  intro k hk
  simp only [List.mem_cons, List.not_mem_nil, or_false] at hk
  omega
section
variable {w : World} {p : Program} {loose : List Str} {mean : ExcName → Option Value} {mg mb : Str → Option Value}
    {dp un : Nat} {gd : Option (List Code)} {cn : Str} {cs : Scope} {a : Addr} {ccd : Value} {cl : List (Str × Addr)} {outer : List Env} {A₀ : Around} {base h₀ : Heap} {L : Addr} {m : Str → Option Value} {s : Shared} {Q E : Value → Shared → Prop}
    {f l l' : Addr} {vs vs' : List Value} {n n' : Nat} {ks ks' : List Int} {ns ms : List Nat} {R : List (Addr × Obj)} {x : Str} {u te t : Tok} {e : Int} {K : Nat}
theorem use_num {ns : List Int} (C : NumSays f)
    (B : Below A₀ base outer h₀) (F : Fr h₀ L s.heap m) (X : (hd.heap_39 w.params).In h₀) (N : News h₀ L s.heap R) (T : Top p loose mean mg mb h₀) (hk : cs.kind = .function)
    (hl : base.IsList l vs.toArray) (hi : IntsAre vs ns) (hle : ns.length ≤ 63) (hd : dp + 1 < recursionLimit) (hu : un + 8 < cLine)
    (k : ∀ (r : Addr) (us : List Value) (n : Nat) (h' : Heap) (tk' : Nat) (d0 d1 d2 d3 d4 d5 : Int), IntsAre us [d0, d1, d2, d3, d4, d5] → Fr h₀ L h' m → News h₀ L h' ((r, listOf us.toArray n) :: R) → Q (.ref r) { s with heap := h', toks := tk' }) :
    wpAny (model PySem.Challenge.rw_vn0010_01.row.prog w) (ktrTop dp un gd cn cs L a ccd cl outer) (call (.ref f) [.ref l, .int 6 t]) Q E s :=
  C _ _ _ _ _ _ _ _ _ _ _ _ _ _ _ _ _ _ _ _ _ _ _ _ _ _ _ _ B F X N T hk hd hu hl hi hle k
theorem use_smN (C : SmSays f) (B : Below A₀ base outer h₀) (F : Fr h₀ L s.heap m) (X : (hd.heap_39 w.params).In h₀) (N : News h₀ L s.heap R) (T : Top p loose mean mg mb h₀) (hk : cs.kind = .function)
    (hm : (l, listOf vs.toArray n) ∈ R) (hm' : (l', listOf vs'.toArray n') ∈ R) (hi : IntsAre vs (toI ns)) (hi' : IntsAre vs' (toI ms)) (hle : ns.length ≤ 12) (hd : dp + 1 < recursionLimit) (hu : un + 8 < cLine)
    (k : RetL R (toI (List.zipWith (· ^^^ ·) ns ms)) h₀ L m s Q) : wpAny (model PySem.Challenge.rw_vn0010_01.row.prog w) (ktrTop dp un gd cn cs L a ccd cl outer) (call (.ref f) [.ref l, .ref l']) Q E s :=
  use_sm C B F X N T hk hm hm' hi hi' (by rw [toI_len]; exact hle) hd hu (by rw [zip_toI]; exact k)
theorem use_v2t (C : V2Says f) (B : Below A₀ base outer h₀) (F : Fr h₀ L s.heap m) (X : (hd.heap_39 w.params).In h₀) (N : News h₀ L s.heap R) (T : Top p loose mean mg mb h₀) (hk : cs.kind = .function)
    (hx : NameOk x) (hm : (l, listOf vs.toArray n) ∈ R) (hi : IntsAre vs ks) (he : ks = toI ns) (hb : Dig ns) (hle : ns.length ≤ 24) (hd : dp + 2 < recursionLimit) (hu : un + 16 < cLine) (hv : pmN 1 (nmN x ++ ns) = 1)
    (k : RetB R true h₀ L m s Q) : wpAny (model PySem.Challenge.rw_vn0010_01.row.prog w) (ktrTop dp un gd cn cs L a ccd cl outer) (call (.ref f) [.str x u, .ref l]) Q E s :=
  use_v2 C B F X N T hk hx hm hi he hb hle hd hu (by rw [decide_eq_true hv]; exact k)
theorem use_v2f (C : V2Says f) (B : Below A₀ base outer h₀) (F : Fr h₀ L s.heap m) (X : (hd.heap_39 w.params).In h₀) (N : News h₀ L s.heap R) (T : Top p loose mean mg mb h₀) (hk : cs.kind = .function)
    (hx : NameOk x) (hm : (l, listOf vs.toArray n) ∈ R) (hi : IntsAre vs ks) (he : ks = toI ns) (hb : Dig ns) (hle : ns.length ≤ 24) (hd : dp + 2 < recursionLimit) (hu : un + 16 < cLine) (hv : pmN 1 (nmN x ++ ns) ≠ 1)
    (k : RetB R false h₀ L m s Q) : wpAny (model PySem.Challenge.rw_vn0010_01.row.prog w) (ktrTop dp un gd cn cs L a ccd cl outer) (call (.ref f) [.str x u, .ref l]) Q E s :=
  use_v2 C B F X N T hk hx hm hi he hb hle hd hu (by rw [decide_eq_false hv]; exact k)
theorem use_v1a (C : V1Says f) (B : Below A₀ base outer h₀) (F : Fr h₀ L s.heap m) (X : (hd.heap_39 w.params).In h₀) (N : News h₀ L s.heap R) (T : Top p loose mean mg mb h₀) (hk : cs.kind = .function)
    (hx : NameOk x) (hm : (l, listOf vs.toArray n) ∈ R) (hi : IntsAre vs ks) (he : ks = toI ns) (hb : Dig ns) (hle : ns.length ≤ 24) (hd : dp + 2 < recursionLimit) (hu : un + 16 < cLine) (hv : pmN 1 (nmN x ++ ns) = 1)
    (k : RetI R 1 h₀ L m s Q) : wpAny (model PySem.Challenge.rw_vn0010_01.row.prog w) (ktrTop dp un gd cn cs L a ccd cl outer) (call (.ref f) [.str x u, .ref l]) Q E s :=
  use_v1 C B F X N T hk hx hm hi he hb hle hd hu ⟨fun _ => k, fun q => by rw [hv] at q; exact absurd q (by decide), fun q _ => absurd hv q⟩
theorem use_v1b (C : V1Says f) (B : Below A₀ base outer h₀) (F : Fr h₀ L s.heap m) (X : (hd.heap_39 w.params).In h₀) (N : News h₀ L s.heap R) (T : Top p loose mean mg mb h₀) (hk : cs.kind = .function)
    (hx : NameOk x) (hm : (l, listOf vs.toArray n) ∈ R) (hi : IntsAre vs ks) (he : ks = toI ns) (hb : Dig ns) (hle : ns.length ≤ 24) (hd : dp + 2 < recursionLimit) (hu : un + 16 < cLine) (hv : pmN 1 (nmN x ++ ns) = 734539939)
    (k : RetI R 2 h₀ L m s Q) : wpAny (model PySem.Challenge.rw_vn0010_01.row.prog w) (ktrTop dp un gd cn cs L a ccd cl outer) (call (.ref f) [.str x u, .ref l]) Q E s :=
  use_v1 C B F X N T hk hx hm hi he hb hle hd hu ⟨fun q => by rw [hv] at q; exact absurd q (by decide), fun _ => k, fun _ q => absurd hv q⟩
theorem use_v1c (C : V1Says f) (B : Below A₀ base outer h₀) (F : Fr h₀ L s.heap m) (X : (hd.heap_39 w.params).In h₀) (N : News h₀ L s.heap R) (T : Top p loose mean mg mb h₀) (hk : cs.kind = .function)
    (hx : NameOk x) (hm : (l, listOf vs.toArray n) ∈ R) (hi : IntsAre vs ks) (he : ks = toI ns) (hb : Dig ns) (hle : ns.length ≤ 24) (hd : dp + 2 < recursionLimit) (hu : un + 16 < cLine) (hv : pmN 1 (nmN x ++ ns) ≠ 1) (hv' : pmN 1 (nmN x ++ ns) ≠ 734539939)
    (k : RetN R h₀ L m s Q) : wpAny (model PySem.Challenge.rw_vn0010_01.row.prog w) (ktrTop dp un gd cn cs L a ccd cl outer) (call (.ref f) [.str x u, .ref l]) Q E s :=
  use_v1 C B F X N T hk hx hm hi he hb hle hd hu ⟨fun q => absurd q hv, fun q => absurd q hv', fun _ _ => k⟩
end
section
variable {prog : Program} {w : World} {A : Around} {E : Value → Shared → Prop} {s : Shared} {h₀ h : Heap} {L : Addr} {m : Str → Option Value} {news : List (Addr × Obj)}
theorem ne_false {a b : Addr} {vs us : List Value} {ns ms : List Int} {Q : Value → Shared → Prop} (hl : s.heap.IsList a vs.toArray) (hl' : s.heap.IsList b us.toArray) (hi : IntsAre vs ns) (hi' : IntsAre us ms) (hu : A.units + 64 < cLine) (e : ns = ms)
    (h : Q (.bool false) s) : wpAny (model prog w) A (compareOp .NotEq (.ref a) (.ref b)) Q E s :=
  ne_intsK hl hi hl' hi' hu (by rw [decide_eq_true e]; exact h)
theorem eq_true_ {a b : Addr} {vs us : List Value} {ns ms : List Int} {Q : Value → Shared → Prop} (hl : s.heap.IsList a vs.toArray) (hl' : s.heap.IsList b us.toArray) (hi : IntsAre vs ns) (hi' : IntsAre us ms) (hu : A.units + 64 < cLine) (e : ns = ms)
    (h : Q (.bool true) s) : wpAny (model prog w) A (compareOp .Eq (.ref a) (.ref b)) Q E s :=
  eq_intsK hl hi hl' hi' hu (by rw [decide_eq_true e]; exact h)
theorem len_at {a : Addr} {vs : List Value} {ks : List Int} {n : Nat} {Q : Value → Shared → Prop} (hl : s.heap.IsList a vs.toArray) (hi : IntsAre vs ks) (e : ks.length = n) (hn : n < 100)
    (h : ∀ t tk, Q (.int n t) { s with toks := tk }) : wpAny (model prog w) A (call (.builtin "len") [.ref a]) Q E s := by
  have e' : vs.toArray.size = n := by rw [List.size_toArray, hi.length, e]
  refine len_list hl (by rw [e']; omega) ?_
  rw [e']
  exact h _ _
end
theorem eq_apart (x : Str) (ns : List Nat) : toI (List.zipWith (· ^^^ ·) (chkN 1 x ns) (chkN 734539939 x ns)) = toI (digN 734539938) := by rw [apartN]
section
variable {h₀ h' : Heap} {L I C D : Addr} {m : Str → Option Value} {s₁ : Shared} {oI oC oD : Obj} {tk : Nat} {all news : List (Addr × Obj)}
theorem comp_end_t {g g' : Str} {t : Tok} (F : Fr h₀ L h' m) (N : News h₀ L h' all) (sub : ∀ p ∈ (I, oI) :: (C, oC) :: (D, oD) :: news, p ∈ all) (off : LCg.Off3 I C D news) (e : g = g') :
    LCg.CompEnd h₀ L m s₁ I oI C oC D oD (fun _ => True) (fun y news' => KCtEl news g y news') (.str g' t) { s₁ with heap := h', toks := tk } := LCg.CompEnd.intro F N news sub off True.intro (kct_el e rfl rfl)
theorem comp_end_i {g g' : Int} {t : Tok} (F : Fr h₀ L h' m) (N : News h₀ L h' all) (sub : ∀ p ∈ (I, oI) :: (C, oC) :: (D, oD) :: news, p ∈ all) (off : LCg.Off3 I C D news) (e : g = g') :
    LCg.CompEnd h₀ L m s₁ I oI C oC D oD (fun _ => True) (fun y news' => KCfEl news g y news') (.int g' t) { s₁ with heap := h', toks := tk } := LCg.CompEnd.intro F N news sub off True.intro (kcf_el e rfl rfl)
end
theorem pow5_small {k : Int} (h : 0 ≤ k) : ((32 : Int) ^ (5 - k).toNat).natAbs < 1073741824 := by
  have h1 : (5 - k).toNat ≤ 5 := by omega
  rw [Int.natAbs_pow]
  exact Nat.lt_of_le_of_lt (Nat.pow_le_pow_right (by decide) h1) (by decide)
theorem ne_int_same {prog : Program} {w : World} {A : Around} {E : Value → Shared → Prop} {s : Shared} {a : Int} {t u : Tok} {Q : Value → Shared → Prop} (h : Q (.bool false) s) : wpAny (model prog w) A (compareOp .NotEq (.int a t) (.int a u)) Q E s :=
  ne_int (by rw [bne_self_eq_false]; exact h)
theorem chkI_len {K : Nat} {x : Str} {ns : List Nat} : (toI (chkN K x ns)).length ≤ 1000 := by
  have : (chkN K x ns).length = 6 := rfl
  rw [toI_len]
  omega
theorem add_w {x : Str} {ns : List Nat} {K : Nat} {v : Int} : ((toI (chkN K x ns)).take 5).length + [v].length ≤ sizeLine := by
  have : (chkN K x ns).length = 6 := rfl
  rw [List.length_take, toI_len, PySem.sizeLine_eq, List.length_cons, List.length_nil]
  omega
theorem add_rw {a : List Nat} {e K : Nat} {x : Str} {ns : List Nat} (ha : a.length ≤ 12) : (toI a).length + (toI (wrN e (chkN K x ns))).length ≤ sizeLine := by
  have : (wrN e (chkN K x ns)).length = 6 := rfl
  rw [toI_len, toI_len, PySem.sizeLine_eq]
  omega
theorem fmod31 (d : Int) : 0 < (1 + d.fmod 31).toNat ∧ (1 + d.fmod 31).toNat < 32 ∧ ((1 + d.fmod 31).toNat : Int) = 1 + d.fmod 31 := by
  have h1 : 0 ≤ d.fmod 31 := by rw [Int.fmod_eq_emod_of_nonneg _ (by decide)]; exact Int.emod_nonneg _ (by decide)
  have h2 : d.fmod 31 < 31 := by rw [Int.fmod_eq_emod_of_nonneg _ (by decide)]; exact Int.emod_lt_of_pos _ (by decide)
  omega
theorem wr_eq (x : Str) (ns : List Nat) (d : Int) : (toI (chkN 1 x ns)).take 5 ++ [Builtin.bitXor ((toI (chkN 1 x ns)).getD 5 0) (1 + d.fmod 31)] = toI (wrN (1 + d.fmod 31).toNat (chkN 1 x ns)) := by
  have hd := (fmod31 d).2.2
  generalize (1 + d.fmod 31).toNat = e at hd ⊢
  rw [← hd]
  unfold chkN
  generalize pmN 1 (nmN x ++ ns ++ [0, 0, 0, 0, 0, 0]) ^^^ 1 = P
  unfold digN wrN toI
  simp only [List.zipWith_cons_cons, List.zipWith_nil_left, Nat.xor_zero, List.map_cons, List.map_nil]
  rw [show (Int.ofNat ((P >>> 0 &&& 31) ^^^ e)) = Builtin.bitXor ((P >>> 0 &&& 31 : Nat) : Int) (e : Int) from (xor_cast _ _).symm]
  rfl
theorem dig_rep (n : Nat) : Dig (List.replicate n 0) := by
  intro k hk
  rw [List.eq_of_mem_replicate hk]
  decide
theorem len_rep24 {n : Nat} (h : n ≤ 12) : (List.replicate n 0).length ≤ 24 := by rw [List.length_replicate]; omega
theorem fold_rep (v : Value) : ∀ (n : Nat) (acc : List Value), List.foldl (fun x1 x2 => x1 ++ x2) acc.toArray (List.replicate n (#[v] : Array Value)) = (acc ++ List.replicate n v).toArray
  | 0, acc => by simp
  | n + 1, acc => by
    rw [List.replicate_succ, List.foldl_cons, show acc.toArray ++ #[v] = (acc ++ [v]).toArray by simp, fold_rep v n (acc ++ [v]), List.replicate_succ, List.append_assoc]
    rfl
theorem ints_rep (t : Tok) : ∀ n : Nat, IntsAre (List.replicate n (Value.int 0 t)) (toI (List.replicate n 0))
  | 0 => .nil
  | n + 1 => by
    rw [List.replicate_succ, List.replicate_succ]
    exact .cons 0 t (ints_rep t n)
section
variable {prog : Program} {w : World} {A : Around} {E : Value → Shared → Prop} {s : Shared} {h₀ : Heap} {L l : Addr} {m : Str → Option Value} {news : List (Addr × Obj)} {Q : Value → Shared → Prop}
theorem mul_zero {t u : Tok} {k n : Nat} {z : Int} (F : Fr h₀ L s.heap m) (N : News h₀ L s.heap news) (hm : (l, listOf #[Value.int 0 t] k) ∈ news) (h0 : 0 ≤ z) (hz : z < 13) (hn : n = z.toNat)
    (h : ∀ D us h', IntsAre us (toI (List.replicate n 0)) → Fr h₀ L h' m → News h₀ L h' ((D, listOf (List.toArray us) 0) :: news) → Q (.ref D) { s with heap := h' }) : wpAny (model prog w) A (binaryOp .Mult (.ref l) (.int z u)) Q E s := by
  subst hn
  refine mul_list F N (N.get hm) (by omega) (by omega) (by show 1 * z.toNat ≤ 2 ^ 24; omega) fun h' F' N' => ?_
  have e : List.foldl (fun x1 x2 => x1 ++ x2) #[] (List.replicate (if (#[Value.int 0 t] : Array Value).isEmpty = true then 0 else z.toNat) #[Value.int 0 t]) = (List.replicate z.toNat (Value.int 0 t)).toArray := fold_rep (Value.int 0 t) z.toNat []
  rw [e] at N'
  exact h _ _ h' (ints_rep t z.toNat) F' N'
end
theorem item_ints {prog : Program} {w : World} {A : Around} {E : Value → Shared → Prop} {s : Shared} {Q : Value → Shared → Prop} {value slice : Expr} {l : Addr} {vs : List Value} {ks : List Int} {k : Int} {u : Tok} (hl : s.heap.IsList l vs.toArray) (hi : IntsAre vs ks) (h0 : 0 ≤ k) (hf : k < 2 ^ 63) (h1 : k.toNat < ks.length)
    (h : ∀ t, Q (.int (ks.getD k.toNat 0) t) s)
    (hs : subscripted slice false (.ref l) (.int k u) = operate [.ref l, .int k u] (getItem (.ref l) (.int k u)) := by with_unfolding_all rfl) (hg : ∀ r, letTemporaryGo value (.ref l) r = pure () := by intro _; with_unfolding_all rfl) :
    wpAny (model prog w) A (subscriptTail value slice (.ref l) (.int k u)) Q E s := by
  have hx : ks[k.toNat]? = some (ks.getD k.toNat 0) := by rw [List.getD_eq_getElem?_getD, List.getElem?_eq_getElem h1]; rfl
  obtain ⟨t, ht⟩ := hi.get _ _ hx
  exact item_listL hl h0 hf ht (h t) hs hg
theorem mixI {x : Str} {r o : List Nat} (hl : r.length = o.length) : toI (List.zipWith (· ^^^ ·) (chkN 1 x r) (chkN 734539939 x o)) = toI (List.zipWith (· ^^^ ·) (chkN 1 x (List.zipWith (· ^^^ ·) r o)) (chkN 734539939 x (List.replicate r.length 0))) := by rw [mixN x r o hl]
end

section
open PySem PySem.W PyProof.Rows PySem.Spec PySem.Calls
def lawStmt : Stmt := match List.drop 24 PySem.Challenge.pw_vn0010_01.main.body with
  | st :: _ => st
  | [] => .Pass default
def lawBody : List Stmt := match lawStmt with
  | .FunctionDef _ _ b _ _ _ _ _ _ _ => b
  | _ => []
def lawScope : Scope := match lawStmt with
  | .FunctionDef _ _ _ _ _ _ sc _ _ _ => sc
  | _ => default
def lawEnv (L fa : Addr) (cd : Value) : Env := envX (Str.ofString "law") lawScope L fa cd [(Str.ofString "digits", L + 1)]
def Next (w : World) (A : Around) (b : List Stmt) (env : Env) (h₀ : Heap) (L : Addr) (m : Str → Option Value) (R : List (Addr × Obj)) (Q : Flow → Shared → Prop) (E : Value → Shared → Prop) (s : Shared) : Prop :=
  ∀ (h' : Heap) (tk' : Nat), Fr h₀ L h' m → News h₀ L h' R → wpAny (model PySem.Challenge.rw_vn0010_01.row.prog w) A (execs b env) Q E { s with heap := h', toks := tk' }
theorem next_use {w : World} {A : Around} {b : List Stmt} {env : Env} {h₀ : Heap} {L : Addr} {m : Str → Option Value} {R : List (Addr × Obj)} {Q : Flow → Shared → Prop} {E : Value → Shared → Prop} {s : Shared} {h' : Heap} {tk' : Nat}
    (hk : Next w A b env h₀ L m R Q E s) (F : Fr h₀ L h' m) (N : News h₀ L h' R) : wpAny (model PySem.Challenge.rw_vn0010_01.row.prog w) A (execs b env) Q E { s with heap := h', toks := tk' } := hk h' tk' F N
def StopAt (_ : List Stmt) : Prop := True
def Halt (P : Prop) : Prop := P
theorem halt_use {M : Model} {A : Around} {b : List Stmt} {env : Env} {Q : Flow → Shared → Prop} {E : Value → Shared → Prop} {s : Shared} (_h : StopAt b) (h : Halt (wpAny M A (execs b env) Q E s)) : wpAny M A (execs b env) Q E s := h
abbrev mp (n : String) (v : Value) (m : Str → Option Value) : Str → Option Value := fun y => if y = Str.ofString n then some v else m y
end

section
open PySem PySem.W PyProof.Rows PySem.Spec
variable {w : World} {p : Program} {loose : List Str} {mean : ExcName → Option Value} {mg mb : Str → Option Value} {h₀ : Heap} {L fa : Addr} {cd : Value} {m0 : Str → Option Value} {s : Shared} {Q : Flow → Shared → Prop} {E : Value → Shared → Prop}
  {o : Obj} {lr lo ld lf ls la lw lm : Addr} {vr vo vd vf vs va vw vm : List Value} {nr no nd nf ns na nw nm : Nat} {x : Str} {u tsz : Tok} {sz : Int} {row other : List Nat} {d0 d1 d2 d3 d4 d5 : Int}
local macro_rules | `(tactic| walk_at "call ref") => `(tactic| (k_here; (with_reducible show wpAny _ _ (call (Value.ref 81) [Value.ref _, Value.int 6 _]) _ _ _); k_dflt (refine' use_num num1 ?k1 ?k2 ?k3 ?k4 ?k5 ?kK ?hl ?hi ?hle ?hd ?hu ?_; (case k1 => k_asm); (case k2 => k_asm); (case k3 => k_asm); (case k4 => k_asm); (case k5 => k_asm); (case kK => first | exact rfl | assumption); (case hl => assumption); (case hi => assumption); (case hle => omega); (case hd => ktr_room); (case hu => first | units_room | ktr_units); intro r9 us9 n9 h9 tk9 d0 d1 d2 d3 d4 d5 hU9 F9 N9; (try dsimp only); (try k_fold))))
local macro_rules | `(tactic| walk_at "call ref") => `(tactic| (k_here; (with_reducible show wpAny _ _ (call (Value.ref 35) [Value.ref _]) _ _ _); k_dflt (refine' use_pm pm1 ?k1 ?k2 ?k3 ?k4 ?k5 ?kK ?hm ?hi ?he ?hb ?hle ?hd ?hu ?_; (case k1 => k_asm); (case k2 => k_asm); (case k3 => k_asm); (case k4 => k_asm); (case k5 => k_asm); (case kK => first | exact rfl | assumption); (case hm => k_mem); (case hi => assumption); (case he => first | exact rfl | exact toI_app1 _ _ | walk_at "mine toI"); (case hb => first | exact Dig.app (by assumption) (by assumption) | exact Dig.app (by assumption) (chk_dig _ _ _) | assumption | exact zip_dig (by assumption) (by assumption) | walk_at "mine dig"); (case hle => first | assumption | exact len24 (by assumption) | exact len_app2 (by assumption) (by assumption) | exact len_chk24 (by assumption) | exact chk12 | exact len_zip24 (by assumption) | walk_at "mine len"); (case hd => ktr_room); (case hu => first | units_room | ktr_units); intro t9 h9 tk9 F9 N9; (try dsimp only); (try k_fold))))
local macro_rules | `(tactic| walk_at "call ref") => `(tactic| (k_here; (with_reducible show wpAny _ _ (call (Value.ref 59) [Value.ref _]) _ _ _); k_dflt (refine' use_pm pm2 ?k1 ?k2 ?k3 ?k4 ?k5 ?kK ?hm ?hi ?he ?hb ?hle ?hd ?hu ?_; (case k1 => k_asm); (case k2 => k_asm); (case k3 => k_asm); (case k4 => k_asm); (case k5 => k_asm); (case kK => first | exact rfl | assumption); (case hm => k_mem); (case hi => assumption); (case he => first | exact rfl | exact toI_app1 _ _ | walk_at "mine toI"); (case hb => first | exact Dig.app (by assumption) (by assumption) | exact Dig.app (by assumption) (chk_dig _ _ _) | assumption | exact zip_dig (by assumption) (by assumption) | walk_at "mine dig"); (case hle => first | assumption | exact len24 (by assumption) | exact len_app2 (by assumption) (by assumption) | exact len_chk24 (by assumption) | exact chk12 | exact len_zip24 (by assumption) | walk_at "mine len"); (case hd => ktr_room); (case hu => first | units_room | ktr_units); intro t9 h9 tk9 F9 N9; (try dsimp only); (try k_fold))))
local macro_rules | `(tactic| walk_at "call ref") => `(tactic| (k_here; (with_reducible show wpAny _ _ (call (Value.ref 40) [Value.str _ _]) _ _ _); k_dflt (refine' use_hx hx1 ?k1 ?k2 ?k3 ?k4 ?k5 ?kK ?hx ?hd ?hu ?_; (case k1 => k_asm); (case k2 => k_asm); (case k3 => k_asm); (case k4 => k_asm); (case k5 => k_asm); (case kK => first | exact rfl | assumption); (case hx => first | assumption | exact nameOk_q); (case hd => ktr_room); (case hu => first | units_room | ktr_units); intro r9 us9 n9 h9 tk9 hU9 F9 N9; (try dsimp only); (try k_fold))))
local macro_rules | `(tactic| walk_at "call ref") => `(tactic| (k_here; (with_reducible show wpAny _ _ (call (Value.ref 64) [Value.str _ _]) _ _ _); k_dflt (refine' use_hx hx2 ?k1 ?k2 ?k3 ?k4 ?k5 ?kK ?hx ?hd ?hu ?_; (case k1 => k_asm); (case k2 => k_asm); (case k3 => k_asm); (case k4 => k_asm); (case k5 => k_asm); (case kK => first | exact rfl | assumption); (case hx => first | assumption | exact nameOk_q); (case hd => ktr_room); (case hu => first | units_room | ktr_units); intro r9 us9 n9 h9 tk9 hU9 F9 N9; (try dsimp only); (try k_fold))))
local macro_rules | `(tactic| walk_at "call ref") => `(tactic| (k_here; (with_reducible show wpAny _ _ (call (Value.ref 76) [Value.str _ _, Value.ref _]) _ _ _); k_dflt (refine' use_c2 cr2 ?k1 ?k2 ?k3 ?k4 ?k5 ?kK ?hx ?hm ?hi ?he ?hb ?hle ?hd ?hu ?_; (case k1 => k_asm); (case k2 => k_asm); (case k3 => k_asm); (case k4 => k_asm); (case k5 => k_asm); (case kK => first | exact rfl | assumption); (case hx => first | assumption | exact nameOk_q); (case hm => k_mem); (case hi => assumption); (case he => first | exact rfl | exact toI_app1 _ _ | walk_at "mine toI"); (case hb => first | exact Dig.app (by assumption) (by assumption) | exact Dig.app (by assumption) (chk_dig _ _ _) | assumption | exact zip_dig (by assumption) (by assumption) | walk_at "mine dig"); (case hle => first | assumption | exact len24 (by assumption) | exact len_app2 (by assumption) (by assumption) | exact len_chk24 (by assumption) | exact chk12 | exact len_zip24 (by assumption) | walk_at "mine len"); (case hd => ktr_room); (case hu => first | units_room | ktr_units); intro r9 us9 n9 h9 tk9 hU9 F9 N9; (try dsimp only); (try k_fold))))
local macro_rules | `(tactic| walk_at "call ref") => `(tactic| (k_here; (with_reducible show wpAny _ _ (call (Value.ref 52) [Value.int 1 _, Value.str _ _, Value.ref _]) _ _ _); k_dflt (refine' use_c1 cr1 ?k1 ?k2 ?k3 ?k4 ?k5 ?kK ?hx ?hm ?hi ?he ?hb ?hle ?hd ?hu ?_; (case k1 => k_asm); (case k2 => k_asm); (case k3 => k_asm); (case k4 => k_asm); (case k5 => k_asm); (case kK => first | exact rfl | assumption); (case hx => first | assumption | exact nameOk_q); (case hm => k_mem); (case hi => assumption); (case he => first | exact rfl | exact toI_app1 _ _ | walk_at "mine toI"); (case hb => first | exact Dig.app (by assumption) (by assumption) | exact Dig.app (by assumption) (chk_dig _ _ _) | assumption | exact zip_dig (by assumption) (by assumption) | walk_at "mine dig"); (case hle => first | assumption | exact len24 (by assumption) | exact len_app2 (by assumption) (by assumption) | exact len_chk24 (by assumption) | exact chk12 | exact len_zip24 (by assumption) | walk_at "mine len"); (case hd => ktr_room); (case hu => first | units_room | ktr_units); intro r9 us9 n9 h9 tk9 hU9 F9 N9; (try dsimp only); (try k_fold))))
local macro_rules | `(tactic| walk_at "call ref") => `(tactic| (k_here; (with_reducible show wpAny _ _ (call (Value.ref 52) [Value.int 2 _, Value.str _ _, Value.ref _]) _ _ _); k_dflt (refine' use_c1 cr1m ?k1 ?k2 ?k3 ?k4 ?k5 ?kK ?hx ?hm ?hi ?he ?hb ?hle ?hd ?hu ?_; (case k1 => k_asm); (case k2 => k_asm); (case k3 => k_asm); (case k4 => k_asm); (case k5 => k_asm); (case kK => first | exact rfl | assumption); (case hx => first | assumption | exact nameOk_q); (case hm => k_mem); (case hi => assumption); (case he => first | exact rfl | exact toI_app1 _ _ | walk_at "mine toI"); (case hb => first | exact Dig.app (by assumption) (by assumption) | exact Dig.app (by assumption) (chk_dig _ _ _) | assumption | exact zip_dig (by assumption) (by assumption) | walk_at "mine dig"); (case hle => first | assumption | exact len24 (by assumption) | exact len_app2 (by assumption) (by assumption) | exact len_chk24 (by assumption) | exact chk12 | exact len_zip24 (by assumption) | walk_at "mine len"); (case hd => ktr_room); (case hu => first | units_room | ktr_units); intro r9 us9 n9 h9 tk9 hU9 F9 N9; (try dsimp only); (try k_fold))))
local macro_rules | `(tactic| walk_at "call ref") => `(tactic| (k_here; (with_reducible show wpAny _ _ (call (Value.ref 86) [Value.ref _, Value.ref _]) _ _ _); k_dflt (refine' use_smN sm1 ?k1 ?k2 ?k3 ?k4 ?k5 ?kK ?hm ?hmm ?hi ?hii ?hle ?hd ?hu ?_; (case k1 => k_asm); (case k2 => k_asm); (case k3 => k_asm); (case k4 => k_asm); (case k5 => k_asm); (case kK => first | exact rfl | assumption); (case hm => k_mem); (case hmm => k_mem); (case hi => assumption); (case hii => assumption); (case hle => first | assumption | exact len24 (by assumption) | exact len_app2 (by assumption) (by assumption) | exact len_chk24 (by assumption) | exact chk12 | exact len_zip24 (by assumption) | walk_at "mine len"); (case hd => ktr_room); (case hu => first | units_room | ktr_units); intro r9 us9 n9 h9 tk9 hU9 F9 N9; (try dsimp only); (try k_fold))))
local macro_rules | `(tactic| walk_at "call ref") => `(tactic| (k_here; (with_reducible show wpAny _ _ (call (Value.ref 71) [Value.str _ _, Value.ref _]) _ _ _); k_dflt (refine' use_v2t vf2 ?k1 ?k2 ?k3 ?k4 ?k5 ?kK ?hx ?hm ?hi ?he ?hb ?hle ?hd ?hu ?hv ?_; (case k1 => k_asm); (case k2 => k_asm); (case k3 => k_asm); (case k4 => k_asm); (case k5 => k_asm); (case kK => first | exact rfl | assumption); (case hx => first | assumption | exact nameOk_q); (case hm => k_mem); (case hi => assumption); (case he => first | exact rfl | exact toI_app1 _ _ | walk_at "mine toI"); (case hb => first | exact Dig.app (by assumption) (by assumption) | exact Dig.app (by assumption) (chk_dig _ _ _) | assumption | exact zip_dig (by assumption) (by assumption) | walk_at "mine dig"); (case hle => first | assumption | exact len24 (by assumption) | exact len_app2 (by assumption) (by assumption) | exact len_chk24 (by assumption) | exact chk12 | exact len_zip24 (by assumption) | walk_at "mine len"); (case hd => ktr_room); (case hu => first | units_room | ktr_units); (case hv => exact pm_chk (by decide) _ _); intro h9 tk9 F9 N9; (try dsimp only); (try k_fold))))
local macro_rules | `(tactic| walk_at "call ref") => `(tactic| (k_here; (with_reducible show wpAny _ _ (call (Value.ref 71) [Value.str _ _, Value.ref _]) _ _ _); k_dflt (refine' use_v2f vf2 ?k1 ?k2 ?k3 ?k4 ?k5 ?kK ?hx ?hm ?hi ?he ?hb ?hle ?hd ?hu ?hv ?_; (case k1 => k_asm); (case k2 => k_asm); (case k3 => k_asm); (case k4 => k_asm); (case k5 => k_asm); (case kK => first | exact rfl | assumption); (case hx => first | assumption | exact nameOk_q); (case hm => k_mem); (case hi => assumption); (case he => first | exact rfl | exact toI_app1 _ _ | walk_at "mine toI"); (case hb => first | exact Dig.app (by assumption) (by assumption) | exact Dig.app (by assumption) (chk_dig _ _ _) | assumption | exact zip_dig (by assumption) (by assumption) | walk_at "mine dig"); (case hle => first | assumption | exact len24 (by assumption) | exact len_app2 (by assumption) (by assumption) | exact len_chk24 (by assumption) | exact chk12 | exact len_zip24 (by assumption) | walk_at "mine len"); (case hd => ktr_room); (case hu => first | units_room | ktr_units); (case hv => first | (rw [pm_chk (by decide)]; decide) | walk_at "mine ne"); intro h9 tk9 F9 N9; (try dsimp only); (try k_fold))))
local macro_rules | `(tactic| walk_at "call ref") => `(tactic| (k_here; (with_reducible show wpAny _ _ (call (Value.ref 47) [Value.str _ _, Value.ref _]) _ _ _); k_dflt (refine' use_v1a vf1 ?k1 ?k2 ?k3 ?k4 ?k5 ?kK ?hx ?hm ?hi ?he ?hb ?hle ?hd ?hu ?hv ?_; (case k1 => k_asm); (case k2 => k_asm); (case k3 => k_asm); (case k4 => k_asm); (case k5 => k_asm); (case kK => first | exact rfl | assumption); (case hx => first | assumption | exact nameOk_q); (case hm => k_mem); (case hi => assumption); (case he => first | exact rfl | exact toI_app1 _ _ | walk_at "mine toI"); (case hb => first | exact Dig.app (by assumption) (by assumption) | exact Dig.app (by assumption) (chk_dig _ _ _) | assumption | exact zip_dig (by assumption) (by assumption) | walk_at "mine dig"); (case hle => first | assumption | exact len24 (by assumption) | exact len_app2 (by assumption) (by assumption) | exact len_chk24 (by assumption) | exact chk12 | exact len_zip24 (by assumption) | walk_at "mine len"); (case hd => ktr_room); (case hu => first | units_room | ktr_units); (case hv => exact pm_chk (K := 1) (by decide) _ _); intro t9 h9 tk9 F9 N9; (try dsimp only); (try k_fold))))
local macro_rules | `(tactic| walk_at "call ref") => `(tactic| (k_here; (with_reducible show wpAny _ _ (call (Value.ref 47) [Value.str _ _, Value.ref _]) _ _ _); k_dflt (refine' use_v1b vf1 ?k1 ?k2 ?k3 ?k4 ?k5 ?kK ?hx ?hm ?hi ?he ?hb ?hle ?hd ?hu ?hv ?_; (case k1 => k_asm); (case k2 => k_asm); (case k3 => k_asm); (case k4 => k_asm); (case k5 => k_asm); (case kK => first | exact rfl | assumption); (case hx => first | assumption | exact nameOk_q); (case hm => k_mem); (case hi => assumption); (case he => first | exact rfl | exact toI_app1 _ _ | walk_at "mine toI"); (case hb => first | exact Dig.app (by assumption) (by assumption) | exact Dig.app (by assumption) (chk_dig _ _ _) | assumption | exact zip_dig (by assumption) (by assumption) | walk_at "mine dig"); (case hle => first | assumption | exact len24 (by assumption) | exact len_app2 (by assumption) (by assumption) | exact len_chk24 (by assumption) | exact chk12 | exact len_zip24 (by assumption) | walk_at "mine len"); (case hd => ktr_room); (case hu => first | units_room | ktr_units); (case hv => exact pm_chk (K := 734539939) (by decide) _ _); intro t9 h9 tk9 F9 N9; (try dsimp only); (try k_fold))))
local macro_rules | `(tactic| walk_at "call ref") => `(tactic| (k_here; (with_reducible show wpAny _ _ (call (Value.ref 47) [Value.str _ _, Value.ref _]) _ _ _); k_dflt (refine' use_v1c vf1 ?k1 ?k2 ?k3 ?k4 ?k5 ?kK ?hx ?hm ?hi ?he ?hb ?hle ?hd ?hu ?hv ?hw ?_; (case k1 => k_asm); (case k2 => k_asm); (case k3 => k_asm); (case k4 => k_asm); (case k5 => k_asm); (case kK => first | exact rfl | assumption); (case hx => first | assumption | exact nameOk_q); (case hm => k_mem); (case hi => assumption); (case he => first | exact rfl | exact toI_app1 _ _ | walk_at "mine toI"); (case hb => first | exact Dig.app (by assumption) (by assumption) | exact Dig.app (by assumption) (chk_dig _ _ _) | assumption | exact zip_dig (by assumption) (by assumption) | walk_at "mine dig"); (case hle => first | assumption | exact len24 (by assumption) | exact len_app2 (by assumption) (by assumption) | exact len_chk24 (by assumption) | exact chk12 | exact len_zip24 (by assumption) | walk_at "mine len"); (case hd => ktr_room); (case hu => first | units_room | ktr_units); (case hv => walk_at "mine ne"); (case hw => walk_at "mine ne"); intro h9 tk9 F9 N9; (try dsimp only); (try k_fold))))
local macro_rules | `(tactic| walk_at "eval ListComp") => `(tactic| (k_here; (with_reducible show wpAny _ _ (eval (Expr.ListComp (Expr.Subscript _ _ _) _ _ _) _) _ _ _); k_dflt (refine LCg.ListComp_U (F₀ := by k_asm) (by with_unfolding_all rfl) (by decide) (by rfl) (by decide) (by rfl) ?_)))
local macro_rules | `(tactic| walk_at "CompSrc") => `(tactic| (k_here; (with_reducible show LCg.CompSrc _ _ _ _ _ _ _ (Expr.Subscript _ (Expr.BinOp _ _ _ _) _) _ _ _ _ _ _); (try k_fmods); k_dflt (refine LCg.CompSrc.range (by rfl) (by k_asm) (by k_asm) (by assumption) (by exact small_one (by kcf_bnd) (by kcf_bnd) (by kcf_bnd) (by kcf_bnd)) (by exact rangeSize_nat _ _) (by (rw [PySem.sizeLine_eq]; omega)) ?_; intro g'; (refine' name_zero ?hU ?_ ?_; (case hU => assumption)))))
local macro_rules | `(tactic| walk_at "CompSrc") => `(tactic| (k_here; (with_reducible show LCg.CompSrc _ _ _ _ _ _ _ (Expr.BinOp (Expr.BinOp (Expr.Subscript _ (Expr.Constant (Const.int 2) _ _) _) _ _ _) _ _ _) _ _ _ _ _ _); (try k_fmods); k_dflt (refine LCg.CompSrc.range (by rfl) (by k_asm) (by k_asm) (by assumption) (by exact small_one (by kcf_bnd) (by kcf_bnd) (by kcf_bnd) (by kcf_bnd)) (by exact rangeSize_nat _ _) (by (rw [PySem.sizeLine_eq]; omega)) ?_; intro g'; (refine' row_two ?hU ?hn ?_ ?_; (case hU => assumption); (case hn => ((try k_fmods); omega))))))
local macro_rules | `(tactic| walk_at "CompSrc") => `(tactic| (k_here; (with_reducible show LCg.CompSrc _ _ _ _ _ _ _ (Expr.BinOp (Expr.BinOp (Expr.Subscript _ (Expr.Constant (Const.int 3) _ _) _) _ _ _) _ _ _) _ _ _ _ _ _); (try k_fmods); k_dflt (refine LCg.CompSrc.range (by rfl) (by k_asm) (by k_asm) (by assumption) (by exact small_one (by kcf_bnd) (by kcf_bnd) (by kcf_bnd) (by kcf_bnd)) (by exact rangeSize_nat _ _) (by (rw [PySem.sizeLine_eq]; omega)) ?_; intro g'; (refine' row_three ?hU ?hn ?_ ?_; (case hU => assumption); (case hn => ((try k_fmods); omega))))))
local macro_rules | `(tactic| walk_at "CompSrc") => `(tactic| (k_here; (with_reducible show LCg.CompSrc _ _ _ _ _ _ _ (Expr.BinOp (Expr.BinOp (Expr.Constant _ _ _) _ _ _) _ _ _) _ _ _ _ _ _); k_dflt (refine LCg.CompSrc.range (n := 6) (by rfl) (by k_asm) (by k_asm) (by assumption) (by decide) (by rfl) (by (rw [PySem.sizeLine_eq]; decide)) ?_; intro g'; (refine' apart_rest ?_ ?_))))
local macro_rules | `(tactic| walk_at "binaryOp FloorDiv int int") => `(tactic| (k_here; (with_reducible show wpAny _ _ (binaryOp Operator.FloorDiv (Value.int _ _) (Value.int (HPow.hPow _ (Int.toNat (HSub.hSub _ _))) _)) _ _ _); (refine floordiv_int (pow_ne0 (by decide) _) ?_ (Or.inl (PyProof.noPylong_small (pow5_small (by assumption)))))))
local macro_rules | `(tactic| walk_at "compareOp NotEq int int") => `(tactic| (k_here; (with_reducible refine ne_int_same ?_)))
local macro_rules | `(tactic| walk_at "subscriptTail Name Slice ref ref") => `(tactic| (k_here; (with_reducible show wpAny _ _ (subscriptTail _ (PySem.Expr.Slice _ _ none _) (Value.ref _) (Value.ref _)) _ _ _); k_dflt (refine' kmk_slice_ints ?F ?N ?l ?p ?q ?i ?m ?c ?_ ?s ?t ?z; (case F => k_asm); (case N => k_asm); (case l => exact News.isList (by k_asm) (by k_mem)); (case p => kmk_part); (case q => kmk_part); (case i => assumption); (case m => kmk_nums); (case c => kmk_len); (case s => with_unfolding_all rfl); (case t => kmk_pure); (case z => exact ints_size (by assumption) chkI_len)); intro D' ws' h' F' N' l1 hI' hC' hL'; (try simp only [Int.reduceNeg, Int.neg_neg, Int.reduceToNat] at hI' hC' hL')))
local macro_rules | `(tactic| walk_at "subscriptTail Name Constant ref int") => `(tactic| (k_here; (with_reducible show wpAny _ _ (subscriptTail (Expr.Name (Str.ofString "first") _) _ (Value.ref _) (Value.int 5 _)) _ _ _); k_dflt (refine' item_ints ?k1 ?k2 ?k3 ?k4 ?k5 ?_ ?k6 ?k7; (case k1 => exact News.isList (by k_asm) (by k_mem)); (case k2 => assumption); (case k3 => decide); (case k4 => decide); (case k5 => exact Nat.le_of_ble_eq_true rfl); (case k6 => with_unfolding_all rfl); (case k7 => (intro r9; with_unfolding_all rfl)); intro t')))
local macro_rules | `(tactic| walk_at "binaryOp Mult ref int") => `(tactic| (k_here; (with_reducible show wpAny _ _ (binaryOp Operator.Mult (Value.ref _) (Value.int _ _)) _ _ _); k_dflt (refine' mul_zero ?k1 ?k2 ?k3 ?k4 ?k5 ?k6 ?_; (case k1 => k_asm); (case k2 => k_asm); (case k3 => k_mem); (case k4 => assumption); (case k5 => assumption); (case k6 => assumption)); intro D' us' h' hI' F' N'))
local macro_rules | `(tactic| walk_at "compareOp Eq ref ref") => `(tactic| (k_here; (with_reducible show wpAny _ _ (compareOp CmpOp.Eq (Value.ref _) (Value.ref _)) _ _ _); k_dflt (refine' eq_true_ ?k1 ?k2 ?k3 ?k4 ?k5 ?k6 ?_; (case k1 => exact News.isList (by k_asm) (by k_mem)); (case k2 => exact News.isList (by k_asm) (by k_mem)); (case k3 => assumption); (case k4 => assumption); (case k5 => units_room); (case k6 => exact mixI (by assumption)))))
local macro_rules | `(tactic| walk_at "mine ne") => `(tactic| (first | ((rw [pm_wrong (by assumption)]); exact wrong_ne1 (by assumption) (by assumption)) | ((rw [pm_wrong (by assumption)]); exact wrong_neM (by assumption))))
local macro_rules | `(tactic| walk_at "mine dig") => `(tactic| (first | exact Dig.app (by assumption) (wr_dig (by assumption) _ _ _) | exact dig_rep _))
local macro_rules | `(tactic| walk_at "mine len") => `(tactic| (first | exact len_wr24 (by assumption) | exact len_rep24 (by assumption)))
local macro_rules | `(tactic| walk_at "mine room") => `(tactic| (first | exact add_w | exact add_rw (by assumption)))
local macro_rules | `(tactic| walk_at "binaryOp Pow int int") => `(tactic| (k_here; (with_reducible show wpAny _ _ (binaryOp Operator.Pow (Value.int _ _) (Value.int (HSub.hSub _ _) _)) _ _ _); (with_reducible refine pow_int_small (by omega) (by omega) (by decide) ?_)))
local macro_rules | `(tactic| walk_at "SrcTurns") => `(tactic| (intro k' t' I' oI' C' oC' D' m' ys' h' tk' E' hlo' hhi' hC' hx' F' N' off' ne' hMark'))
local macro_rules | `(tactic| walk_at "CompEnd") => `(tactic| (first | (refine' comp_end_t ?F ?N ?sub ?off ?e; (case F => k_asm); (case N => k_asm); (case e => rfl); (case sub => kcf_all); (case off => assumption)) | (refine' comp_end_i ?F ?N ?sub ?off ?e; (case F => k_asm); (case N => k_asm); (case e => rfl); (case sub => kcf_all); (case off => assumption))))
local macro_rules | `(tactic| walk_at "KCfEl") => `(tactic| (exact kcf_el rfl rfl rfl))
local macro_rules | `(tactic| walk_at "KCtEl") => `(tactic| (exact kct_el rfl rfl rfl))
local macro_rules | `(tactic| walk_at "eval ListComp") => `(tactic| (k_here; (with_reducible show wpAny _ _ (eval (Expr.ListComp (Expr.BinOp (Expr.Call _ _ _ _) _ _ _) _ _ _) _) _ _ _); k_dflt (refine ListComp_str (by k_asm) (by with_unfolding_all rfl) (by decide) (by rfl) (by decide) (by rfl) ?_)))
local macro_rules | `(tactic| walk_at "StrSrc") => `(tactic| (k_here; (with_reducible show StrSrc _ _ _ _ _ _ _ (Expr.BinOp _ Operator.FloorDiv _ _) _ _ _ _ _ _); k_dflt (refine' StrSrc.intro ?k1 ?k2 ?k3 ?k4 (fun c' => Int.fdiv (c' : Nat) 32) ?_ ?_; (case k1 => with_unfolding_all rfl); (case k2 => k_asm); (case k3 => k_asm); (case k4 => exact nameOk_size (by assumption)))))
local macro_rules | `(tactic| walk_at "StrSrc") => `(tactic| (k_here; (with_reducible show StrSrc _ _ _ _ _ _ _ (Expr.BinOp _ Operator.Mod _ _) _ _ _ _ _ _); k_dflt (refine' StrSrc.intro ?k1 ?k2 ?k3 ?k4 (fun c' => Int.fmod (c' : Nat) 32) ?_ ?_; (case k1 => with_unfolding_all rfl); (case k2 => k_asm); (case k3 => k_asm); (case k4 => exact nameOk_size (by assumption)))))
local macro_rules | `(tactic| walk_at "binaryOp FloorDiv int int") => `(tactic| (k_here; (with_reducible show wpAny _ _ (binaryOp Operator.FloorDiv (Value.int _ _) (Value.int (HPow.hPow _ _) _)) _ _ _); (refine floordiv_int (pow_ne0 (by decide) _) ?_)))
local macro_rules | `(tactic| walk_at "call builtin:str.join") => `(tactic| (k_here; k_dflt (refine' join_name ?k1 ?k2 ?k3 ?_; (case k1 => exact News.isList (by k_asm) (by k_mem)); (case k2 => assumption); (case k3 => ((try k_fmods); omega)); intro t' k' x' hx')))
local macro_rules | `(tactic| walk_at "binaryOp Add ref ref") => `(tactic| (k_here; (with_reducible show wpAny _ _ (binaryOp _ (Value.ref _) (Value.ref _)) _ _ _); k_dflt (refine' kmk_add_ints ?F ?N ?a ?b ?i ?j ?_ ?z; (case F => k_asm); (case N => k_asm); (case a => exact News.isList (by k_asm) (by k_mem)); (case b => exact News.isList (by k_asm) (by k_mem)); (case i => first | assumption | l_ints); (case j => first | assumption | l_ints); (case z => first | exact add_rr (by assumption) (by assumption) | exact add_rc (by assumption) | exact add_h1 (by assumption) | exact add_h2 (by assumption) | walk_at "mine room")); intro D' ws' h' F' N' l1 hI'; (try k_lt l1)))
local macro_rules | `(tactic| walk_at "compareOp NotEq ref ref") => `(tactic| (k_here; (with_reducible show wpAny _ _ (compareOp CmpOp.NotEq (Value.ref _) (Value.ref _)) _ _ _); k_dflt (refine' ne_false ?k1 ?k2 ?k3 ?k4 ?k5 ?k6 ?_; (case k1 => exact News.isList (by k_asm) (by k_mem)); (case k2 => exact News.isList (by k_asm) (by k_mem)); (case k3 => first | assumption | l_ints); (case k4 => first | assumption | l_ints); (case k5 => units_room); (case k6 => first | exact rfl | exact hx_32 _ | exact eq_apart _ _))))
local macro_rules | `(tactic| walk_at "call builtin:len") => `(tactic| (k_here; k_dflt (refine' len_at (n := 6) ?k1 ?k2 ?k3 ?k4 ?_; (case k1 => exact News.isList (by k_asm) (by k_mem)); (case k2 => assumption); (case k3 => exact rfl); (case k4 => decide); intro t' tk')))
local macro_rules | `(tactic| walk_at "execs cons") => `(tactic| (k_here; (refine' halt_use ?hs ?_); (case hs => with_reducible assumption)))
local macro_rules | `(tactic| walk_at "execs cons Assign cons") => `(tactic| (k_here; (refine' halt_use ?hs ?_); (case hs => with_reducible assumption)))
local macro_rules | `(tactic| walk_at "execs cons If cons") => `(tactic| (k_here; (refine' halt_use ?hs ?_); (case hs => with_reducible assumption)))
local macro_rules | `(tactic| walk_at "execs cons Return cons") => `(tactic| (k_here; (refine' halt_use ?hs ?_); (case hs => with_reducible assumption)))
set_option maxRecDepth 100000 in
set_option maxHeartbeats 4000000 in
theorem g1 (B : Below callerA h₀ [] h₀) (X : (hd.heap_39 w.params).In h₀) (T : Top p loose mean mg mb h₀) (hx : NameOk x) (hir : IntsAre vr (toI row)) (hio : IntsAre vo (toI other)) (hid : IntsAre vd [d0, d1, d2, d3, d4, d5]) (hdr : Dig row) (hdo : Dig other) (hlr : row.length ≤ 12) (hlo : other.length ≤ 12) (hoc : o.data = .cell (some (.ref ld))) (F : Fr h₀ L s.heap (mp "row" (.ref lr) (mp "other" (.ref lo) (mp "size" (.int sz tsz) (mp "name" (.str x u) m0))))) (N : News h₀ L s.heap [(lr, listOf vr.toArray nr), (lo, listOf vo.toArray no), (ld, listOf vd.toArray nd), (L + 1, o)]) (hk : Next w (callerA.deeper (lawEnv L fa cd)) (List.drop 6 lawBody) (lawEnv L fa cd) h₀ L (mp "row" (.ref lr) (mp "other" (.ref lo) (mp "size" (.int sz tsz) (mp "name" (.str x u) m0)))) [(lr, listOf vr.toArray nr), (lo, listOf vo.toArray no), (ld, listOf vd.toArray nd), (L + 1, o)] Q E s) :
    wpAny (model PySem.Challenge.rw_vn0010_01.row.prog w) (callerA.deeper (lawEnv L fa cd)) (execs (List.drop 4 lawBody) (lawEnv L fa cd)) Q E s := by
  have hs : StopAt (List.drop 6 lawBody) := trivial
  dsimp only [lawEnv, lawBody, lawScope, lawStmt, PySem.Challenge.pw_vn0010_01, List.drop] at hs hk ⊢
  k_with_none
  k_steps
  exact hk _ _ (by k_asm) (cb_drop (by k_asm) (by kcf_all))
set_option maxRecDepth 100000 in
set_option maxHeartbeats 4000000 in
theorem g2 (B : Below callerA h₀ [] h₀) (X : (hd.heap_39 w.params).In h₀) (T : Top p loose mean mg mb h₀) (hx : NameOk x) (hir : IntsAre vr (toI row)) (hio : IntsAre vo (toI other)) (hid : IntsAre vd [d0, d1, d2, d3, d4, d5]) (hdr : Dig row) (hdo : Dig other) (hlr : row.length ≤ 12) (hlo : other.length ≤ 12) (hoc : o.data = .cell (some (.ref ld))) (F : Fr h₀ L s.heap (mp "row" (.ref lr) (mp "other" (.ref lo) (mp "size" (.int sz tsz) (mp "name" (.str x u) m0))))) (N : News h₀ L s.heap [(lr, listOf vr.toArray nr), (lo, listOf vo.toArray no), (ld, listOf vd.toArray nd), (L + 1, o)]) (hk : ∀ (lf ls : Addr) (vf vs : List Value) (nf ns : Nat), IntsAre vf (toI (chkN 1 x row)) → IntsAre vs (toI (chkN 734539939 x row)) → Next w (callerA.deeper (lawEnv L fa cd)) (List.drop 7 lawBody) (lawEnv L fa cd) h₀ L (mp "first" (.ref lf) (mp "second" (.ref ls) (mp "row" (.ref lr) (mp "other" (.ref lo) (mp "size" (.int sz tsz) (mp "name" (.str x u) m0)))))) ((lf, listOf vf.toArray nf) :: (ls, listOf vs.toArray ns) :: [(lr, listOf vr.toArray nr), (lo, listOf vo.toArray no), (ld, listOf vd.toArray nd), (L + 1, o)]) Q E s) :
    wpAny (model PySem.Challenge.rw_vn0010_01.row.prog w) (callerA.deeper (lawEnv L fa cd)) (execs (List.drop 6 lawBody) (lawEnv L fa cd)) Q E s := by
  have hs : StopAt (List.drop 7 lawBody) := trivial
  dsimp only [lawEnv, lawBody, lawScope, lawStmt, PySem.Challenge.pw_vn0010_01, List.drop] at hs hk ⊢
  k_with_none
  k_steps
  exact hk _ _ _ _ _ _ (by assumption) (by assumption) _ _ (by k_asm) (cb_drop (by k_asm) (by kcf_all))
set_option maxRecDepth 100000 in
set_option maxHeartbeats 4000000 in
theorem g3 (B : Below callerA h₀ [] h₀) (X : (hd.heap_39 w.params).In h₀) (T : Top p loose mean mg mb h₀) (hx : NameOk x) (hir : IntsAre vr (toI row)) (hio : IntsAre vo (toI other)) (hid : IntsAre vd [d0, d1, d2, d3, d4, d5]) (hdr : Dig row) (hdo : Dig other) (hlr : row.length ≤ 12) (hlo : other.length ≤ 12) (hoc : o.data = .cell (some (.ref ld))) (hif : IntsAre vf (toI (chkN 1 x row))) (his : IntsAre vs (toI (chkN 734539939 x row))) (F : Fr h₀ L s.heap (mp "first" (.ref lf) (mp "second" (.ref ls) (mp "row" (.ref lr) (mp "other" (.ref lo) (mp "size" (.int sz tsz) (mp "name" (.str x u) m0))))))) (N : News h₀ L s.heap ((lf, listOf vf.toArray nf) :: (ls, listOf vs.toArray ns) :: [(lr, listOf vr.toArray nr), (lo, listOf vo.toArray no), (ld, listOf vd.toArray nd), (L + 1, o)])) (hk : Next w (callerA.deeper (lawEnv L fa cd)) (List.drop 8 lawBody) (lawEnv L fa cd) h₀ L (mp "first" (.ref lf) (mp "second" (.ref ls) (mp "row" (.ref lr) (mp "other" (.ref lo) (mp "size" (.int sz tsz) (mp "name" (.str x u) m0)))))) ((lf, listOf vf.toArray nf) :: (ls, listOf vs.toArray ns) :: [(lr, listOf vr.toArray nr), (lo, listOf vo.toArray no), (ld, listOf vd.toArray nd), (L + 1, o)]) Q E s) :
    wpAny (model PySem.Challenge.rw_vn0010_01.row.prog w) (callerA.deeper (lawEnv L fa cd)) (execs (List.drop 7 lawBody) (lawEnv L fa cd)) Q E s := by
  have hs : StopAt (List.drop 8 lawBody) := trivial
  dsimp only [lawEnv, lawBody, lawScope, lawStmt, PySem.Challenge.pw_vn0010_01, List.drop] at hs hk ⊢
  k_with_none
  k_steps
  exact hk _ _ (by k_asm) (cb_drop (by k_asm) (by kcf_all))
set_option maxRecDepth 100000 in
set_option maxHeartbeats 4000000 in
theorem g4 (B : Below callerA h₀ [] h₀) (X : (hd.heap_39 w.params).In h₀) (T : Top p loose mean mg mb h₀) (hx : NameOk x) (hir : IntsAre vr (toI row)) (hio : IntsAre vo (toI other)) (hid : IntsAre vd [d0, d1, d2, d3, d4, d5]) (hdr : Dig row) (hdo : Dig other) (hlr : row.length ≤ 12) (hlo : other.length ≤ 12) (hoc : o.data = .cell (some (.ref ld))) (hif : IntsAre vf (toI (chkN 1 x row))) (his : IntsAre vs (toI (chkN 734539939 x row))) (F : Fr h₀ L s.heap (mp "first" (.ref lf) (mp "second" (.ref ls) (mp "row" (.ref lr) (mp "other" (.ref lo) (mp "size" (.int sz tsz) (mp "name" (.str x u) m0))))))) (N : News h₀ L s.heap ((lf, listOf vf.toArray nf) :: (ls, listOf vs.toArray ns) :: [(lr, listOf vr.toArray nr), (lo, listOf vo.toArray no), (ld, listOf vd.toArray nd), (L + 1, o)])) (hk : ∀ (la : Addr) (va : List Value) (na : Nat), IntsAre va (toI (digN 734539938)) → Next w (callerA.deeper (lawEnv L fa cd)) (List.drop 9 lawBody) (lawEnv L fa cd) h₀ L (mp "apart" (.ref la) (mp "first" (.ref lf) (mp "second" (.ref ls) (mp "row" (.ref lr) (mp "other" (.ref lo) (mp "size" (.int sz tsz) (mp "name" (.str x u) m0))))))) ((la, listOf va.toArray na) :: ((lf, listOf vf.toArray nf) :: (ls, listOf vs.toArray ns) :: [(lr, listOf vr.toArray nr), (lo, listOf vo.toArray no), (ld, listOf vd.toArray nd), (L + 1, o)])) Q E s) :
    wpAny (model PySem.Challenge.rw_vn0010_01.row.prog w) (callerA.deeper (lawEnv L fa cd)) (execs (List.drop 8 lawBody) (lawEnv L fa cd)) Q E s := by
  have hs : StopAt (List.drop 9 lawBody) := trivial
  dsimp only [lawEnv, lawBody, lawScope, lawStmt, PySem.Challenge.pw_vn0010_01, List.drop] at hs hk ⊢
  k_with_none
  k_steps
  exact hk _ _ _ (by assumption) _ _ (by k_asm) (cb_drop (by k_asm) (by kcf_all))
set_option maxRecDepth 100000 in
set_option maxHeartbeats 4000000 in
theorem g5 (B : Below callerA h₀ [] h₀) (X : (hd.heap_39 w.params).In h₀) (T : Top p loose mean mg mb h₀) (hx : NameOk x) (hir : IntsAre vr (toI row)) (hio : IntsAre vo (toI other)) (hid : IntsAre vd [d0, d1, d2, d3, d4, d5]) (hdr : Dig row) (hdo : Dig other) (hlr : row.length ≤ 12) (hlo : other.length ≤ 12) (hoc : o.data = .cell (some (.ref ld))) (hif : IntsAre vf (toI (chkN 1 x row))) (his : IntsAre vs (toI (chkN 734539939 x row))) (hia : IntsAre va (toI (digN 734539938))) (F : Fr h₀ L s.heap (mp "apart" (.ref la) (mp "first" (.ref lf) (mp "second" (.ref ls) (mp "row" (.ref lr) (mp "other" (.ref lo) (mp "size" (.int sz tsz) (mp "name" (.str x u) m0)))))))) (N : News h₀ L s.heap ((la, listOf va.toArray na) :: ((lf, listOf vf.toArray nf) :: (ls, listOf vs.toArray ns) :: [(lr, listOf vr.toArray nr), (lo, listOf vo.toArray no), (ld, listOf vd.toArray nd), (L + 1, o)]))) (hk : Next w (callerA.deeper (lawEnv L fa cd)) (List.drop 10 lawBody) (lawEnv L fa cd) h₀ L (mp "apart" (.ref la) (mp "first" (.ref lf) (mp "second" (.ref ls) (mp "row" (.ref lr) (mp "other" (.ref lo) (mp "size" (.int sz tsz) (mp "name" (.str x u) m0))))))) ((lf, listOf vf.toArray nf) :: (ls, listOf vs.toArray ns) :: [(lr, listOf vr.toArray nr), (lo, listOf vo.toArray no), (ld, listOf vd.toArray nd), (L + 1, o)]) Q E s) :
    wpAny (model PySem.Challenge.rw_vn0010_01.row.prog w) (callerA.deeper (lawEnv L fa cd)) (execs (List.drop 9 lawBody) (lawEnv L fa cd)) Q E s := by
  have hs : StopAt (List.drop 10 lawBody) := trivial
  dsimp only [lawEnv, lawBody, lawScope, lawStmt, PySem.Challenge.pw_vn0010_01, List.drop] at hs hk ⊢
  k_with_none
  k_steps
  exact hk _ _ (by k_asm) (cb_drop (by k_asm) (by kcf_all))
set_option maxRecDepth 100000 in
set_option maxHeartbeats 4000000 in
theorem g6 (B : Below callerA h₀ [] h₀) (X : (hd.heap_39 w.params).In h₀) (T : Top p loose mean mg mb h₀) (hx : NameOk x) (hir : IntsAre vr (toI row)) (hio : IntsAre vo (toI other)) (hid : IntsAre vd [d0, d1, d2, d3, d4, d5]) (hdr : Dig row) (hdo : Dig other) (hlr : row.length ≤ 12) (hlo : other.length ≤ 12) (hoc : o.data = .cell (some (.ref ld))) (hif : IntsAre vf (toI (chkN 1 x row))) (his : IntsAre vs (toI (chkN 734539939 x row))) (F : Fr h₀ L s.heap (mp "apart" (.ref la) (mp "first" (.ref lf) (mp "second" (.ref ls) (mp "row" (.ref lr) (mp "other" (.ref lo) (mp "size" (.int sz tsz) (mp "name" (.str x u) m0)))))))) (N : News h₀ L s.heap ((lf, listOf vf.toArray nf) :: (ls, listOf vs.toArray ns) :: [(lr, listOf vr.toArray nr), (lo, listOf vo.toArray no), (ld, listOf vd.toArray nd), (L + 1, o)])) (hk : Next w (callerA.deeper (lawEnv L fa cd)) (List.drop 11 lawBody) (lawEnv L fa cd) h₀ L (mp "apart" (.ref la) (mp "first" (.ref lf) (mp "second" (.ref ls) (mp "row" (.ref lr) (mp "other" (.ref lo) (mp "size" (.int sz tsz) (mp "name" (.str x u) m0))))))) ((lf, listOf vf.toArray nf) :: (ls, listOf vs.toArray ns) :: [(lr, listOf vr.toArray nr), (lo, listOf vo.toArray no), (ld, listOf vd.toArray nd), (L + 1, o)]) Q E s) :
    wpAny (model PySem.Challenge.rw_vn0010_01.row.prog w) (callerA.deeper (lawEnv L fa cd)) (execs (List.drop 10 lawBody) (lawEnv L fa cd)) Q E s := by
  have hs : StopAt (List.drop 11 lawBody) := trivial
  dsimp only [lawEnv, lawBody, lawScope, lawStmt, PySem.Challenge.pw_vn0010_01, List.drop] at hs hk ⊢
  k_with_none
  k_steps
  exact hk _ _ (by k_asm) (cb_drop (by k_asm) (by kcf_all))
set_option maxRecDepth 100000 in
set_option maxHeartbeats 4000000 in
theorem g7 (B : Below callerA h₀ [] h₀) (X : (hd.heap_39 w.params).In h₀) (T : Top p loose mean mg mb h₀) (hx : NameOk x) (hir : IntsAre vr (toI row)) (hio : IntsAre vo (toI other)) (hid : IntsAre vd [d0, d1, d2, d3, d4, d5]) (hdr : Dig row) (hdo : Dig other) (hlr : row.length ≤ 12) (hlo : other.length ≤ 12) (hoc : o.data = .cell (some (.ref ld))) (hif : IntsAre vf (toI (chkN 1 x row))) (his : IntsAre vs (toI (chkN 734539939 x row))) (F : Fr h₀ L s.heap (mp "apart" (.ref la) (mp "first" (.ref lf) (mp "second" (.ref ls) (mp "row" (.ref lr) (mp "other" (.ref lo) (mp "size" (.int sz tsz) (mp "name" (.str x u) m0)))))))) (N : News h₀ L s.heap ((lf, listOf vf.toArray nf) :: (ls, listOf vs.toArray ns) :: [(lr, listOf vr.toArray nr), (lo, listOf vo.toArray no), (ld, listOf vd.toArray nd), (L + 1, o)])) (hk : ∀ (lw : Addr) (vw : List Value) (nw : Nat) (e : Nat), 0 < e → e < 32 → IntsAre vw (toI (wrN e (chkN 1 x row))) → Next w (callerA.deeper (lawEnv L fa cd)) (List.drop 12 lawBody) (lawEnv L fa cd) h₀ L (mp "wrong" (.ref lw) (mp "apart" (.ref la) (mp "first" (.ref lf) (mp "second" (.ref ls) (mp "row" (.ref lr) (mp "other" (.ref lo) (mp "size" (.int sz tsz) (mp "name" (.str x u) m0)))))))) ((lw, listOf vw.toArray nw) :: ((lf, listOf vf.toArray nf) :: (ls, listOf vs.toArray ns) :: [(lr, listOf vr.toArray nr), (lo, listOf vo.toArray no), (ld, listOf vd.toArray nd), (L + 1, o)])) Q E s) :
    wpAny (model PySem.Challenge.rw_vn0010_01.row.prog w) (callerA.deeper (lawEnv L fa cd)) (execs (List.drop 11 lawBody) (lawEnv L fa cd)) Q E s := by
  have hs : StopAt (List.drop 12 lawBody) := trivial
  dsimp only [lawEnv, lawBody, lawScope, lawStmt, PySem.Challenge.pw_vn0010_01, List.drop] at hs hk ⊢
  k_with_none
  k_steps
  rename IntsAre _ _ => hI
  have hI2 : IntsAre _ (toI (wrN (1 + d4.fmod 31).toNat (chkN 1 x row))) := (wr_eq x row d4) ▸ (show IntsAre _ ((toI (chkN 1 x row)).take 5 ++ [Builtin.bitXor ((toI (chkN 1 x row)).getD 5 0) (1 + d4.fmod 31)]) from hI)
  exact hk _ _ _ _ (fmod31 d4).1 (fmod31 d4).2.1 hI2 _ _ (by k_asm) (cb_drop (by k_asm) (by kcf_all))
set_option maxRecDepth 100000 in
set_option maxHeartbeats 4000000 in
theorem g8 (B : Below callerA h₀ [] h₀) (X : (hd.heap_39 w.params).In h₀) (T : Top p loose mean mg mb h₀) (hx : NameOk x) (hir : IntsAre vr (toI row)) (hio : IntsAre vo (toI other)) (hid : IntsAre vd [d0, d1, d2, d3, d4, d5]) (hdr : Dig row) (hdo : Dig other) (hlr : row.length ≤ 12) (hlo : other.length ≤ 12) (hoc : o.data = .cell (some (.ref ld))) (hif : IntsAre vf (toI (chkN 1 x row))) (his : IntsAre vs (toI (chkN 734539939 x row))) (e : Nat) (he0 : 0 < e) (he : e < 32) (hiw : IntsAre vw (toI (wrN e (chkN 1 x row)))) (F : Fr h₀ L s.heap (mp "wrong" (.ref lw) (mp "apart" (.ref la) (mp "first" (.ref lf) (mp "second" (.ref ls) (mp "row" (.ref lr) (mp "other" (.ref lo) (mp "size" (.int sz tsz) (mp "name" (.str x u) m0))))))))) (N : News h₀ L s.heap ((lw, listOf vw.toArray nw) :: ((lf, listOf vf.toArray nf) :: (ls, listOf vs.toArray ns) :: [(lr, listOf vr.toArray nr), (lo, listOf vo.toArray no), (ld, listOf vd.toArray nd), (L + 1, o)]))) (hk : Next w (callerA.deeper (lawEnv L fa cd)) (List.drop 13 lawBody) (lawEnv L fa cd) h₀ L (mp "wrong" (.ref lw) (mp "apart" (.ref la) (mp "first" (.ref lf) (mp "second" (.ref ls) (mp "row" (.ref lr) (mp "other" (.ref lo) (mp "size" (.int sz tsz) (mp "name" (.str x u) m0)))))))) ((lf, listOf vf.toArray nf) :: (ls, listOf vs.toArray ns) :: [(lr, listOf vr.toArray nr), (lo, listOf vo.toArray no), (ld, listOf vd.toArray nd), (L + 1, o)]) Q E s) :
    wpAny (model PySem.Challenge.rw_vn0010_01.row.prog w) (callerA.deeper (lawEnv L fa cd)) (execs (List.drop 12 lawBody) (lawEnv L fa cd)) Q E s := by
  have hs : StopAt (List.drop 13 lawBody) := trivial
  dsimp only [lawEnv, lawBody, lawScope, lawStmt, PySem.Challenge.pw_vn0010_01, List.drop] at hs hk ⊢
  k_with_none
  k_steps
  exact hk _ _ (by k_asm) (cb_drop (by k_asm) (by kcf_all))
set_option maxRecDepth 100000 in
set_option maxHeartbeats 4000000 in
theorem g9 (B : Below callerA h₀ [] h₀) (X : (hd.heap_39 w.params).In h₀) (T : Top p loose mean mg mb h₀) (hx : NameOk x) (hir : IntsAre vr (toI row)) (hio : IntsAre vo (toI other)) (hid : IntsAre vd [d0, d1, d2, d3, d4, d5]) (hdr : Dig row) (hdo : Dig other) (hlr : row.length ≤ 12) (hlo : other.length ≤ 12) (hoc : o.data = .cell (some (.ref ld))) (hif : IntsAre vf (toI (chkN 1 x row))) (his : IntsAre vs (toI (chkN 734539939 x row))) (F : Fr h₀ L s.heap (mp "wrong" (.ref lw) (mp "apart" (.ref la) (mp "first" (.ref lf) (mp "second" (.ref ls) (mp "row" (.ref lr) (mp "other" (.ref lo) (mp "size" (.int sz tsz) (mp "name" (.str x u) m0))))))))) (N : News h₀ L s.heap ((lf, listOf vf.toArray nf) :: (ls, listOf vs.toArray ns) :: [(lr, listOf vr.toArray nr), (lo, listOf vo.toArray no), (ld, listOf vd.toArray nd), (L + 1, o)])) (hk : ∀ (lm : Addr) (vm : List Value) (nm : Nat), IntsAre vm (toI (List.zipWith (· ^^^ ·) (chkN 1 x row) (chkN 734539939 x other))) → Next w (callerA.deeper (lawEnv L fa cd)) (List.drop 14 lawBody) (lawEnv L fa cd) h₀ L (mp "mixed" (.ref lm) (mp "wrong" (.ref lw) (mp "apart" (.ref la) (mp "first" (.ref lf) (mp "second" (.ref ls) (mp "row" (.ref lr) (mp "other" (.ref lo) (mp "size" (.int sz tsz) (mp "name" (.str x u) m0))))))))) ((lm, listOf vm.toArray nm) :: ((lf, listOf vf.toArray nf) :: (ls, listOf vs.toArray ns) :: [(lr, listOf vr.toArray nr), (lo, listOf vo.toArray no), (ld, listOf vd.toArray nd), (L + 1, o)])) Q E s) :
    wpAny (model PySem.Challenge.rw_vn0010_01.row.prog w) (callerA.deeper (lawEnv L fa cd)) (execs (List.drop 13 lawBody) (lawEnv L fa cd)) Q E s := by
  have hs : StopAt (List.drop 14 lawBody) := trivial
  dsimp only [lawEnv, lawBody, lawScope, lawStmt, PySem.Challenge.pw_vn0010_01, List.drop] at hs hk ⊢
  k_with_none
  k_steps
  exact hk _ _ _ (by assumption) _ _ (by k_asm) (cb_drop (by k_asm) (by kcf_all))
set_option maxRecDepth 100000 in
set_option maxHeartbeats 4000000 in
theorem g10 (B : Below callerA h₀ [] h₀) (X : (hd.heap_39 w.params).In h₀) (T : Top p loose mean mg mb h₀) (hx : NameOk x) (hir : IntsAre vr (toI row)) (hio : IntsAre vo (toI other)) (hid : IntsAre vd [d0, d1, d2, d3, d4, d5]) (hdr : Dig row) (hdo : Dig other) (hlr : row.length ≤ 12) (hlo : other.length ≤ 12) (hoc : o.data = .cell (some (.ref ld))) (hif : IntsAre vf (toI (chkN 1 x row))) (his : IntsAre vs (toI (chkN 734539939 x row))) (him : IntsAre vm (toI (List.zipWith (· ^^^ ·) (chkN 1 x row) (chkN 734539939 x other)))) (hz0 : 0 ≤ sz) (hz1 : sz < 13) (hzr : row.length = sz.toNat) (hro : row.length = other.length) (F : Fr h₀ L s.heap (mp "mixed" (.ref lm) (mp "wrong" (.ref lw) (mp "apart" (.ref la) (mp "first" (.ref lf) (mp "second" (.ref ls) (mp "row" (.ref lr) (mp "other" (.ref lo) (mp "size" (.int sz tsz) (mp "name" (.str x u) m0)))))))))) (N : News h₀ L s.heap ((lm, listOf vm.toArray nm) :: ((lf, listOf vf.toArray nf) :: (ls, listOf vs.toArray ns) :: [(lr, listOf vr.toArray nr), (lo, listOf vo.toArray no), (ld, listOf vd.toArray nd), (L + 1, o)]))) (hk : ∀ (h' : Heap) (tk' : Nat) (m' : Str → Option Value), Fr h₀ L h' m' → Q (.ret (.bool true)) { s with heap := h', toks := tk' }) :
    wpAny (model PySem.Challenge.rw_vn0010_01.row.prog w) (callerA.deeper (lawEnv L fa cd)) (execs (List.drop 14 lawBody) (lawEnv L fa cd)) Q E s := by
  dsimp only [lawEnv, lawBody, lawScope, lawStmt, PySem.Challenge.pw_vn0010_01, List.drop] at hk ⊢
  k_with_none
  k_steps
  exact hk _ _ _ (by k_asm)
theorem law_rest (B : Below callerA h₀ [] h₀) (X : (hd.heap_39 w.params).In h₀) (T : Top p loose mean mg mb h₀) (hx : NameOk x) (hir : IntsAre vr (toI row)) (hio : IntsAre vo (toI other)) (hid : IntsAre vd [d0, d1, d2, d3, d4, d5]) (hdr : Dig row) (hdo : Dig other) (hlr : row.length ≤ 12) (hlo : other.length ≤ 12) (hoc : o.data = .cell (some (.ref ld))) (hzr : row.length = (sz - 0).toNat) (hzo : other.length = (sz - 0).toNat) (hz0 : 0 ≤ sz) (hz1 : sz < 13) (F : Fr h₀ L s.heap (mp "row" (.ref lr) (mp "other" (.ref lo) (mp "size" (.int sz tsz) (mp "name" (.str x u) m0))))) (N : News h₀ L s.heap [(lr, listOf vr.toArray nr), (lo, listOf vo.toArray no), (ld, listOf vd.toArray nd), (L + 1, o)])
    (fin : ∀ (h' : Heap) (tk' : Nat) (m' : Str → Option Value), Fr h₀ L h' m' → Q (.ret (.bool true)) { s with heap := h', toks := tk' }) :
    wpAny (model PySem.Challenge.rw_vn0010_01.row.prog w) (callerA.deeper (lawEnv L fa cd)) (execs (List.drop 4 lawBody) (lawEnv L fa cd)) Q E s := by
  have hz : row.length = sz.toNat := hzr.trans (by rw [Int.sub_zero])
  have hro : row.length = other.length := hzr.trans hzo.symm
  refine g1 B X T hx hir hio hid hdr hdo hlr hlo hoc F N fun h1 t1 F1 N1 => ?_
  refine g2 B X T hx hir hio hid hdr hdo hlr hlo hoc F1 N1 fun lf ls vf vs nf ns hif his h2 t2 F2 N2 => ?_
  refine g3 B X T hx hir hio hid hdr hdo hlr hlo hoc hif his F2 N2 fun h3 t3 F3 N3 => ?_
  refine g4 B X T hx hir hio hid hdr hdo hlr hlo hoc hif his F3 N3 fun la va na hia h4 t4 F4 N4 => ?_
  refine g5 B X T hx hir hio hid hdr hdo hlr hlo hoc hif his hia F4 N4 fun h5 t5 F5 N5 => ?_
  refine g6 B X T hx hir hio hid hdr hdo hlr hlo hoc hif his F5 N5 fun h6 t6 F6 N6 => ?_
  refine g7 B X T hx hir hio hid hdr hdo hlr hlo hoc hif his F6 N6 fun lw vw nw e he0 he hiw h7 t7 F7 N7 => ?_
  refine g8 B X T hx hir hio hid hdr hdo hlr hlo hoc hif his e he0 he hiw F7 N7 fun h8 t8 F8 N8 => ?_
  refine g9 B X T hx hir hio hid hdr hdo hlr hlo hoc hif his F8 N8 fun lm vm nm him h9 t9 F9 N9 => ?_
  exact g10 B X T hx hir hio hid hdr hdo hlr hlo hoc hif his him hz0 hz1 hz hro F9 N9 fun h' tk' m' F' => fin h' tk' m' F'
set_option maxRecDepth 100000 in
set_option maxHeartbeats 4000000 in
theorem lawtry : PySem.Challenge.rw_vn0010_01.Holds := Mine.hd (by
  k_go0
  all_goals try k_fold
  k_with_none
  have hs : StopAt (List.drop 4 lawBody) := trivial
  dsimp only [lawBody, lawStmt, PySem.Challenge.pw_vn0010_01, List.drop] at hs
  k_steps
  refine' law_rest ?B ?X ?T ?hx ?hir ?hio ?hid ?hdr ?hdo ?hlr ?hlo ?hoc ?hzr ?hzo ?hz0 ?hz1 ?F ?N ?fin
  case F => k_asm
  case hoc => assumption
  case N => exact (cb_drop (by k_asm) (by kcf_all))
  case B => k_asm
  case X => k_asm
  case T => k_asm
  case hx => assumption
  case hir => assumption
  case hio => assumption
  case hid => assumption
  case hdr => assumption
  case hdo => assumption
  case hlr => assumption
  case hlo => assumption
  case hzr => assumption
  case hzo => assumption
  case hz0 => assumption
  case hz1 => assumption
  case fin =>
    intro h' tk' m' F'
    k_steps)
end
end Mine

theorem PySem.Challenge.cw_vn0010_01_holds : PySem.Challenge.rw_vn0010_01.Holds := by
  exact Mine.lawtry
