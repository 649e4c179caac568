import PyProof.Rows.All
import Wide.All
import OpenK.AllK
import Wide.FinOn
import PySem.Challenge.RW_iv0008_01
open PySem PySem.W PyProof.Rows PySem.Calls
set_option Elab.async false
set_option maxRecDepth 100000
namespace Mine
/-! bytes(b), b bytes: the builtin's tree, worked out by equations, is one note and b itself. -/
theorem lk_bytes : typeLookup (.type "bytes") "__bytes__" = pure (some (.builtin "bytes.__bytes__")) := by rw [typeLookup_type, builtinLookup_eq_fast]; kernel_rfl
theorem bytes_tree (b : Array UInt8) (t : Tok) : Builtin.«bytes.__new__» ⟨[.type "bytes", .bytes b t], []⟩ = (do rule "bytes.__new__.of-bytes"; ret (.bytes b t)) := by
  have ty : typeOf (.bytes b t) = pure (.type "bytes") := rfl
  have cl : isType (.type "bytes") = pure true := rfl
  have ck : ∀ x, Builtin.Bytes.checkCodecArg "bytes.__new__" "bytes" x none = pure () := fun _ => rfl
  have sp : specialOf (.bytes b t) "__bytes__" = pure (some (.builtin "bytes.__bytes__")) := by rw [specialOf, ty]; exact lk_bytes
  have eq : (Value.type "bytes" == Value.type "bytes") = true := by decide
  unfold Builtin.«bytes.__new__»
  simp only [cl, F.bm_sub, F.bm_bind, ck, sp, ty, eq, pure_bind, Bool.not_true, Bool.false_eq_true, if_false, if_true, Option.isSome_none]
  rfl
theorem bytes_meets (b : Array UInt8) (t : Tok) : Meets (Builtin.«bytes.__new__» ⟨[.type "bytes", .bytes b t], []⟩) (fun _ R s => R (.ok (.ret (.bytes b t))) s) :=
  fun _ _ _ _ _ h => bytes_tree b t ▸ wpAny_bind (wpAny_rule (wpAny_pure h))
section
variable {prog : Program} {w : World} {A : Around} {E : Value → Shared → Prop} {s : Shared}
theorem bb_call {b : Array UInt8} {t : Tok} {Q : Value → Shared → Prop} (h : Q (.bytes b t) s) : wpAny (model prog w) A (call (.type "bytes") [.bytes b t]) Q E s :=
  callType_new F.bm_called (by decide) (F.bm_typeCall _) (F.bm_newCall _) (fun obj => F.args_object_init_2 obj _) F.bm_entry (bytes_meets b t) ⟨typeIs_bytes _ _ _, h⟩
end
end Mine
namespace Mine
def rN (b : Int) : Nat := ((b + 1) / 2).toNat
theorem rN_size {b : Int} (h0 : 0 ≤ b) : Builtin.Range.rangeSize 0 b 2 = (rN b : Int) := by
  unfold Builtin.Range.rangeSize rN
  simp only [show (2 : Int) > 0 by decide, if_true]
  split <;> omega
theorem rN_small {b : Int} (h0 : 0 ≤ b) (h1 : b < 2 ^ 40) : Builtin.Range.small 0 b 2 = true := by
  unfold Builtin.Range.small
  rw [rN_size h0]
  unfold rN
  simp only [Builtin.Range.rangeFitsLong, Bool.and_eq_true, Bool.or_eq_true, decide_eq_true_eq, beq_iff_eq, show (2 : Int) > 0 by decide, if_true]
  omega
theorem rN_lt {b : Int} {i : Nat} (h : i < rN b) : 2 * (i : Int) < b := by
  unfold rN at h
  omega
theorem rN_le {b : Int} {i : Nat} (h : i < rN b) (hb : b < 64) : i < 64 := by
  unfold rN at h
  omega

def fd (fs : List (Int × Int)) : List Dat := fs.map fun p => .tuple [.int p.1, .int p.2]
abbrev off (fs : List (Int × Int)) : Int := (fs.map fun x => x.1).sum
def W (i : Nat) (ds es : List Dat) (pl sp tot : Int) : Prop :=
  ∃ fs : List (Int × Int), ds = fd fs ∧ es = fd fs ∧ sp = pl ∧ tot = (fs.map fun x => x.1).sum ∧ fs.length ≤ i ∧ 0 ≤ pl ∧ ∀ p ∈ fs, 0 ≤ p.1 ∧ 0 ≤ p.2

section
variable {prog : Program} {w : World} {A : Around} {E : Value → Shared → Prop} {s : Shared} {env : Env} {h₀ : Heap} {x : Str} {body : List Stmt} {Q : Flow → Shared → Prop}

/-- a loop over a range of any step, an invariant J between its turns -/
theorem range_loop {r : Addr} {a₀ b₀ c : Int} {t₀ u₀ v₀ : Tok} {n : Nat} {m₀ : Str → Option Value} {news nx : List (Addr × Obj)} (J : Nat → (Str → Option Value) → List (Addr × Obj) → Prop)
    (hh : A.handled = none) (hr : IsRange s.heap r a₀ b₀ c t₀ u₀ v₀) (small : Builtin.Range.small a₀ b₀ c = true) (size : Builtin.Range.rangeSize a₀ b₀ c = (n : Int)) (F : Fr h₀ env.locals s.heap m₀) (N : News h₀ env.locals s.heap news) (sub : ∀ p ∈ nx, p ∈ news) (start : J 0 m₀ nx)
    (turn : ∀ i v t m₁ nx₁ h tk own, i < n → v = a₀ + (i : Int) * c → OwnOff own (nx₁.map (·.1)) → J i m₁ nx₁ → Fr h₀ env.locals h (fun y => if y = x then some (.int v t) else m₁ y) → News h₀ env.locals h (nx₁ ++ own) →
      wpAny (model prog w) A (execs body env) (InvPostG h₀ env.locals (J (i + 1)) own { s with heap := h, toks := tk } Q) E { s with heap := h, toks := tk })
    (done : ∀ m₁ nx₁ h tk, J n m₁ nx₁ → Fr h₀ env.locals h m₁ → News h₀ env.locals h nx₁ → Q .next { s with heap := h, toks := tk }) :
    wpAny (model prog w) A (pyIter (.ref r)) (fun it s₂ => LoopAtV prog w A h₀ env x body Q E it s₂) E s := by
  have below : ∀ b o, s.heap.get? b = some o → b ∉ [s.heap.objs.size] := fun b o q z => by
    obtain rfl := List.mem_singleton.mp z
    exact Nat.lt_irrefl _ (Heap.lt_size q)
  have Nx : News h₀ env.locals s.heap nx := fun p hp => N p (sub p hp)
  have walk := Walks.range (prog := prog) (w := w) hh s.heap.objs.size a₀ c n
  refine wpAny_pyIter_range hr small (kdr_loop J walk (fun _ z => z) (fun _ z => z) ?at_ (fun z => ?own) ?new (fun p hp => below _ _ (Nx p hp).1) ?it (F.push _) (fun p hp => ⟨Heap.get?_push_of_some _ (Nx p hp).1, (Nx p hp).2⟩) start ?turn fun m₁ nx₁ h tk => done m₁ nx₁ h tk)
  case at_ => intro i h st b z; exact List.mem_singleton.mp z ▸ ⟨_, st⟩
  case own => exact Nat.lt_irrefl _ (List.mem_singleton.mp z ▸ F.ns.lt)
  case new => intro b z; exact List.mem_singleton.mp z ▸ next_is_new F
  case it =>
    have it := Heap.get?_push_size s.heap (o := { cls := .type "range_iterator", data := .fields #[rawInt a₀, rawInt (Builtin.Range.rangeSize a₀ b₀ c), rawInt c] }) rfl
    rw [size] at it ⊢
    simpa [IsRangeIter] using it
  case turn =>
    rintro i _ m₁ nx₁ h tk own hi ⟨t, rfl⟩ off j F₁ N₁
    exact turn i _ t m₁ nx₁ h tk own hi rfl off j F₁ N₁

theorem my_for {r : Addr} {b₀ : Int} {t₀ u₀ v₀ : Tok} {m₀ : Str → Option Value} {A1 B1 x d : Addr} {X : Obj} {q1 q2 : Addr × Obj} {e1 : DictEntry} {g2 g3 g4 : Int} {k2 k3 k4 : Value} {t2 t4 tp : Tok} {nd : Nat} {cst : List (Addr × Obj)} {adr : List Addr}
    (hh : A.handled = none) (hr : IsRange s.heap r 0 b₀ 2 t₀ u₀ v₀) (hb0 : 0 ≤ b₀) (hb1 : b₀ < 2 ^ 40) (F : Fr h₀ env.locals s.heap m₀)
    (N : News h₀ env.locals s.heap ((B1, listOf #[] 0) :: (A1, listOf #[] 0) :: q1 :: q2 :: (x, X) :: (d, dictOf [e1, ⟨g2, k2, .int 0 t2⟩, ⟨g3, k3, .ref A1⟩, ⟨g4, k4, .int 0 t4⟩] nd) :: cst))
    (hadr : B1 :: A1 :: d :: q1.1 :: q2.1 :: x :: cst.map (·.1) = adr) (hk : m₀ (Str.ofString "place") = some (.int 0 tp))
    (turn : ∀ (vs us : List Value) (ds es : List Dat) (na nb : Nat) (pl sp tot : Int) (tpl tsp tt : Tok) tl (i : Nat) t (u : Str → Option Value) h tk own, i < rN b₀ → KdSep own tl adr → OwnOff (tl ++ own) adr →
      DatAll (q1 :: q2 :: (x, X) :: (cst ++ tl)) vs ds → DatAll (q1 :: q2 :: (x, X) :: (cst ++ tl)) us es → W i ds es pl sp tot →
      Fr h₀ env.locals h (fun y => if y = Str.ofString "k" then some (.int (2 * (i : Int)) t) else if y = Str.ofString "place" then some (.int pl tpl) else if ([Str.ofString "kind", Str.ofString "number", Str.ofString "start", Str.ofString "due"] : List Str).contains y then u y else m₀ y) →
      News h₀ env.locals h ((B1, listOf us.toArray nb) :: (A1, listOf vs.toArray na) :: (d, dictOf [e1, ⟨g2, k2, .int sp tsp⟩, ⟨g3, k3, .ref A1⟩, ⟨g4, k4, .int tot tt⟩] nd) :: q1 :: q2 :: (x, X) :: (cst ++ (tl ++ own))) →
      wpAny (model prog w) A (execs body env) (InvPostG h₀ env.locals (KdS (fun c : List Value × List Dat × Nat × List Value × List Dat × Nat × Int × Tok × Int × Tok × Int × Tok => [(B1, listOf c.2.2.2.1.toArray c.2.2.2.2.2.1), (A1, listOf c.1.toArray c.2.2.1), (d, dictOf [e1, ⟨g2, k2, .int c.2.2.2.2.2.2.2.2.1 c.2.2.2.2.2.2.2.2.2.1⟩, ⟨g3, k3, .ref A1⟩, ⟨g4, k4, .int c.2.2.2.2.2.2.2.2.2.2.1 c.2.2.2.2.2.2.2.2.2.2.2⟩] nd)]) (q1 :: q2 :: (x, X) :: cst)
        (fun c => [(Str.ofString "place", .int c.2.2.2.2.2.2.1 c.2.2.2.2.2.2.2.1)]) (fun L c => DatAll L c.1 c.2.1 ∧ DatAll L c.2.2.2.1 c.2.2.2.2.1) (Str.ofString "k") ([Str.ofString "kind", Str.ofString "number", Str.ofString "start", Str.ofString "due"] : List Str) m₀
        (fun i c => W i c.2.1 c.2.2.2.2.1 c.2.2.2.2.2.2.1 c.2.2.2.2.2.2.2.2.1 c.2.2.2.2.2.2.2.2.2.2.1) adr (i + 1)) own { s with heap := h, toks := tk } Q) E { s with heap := h, toks := tk })
    (done : ∀ (vs us : List Value) (ds es : List Dat) (na nb : Nat) (pl sp tot : Int) (tpl tsp tt : Tok) tl (u : Str → Option Value) h tk, OwnOff tl adr →
      DatAll (q1 :: q2 :: (x, X) :: (cst ++ tl)) vs ds → DatAll (q1 :: q2 :: (x, X) :: (cst ++ tl)) us es → W (rN b₀) ds es pl sp tot →
      Fr h₀ env.locals h (fun y => if y = Str.ofString "k" then u y else if y = Str.ofString "place" then some (.int pl tpl) else if ([Str.ofString "kind", Str.ofString "number", Str.ofString "start", Str.ofString "due"] : List Str).contains y then u y else m₀ y) →
      News h₀ env.locals h ((B1, listOf us.toArray nb) :: (A1, listOf vs.toArray na) :: (d, dictOf [e1, ⟨g2, k2, .int sp tsp⟩, ⟨g3, k3, .ref A1⟩, ⟨g4, k4, .int tot tt⟩] nd) :: q1 :: q2 :: (x, X) :: (cst ++ tl)) → Q .next { s with heap := h, toks := tk }) :
    wpAny (model prog w) A (pyIter (.ref r)) (fun it s₂ => LoopAtV prog w A h₀ env (Str.ofString "k") body Q E it s₂) E s := by
  refine range_loop (fun i => KdS (fun c : List Value × List Dat × Nat × List Value × List Dat × Nat × Int × Tok × Int × Tok × Int × Tok => [(B1, listOf c.2.2.2.1.toArray c.2.2.2.2.2.1), (A1, listOf c.1.toArray c.2.2.1), (d, dictOf [e1, ⟨g2, k2, .int c.2.2.2.2.2.2.2.2.1 c.2.2.2.2.2.2.2.2.2.1⟩, ⟨g3, k3, .ref A1⟩, ⟨g4, k4, .int c.2.2.2.2.2.2.2.2.2.2.1 c.2.2.2.2.2.2.2.2.2.2.2⟩] nd)]) (q1 :: q2 :: (x, X) :: cst)
        (fun c => [(Str.ofString "place", .int c.2.2.2.2.2.2.1 c.2.2.2.2.2.2.2.1)]) (fun L c => DatAll L c.1 c.2.1 ∧ DatAll L c.2.2.2.1 c.2.2.2.2.1) (Str.ofString "k") ([Str.ofString "kind", Str.ofString "number", Str.ofString "start", Str.ofString "due"] : List Str) m₀
        (fun i c => W i c.2.1 c.2.2.2.2.1 c.2.2.2.2.2.2.1 c.2.2.2.2.2.2.2.2.1 c.2.2.2.2.2.2.2.2.2.2.1) adr i)
    hh hr (rN_small hb0 hb1) (rN_size hb0) F N ?sub ⟨⟨[], [], 0, [], [], 0, 0, tp, 0, t2, 0, t4⟩, [], rfl, fun _ z => (nomatch z), ⟨.nil, .nil⟩, fun p z => List.mem_singleton.mp z ▸ hk, fun _ _ _ _ => rfl, ⟨[], rfl, rfl, rfl, rfl, Nat.le_refl _, Int.le_refl _, fun _ z => nomatch z⟩⟩ ?turn ?done
  case sub =>
    intro p z
    simp only [List.append_nil, List.cons_append, List.nil_append, List.mem_cons] at z ⊢
    rcases z with z | z | z | z | z | z | z <;> simp only [z, true_or, or_true]
  case turn =>
    rintro i v t m₁ nx₁ h tk own hi rfl off ⟨⟨vs, ds, na, us, es, nb, pl, tpl, sp, tsp, tot, tt⟩, tl, rfl, ot, ⟨f1, f2⟩, hps, oth, inv⟩ F₁ N₁
    obtain ⟨o1, o2⟩ := kd_split (Led := [(B1, _), (A1, _), (d, _)]) (cst := q1 :: q2 :: (x, X) :: cst) hadr off
    rw [List.append_assoc, List.append_assoc] at N₁
    rw [Int.zero_add, Int.mul_comm] at F₁
    exact turn vs us ds es na nb pl sp tot tpl tsp tt tl i t m₁ h tk own hi ⟨o1, o2, ot⟩ (kd_off o1 ot) f1 f2 inv (kst_fr hps oth F₁) N₁
  case done =>
    rintro m₁ nx₁ h tk ⟨⟨vs, ds, na, us, es, nb, pl, tpl, sp, tsp, tot, tt⟩, tl, rfl, ot, ⟨f1, f2⟩, hps, oth, inv⟩ F₁ N₁
    exact done vs us ds es na nb pl sp tot tpl tsp tt tl m₁ h tk ot f1 f2 inv (kst_frOut hps oth F₁) N₁
end
end Mine
namespace Mine
theorem fd_get {L9 : List (Addr × Obj)} {us : List Value} {fs : List (Int × Int)} (hd : DatAll L9 us (fd fs)) {i : Nat} {v : Value} (hv : us[i]? = some v) :
    ∃ p a tx ty n, fs[i]? = some p ∧ v = .ref a ∧ (a, ({ cls := .type "tuple", data := .seq #[.int p.1 tx, .int p.2 ty] n } : Obj)) ∈ L9 := by
  have hlen : us.length = fs.length := by rw [hd.length]; simp [fd]
  have hi : i < us.length := (List.getElem?_eq_some_iff.mp hv).1
  obtain ⟨v', hv', hD⟩ := hd.get (k := i) (by simp [fd]; omega)
  rw [hv] at hv'
  obtain rfl := Option.some.inj hv'
  have e : (fd fs)[i]'(by simp [fd]; omega) = .tuple [.int (fs[i]'(by omega)).1, .int (fs[i]'(by omega)).2] := by simp [fd]
  rw [e] at hD
  cases hD with
  | tuple hm hr =>
    cases hr with
    | cons h1 r1 =>
      cases r1 with
      | cons h2 r2 =>
        cases r2
        cases h1
        cases h2
        exact ⟨_, _, _, _, _, List.getElem?_eq_getElem (by omega), rfl, hm⟩
section
variable {prog : Program} {w : World} {A : Around} {E : Value → Shared → Prop} {s : Shared} {h₀ : Heap} {L : Addr} {m : Str → Option Value} {env : Env}
theorem comp_rest {x : Str} {p1 p2 p3 : Pos} {scope : Scope} {cl : List (Str × Addr)} {S : List (Addr × Obj) → Prop} {Fin : List Value → List (Addr × Obj) → Prop} {news L9 : List (Addr × Obj)} {us : List Value} {fs : List (Int × Int)}
    (hk : scope.kind = .function) (hx : scope.names.lookup x = some .local) (hdb : (x == ("__debug__" : Str)) = false) (hd : DatAll L9 us (fd fs)) (hL : ∀ p ∈ L9, p ∈ news) (hS : S news)
    (fin : ∀ ys, IntsAre ys (fs.map (·.1)) → Fin ys news) :
    LCg.CompRest prog w A h₀ L m env (.Subscript (.Name x p1) (.Constant (.int 0) 0 p2) p3) x scope cl s S (fun i v => us.toArray[i]? = some v) Fin us.toArray.size 0 [] news := by
  have hlen : us.length = fs.length := by rw [hd.length]; simp [fd]
  have key : ∀ (j i : Nat) (ys : List Value), i + j = us.length → IntsAre ys ((fs.take i).map (·.1)) → LCg.CompRest prog w A h₀ L m env (.Subscript (.Name x p1) (.Constant (.int 0) 0 p2) p3) x scope cl s S (fun i v => us.toArray[i]? = some v) Fin j i ys news := by
    intro j
    induction j with
    | zero =>
      intro i ys hi hy
      refine LCg.CompRest.zero (fin ys ?_)
      rw [List.take_of_length_le (by omega)] at hy
      exact hy
    | succ j ih =>
      intro i ys hi hy
      refine LCg.CompRest.succ ?_
      intro v I oI C oC D m₂ h tk E' hv hC hxm F N off ne
      have hv' : us[i]? = some v := by simpa using hv
      obtain ⟨p, a, tx, ty, n, hp, rfl, hm⟩ := fd_get hd hv'
      have hNC : h.get? C = some oC := (N (C, oC) (List.mem_cons_of_mem _ List.mem_cons_self)).1
      have hNa : h.get? a = some _ := (N _ (List.mem_cons_of_mem _ (List.mem_cons_of_mem _ (List.mem_cons_of_mem _ (hL _ hm))))).1
      refine Subscript_ (wpAny_Name (wpAny_loadName_local (env := compEnvC scope cl C env) hk (lookup_relabel_local hx) (hC.ns hNC) hxm ?_) hdb)
      refine wpAny_Constant_int ?_
      refine item_tupleT (l := [.int p.1 tx, .int p.2 ty]) (j := 0) ⟨_, hNa, rfl, n, rfl⟩ (by decide) (by decide) rfl rfl ?_
      refine ⟨h, _, news, rfl, F, N, off, hS, ?_⟩
      refine ih (i + 1) _ (by omega) ?_
      rw [List.take_add_one, hp]
      simpa using IntsAre.append hy (.cons p.1 tx .nil)
  have e := key us.length 0 [] (by omega) (by simp only [List.take_zero, List.map_nil]; exact .nil)
  simpa using e
theorem comp_src {x : Str} {p1 p2 p3 : Pos} {scope : Scope} {cl : List (Str × Addr)} {Q : Value → Shared → Prop} {news L9 : List (Addr × Obj)} {us : List Value} {fs : List (Int × Int)} {B1 : Addr} {nb : Nat}
    (hh : A.handled = none) (F : Fr h₀ L s.heap m) (N : News h₀ L s.heap news) (hk : scope.kind = .function) (hx : scope.names.lookup x = some .local) (hdb : (x == ("__debug__" : Str)) = false)
    (hm : (B1, listOf us.toArray nb) ∈ news) (hd : DatAll L9 us (fd fs)) (hL : ∀ p ∈ L9, p ∈ news) (hsz : fs.length ≤ 64)
    (h : ∀ ys D h' tk, IntsAre ys (fs.map (·.1)) → Fr h₀ L h' m → News h₀ L h' ((D, LCg.lst ys) :: news) → LCg.Off1 D news → Q (.ref D) { s with heap := h', toks := tk }) :
    LCg.CompSrc prog w A h₀ L m env (.Subscript (.Name x p1) (.Constant (.int 0) 0 p2) p3) x scope cl (fun s₂ => LCg.FinE h₀ L m s₂ Q) (.ref B1) s := by
  have hlen : us.length = fs.length := by rw [hd.length]; simp [fd]
  refine LCg.CompSrc.ledger hh F N hm (by rw [List.size_toArray, hlen, sizeLine_eq]; omega) fun g => ?_
  refine comp_rest hk hx hdb hd hL (.inr ⟨_, hm, rfl, _, rfl⟩) fun ys hy => ?_
  intro D h' tk F' N' o1
  exact h ys D h' tk hy F' N' o1
end
end Mine
namespace Mine
theorem off_nonneg {fs : List (Int × Int)} (h : ∀ p ∈ fs, 0 ≤ p.1 ∧ 0 ≤ p.2) : 0 ≤ (fs.map fun x => x.1).sum := by
  induction fs with
  | nil => exact Int.le_refl _
  | cons p r ih =>
    have h1 := (h p (.head _)).1
    have h2 := ih fun q hq => h q (.tail _ hq)
    simp only [List.map_cons, List.sum_cons]
    omega
theorem off_snoc (fs : List (Int × Int)) (p : Int × Int) : ((fs ++ [p]).map fun x => x.1).sum = (fs.map fun x => x.1).sum + p.1 := by
  simp
theorem fd_snoc (fs : List (Int × Int)) (p : Int × Int) : fd (fs ++ [p]) = fd fs ++ [.tuple [.int p.1, .int p.2]] := by
  simp [fd]
theorem W_keep {fs : List (Int × Int)} {i : Nat} {pl sp : Int} (hlen : fs.length ≤ i) (hfs : ∀ p ∈ fs, 0 ≤ p.1 ∧ 0 ≤ p.2) (e : sp = pl) (h0 : 0 ≤ pl) : W (i + 1) (fd fs) (fd fs) pl sp ((fs.map fun x => x.1).sum) :=
  ⟨fs, rfl, rfl, e, rfl, by omega, h0, hfs⟩
theorem W_seek {fs : List (Int × Int)} {i : Nat} {n : Int} (hlen : fs.length ≤ i) (hfs : ∀ p ∈ fs, 0 ≤ p.1 ∧ 0 ≤ p.2) (hn : 0 ≤ n) : W (i + 1) (fd fs) (fd fs) ((fs.map fun x => x.1).sum + n) ((fs.map fun x => x.1).sum + n) ((fs.map fun x => x.1).sum) :=
  W_keep hlen hfs rfl (Int.add_nonneg (off_nonneg hfs) hn)
theorem W_push {fs : List (Int × Int)} {i : Nat} {n p pl sp tot : Int} (hlen : fs.length ≤ i) (hfs : ∀ p ∈ fs, 0 ≤ p.1 ∧ 0 ≤ p.2) (hn : 0 ≤ n) (hp : 0 ≤ p) (e1 : pl = (fs.map fun x => x.1).sum + n) (e2 : sp = (fs.map fun x => x.1).sum + n) (e3 : tot = (fs.map fun x => x.1).sum + n) :
    W (i + 1) (fd fs ++ [.tuple [.int n, .int p]]) (fd fs ++ [.tuple [.int n, .int p]]) pl sp tot := by
  refine ⟨fs ++ [(n, p)], (fd_snoc fs (n, p)).symm, (fd_snoc fs (n, p)).symm, by omega, by rw [off_snoc]; exact e3, by simp; omega, ?_, ?_⟩
  · have := off_nonneg hfs
    omega
  · intro q hq
    rcases List.mem_append.mp hq with h | h
    · exact hfs q h
    · rw [List.mem_singleton.mp h]; exact ⟨hn, hp⟩
theorem W_pop {gs : List (Int × Int)} {p : Int × Int} {i : Nat} {pl sp tot : Int} (hlen : (gs ++ [p]).length ≤ i) (hfs : ∀ q ∈ gs ++ [p], 0 ≤ q.1 ∧ 0 ≤ q.2) (e1 : pl = p.2) (e2 : sp = p.2) (e3 : tot = ((gs ++ [p]).map fun x => x.1).sum - p.1) :
    W (i + 1) (fd gs) (fd gs) pl sp tot := by
  have hp := hfs p (List.mem_append.mpr (.inr (.head _)))
  refine ⟨gs, rfl, rfl, by omega, by rw [e3, off_snoc]; omega, ?_, by omega, fun q hq => hfs q (List.mem_append.mpr (.inl hq))⟩
  rw [List.length_append] at hlen
  omega
theorem fs_nil {fs : List (Int × Int)} (h : decide (fd fs = []) = true) : fs = [] := by
  have h' := of_decide_eq_true h
  simpa [fd] using h'
theorem fs_snoc {fs : List (Int × Int)} (h : decide (fd fs = []) = false) : ∃ gs p, fs = gs ++ [p] := by
  have h' := of_decide_eq_false h
  have hne : fs ≠ [] := fun e => h' (by simp [fd, e])
  exact ⟨fs.dropLast, fs.getLast hne, (List.dropLast_concat_getLast hne).symm⟩
theorem dat_nil {L9 : List (Addr × Obj)} {us : List Value} (h : DatAll L9 us (fd [])) : us = [] := by
  have := h.length
  simpa [fd] using this
theorem dat_snoc {L9 : List (Addr × Obj)} {us : List Value} {gs : List (Int × Int)} {p : Int × Int} (h : DatAll L9 us (fd (gs ++ [p]))) :
    ∃ ws a tx ty n, us = ws ++ [.ref a] ∧ (a, ({ cls := .type "tuple", data := .seq #[.int p.1 tx, .int p.2 ty] n } : Obj)) ∈ L9 ∧ DatAll L9 ws (fd gs) := by
  have hl := h.length
  have hne : us ≠ [] := by
    intro e
    rw [e] at hl
    simp [fd] at hl
  have eu : us = us.dropLast ++ [us.getLast hne] := (List.dropLast_concat_getLast hne).symm
  rw [eu] at h
  obtain ⟨es, d, e1, h1, h2⟩ := DatAll.snoc h
  rw [fd_snoc] at e1
  obtain ⟨e2, e3⟩ := List.append_inj' e1 rfl
  have e4 : d = .tuple [.int p.1, .int p.2] := (List.cons.inj e3).1.symm
  rw [← e2] at h1
  rw [e4] at h2
  generalize us.getLast hne = v at eu h2
  cases h2 with
  | tuple hm hr =>
    cases hr with
    | cons x1 r1 =>
      cases r1 with
      | cons x2 r2 =>
        cases r2
        cases x1
        cases x2
        exact ⟨us.dropLast, _, _, _, _, eu, hm, h1⟩
theorem no63 {n : Int} {a b : Prop} (h : n < 81) (hb : b) : if decide ((2 : Int) ^ (Int.toNat 63) - 1 < n) = true then a else b := by
  have e : (2 : Int) ^ (Int.toNat 63) = 9223372036854775808 := by decide
  rw [if_neg (by rw [e]; simp only [decide_eq_true_eq]; omega)]
  exact hb
section
variable {prog : Program} {w : World} {A : Around} {E : Value → Shared → Prop} {s : Shared} {h₀ : Heap} {L D : Addr} {m : Str → Option Value} {news news' : List (Addr × Obj)} {n : Nat}
theorem pop_fr2 {us : List Value} {gs : List (Int × Int)} {p : Int × Int} {L9 : List (Addr × Obj)} {Q : Value → Shared → Prop} (F : Fr h₀ L s.heap m) (N : News h₀ L s.heap news)
    (U : Upd D (listOf us.toArray n) (listOf us.dropLast.toArray (n + 1)) news news') (hd : DatAll L9 us (fd (gs ++ [p]))) (hz : us.length ≤ 64)
    (h : ∀ h' a tx ty k, Fr h₀ L h' m → News h₀ L h' news' → (a, ({ cls := .type "tuple", data := .seq #[.int p.1 tx, .int p.2 ty] k } : Obj)) ∈ L9 → DatAll L9 us.dropLast (fd gs) → Q (.ref a) { s with heap := h' }) :
    wpAny (model prog w) A (call (.builtin "list.pop") [.ref D]) Q E s := by
  obtain ⟨ws, a, tx, ty, k, e, hm, hr⟩ := dat_snoc hd
  have ed : us.dropLast = ws := by rw [e, List.dropLast_concat]
  rw [ed] at U h
  refine kl_pop F N (p := ws) (y := .ref a) ?_ U (by rw [sizeLine_eq]; simp; omega) fun h' F' N' => h h' a tx ty k F' N' hm hr
  rw [e]
  exact kpa_last (.ref a) ws
theorem pop_fr1 {us : List Value} {fs : List (Int × Int)} {L9 : List (Addr × Obj)} {Q : Value → Shared → Prop} (F : Fr h₀ L s.heap m) (N : News h₀ L s.heap news)
    (U : Upd D (listOf us.toArray n) (listOf us.dropLast.toArray (n + 1)) news news') (hd : DatAll L9 us (fd fs)) (hz : us.length ≤ 64) (hne : decide (fd fs = []) = false)
    (h : ∀ gs p, fs = gs ++ [p] → ∀ h' a tx ty k, Fr h₀ L h' m → News h₀ L h' news' → (a, ({ cls := .type "tuple", data := .seq #[.int p.1 tx, .int p.2 ty] k } : Obj)) ∈ L9 → DatAll L9 us.dropLast (fd gs) → Q (.ref a) { s with heap := h' }) :
    wpAny (model prog w) A (call (.builtin "list.pop") [.ref D]) Q E s := by
  obtain ⟨gs, p, e⟩ := fs_snoc hne
  rw [e] at hd
  exact pop_fr2 F N U hd hz (h gs p e)
theorem pop_empty {Q : Value → Shared → Prop} (hh : A.handled = none) (N : News h₀ L s.heap news) (hm : (D, listOf (List.toArray []) n) ∈ news)
    (h : ∀ h' tk e, Heap.NewExc s.heap h' e "IndexError" → E (.ref e) { s with heap := h', toks := tk }) : wpAny (model prog w) A (call (.builtin "list.pop") [.ref D]) Q E s :=
  call_meets PySem.F.slot_list_pop ⟨_, (N _ hm).1, rfl⟩ PySem.F.entry_list_pop (PySem.F.args_list_pop_1 _) (PySem.AutoSeq1.list_pop_list_0 D _ n rfl) ⟨(N _ hm).1, hh, h⟩
theorem slice_G {value slice : PySem.Expr} {b : Array UInt8} {t : Tok} {l u : Value} {lo hi : Option Int} {Q : Value → Shared → Prop} (hF : Fr h₀ L s.heap m) (hN : News h₀ L s.heap news) (hl : PySem.IsPart l lo) (hu : PySem.IsPart u hi) (hz : b.size ≤ 16777216)
    (h : ∀ h' t' k, Fr h₀ L h' m → News h₀ L h' news → (KBy.picked b lo hi).size ≤ b.size → Q (.bytes (KBy.picked b lo hi) t') { s with heap := h', toks := k })
    (hs : subscripted slice false (.bytes b t) (.ref s.heap.objs.size) = operate [.ref s.heap.objs.size, .bytes b t] (getItem (.bytes b t) (.ref s.heap.objs.size)) := by with_unfolding_all rfl)
    (ht : ∀ r, letTemporaryGo value (.bytes b t) r = pure () := by intro _; with_unfolding_all rfl) :
    wpAny (model prog w) A (subscriptTail value slice (.bytes b t) (.ref s.heap.objs.size)) Q E { s with heap := s.heap.push { cls := .type "slice", data := .fields #[l, u, .none] } } :=
  KBc.slice_K hF hN rfl hl hu (by rw [KBw.ints_length]; exact hz) (fun h' t' k F' N' _ => h h' t' k F' N' (KBc.size_picked_le b lo hi)) hs ht
theorem ne_self {b : Array UInt8} {t u : Tok} {Q : Value → Shared → Prop} (h : Q (.bool false) s) : wpAny (model prog w) A (compareOp .NotEq (.bytes b t) (.bytes b u)) Q E s :=
  ne_bytes (by rw [show (b.toList != b.toList) = false by simp]; exact h)
theorem tail_eq {b : Array UInt8} {sp : Int} (h0 : 0 ≤ sp) (hb : b.size ≤ 81) : KBy.picked b (some sp) (some (sp + 100)) = KBy.picked b (some sp) none := by
  rw [KBc.picked_eq, KBc.picked_eq]
  have e : clipAt b.size (sp + 100) = b.size := by
    obtain ⟨k, rfl⟩ := Int.eq_ofNat_of_zero_le h0
    rw [show ((k : Int) + 100) = ((k + 100 : Nat) : Int) by omega, clipAt_nat]
    omega
  simp only [Option.elim, e]
theorem eq_tail {b : Array UInt8} {sp : Int} {t u : Tok} {Q : Value → Shared → Prop} (h0 : 0 ≤ sp) (hb : b.size ≤ 81) (h : Q (.bool true) s) :
    wpAny (model prog w) A (compareOp .Eq (.bytes (KBy.picked b (some sp) (some (sp + 100))) t) (.bytes (KBy.picked b (some sp) none) u)) Q E s :=
  eq_bytes (by rw [tail_eq h0 hb, beq_self_eq_true]; exact h)
end
end Mine
namespace Mine
theorem W_nil {j : Nat} {sp : Int} (h0 : 0 ≤ sp) : W j [] [] sp sp (([] : List (Int × Int)).map fun x => x.1).sum :=
  ⟨[], rfl, rfl, rfl, rfl, Nat.zero_le _, h0, fun _ h => nomatch h⟩
theorem W_popJ {gs : List (Int × Int)} {p : Int × Int} {j : Nat} {pl sp tot : Int} (hlen : (gs ++ [p]).length ≤ j) (hfs : ∀ q ∈ gs ++ [p], 0 ≤ q.1 ∧ 0 ≤ q.2) (e1 : pl = p.2) (e2 : sp = p.2) (e3 : tot = ((gs ++ [p]).map fun x => x.1).sum - p.1) :
    W j (fd gs) (fd gs) pl sp tot := by
  have hp := hfs p (List.mem_append.mpr (.inr (.head _)))
  refine ⟨gs, rfl, rfl, by omega, by rw [e3, off_snoc]; omega, ?_, by omega, fun q hq => hfs q (List.mem_append.mpr (.inl hq))⟩
  rw [List.length_append] at hlen
  omega
theorem W_mono {i j : Nat} {ds es : List Dat} {pl sp tot : Int} (h : W i ds es pl sp tot) (hij : i ≤ j) : W j ds es pl sp tot := by
  obtain ⟨fs, h1, h2, h3, h4, h5, h6⟩ := h
  exact ⟨fs, h1, h2, h3, h4, Nat.le_trans h5 hij, h6⟩
theorem fd_less (gs : List (Int × Int)) (p : Int × Int) : (fd gs).length < (fd (gs ++ [p])).length := by
  simp [fd]
section
variable {prog : Program} {w : World} {A : Around} {E : Value → Shared → Prop} {s : Shared} {env : Env} {h₀ : Heap} {L : Addr} {Q : Flow → Shared → Prop}
theorem my_while {test : Expr} {body : List Stmt} {pos : Pos} {m₀ : Str → Option Value} {A1 B1 d : Addr} {e1 : DictEntry} {g2 g3 g4 : Int} {k2 k3 k4 : Value} {vs us : List Value} {ds es : List Dat} {na nb : Nat} {pl sp tot : Int} {tpl tsp tt : Tok} {nd : Nat} {rest L9 : List (Addr × Obj)}
    (F : Fr h₀ L s.heap m₀) (N : News h₀ L s.heap ((B1, listOf us.toArray nb) :: (A1, listOf vs.toArray na) :: (d, dictOf [e1, ⟨g2, k2, .int sp tsp⟩, ⟨g3, k3, .ref A1⟩, ⟨g4, k4, .int tot tt⟩] nd) :: rest))
    (hd1 : DatAll L9 vs ds) (hd2 : DatAll L9 us es) (hk : m₀ (Str.ofString "place") = some (.int pl tpl)) (hw : W 64 ds es pl sp tot)
    (turn : ∀ (vs us : List Value) (ds es : List Dat) (na nb : Nat) (pl sp tot : Int) (tpl tsp tt : Tok) (u : Str → Option Value) h tk, DatAll L9 vs ds → DatAll L9 us es → W 64 ds es pl sp tot →
      Fr h₀ L h (fun y => if y = Str.ofString "place" then some (.int pl tpl) else m₀ y) →
      News h₀ L h ((B1, listOf us.toArray nb) :: (A1, listOf vs.toArray na) :: (d, dictOf [e1, ⟨g2, k2, .int sp tsp⟩, ⟨g3, k3, .ref A1⟩, ⟨g4, k4, .int tot tt⟩] nd) :: rest) →
      wpAny (model prog w) A (isTrue test env (eval test env)) (fun b s₂ =>
        if b = true then wpAny (model prog w) A (execs body env) (KswPost (σ := List Value × List Dat × Nat × List Value × List Dat × Nat × Int × Tok × Int × Tok × Int × Tok) h₀ L s
          (fun c => (B1, listOf c.2.2.2.1.toArray c.2.2.2.2.2.1) :: (A1, listOf c.1.toArray c.2.2.1) :: (d, dictOf [e1, ⟨g2, k2, .int c.2.2.2.2.2.2.2.2.1 c.2.2.2.2.2.2.2.2.2.1⟩, ⟨g3, k3, .ref A1⟩, ⟨g4, k4, .int c.2.2.2.2.2.2.2.2.2.2.1 c.2.2.2.2.2.2.2.2.2.2.2⟩] nd) :: rest)
          (fun c => [(Str.ofString "place", .int c.2.2.2.2.2.2.1 c.2.2.2.2.2.2.2.1)]) (fun c => DatAll L9 c.1 c.2.1 ∧ DatAll L9 c.2.2.2.1 c.2.2.2.2.1) [] m₀
          (fun c => W 64 c.2.1 c.2.2.2.2.1 c.2.2.2.2.2.2.1 c.2.2.2.2.2.2.2.2.1 c.2.2.2.2.2.2.2.2.2.2.1) (fun c => c.2.2.2.2.1.length) Q (vs, ds, na, us, es, nb, pl, tpl, sp, tsp, tot, tt)) E s₂ else Q .next s₂) E { s with heap := h, toks := tk })
    (hE : PassesOwn (model prog w) A env E := by passes_own) :
    wpAny (model prog w) A (exec (.While test body [] pos) env) Q E s := by
  refine ksw_while (σ := List Value × List Dat × Nat × List Value × List Dat × Nat × Int × Tok × Int × Tok × Int × Tok) _ _ _ [] _ _ (vs, ds, na, us, es, nb, pl, tpl, sp, tsp, tot, tt) F N ⟨hd1, hd2⟩ ?_ hw
    (fun c u h tk hf hp F' N' => turn c.1 c.2.2.2.1 c.2.1 c.2.2.2.2.1 c.2.2.1 c.2.2.2.2.2.1 c.2.2.2.2.2.2.1 c.2.2.2.2.2.2.2.2.1 c.2.2.2.2.2.2.2.2.2.2.1 c.2.2.2.2.2.2.2.1 c.2.2.2.2.2.2.2.2.2.1 c.2.2.2.2.2.2.2.2.2.2.2 u h tk hf.1 hf.2 hp ?_ N') hE
  · intro p hp
    rw [List.mem_singleton.mp hp]; exact hk
  · simpa [kstB] using F'
end
end Mine
namespace Mine
/-! The exception path: an exception raised while another is handled. Three changes of the heap, each once: -/
section
variable {B h g : Heap} {l : List Env}

/-- the fields of one record that B does not hold are changed -/
theorem touch {T : Addr} {oT : Obj} {ts : Array Value} (f : Array Value → Array Value) (kB : B.StaysIn h) (kl : h.FunFrames B l) (nT : B.get? T = none) (hT : h.get? T = some oT) (dT : oT.data = .fields ts) :
    B.StaysIn (h.update T (Obj.mapFields f)) ∧ (h.update T (Obj.mapFields f)).FunFrames B l ∧ h.UpToSlots (h.update T (Obj.mapFields f)) ∧
      (∀ b o, T ≠ b → h.get? b = some o → (h.update T (Obj.mapFields f)).get? b = some o) ∧
      ∃ o, (h.update T (Obj.mapFields f)).get? T = some o ∧ o.cls = oT.cls ∧ o.data = .fields (f ts) := by
  have away : ∀ b o, T ≠ b → h.get? b = some o → (h.update T (Obj.mapFields f)).get? b = some o := fun b o n q => (Heap.get?_update_other h _ n).trans q
  have plain : ∀ b o, h.get? b = some o → (∀ ws, o.data ≠ .fields ws) → (h.update T (Obj.mapFields f)).get? b = some o := by
    intro b o q z
    refine away b o ?_ q
    rintro rfl
    obtain rfl : oT = o := Option.some.inj (hT.symm.trans q)
    exact z ts dT
  refine ⟨?_, kl.of_keeps fun b o q z => ⟨o, plain b o q z, rfl⟩, fun b o q z => ⟨o.slots, plain b o q z⟩, away, Obj.mapFields f oT, ?_, Obj.cls_mapFields oT f, Obj.data_mapFields dT f⟩
  · intro b o q
    refine away b o ?_ (kB b o q)
    rintro rfl
    cases nT.symm.trans q
  · exact Heap.get?_update_self _ hT (Obj.isFreed_of_fields (Obj.data_mapFields dT f))

/-- the stack's frames get their slots filled -/
theorem slotted (kB : B.StaysIn h) (kl : h.FunFrames B l) (x : Heap.SlotsOnly (l.filterMap (·.frame)) h g) :
    B.StaysIn g ∧ g.FunFrames B l ∧ h.UpToSlots g ∧ ∀ b o ws, h.get? b = some o → o.data = .fields ws → g.get? b = some o := by
  refine ⟨fun b o q => ?_, kl.of_slotsOnly x, fun b o q _ => x.2.2 b o q, fun b o ws q d => ?_⟩
  · refine (x.2.1 b fun m => ?_).trans (kB b o q)
    cases (kl.mem m).1.symm.trans q
  · refine (x.2.1 b fun m => ?_).trans q
    obtain ⟨_, o2, q2, z⟩ := kl.mem m
    obtain rfl : o = o2 := Option.some.inj (q.symm.trans q2)
    exact z ws d

/-- an object more -/
theorem pushed (o : Obj) (kB : B.StaysIn h) (kl : h.FunFrames B l) : B.StaysIn (h.push o) ∧ (h.push o).FunFrames B l ∧ h.UpToSlots (h.push o) :=
  ⟨fun b p q => Heap.get?_push_of_some o (kB b p q), kl.of_keeps fun _ p q _ => ⟨p, Heap.get?_push_of_some o q, rfl⟩, .of_keeps fun _ _ q => Heap.get?_push_of_some o q⟩
end

/-- e: an exception of class cls with its first traceback T; nothing was handled when it was raised -/
structure Marked (B : Heap) (l : List Env) (e T : Addr) (cls : Value) (h : Heap) : Prop where
  stays : B.StaysIn h
  frames : h.FunFrames B l
  newT : B.get? T = none
  apart : T ≠ e
  exc : ∃ o vs, h.get? e = some o ∧ o.cls = cls ∧ o.data = .fields vs ∧ vs[1]? = some (.ref T) ∧ vs[2]? = some .none
  tb : ∃ o ts, h.get? T = some o ∧ o.data = .fields ts ∧ 3 < ts.size

section
variable {M : Model} {A : Around} {E : Value → Shared → Prop} {s : Shared} {env : Env} {outer : List Env}

theorem mark {B : Heap} {L e : Addr} {oe : Obj} {vs : Array Value} {Q : Unit → Shared → Prop} (stk : A.frames = some (env :: outer)) (fl : env.frame = some L)
    (kB : B.StaysIn s.heap) (kl : s.heap.FunFrames B (env :: outer)) (nE : B.get? e = none) (he : s.heap.get? e = some oe) (de : oe.data = .fields vs) (v1 : vs[1]? = some .none) (v2 : vs[2]? = some .none)
    (hQ : ∀ T h', Marked B (env :: outer) e T oe.cls h' → s.heap.UpToSlots h' → Q () { s with heap := h' }) : wpAny M A (noteFrame (.ref e) env) Q E s := by
  have big : 1 < vs.size := (Array.getElem?_eq_some_iff.mp v1).1
  simp only [noteFrame, fl]
  refine wpAny_bind (wpAny_field he de v1 ?_)
  rw [if_neg (show ¬ (Value.none != Value.none) = true by decide)]
  refine wpAny_bind (wpAny_frameOf_fun stk kl fl fun g x => wpAny_bind (wpAny_entryPlaceOf fun pl hpl => wpAny_bind ?_))
  obtain ⟨b1, l1, u1, keep1⟩ := slotted kB kl x
  refine wpAny_newObj_type ?_ (hpl.sizeOk5 _ _ _ _ _)
  have four : 3 < (([Value.none, .ref L, .none, rawInt L, .none] ++ (if pl.isEmpty then List.replicate 6 Value.none else pl)).toArray).size := by
    rw [List.size_toArray, List.length_append]; exact Nat.lt_of_lt_of_le (show 3 < 5 by decide) (Nat.le_add_right _ _)
  revert four
  generalize ([Value.none, .ref L, .none, rawInt L, .none] ++ (if pl.isEmpty then List.replicate 6 Value.none else pl)).toArray = ts
  intro four
  have heg := keep1 e oe vs he de
  obtain ⟨b2, l2, u2⟩ := pushed { cls := .type "traceback", dict := none, data := .fields ts } b1 l1
  have he2 := Heap.get?_push_of_some { cls := .type "traceback", dict := none, data := .fields ts } heg
  have tb2 := Heap.get?_push_size g (o := { cls := .type "traceback", dict := none, data := .fields ts }) rfl
  have ne : e ≠ g.objs.size := Nat.ne_of_lt (Heap.lt_size heg)
  obtain ⟨b3, l3, u3, away, o3, e3, c3, d3⟩ := touch (·.setIfInBounds 1 (.ref g.objs.size)) b2 l2 nE he2 de
  refine wpAny_setField he2 de big (hQ g.objs.size _ ⟨b3, l3, b1.fresh, ne.symm, ⟨o3, _, e3, c3, d3, ?_, ?_⟩, ⟨_, ts, away _ _ ne tb2, rfl, four⟩⟩ ((u1.trans u2).trans u3))
  · simp [big]
  · exact (Array.getElem?_setIfInBounds_ne (by decide)).trans v2

theorem unmark {B : Heap} {l : List Env} {e T : Addr} {cls : Value} {Q : Unit → Shared → Prop} (x : Marked B l e T cls s.heap)
    (hQ : ∀ h', Marked B l e T cls h' → s.heap.UpToSlots h' → Q () { s with heap := h' }) : wpAny M A (setFlight (.ref e) none) Q E s := by
  obtain ⟨oe, vs, he, ce, de, v1, v2⟩ := x.exc
  obtain ⟨oT, ts, hT, dT, four⟩ := x.tb
  obtain ⟨b1, l1, u1, away, o1, e1, _, d1⟩ := touch (·.setIfInBounds 3 .none) x.stays x.frames x.newT hT dT
  refine wpAny_bind (wpAny_field he de v1 ?_)
  rw [if_pos (by simp)]
  exact wpAny_setField hT dT four (hQ _ ⟨b1, l1, x.newT, x.apart, ⟨oe, vs, away e oe x.apart he, ce, de, v1, v2⟩, ⟨o1, _, e1, d1, by simpa using four⟩⟩ u1)
end

/-! A raise while e1 is handled. -/
section
variable {prog : Program} {w : World} {A : Around} {E : Value → Shared → Prop} {s : Shared} {env : Env}
theorem unchain_entry : entryFor table "proto.unchain" = some Builtin.«proto.unchain» := by first | exact entryFor_of_fast (by kernel_rfl) | exact entryFor_of_tree (by kernel_rfl)
theorem unchain2 {e2 e1 : Addr} {o1 : Obj} {ws : Array Value} {Q : Value → Shared → Prop} (he : s.heap.get? e1 = some o1) (hd : o1.data = .fields ws) (h2 : ws[2]? = some .none) (h : Q .none s) :
    wpAny (model prog w) A (runValue (.builtin "proto.unchain" ⟨[.ref e2, .ref e1, .ref e1, .bool false], []⟩)) Q E s := by
  refine wpAny_runValue (codeAny_builtin unchain_entry ?_)
  unfold Builtin.«proto.unchain»
  refine wpAny_bind (wpAny_field he hd h2 ?_)
  rw [if_pos (by decide)]
  first | exact wpAny_bind (wpAny_pure (wpAny_pure h)) | exact wpAny_bind (wpAny_pure h) | exact wpAny_pure h

/-- a record of an exception's class X: what «raise» looks at -/
structure Exc (h : Heap) (a : Addr) (X : String) (ob : Obj) (vs : Array Value) : Prop where
  at_ : h.get? a = some ob
  cls : ob.cls = .type X
  data : ob.data = .fields vs
theorem Exc.is {a : Addr} {X : String} {ob : Obj} {vs : Array Value} (x : Exc s.heap a X ob vs) : s.TypeIs (.ref a) X := ⟨ob, x.at_, x.cls⟩
theorem Exc.noClass {M : Model} {a : Addr} {X : String} {ob : Obj} {vs : Array Value} {Q : Bool → Shared → Prop} (x : Exc s.heap a X ob vs) (q : Q false s) : wpAny M A (isType (.ref a)) Q E s :=
  ks_wpAny_isType_inst x.at_ (fun c z => by cases x.data.symm.trans z) q
theorem Exc.itself {M : Model} {a : Addr} {X N I c : String} {ob : Obj} {vs : Array Value} {Q : Value → Shared → Prop} (x : Exc s.heap a X ob vs) (k : ExcClass X N I) (q : Q (.ref a) s) : wpAny M A (excFromValue (.ref a) c) Q E s :=
  wpAny_bind (wpAny_bind (x.noClass (wpAny_pure (wpAny_bind (wpAny_isInstance x.is k.base (wpAny_pure q))))))
theorem Exc.same {M : Model} {a : Addr} {X N I : String} {ob : Obj} {vs : Array Value} {Q : Value → Shared → Prop} (x : Exc s.heap a X ob vs) (k : ExcClass X N I) (q : Q (.ref a) s) : wpAny M A (raisedInstance (.ref a)) Q E s := by
  refine wpAny_bind (wpAny_typeOf x.is (wpAny_bind (wpAny_of_eq (a := .type ((Manifest.find? X).elim "type" (·.metatype))) rfl ?_)))
  rw [k.metaType]
  exact wpAny_pure q
theorem Exc.calm {M : Model} {a : Addr} {X : String} {ob : Obj} {vs : Array Value} {fr : Option Addr} {Q : Unit → Shared → Prop} (x : Exc s.heap a X ob vs) (v1 : vs[1]? = some .none) (q : Q () s) : wpAny M A (setFlight (.ref a) fr) Q E s := by
  refine wpAny_bind (wpAny_field x.at_ x.data v1 ?_)
  rw [if_neg (by decide)]
  exact wpAny_pure q
/-- it is thrown, and e1 becomes its context -/
theorem Exc.over {α : Type} {a e1 : Addr} {X Y : String} {ob o1 : Obj} {vs ws : Array Value} {Q : α → Shared → Prop} (x : Exc s.heap a X ob vs) (y : Exc s.heap e1 Y o1 ws) (hh : A.handled = some (.ref e1)) (ne : e1 ≠ a) (big : 2 < vs.size) (w2 : ws[2]? = some .none)
    (q : E (.ref a) { s with heap := s.heap.update a (Obj.mapFields (·.setIfInBounds 2 (.ref e1))) }) : wpAny (model prog w) A (raiseNew (.ref a)) Q E s := by
  refine wpAny_bind (wpAny_handled ?_)
  rw [hh]
  show wpAny _ A (if (Value.ref e1 != Value.ref a) = true then _ else _) _ _ _
  rw [if_pos (by simpa using ne)]
  refine wpAny_bind (wpAny_holding (unchain2 y.at_ y.data w2 (wpAny_bind (m := setField (.ref a) 2 (.ref e1)) ?_)))
  exact wpAny_setField x.at_ x.data big (wpAny_throw q)

theorem raise_chain {x : Expr} {pos : Pos} {e1 : Addr} {Q : Flow → Shared → Prop} (hh : A.handled = some (.ref e1))
    (h : wpAny (model prog w) A (eval x env) (fun v s₁ => ∃ a ob vs X N I Y o1 ws, v = .ref a ∧ ExcClass X N I ∧ Exc s₁.heap a X ob vs ∧ Exc s₁.heap e1 Y o1 ws ∧ vs[1]? = some .none ∧ 2 < vs.size ∧ ws[2]? = some .none ∧ e1 ≠ a ∧
      E (.ref a) { s₁ with heap := s₁.heap.update a (Obj.mapFields (·.setIfInBounds 2 (.ref e1))) }) E s) :
    wpAny (model prog w) A (exec (.Raise (some x) none pos) env) Q E s := by
  show wpAny _ A (do standAt pos; raiseStmt env (some (do let v ← eval x env; standAt pos; pure v)) none) Q E s
  refine wpAny_bind (wpAny_standAt (wpAny_bind (wpAny_bind (wpAny_mono h ?_ fun _ _ z => z))))
  rintro _ s₁ ⟨a, ob, vs, X, N, I, Y, o1, ws, rfl, k, xa, x1, v1, big, w2, ne, q⟩
  refine wpAny_bind (wpAny_standAt (wpAny_pure (wpAny_bind (wpAny_pure (wpAny_bind (wpAny_holding (xa.itself k ?_)))))))
  refine wpAny_bind (xa.noClass (wpAny_bind (xa.same k ?_)))
  exact wpAny_bind (xa.calm v1 (xa.over x1 hh ne big w2 q))
end

/-! The new exception leaves the frame in which the old one was caught. -/
/-- what a stack stands on: B holds base and the ledger, and no frame of the stack -/
def Stands (base B : Heap) (news : List (Addr × Obj)) : Prop := base.StaysIn B ∧ ∀ q ∈ news, B.get? q.1 = some q.2 ∧ base.get? q.1 = none

section
variable {A : Around} {base g h : Heap} {outer : List Env} {L a : Addr} {m : Str → Option Value} {name : Str} {scope : Scope} {cd : Value} {news : List (Addr × Obj)}
theorem ground (K : Below A base outer g) (F : Fr g L h m) (N : News g L h news) (hk : scope.kind = .function) :
    ∃ B, Stands base B news ∧ (∀ b o, B.get? b = some o → h.get? b = some o) ∧ h.FunFrames B (envOf name scope L a cd :: outer) := by
  have K2 := K.push (name := name) (a := a) (cd := cd) F hk
  refine ⟨hideAll h ((envOf name scope L a cd :: outer).filterMap (·.frame)), ⟨fun b o q => hideAll_get _ (K2.stays b o q) fun z => ?_, fun q hq => ⟨hideAll_get _ (N q hq).1 fun z => ?_, fresh_of_stays K.stays (N q hq).2.2⟩⟩,
    fun _ _ => of_hideAll _, funFrames_hide K2.frames fun env he b hb => List.mem_filterMap.mpr ⟨env, he, hb⟩⟩
  · cases (K2.frames.mem z).1.symm.trans q
  · have old : q.1 = L ∨ q.1 ∈ outer.filterMap (·.frame) := List.mem_cons.mp z
    rcases old with z | z
    · exact (N q hq).2.1 z
    · obtain ⟨_, o, ho, _⟩ := K.frames.mem z
      cases (N q hq).2.2.symm.trans ho
end

/-- raised while another was handled, not yet out of the frame -/
def Chained (base : Heap) (l : List Env) (e : Addr) (news : List (Addr × Obj)) (h : Heap) : Prop :=
  ∃ B oe vs a0, Stands base B news ∧ B.StaysIn h ∧ h.FunFrames B l ∧ B.get? e = none ∧ Exc h e "IndexError" oe vs ∧ vs[1]? = some .none ∧ vs[0]? = some a0

section
variable {M : Model} {A : Around} {E : Value → Shared → Prop} {s' : Shared} {base g : Heap} {outer : List Env} {L a e : Addr} {name : Str} {scope : Scope} {cd : Value} {Q : Unit → Shared → Prop} {news : List (Addr × Obj)}
theorem leave_chained (K : Below A base outer g) (R : Chained base (envOf name scope L a cd :: outer) e news s'.heap) (hsm : g.UpToSlots s'.heap)
    (hQ : ∀ h', RaisedN base outer e (.type "IndexError") news h' → g.UpToSlots h' → Q () { s' with heap := h' }) : wpAny M (A.deeper (envOf name scope L a cd)) (leaving (envOf name scope L a cd) (.ref e)) Q E s' := by
  obtain ⟨B, oe, vs, a0, st, kB, kl, nE, x, v1, v0⟩ := R
  refine wpAny_leaving_firstW (Around.frames_deeper K.stack) kl rfl x.at_ kB nE x.data v1 v0 fun h' y => hQ h' ⟨B, a0, st.1, st.2, y.1, nE, ?_, ?_⟩ (hsm.trans y.2.2.2)
  · exact y.2.1.2.2
  · exact x.cls ▸ y.2.2.1
end

/-! «except IndexError» in a frame of a function. -/
abbrev FreeName (p : Program) (loose : List Str) (x : Str) : Prop := x ∉ startupNames ∧ x ∉ loose ∧ x ∉ (recsOf p).map (·.name) ∧ x ∉ (litsOf p).map (·.1) ∧ x ∉ (clssOf p loose).map (·.name)
/-- the name means the built-in class here -/
structure Sees (p : Program) (loose : List Str) (env : Env) (x : Str) : Prop where
  free : FreeName p loose x
  glo : env.globals = mainGlobals
  blt : env.builtins = builtinsNs
  fn : env.scope.kind = .function
  implicit : env.kindOf x = some .globalImplicit

section
variable {prog : Program} {w : World} {A : Around} {E : Value → Shared → Prop} {s : Shared} {env : Env} {g : Heap} {p : Program} {loose : List Str} {mg mb : Str → Option Value} {np : Pos}
theorem seen {Q : Value → Shared → Prop} (T : TopRead p loose mg mb g) (u : g.UpToSlots s.heap) (n : Sees p loose env "IndexError") (q : Q (.type "IndexError") s) : wpAny (model prog w) A (eval (.Name "IndexError" np) env) Q E s := by
  have hg : s.heap.Ns env.globals mg := n.glo ▸ u.ns T.g
  have hb : s.heap.Ns env.builtins mb := n.blt ▸ u.ns T.b
  obtain ⟨f1, f2, f3, f4, f5⟩ := n.free
  exact Calls.Name_function_global n.fn n.implicit (Calls.loadGlobal_builtin hg (T.free _ f1 f2 f3 f4 f5) hb ((T.builtins _ (by decide)).trans PyProof.Rows.Boot.«IndexError») q) (by decide)

theorem clause {e : Addr} {b₀ : Stmt} {suite : List Stmt} {pos : Pos} {rest : List ExceptHandler} {Q : Flow → Shared → Prop} (T : TopRead p loose mg mb g) (u : g.UpToSlots s.heap) (n : Sees p loose env "IndexError") (is : s.TypeIs (.ref e) "IndexError")
    (k : wpAny (model prog w) (A.mark (some (.ref e))) (setFlight (.ref e) none) (fun _ s₂ => wpAny (model prog w) (A.mark (some (.ref e))) (execs (b₀ :: suite) env) Q E s₂) E s)
    (hE : PassesOwnAt (model prog w) (A.mark (some (.ref e))) A env E) : wpAny (model prog w) A (handleBy (.ref e) env (.ExceptHandler (some (.Name "IndexError" np)) none (b₀ :: suite) pos :: rest)) Q E s :=
  wpAny_handleBy_builtin PySem.F.isExc_IndexError PySem.F.notTuple_IndexError (b := true) (X := "IndexError") (by rw [isSubtype_type]; kernel_rfl)
    (seen T u n ⟨rfl, is, wpAny_passesOwnAt hE (wpAny_mono k (fun _ _ z => wpAny_passesOwnAt hE z) fun _ _ z => z)⟩)
end

section
variable {prog : Program} {w : World} {A₀ : Around} {E : Value → Shared → Prop} {s' : Shared} {base g h h₀ : Heap} {outer : List Env} {L a e : Addr} {m : Str → Option Value} {name : Str} {scope : Scope} {cd : Value}
  {pos np p1 p2 p3 np2 : Pos} {rest : List ExceptHandler} {Q : Flow → Shared → Prop} {news : List (Addr × Obj)} {p : Program} {loose : List Str} {mg mb : Str → Option Value} {msg : Str} {kk : Nat}

/-- except IndexError: raise IndexError(msg) -/
theorem caught_reraise (K : Below A₀ base outer g) (F : Fr g L h m) (N : News g L h news) (x : Heap.NewExc h s'.heap e "IndexError") (T : TopRead p loose mg mb g)
    (hQ : ∀ h' e2 tk, Chained base (envOf name scope L a cd :: outer) e2 news h' → g.UpToSlots h' → E (.ref e2) { s' with heap := h', toks := tk })
    (free : FreeName p loose "IndexError" := by decide +kernel) (hk : scope.kind = .function := by rfl) (hx : (envOf name scope L a cd).kindOf ("IndexError" : Str) = some .globalImplicit := by rfl)
    (hE : PassesOwnAt (model prog w) ((A₀.deeper (envOf name scope L a cd)).mark (some (.ref e))) (A₀.deeper (envOf name scope L a cd)) (envOf name scope L a cd) E := by passes_own) :
    wpAny (model prog w) (A₀.deeper (envOf name scope L a cd)) (noteFrame (.ref e) (envOf name scope L a cd))
      (fun _ s₂ => wpAny (model prog w) (A₀.deeper (envOf name scope L a cd)) (setFlight (.ref e) none) (fun _ s₃ =>
        wpAny (model prog w) (A₀.deeper (envOf name scope L a cd)) (handleBy (.ref e) (envOf name scope L a cd) (.ExceptHandler (some (.Name ("IndexError" : Str) np)) none [.Raise (some (.Call (.Name ("IndexError" : Str) np2) [.Constant (.str msg) kk p1] [] p2)) none p3] pos :: rest)) Q E s₃) E s₂) E s' := by
  have n : Sees p loose (envOf name scope L a cd) "IndexError" := ⟨free, rfl, rfl, hk, hx⟩
  obtain ⟨B, st, inB, kl⟩ := ground (name := name) (a := a) (cd := cd) K F N hk
  obtain ⟨oe, t0, he, ce, de⟩ := x.there
  have u0 : g.UpToSlots s'.heap := (Heap.UpToSlots.of_keeps F.keep).trans (.of_keeps x.keeps)
  refine mark (Around.frames_deeper K.stack) rfl (fun b o q => x.keeps b o (inB b o q)) (kl.of_keeps fun b o q _ => ⟨o, x.keeps b o q, rfl⟩) (fresh_of_stays inB x.new) he de rfl rfl fun T₁ h₁ m₁ u₁ => unmark m₁ fun h₂ m₂ u₂ => ?_
  have u02 := (u0.trans u₁).trans u₂
  refine clause T u02 n (by obtain ⟨o, _, q, c, _⟩ := m₂.exc; exact ⟨o, q, c.trans ce⟩) (unmark m₂ fun h₃ m₃ u₃ => ?_) hE
  have u03 := u02.trans u₃
  refine wpAny_execs_cons (raise_chain rfl (Call_Name1 (seen T u03 n (PyProof.Rows.callWith_type rfl (Calls.evalArgs_plain (Calls.spliced_cons (Calls.Constant_str (Calls.spliced_nil (call_exc excClass_IndexError fun h₄ e2 y => ?_)))))))))
  obtain ⟨o1, ws, q1, c1, d1, _, w2⟩ := m₃.exc
  obtain ⟨ob, t2, q2, c2, d2⟩ := y.there
  have ne : e ≠ e2 := by rintro rfl; cases y.new.symm.trans q1
  have nE2 : B.get? e2 = none := fresh_of_stays m₃.stays y.new
  obtain ⟨b5, l5, u5, _, o5, q5, c5, d5⟩ := touch (·.setIfInBounds 2 (.ref e)) (fun b o q => y.keeps b o (m₃.stays b o q)) (m₃.frames.of_keeps fun b o q _ => ⟨o, y.keeps b o q, rfl⟩) nE2 q2 d2
  exact ⟨e2, ob, _, _, _, _, _, o1, ws, rfl, excClass_IndexError, ⟨q2, c2, d2⟩, ⟨y.keeps _ _ q1, c1.trans ce, d1⟩, rfl, by simp, w2, ne, hQ _ _ _ ⟨B, o5, _, _, st, b5, l5, nE2, ⟨q5, c5.trans c2, d5⟩, rfl, rfl⟩ ((u03.trans (.of_keeps y.keeps)).trans u5)⟩

/-- caught in any frame of a function (one with cells too) -/
theorem caught_C0 {env : Env} {b₀ : Stmt} {suite : List Stmt} (K : Below A₀ h₀ outer h₀) (hfe : env.frame = some L) (F : Fr h₀ L h m) (hsm : h.UpToSlots s'.heap) (R : RaisedN h₀ (env :: outer) e (.type "IndexError") news s'.heap) (T : TopRead p loose mg mb h₀)
    (k : ∀ h', Fr h₀ L h' m → News h₀ L h' news → wpAny (model prog w) ((A₀.deeper env).mark (some (.ref e))) (execs (b₀ :: suite) env) Q E { s' with heap := h' })
    (free : FreeName p loose "IndexError" := by decide +kernel) (glo : env.globals = mainGlobals := by rfl) (blt : env.builtins = builtinsNs := by rfl) (hk : env.scope.kind = .function := by rfl) (hx : env.kindOf ("IndexError" : Str) = some .globalImplicit := by rfl)
    (hE : PassesOwnAt (model prog w) ((A₀.deeper env).mark (some (.ref e))) (A₀.deeper env) env E := by passes_own) :
    wpAny (model prog w) (A₀.deeper env) (noteFrame (.ref e) env)
      (fun _ s₂ => wpAny (model prog w) (A₀.deeper env) (setFlight (.ref e) none) (fun _ s₃ =>
        wpAny (model prog w) (A₀.deeper env) (handleBy (.ref e) env (.ExceptHandler (some (.Name ("IndexError" : Str) np)) none (b₀ :: suite) pos :: rest)) Q E s₃) E s₂) E s' := by
  obtain ⟨B, a0, inB, led, fly⟩ := R
  have noL : B.get? L = none := (fly.2.2.1.mem (List.mem_filterMap.mpr ⟨env, .head _, hfe⟩)).1
  refine wpAny_looks_onW (Around.frames_deeper K.stack) hfe fly fun h₁ held u₁ => wpAny_landsW held fun h₂ fly₂ u₂ => ?_
  have u := hsm.trans (u₁.trans u₂)
  refine clause T ((Heap.UpToSlots.of_keeps F.keep).trans u) ⟨free, glo, blt, hk, hx⟩ fly₂.there (lands_againW fly₂ fun h₃ fly₃ u₃ => k h₃ (F.of_stays (flyingW_base inB fly₃).1 (u.trans u₃)) fun q hq => ?_) hE
  refine ⟨fly₃.1 _ _ (led q hq).1, fun z => ?_, (led q hq).2⟩
  cases (z ▸ noL).symm.trans (led q hq).1
end
end Mine
namespace Mine
theorem not_dec {b : Bool} (h : (!b) = true) : b = false := by simpa using h
section
variable {prog : Program} {w : World} {A : Around} {E : Value → Shared → Prop} {s : Shared} {h₀ : Heap} {L D : Addr} {m : Str → Option Value} {news : List (Addr × Obj)} {vs : List Value} {ns : List Int}
def Small (s : Shared) (v : Value) (s' : Shared) : Prop := ∃ n t k, v = .int n t ∧ 0 ≤ n ∧ n < 81 ∧ s' = { s with toks := k }
theorem ife_join {e : Expr} {env : Env} {Q : Value → Shared → Prop} (h1 : wpAny (model prog w) A (eval e env) (Small s) E s)
    (h2 : ∀ n t k, 0 ≤ n → n < 81 → Q (.int n t) { s with toks := k }) : wpAny (model prog w) A (eval e env) Q E s :=
  wpAny_mono h1 (fun v s' ⟨n, t, k, hv, h0, h8, hs⟩ => by subst hv; subst hs; exact h2 n t k h0 h8) (fun _ _ e => e)
theorem small_mod {x : Int} {t : Tok} {k : Nat} : Small s (.int (x.fmod 81) t) { s with toks := k } :=
  ⟨_, _, _, rfl, fmod_lo _ (by decide), fmod_hi _ (by decide), rfl⟩
theorem small_mod40 {x : Int} {t : Tok} {k : Nat} : Small s (.int (x.fmod 40) t) { s with toks := k } :=
  ⟨_, _, _, rfl, fmod_lo _ (by decide), Int.lt_trans (fmod_hi _ (by decide)) (by decide), rfl⟩
theorem small_zero {t : Tok} {k : Nat} : Small s (.int 0 t) { s with toks := k } := ⟨_, _, _, rfl, by decide, by decide, rfl⟩
theorem make_G {Q : Value → Shared → Prop} (F : Fr h₀ L s.heap m) (N : News h₀ L s.heap news) (hh : A.handled = none) (hl : s.heap.IsList D vs.toArray) (hi : IntsAre vs ns) (hr : KBa.In ns) (hn : ns.length ≤ 81)
    (h : ∀ h' t' k (b : Array UInt8), b.size ≤ 81 → Fr h₀ L h' m → News h₀ L h' news → Q (.bytes b t') { s with heap := h', toks := k }) : wpAny (model prog w) A (call (.type "bytes") [.ref D]) Q E s :=
  KBa.make_K F N hh hl hi hr (by omega) fun h' t k F' N' _ => h h' t k _ (by rw [byteArr_size]; exact hn) F' N'
end
end Mine
open Mine
local macro_rules | `(tactic| walk_at "eval IfExp") => `(tactic| (k_here; k_dflt (refine ife_join ?ia ?_; (case ia => ((with_reducible refine IfExp_ ?_); (repeat' (first | exact small_mod | exact small_mod40 | exact small_zero | (k_unfold; (try dsimp only)) | walk1 | (dsimp only; walk1))))); intro n t k hn0 hn8)))
local macro_rules | `(tactic| walk_at "call type:bytes") => `(tactic| (k_here; (with_reducible show wpAny _ _ (call (Value.type "bytes") [Value.bytes _ _]) _ _ _); k_dflt (refine bb_call ?_)))
local macro_rules | `(tactic| walk_at "call type:bytes") => `(tactic| (k_here; (with_reducible show wpAny _ _ (call (Value.type "bytes") [Value.ref _]) _ _ _); k_dflt (refine' make_G ?kbaF ?kbaN ?kbah ?kbal ?kbai ?kbar ?kban ?_; (case kbaF => k_asm); (case kbaN => k_asm); (case kbah => rfl); (case kbal => kba_isList); (case kbai => kba_listInts); (case kbar => kba_in); (case kban => ((simp only [List.length_map, rangeKs_length]); omega))); intro h' tb kb bs hbs F' N'; (try k_sweep)))
local macro_rules | `(tactic| walk_at "eval ListComp") => `(tactic| (k_here; (with_reducible show wpAny _ _ (eval (Expr.ListComp (Expr.Subscript (Expr.Name _ _) (Expr.Constant _ _ _) _) _ _ _) _) _ _ _); k_dflt (refine LCg.ListComp_U (F₀ := by k_asm) (by with_unfolding_all rfl) (by decide) (by rfl) (by decide) (by rfl) ?_)))
local macro_rules | `(tactic| walk_at "CompSrc") => `(tactic| (k_here; kd_here; k_dflt (refine' comp_src ?hh ?F ?N ?hk ?hx ?hdb ?hm ?hd ?hL ?hsz ?_; (case hh => rfl); (case F => k_asm); (case N => k_asm); (case hk => rfl); (case hx => rfl); (case hdb => decide); (case hm => k_mem); (case hd => assumption); (case hL => kd_subs); (case hsz => omega)); intro ys D' h' tk' hI8 F' N' o1'; (try simp only [LCg.Off1, and_true] at o1')))
local macro_rules | `(tactic| walk_at "subscriptTail") => `(tactic| (k_here; (with_reducible show wpAny _ _ (subscriptTail _ (Expr.Slice _ _ none _) (Value.bytes _ _) (Value.ref _)) _ _ _); (with_reducible rename Fr _ _ _ _ => F'); (with_reducible rename News _ _ _ _ => N'); k_dflt (refine slice_G (s := ⟨_, _, _, _, _⟩) F' N' (by constructor) (by constructor) (by omega) ?_); intro h' t' k' F' N' hz'; (try k_sweep)))
local macro_rules | `(tactic| walk_at "callWith ref") => `(tactic| (k_here; k_dflt (first | (refine' callWith_K ?k1 ?k2 ?_; (case k1 => with_reducible assumption); (case k2 => k_is); k_whole) | (refine' callWith_K0 ?k1 ?k2 ?_; (case k1 => exact Frag.In.keeps (by with_reducible assumption) (Fr.keep (by with_reducible assumption))); (case k2 => k_is); k_whole))))
local macro_rules | `(tactic| walk_at "KswEnd") => `(tactic| k_dflt ((rename News _ _ _ _ => nE'); (try simp only [List.push_toArray] at nE'); (refine' ksw_end ⟨_, _, _, _, _, _, _, _, _, _, _, _⟩ ?swF nE' ?swN ?swA ?swK ?swS ?swP ?swL; (case swF => assumption); (case swN => kd_inAll); (case swA => kst_facts); (case swK => kst_all); (case swS => ksw_same); (case swP => kst_p); (case swL => ksw_less))))
local macro_rules | `(tactic| walk_at "compareOp Eq bytes bytes") => `(tactic| (k_here; k_dflt (refine eq_tail (by omega) (by omega) ?_)))
local macro_rules | `(tactic| walk_at "compareOp NotEq bytes bytes") => `(tactic| (k_here; k_dflt (refine ne_self ?_)))
local macro_rules | `(tactic| walk_at "call builtin:len") => `(tactic| (k_here; (with_reducible show wpAny _ _ (call (Value.builtin "len") [Value.bytes _ _]) _ _ _); k_dflt (refine len_bytes (by omega) ?_)))
local macro_rules | `(tactic| walk_at "call builtin:list.append") => `(tactic| (k_here; (with_reducible show wpAny _ _ (call (Value.builtin _) [Value.ref _, _]) _ _ _); k_dflt (refine' append_K ?k1 ?k2 ?k3 ?_ ?z; (case k1 => k_asm); (case k2 => k_asm); (case k3 => k_upd); (case z => ((simp only [List.size_toArray]); rw [sizeLine_eq]; omega))); intro h' F' N'; (try simp only [List.push_toArray] at N'); (try k_sweep)))
local macro_rules | `(tactic| walk_at "call builtin:list.pop") => `(tactic| (k_here; k_dflt (refine' pop_fr1 ?F ?N ?U ?d ?z ?e ?_; (case F => k_asm); (case N => k_asm); (case U => k_upd); (case d => assumption); (case z => omega); (case e => first | assumption | exact not_dec (by assumption))); intro gs' p' e' h' a' tx' ty' k' F' N' hm' hd'; subst e'; (try k_sweep)))
local macro_rules | `(tactic| walk_at "call builtin:list.pop") => `(tactic| (k_here; k_dflt (refine' pop_fr2 ?F ?N ?U ?d ?z ?_; (case F => k_asm); (case N => k_asm); (case U => k_upd); (case d => assumption); (case z => omega)); intro h' a' tx' ty' k' F' N' hm' hd'; (try k_sweep)))
local macro_rules | `(tactic| walk_at "ite") => `(tactic| (k_here; k_dflt (refine no63 (by assumption) ?_)))
local macro_rules | `(tactic| walk_at "call builtin:list.pop") => `(tactic| (k_here; k_dflt (refine' pop_empty ?h ?N ?m ?_; (case h => rfl); (case N => k_asm); (case m => k_mem)); intro h' tk' e' x'))
local macro_rules | `(tactic| walk_at "exec Try") => `(tactic| (k_here; (with_reducible show wpAny _ _ (exec (Stmt.Try _ (_ :: _) _ [] _) (envOfC _ _ _ _ _)) _ _ _); (rename (decide (fd _ = []) = true) => hnil'); (have hnil2 := fs_nil hnil'); clear hnil'; subst hnil2; (rename DatAll _ _ (fd []) => hA1); (have hA2 := dat_nil hA1); clear hA1; subst hA2; (rename DatAll _ _ (fd []) => hA1); (have hA2 := dat_nil hA1); clear hA1; subst hA2; refine wpAny_Try_except ?_))
local macro_rules | `(tactic| walk_at "noteFrame ref") => `(tactic| (k_here; (rename RaisedN _ _ _ _ _ _ => rnX'); k_dflt (refine caught_C0 (by assumption) rfl (by assumption) (by assumption) rnX' (by k_asm) ?_); clear rnX'; intro h' F' N'; ground_anew F'; (have kX := kFor F' (by k_asm)); (try k_sweep)))
local macro_rules | `(tactic| walk_at "noteFrame ref") => `(tactic| (k_here; (rename Heap.NewExc _ _ _ "IndexError" => nxX'); k_dflt (refine caught_reraise (by assumption) (by assumption) (by k_asm) nxX' (by k_asm) ?_); intro h' e' tk' R' U'; (try dsimp only at R' U' ⊢)))
local macro_rules | `(tactic| walk_at "leaving ref") => `(tactic| (k_here; (rename Chained _ _ _ _ _ => rcX'); k_dflt (refine' leave_chained ?K rcX' ?U ?_; (case K => assumption); (case U => assumption)); clear rcX'; intro h' R' U'; (try dsimp only at R' U' ⊢)))
set_option maxRecDepth 100000 in
set_option maxHeartbeats 40000000 in
theorem PySem.Challenge.cw_iv0008_01_holds : PySem.Challenge.rw_iv0008_01.Holds := by
  w_on; o_law; k_head; (case hw => w_witness2)
  k_go0; (all_goals try k_fold)
  k_steps
  (rename Fr _ _ _ _ => lF')
  (rename News _ _ _ _ => lN')
  (rename IsRange _ _ _ _ _ _ _ _ => rgX)
  with_unfolding_all refine' my_for ?mfH rgX ?mf0 ?mf1 lF' lN' ?mfA ?mfK ?mfT ?mfD
  case mfH => rfl
  case mf0 => omega
  case mf1 => omega
  case mfA => ((simp only [List.map_cons, List.map_nil]); exact rfl)
  case mfK => with_unfolding_all rfl
  case mfT =>
    clear lF' lN'
    intro vs us ds es na nb pl sp tot tpl tsp tt tl i t u h tk own hi kSep kO4 hd1 hd2 hW kFr kNews
    obtain ⟨fs, rfl, rfl, rfl, rfl, hlen, hpl, hfs⟩ := hW
    have kMark := kdMark
    have kMark2 := kstMark
    have hi2 := rN_lt hi
    have hf64 : fs.length ≤ 64 := by omega
    have hus : us.length ≤ 64 := by rw [hd2.length]; simpa [fd] using hf64
    have hvs : vs.length ≤ 64 := by rw [hd1.length]; simpa [fd] using hf64
    simp only [List.nil_append, List.cons_append] at kNews hd1 hd2
    k_with "state" => first | exact W_nil (by assumption) | exact W_keep (by assumption) (by assumption) (by first | rfl | omega) (by omega) | exact W_seek (by assumption) (by assumption) (by assumption) | exact W_push (by assumption) (by assumption) (by assumption) (by assumption) (by first | rfl | omega) (by first | rfl | omega) (by first | rfl | omega) | exact W_popJ (by omega) (by assumption) rfl rfl rfl
    k_steps
  case mfD =>
    clear lF' lN'
    intro vs us ds es na nb pl sp tot tpl tsp tt tl u h tk hoff hd1 hd2 hW kFr kNews
    have kMark := kdMark
    have kMark2 := kstMark
    simp only [List.nil_append, List.cons_append] at kNews hd1 hd2
    first | walk1 | (dsimp only; walk1) | (k_unfold; (try dsimp only); walk1)
    (rename Fr _ _ _ _ => lF')
    (rename News _ _ _ _ => lN')
    with_unfolding_all refine' my_while lF' lN' hd1 hd2 ?mwK (W_mono hW ?mwL) ?mwT
    case mwK => with_unfolding_all rfl
    case mwL => unfold rN; omega
    case mwT =>
      clear lF' lN' hd1 hd2 hW
      intro vs us ds es na nb pl sp tot tpl tsp tt u h tk hd1 hd2 hW kFr kNews
      obtain ⟨fs, rfl, rfl, rfl, rfl, hf64, hpl, hfs⟩ := hW
      have hus : us.length ≤ 64 := by rw [hd2.length]; simpa [fd] using hf64
      have hvs : vs.length ≤ 64 := by rw [hd1.length]; simpa [fd] using hf64
      k_with "state" => exact W_popJ (by assumption) (by assumption) rfl rfl rfl
      k_with "measure" => exact fd_less _ _
      k_steps
  all_goals (first | done | k_data)
