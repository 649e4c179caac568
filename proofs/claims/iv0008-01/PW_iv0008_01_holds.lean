import PyProof.Rows.All
import Wide.All
import OpenK.AllK
import Wide.FinOn
import PySem.Challenge.RW_iv0008_01
open PySem PySem.W PyProof.Rows PySem.Calls
set_option Elab.async false
set_option maxRecDepth 100000
namespace Mine
theorem lk_bytes : typeLookup (.type "bytes") "__bytes__" = pure (some (.builtin "bytes.__bytes__")) := by rw [typeLookup_type, builtinLookup_eq_fast]; kernel_rfl
section
variable {prog : Program} {w : World} {A : Around} {E : Value → Shared → Prop} {s : Shared}
theorem bb_new {b : Array UInt8} {t : Tok} {Q : Value → Shared → Prop} (h : Q (.bytes b t) s) :
    codeAny (model prog w) A (.call (.builtin "bytes.__new__") ⟨[.type "bytes", .bytes b t], []⟩) (wants Q E) s := by
  refine codeAny_of_tree ?_
  show wpAny _ A.in1 (do checkBuiltinCall "bytes.__new__" ⟨[.type "bytes", .bytes b t], []⟩; again (.builtin "bytes.__new__" ⟨[.type "bytes", .bytes b t], []⟩)) _ _ s
  refine wpAny_bind (wpAny_of_eq (F.bm_newCall _) (wpAny_pure ⟨plainId_quiet F.bm_plain _, codeAny_builtin F.bm_entry ?_⟩))
  rw [Around.under_plainId F.bm_plain _]
  have hT : s.TypeIs (.bytes b t) "bytes" := typeIs_bytes _ _ _
  unfold Builtin.«bytes.__new__»
  refine wpAny_bind (wpAny_of_eq (a := true) rfl ?_)
  refine bm_if_false rfl ?_
  refine wpAny_bind (wpAny_of_eq F.bm_sub ?_)
  refine bm_if_false rfl ?_
  refine wpAny_bind (wpAny_of_eq (F.bm_bind _) ?_)
  refine wpAny_bind (wpAny_of_eq (a := ()) rfl ?_)
  refine wpAny_bind (wpAny_of_eq (a := ()) rfl ?_)
  refine bm_if_false rfl ?_
  refine wpAny_bind (wpAny_specialOf hT lk_bytes ?_)
  refine wpAny_bind (wpAny_rule ?_)
  refine wpAny_bind (wpAny_typeOf hT ?_)
  refine bm_if_true rfl ?_
  show wpAny _ _ (if (Value.type "bytes" == Value.type "bytes") = true then _ else _) _ _ _
  refine bm_if_true (by decide) ?_
  first | exact wpAny_bind (wpAny_pure (wpAny_pure h)) | exact wpAny_bind (wpAny_pure h) | exact wpAny_pure h
theorem bb_call {b : Array UInt8} {t : Tok} {Q : Value → Shared → Prop} (h : Q (.bytes b t) s) : wpAny (model prog w) A (call (.type "bytes") [.bytes b t]) Q E s := by
  refine callType_codes (Q₁ := fun obj s₁ => s₁.TypeIs obj "bytes" ∧ Q obj s₁) F.bm_called (F.bm_typeCall _) F.entry_object_init
    (bb_new ⟨PySem.W.typeIs_bytes _ _ _, h⟩) fun obj s₁ h₁ => ?_
  exact ⟨h₁.1, F.args_object_init_2 obj _, object_init_meets F.bm_called.init.lookup F.bm_called.made (by decide) prog w A.in1 _ s₁ ⟨h₁.1, rfl, h₁.2⟩⟩
end
end Mine
namespace Mine
def rN (b : Int) : Nat := ((b + 1) / 2).toNat
theorem rN_size {b : Int} (h0 : 0 ≤ b) : Builtin.Range.rangeSize 0 b 2 = (rN b : Int) := by
  unfold Builtin.Range.rangeSize rN
  simp only [show (2 : Int) > 0 by decide, if_true]
  split <;> omega
theorem rN_small {b : Int} (h0 : 0 ≤ b) (h1 : b < 2 ^ 40) : Builtin.Range.small 0 b 2 = true := by
  unfold Builtin.Range.small
  rw [rN_size h0]
  unfold rN
  simp only [Builtin.Range.rangeFitsLong, Bool.and_eq_true, Bool.or_eq_true, decide_eq_true_eq, beq_iff_eq, show (2 : Int) > 0 by decide, if_true]
  omega
theorem rN_lt {b : Int} {i : Nat} (h : i < rN b) : 2 * (i : Int) < b := by
  unfold rN at h
  omega
theorem rN_le {b : Int} {i : Nat} (h : i < rN b) (hb : b < 64) : i < 64 := by
  unfold rN at h
  omega

def fd (fs : List (Int × Int)) : List Dat := fs.map fun p => .tuple [.int p.1, .int p.2]
abbrev off (fs : List (Int × Int)) : Int := (fs.map fun x => x.1).sum
def W (i : Nat) (ds es : List Dat) (pl sp tot : Int) : Prop :=
  ∃ fs : List (Int × Int), ds = fd fs ∧ es = fd fs ∧ sp = pl ∧ tot = (fs.map fun x => x.1).sum ∧ fs.length ≤ i ∧ 0 ≤ pl ∧ ∀ p ∈ fs, 0 ≤ p.1 ∧ 0 ≤ p.2

section
variable {prog : Program} {w : World} {A : Around} {E : Value → Shared → Prop} {s : Shared} {env : Env} {h₀ : Heap} {x : Str} {body : List Stmt} {Q : Flow → Shared → Prop}

set_option maxHeartbeats 3200000 in
theorem kd_range2 {σ : Type} {r : Addr} {b₀ : Int} {t₀ u₀ v₀ : Tok} {n : Nat} {m₀ : Str → Option Value} {news : List (Addr × Obj)} (Led : σ → List (Addr × Obj)) (cst : List (Addr × Obj)) (ps : σ → List (Str × Value)) (Facts : List (Addr × Obj) → σ → Prop) (stored : List Str) (P : Nat → σ → Prop) (adr : List Addr) (c₀ : σ)
    (hh : A.handled = none) (hr : IsRange s.heap r 0 b₀ 2 t₀ u₀ v₀) (hsmall : Builtin.Range.small 0 b₀ 2 = true) (hsz : Builtin.Range.rangeSize 0 b₀ 2 = (n : Int)) (F : Fr h₀ env.locals s.heap m₀) (N : News h₀ env.locals s.heap news) (hn : ∀ p ∈ Led c₀ ++ (cst ++ []), p ∈ news) (hadr : ∀ c, (Led c ++ cst).map (·.1) = adr) (hf : Facts (cst ++ []) c₀) (hk : ∀ p ∈ ps c₀, m₀ p.1 = some p.2) (hp : P 0 c₀)
    (turn : ∀ (c : σ) tl (i : Nat) t (u : Str → Option Value) h tk own, i < n → KdSep own tl adr → OwnOff (tl ++ own) adr → Facts (cst ++ tl) c → P i c →
      Fr h₀ env.locals h (fun y => if y = x then some (.int (2 * (i : Int)) t) else kstB (fun z => if stored.contains z then u z else m₀ z) (ps c) y) → News h₀ env.locals h (Led c ++ (cst ++ (tl ++ own))) →
      wpAny (model prog w) A (execs body env) (InvPostG h₀ env.locals (KdS Led cst ps Facts x stored m₀ P adr (i + 1)) own { s with heap := h, toks := tk } Q) E { s with heap := h, toks := tk })
    (done : ∀ (c : σ) tl (u : Str → Option Value) h tk, OwnOff tl adr → Facts (cst ++ tl) c → P n c → Fr h₀ env.locals h (fun y => if y = x then u y else kstB (fun z => if stored.contains z then u z else m₀ z) (ps c) y) → News h₀ env.locals h (Led c ++ (cst ++ tl)) → Q .next { s with heap := h, toks := tk }) :
    wpAny (model prog w) A (pyIter (.ref r)) (fun it s₂ => LoopAtV prog w A h₀ env x body Q E it s₂) E s := by
  refine wpAny_pyIter_range hr hsmall ?_
  have W : Walks prog w A s.heap.objs.size [s.heap.objs.size] [s.heap.objs.size] n (fun i v => i < n ∧ ∃ t, v = .int (0 + i * 2) t)
      (fun i h => IsRangeIter h s.heap.objs.size (0 + (i : Nat) * 2) ((n : Int) - (i : Nat)) 2) := (Walks.range hh _ 0 2 n).bound
  refine kdr_loop (fun i m nx => KdS Led cst ps Facts x stored m₀ P adr i m nx) W (fun _ h => h) (fun _ h => h) ?_ ?_ ?_ ?_ (by show IsRangeIter _ _ _ _ _; rw [hsz]; simpa using Heap.get?_push_size _ rfl) (F.push _) (fun p hp => ⟨Heap.get?_push_of_some _ (N p (hn p hp)).1, (N p (hn p hp)).2⟩) ⟨c₀, [], rfl, fun _ hp => (nomatch hp), hf, hk, fun _ _ _ _ => rfl, hp⟩ ?_ ?_
  · intro i h hi b hb
    rw [List.mem_singleton.mp hb]
    exact ⟨_, hi⟩
  · intro hm
    exact absurd F.ns.lt ((List.mem_singleton.mp hm) ▸ Nat.lt_irrefl _)
  · intro b hb
    rw [List.mem_singleton.mp hb]
    exact next_is_new F
  · intro p hp hI
    exact absurd (Heap.lt_size (N p (hn p hp)).1) ((List.mem_singleton.mp hI) ▸ Nat.lt_irrefl _)
  · rintro i v m₁ nx h tk own hi ⟨_, t, rfl⟩ hoff ⟨c, tl, rfl, ht, hf', h1, h2, hp'⟩ F₁ N₁
    have e1 : (0 : Int) + (i : Int) * 2 = 2 * (i : Int) := by omega
    rw [e1] at F₁
    obtain ⟨o1, o2⟩ := kd_split (hadr c) hoff
    rw [List.append_assoc, List.append_assoc] at N₁
    exact turn c tl i t m₁ h tk own hi ⟨o1, o2, ht⟩ (kd_off o1 ht) hf' hp' (kst_fr h1 h2 F₁) N₁
  · rintro m₁ nx h tk ⟨c, tl, rfl, ht, hf', h1, h2, hp'⟩ F₁ N₁
    exact done c tl m₁ h tk ht hf' hp' (kst_frOut h1 h2 F₁) N₁


theorem my_for {r : Addr} {b₀ : Int} {t₀ u₀ v₀ : Tok} {m₀ : Str → Option Value} {A1 B1 x d : Addr} {X : Obj} {q1 q2 : Addr × Obj} {e1 : DictEntry} {g2 g3 g4 : Int} {k2 k3 k4 : Value} {t2 t4 tp : Tok} {nd : Nat} {cst : List (Addr × Obj)} {adr : List Addr}
    (hh : A.handled = none) (hr : IsRange s.heap r 0 b₀ 2 t₀ u₀ v₀) (hb0 : 0 ≤ b₀) (hb1 : b₀ < 2 ^ 40) (F : Fr h₀ env.locals s.heap m₀)
    (N : News h₀ env.locals s.heap ((B1, listOf #[] 0) :: (A1, listOf #[] 0) :: q1 :: q2 :: (x, X) :: (d, dictOf [e1, ⟨g2, k2, .int 0 t2⟩, ⟨g3, k3, .ref A1⟩, ⟨g4, k4, .int 0 t4⟩] nd) :: cst))
    (hadr : B1 :: A1 :: d :: q1.1 :: q2.1 :: x :: cst.map (·.1) = adr) (hk : m₀ (Str.ofString "place") = some (.int 0 tp))
    (turn : ∀ (vs us : List Value) (ds es : List Dat) (na nb : Nat) (pl sp tot : Int) (tpl tsp tt : Tok) tl (i : Nat) t (u : Str → Option Value) h tk own, i < rN b₀ → KdSep own tl adr → OwnOff (tl ++ own) adr →
      DatAll (q1 :: q2 :: (x, X) :: (cst ++ tl)) vs ds → DatAll (q1 :: q2 :: (x, X) :: (cst ++ tl)) us es → W i ds es pl sp tot →
      Fr h₀ env.locals h (fun y => if y = Str.ofString "k" then some (.int (2 * (i : Int)) t) else if y = Str.ofString "place" then some (.int pl tpl) else if ([Str.ofString "kind", Str.ofString "number", Str.ofString "start", Str.ofString "due"] : List Str).contains y then u y else m₀ y) →
      News h₀ env.locals h ((B1, listOf us.toArray nb) :: (A1, listOf vs.toArray na) :: (d, dictOf [e1, ⟨g2, k2, .int sp tsp⟩, ⟨g3, k3, .ref A1⟩, ⟨g4, k4, .int tot tt⟩] nd) :: q1 :: q2 :: (x, X) :: (cst ++ (tl ++ own))) →
      wpAny (model prog w) A (execs body env) (InvPostG h₀ env.locals (KdS (fun c : List Value × List Dat × Nat × List Value × List Dat × Nat × Int × Tok × Int × Tok × Int × Tok => [(B1, listOf c.2.2.2.1.toArray c.2.2.2.2.2.1), (A1, listOf c.1.toArray c.2.2.1), (d, dictOf [e1, ⟨g2, k2, .int c.2.2.2.2.2.2.2.2.1 c.2.2.2.2.2.2.2.2.2.1⟩, ⟨g3, k3, .ref A1⟩, ⟨g4, k4, .int c.2.2.2.2.2.2.2.2.2.2.1 c.2.2.2.2.2.2.2.2.2.2.2⟩] nd)]) (q1 :: q2 :: (x, X) :: cst)
        (fun c => [(Str.ofString "place", .int c.2.2.2.2.2.2.1 c.2.2.2.2.2.2.2.1)]) (fun L c => DatAll L c.1 c.2.1 ∧ DatAll L c.2.2.2.1 c.2.2.2.2.1) (Str.ofString "k") ([Str.ofString "kind", Str.ofString "number", Str.ofString "start", Str.ofString "due"] : List Str) m₀
        (fun i c => W i c.2.1 c.2.2.2.2.1 c.2.2.2.2.2.2.1 c.2.2.2.2.2.2.2.2.1 c.2.2.2.2.2.2.2.2.2.2.1) adr (i + 1)) own { s with heap := h, toks := tk } Q) E { s with heap := h, toks := tk })
    (done : ∀ (vs us : List Value) (ds es : List Dat) (na nb : Nat) (pl sp tot : Int) (tpl tsp tt : Tok) tl (u : Str → Option Value) h tk, OwnOff tl adr →
      DatAll (q1 :: q2 :: (x, X) :: (cst ++ tl)) vs ds → DatAll (q1 :: q2 :: (x, X) :: (cst ++ tl)) us es → W (rN b₀) ds es pl sp tot →
      Fr h₀ env.locals h (fun y => if y = Str.ofString "k" then u y else if y = Str.ofString "place" then some (.int pl tpl) else if ([Str.ofString "kind", Str.ofString "number", Str.ofString "start", Str.ofString "due"] : List Str).contains y then u y else m₀ y) →
      News h₀ env.locals h ((B1, listOf us.toArray nb) :: (A1, listOf vs.toArray na) :: (d, dictOf [e1, ⟨g2, k2, .int sp tsp⟩, ⟨g3, k3, .ref A1⟩, ⟨g4, k4, .int tot tt⟩] nd) :: q1 :: q2 :: (x, X) :: (cst ++ tl)) → Q .next { s with heap := h, toks := tk }) :
    wpAny (model prog w) A (pyIter (.ref r)) (fun it s₂ => LoopAtV prog w A h₀ env (Str.ofString "k") body Q E it s₂) E s := by
  refine kd_range2 (σ := List Value × List Dat × Nat × List Value × List Dat × Nat × Int × Tok × Int × Tok × Int × Tok) _ _ _ _ ([Str.ofString "kind", Str.ofString "number", Str.ofString "start", Str.ofString "due"] : List Str) _ adr ⟨[], [], 0, [], [], 0, 0, tp, 0, t2, 0, t4⟩ hh hr (rN_small hb0 hb1) (rN_size hb0) F N ?_ ?_ ⟨.nil, .nil⟩ ?_ ?_
    (fun c tl i t u h tk own hi hs ho hf hp F' N' => turn c.1 c.2.2.2.1 c.2.1 c.2.2.2.2.1 c.2.2.1 c.2.2.2.2.2.1 c.2.2.2.2.2.2.1 c.2.2.2.2.2.2.2.2.1 c.2.2.2.2.2.2.2.2.2.2.1 c.2.2.2.2.2.2.2.1 c.2.2.2.2.2.2.2.2.2.1 c.2.2.2.2.2.2.2.2.2.2.2 tl i t u h tk own hi hs ho hf.1 hf.2 hp F' N')
    (fun c tl u h tk ho hf hp F' N' => done c.1 c.2.2.2.1 c.2.1 c.2.2.2.2.1 c.2.2.1 c.2.2.2.2.2.1 c.2.2.2.2.2.2.1 c.2.2.2.2.2.2.2.2.1 c.2.2.2.2.2.2.2.2.2.2.1 c.2.2.2.2.2.2.2.1 c.2.2.2.2.2.2.2.2.2.1 c.2.2.2.2.2.2.2.2.2.2.2 tl u h tk ho hf.1 hf.2 hp F' N')
  · intro p hp
    simp only [List.append_nil, List.cons_append, List.nil_append, List.mem_cons] at hp ⊢
    rcases hp with h | h | h | h | h | h | h
    · exact .inl h
    · exact .inr (.inl h)
    · exact .inr (.inr (.inr (.inr (.inr (.inl h)))))
    · exact .inr (.inr (.inl h))
    · exact .inr (.inr (.inr (.inl h)))
    · exact .inr (.inr (.inr (.inr (.inl h))))
    · exact .inr (.inr (.inr (.inr (.inr (.inr h)))))
  · intro c; exact hadr
  · intro p hp
    rw [List.mem_singleton.mp hp]; exact hk
  · exact ⟨[], rfl, rfl, rfl, rfl, Nat.le_refl _, Int.le_refl _, fun _ h => nomatch h⟩
end
end Mine
namespace Mine
theorem fd_get {L9 : List (Addr × Obj)} {us : List Value} {fs : List (Int × Int)} (hd : DatAll L9 us (fd fs)) {i : Nat} {v : Value} (hv : us[i]? = some v) :
    ∃ p a tx ty n, fs[i]? = some p ∧ v = .ref a ∧ (a, ({ cls := .type "tuple", data := .seq #[.int p.1 tx, .int p.2 ty] n } : Obj)) ∈ L9 := by
  have hlen : us.length = fs.length := by rw [hd.length]; simp [fd]
  have hi : i < us.length := (List.getElem?_eq_some_iff.mp hv).1
  obtain ⟨v', hv', hD⟩ := hd.get (k := i) (by simp [fd]; omega)
  rw [hv] at hv'
  obtain rfl := Option.some.inj hv'
  have e : (fd fs)[i]'(by simp [fd]; omega) = .tuple [.int (fs[i]'(by omega)).1, .int (fs[i]'(by omega)).2] := by simp [fd]
  rw [e] at hD
  cases hD with
  | tuple hm hr =>
    cases hr with
    | cons h1 r1 =>
      cases r1 with
      | cons h2 r2 =>
        cases r2
        cases h1
        cases h2
        exact ⟨_, _, _, _, _, List.getElem?_eq_getElem (by omega), rfl, hm⟩
section
variable {prog : Program} {w : World} {A : Around} {E : Value → Shared → Prop} {s : Shared} {h₀ : Heap} {L : Addr} {m : Str → Option Value} {env : Env}
theorem comp_rest {x : Str} {p1 p2 p3 : Pos} {scope : Scope} {cl : List (Str × Addr)} {S : List (Addr × Obj) → Prop} {Fin : List Value → List (Addr × Obj) → Prop} {news L9 : List (Addr × Obj)} {us : List Value} {fs : List (Int × Int)}
    (hk : scope.kind = .function) (hx : scope.names.lookup x = some .local) (hdb : (x == ("__debug__" : Str)) = false) (hd : DatAll L9 us (fd fs)) (hL : ∀ p ∈ L9, p ∈ news) (hS : S news)
    (fin : ∀ ys, IntsAre ys (fs.map (·.1)) → Fin ys news) :
    LCg.CompRest prog w A h₀ L m env (.Subscript (.Name x p1) (.Constant (.int 0) 0 p2) p3) x scope cl s S (fun i v => us.toArray[i]? = some v) Fin us.toArray.size 0 [] news := by
  have hlen : us.length = fs.length := by rw [hd.length]; simp [fd]
  have key : ∀ (j i : Nat) (ys : List Value), i + j = us.length → IntsAre ys ((fs.take i).map (·.1)) → LCg.CompRest prog w A h₀ L m env (.Subscript (.Name x p1) (.Constant (.int 0) 0 p2) p3) x scope cl s S (fun i v => us.toArray[i]? = some v) Fin j i ys news := by
    intro j
    induction j with
    | zero =>
      intro i ys hi hy
      refine LCg.CompRest.zero (fin ys ?_)
      rw [List.take_of_length_le (by omega)] at hy
      exact hy
    | succ j ih =>
      intro i ys hi hy
      refine LCg.CompRest.succ ?_
      intro v I oI C oC D m₂ h tk E' hv hC hxm F N off ne
      have hv' : us[i]? = some v := by simpa using hv
      obtain ⟨p, a, tx, ty, n, hp, rfl, hm⟩ := fd_get hd hv'
      have hNC : h.get? C = some oC := (N (C, oC) (List.mem_cons_of_mem _ List.mem_cons_self)).1
      have hNa : h.get? a = some _ := (N _ (List.mem_cons_of_mem _ (List.mem_cons_of_mem _ (List.mem_cons_of_mem _ (hL _ hm))))).1
      refine Subscript_ (wpAny_Name (wpAny_loadName_local (env := compEnvC scope cl C env) hk (lookup_relabel_local hx) (hC.ns hNC) hxm ?_) hdb)
      refine wpAny_Constant_int ?_
      refine item_tupleT (l := [.int p.1 tx, .int p.2 ty]) (j := 0) ⟨_, hNa, rfl, n, rfl⟩ (by decide) (by decide) rfl rfl ?_
      refine ⟨h, _, news, rfl, F, N, off, hS, ?_⟩
      refine ih (i + 1) _ (by omega) ?_
      rw [List.take_add_one, hp]
      simpa using IntsAre.append hy (.cons p.1 tx .nil)
  have e := key us.length 0 [] (by omega) (by simp only [List.take_zero, List.map_nil]; exact .nil)
  simpa using e
theorem comp_src {x : Str} {p1 p2 p3 : Pos} {scope : Scope} {cl : List (Str × Addr)} {Q : Value → Shared → Prop} {news L9 : List (Addr × Obj)} {us : List Value} {fs : List (Int × Int)} {B1 : Addr} {nb : Nat}
    (hh : A.handled = none) (F : Fr h₀ L s.heap m) (N : News h₀ L s.heap news) (hk : scope.kind = .function) (hx : scope.names.lookup x = some .local) (hdb : (x == ("__debug__" : Str)) = false)
    (hm : (B1, listOf us.toArray nb) ∈ news) (hd : DatAll L9 us (fd fs)) (hL : ∀ p ∈ L9, p ∈ news) (hsz : fs.length ≤ 64)
    (h : ∀ ys D h' tk, IntsAre ys (fs.map (·.1)) → Fr h₀ L h' m → News h₀ L h' ((D, LCg.lst ys) :: news) → LCg.Off1 D news → Q (.ref D) { s with heap := h', toks := tk }) :
    LCg.CompSrc prog w A h₀ L m env (.Subscript (.Name x p1) (.Constant (.int 0) 0 p2) p3) x scope cl (fun s₂ => LCg.FinE h₀ L m s₂ Q) (.ref B1) s := by
  have hlen : us.length = fs.length := by rw [hd.length]; simp [fd]
  refine LCg.CompSrc.ledger hh F N hm (by rw [List.size_toArray, hlen, sizeLine_eq]; omega) fun g => ?_
  refine comp_rest hk hx hdb hd hL (.inr ⟨_, hm, rfl, _, rfl⟩) fun ys hy => ?_
  intro D h' tk F' N' o1
  exact h ys D h' tk hy F' N' o1
end
end Mine
namespace Mine
theorem off_nonneg {fs : List (Int × Int)} (h : ∀ p ∈ fs, 0 ≤ p.1 ∧ 0 ≤ p.2) : 0 ≤ (fs.map fun x => x.1).sum := by
  induction fs with
  | nil => exact Int.le_refl _
  | cons p r ih =>
    have h1 := (h p (.head _)).1
    have h2 := ih fun q hq => h q (.tail _ hq)
    simp only [List.map_cons, List.sum_cons]
    omega
theorem off_snoc (fs : List (Int × Int)) (p : Int × Int) : ((fs ++ [p]).map fun x => x.1).sum = (fs.map fun x => x.1).sum + p.1 := by
  simp
theorem fd_snoc (fs : List (Int × Int)) (p : Int × Int) : fd (fs ++ [p]) = fd fs ++ [.tuple [.int p.1, .int p.2]] := by
  simp [fd]
theorem W_keep {fs : List (Int × Int)} {i : Nat} {pl sp : Int} (hlen : fs.length ≤ i) (hfs : ∀ p ∈ fs, 0 ≤ p.1 ∧ 0 ≤ p.2) (e : sp = pl) (h0 : 0 ≤ pl) : W (i + 1) (fd fs) (fd fs) pl sp ((fs.map fun x => x.1).sum) :=
  ⟨fs, rfl, rfl, e, rfl, by omega, h0, hfs⟩
theorem W_seek {fs : List (Int × Int)} {i : Nat} {n : Int} (hlen : fs.length ≤ i) (hfs : ∀ p ∈ fs, 0 ≤ p.1 ∧ 0 ≤ p.2) (hn : 0 ≤ n) : W (i + 1) (fd fs) (fd fs) ((fs.map fun x => x.1).sum + n) ((fs.map fun x => x.1).sum + n) ((fs.map fun x => x.1).sum) :=
  W_keep hlen hfs rfl (Int.add_nonneg (off_nonneg hfs) hn)
theorem W_push {fs : List (Int × Int)} {i : Nat} {n p pl sp tot : Int} (hlen : fs.length ≤ i) (hfs : ∀ p ∈ fs, 0 ≤ p.1 ∧ 0 ≤ p.2) (hn : 0 ≤ n) (hp : 0 ≤ p) (e1 : pl = (fs.map fun x => x.1).sum + n) (e2 : sp = (fs.map fun x => x.1).sum + n) (e3 : tot = (fs.map fun x => x.1).sum + n) :
    W (i + 1) (fd fs ++ [.tuple [.int n, .int p]]) (fd fs ++ [.tuple [.int n, .int p]]) pl sp tot := by
  refine ⟨fs ++ [(n, p)], (fd_snoc fs (n, p)).symm, (fd_snoc fs (n, p)).symm, by omega, by rw [off_snoc]; exact e3, by simp; omega, ?_, ?_⟩
  · have := off_nonneg hfs
    omega
  · intro q hq
    rcases List.mem_append.mp hq with h | h
    · exact hfs q h
    · rw [List.mem_singleton.mp h]; exact ⟨hn, hp⟩
theorem W_pop {gs : List (Int × Int)} {p : Int × Int} {i : Nat} {pl sp tot : Int} (hlen : (gs ++ [p]).length ≤ i) (hfs : ∀ q ∈ gs ++ [p], 0 ≤ q.1 ∧ 0 ≤ q.2) (e1 : pl = p.2) (e2 : sp = p.2) (e3 : tot = ((gs ++ [p]).map fun x => x.1).sum - p.1) :
    W (i + 1) (fd gs) (fd gs) pl sp tot := by
  have hp := hfs p (List.mem_append.mpr (.inr (.head _)))
  refine ⟨gs, rfl, rfl, by omega, by rw [e3, off_snoc]; omega, ?_, by omega, fun q hq => hfs q (List.mem_append.mpr (.inl hq))⟩
  rw [List.length_append] at hlen
  omega
theorem fs_nil {fs : List (Int × Int)} (h : decide (fd fs = []) = true) : fs = [] := by
  have h' := of_decide_eq_true h
  simpa [fd] using h'
theorem fs_snoc {fs : List (Int × Int)} (h : decide (fd fs = []) = false) : ∃ gs p, fs = gs ++ [p] := by
  have h' := of_decide_eq_false h
  have hne : fs ≠ [] := fun e => h' (by simp [fd, e])
  exact ⟨fs.dropLast, fs.getLast hne, (List.dropLast_concat_getLast hne).symm⟩
theorem dat_nil {L9 : List (Addr × Obj)} {us : List Value} (h : DatAll L9 us (fd [])) : us = [] := by
  have := h.length
  simpa [fd] using this
theorem dat_snoc {L9 : List (Addr × Obj)} {us : List Value} {gs : List (Int × Int)} {p : Int × Int} (h : DatAll L9 us (fd (gs ++ [p]))) :
    ∃ ws a tx ty n, us = ws ++ [.ref a] ∧ (a, ({ cls := .type "tuple", data := .seq #[.int p.1 tx, .int p.2 ty] n } : Obj)) ∈ L9 ∧ DatAll L9 ws (fd gs) := by
  have hl := h.length
  have hne : us ≠ [] := by
    intro e
    rw [e] at hl
    simp [fd] at hl
  have eu : us = us.dropLast ++ [us.getLast hne] := (List.dropLast_concat_getLast hne).symm
  rw [eu] at h
  obtain ⟨es, d, e1, h1, h2⟩ := DatAll.snoc h
  rw [fd_snoc] at e1
  obtain ⟨e2, e3⟩ := List.append_inj' e1 rfl
  have e4 : d = .tuple [.int p.1, .int p.2] := (List.cons.inj e3).1.symm
  rw [← e2] at h1
  rw [e4] at h2
  generalize us.getLast hne = v at eu h2
  cases h2 with
  | tuple hm hr =>
    cases hr with
    | cons x1 r1 =>
      cases r1 with
      | cons x2 r2 =>
        cases r2
        cases x1
        cases x2
        exact ⟨us.dropLast, _, _, _, _, eu, hm, h1⟩
theorem no63 {n : Int} {a b : Prop} (h : n < 81) (hb : b) : if decide ((2 : Int) ^ (Int.toNat 63) - 1 < n) = true then a else b := by
  have e : (2 : Int) ^ (Int.toNat 63) = 9223372036854775808 := by decide
  rw [if_neg (by rw [e]; simp only [decide_eq_true_eq]; omega)]
  exact hb
section
variable {prog : Program} {w : World} {A : Around} {E : Value → Shared → Prop} {s : Shared} {h₀ : Heap} {L D : Addr} {m : Str → Option Value} {news news' : List (Addr × Obj)} {n : Nat}
theorem pop_fr2 {us : List Value} {gs : List (Int × Int)} {p : Int × Int} {L9 : List (Addr × Obj)} {Q : Value → Shared → Prop} (F : Fr h₀ L s.heap m) (N : News h₀ L s.heap news)
    (U : Upd D (listOf us.toArray n) (listOf us.dropLast.toArray (n + 1)) news news') (hd : DatAll L9 us (fd (gs ++ [p]))) (hz : us.length ≤ 64)
    (h : ∀ h' a tx ty k, Fr h₀ L h' m → News h₀ L h' news' → (a, ({ cls := .type "tuple", data := .seq #[.int p.1 tx, .int p.2 ty] k } : Obj)) ∈ L9 → DatAll L9 us.dropLast (fd gs) → Q (.ref a) { s with heap := h' }) :
    wpAny (model prog w) A (call (.builtin "list.pop") [.ref D]) Q E s := by
  obtain ⟨ws, a, tx, ty, k, e, hm, hr⟩ := dat_snoc hd
  have ed : us.dropLast = ws := by rw [e, List.dropLast_concat]
  rw [ed] at U h
  refine kl_pop F N (p := ws) (y := .ref a) ?_ U (by rw [sizeLine_eq]; simp; omega) fun h' F' N' => h h' a tx ty k F' N' hm hr
  rw [e]
  exact kpa_last (.ref a) ws
theorem pop_fr1 {us : List Value} {fs : List (Int × Int)} {L9 : List (Addr × Obj)} {Q : Value → Shared → Prop} (F : Fr h₀ L s.heap m) (N : News h₀ L s.heap news)
    (U : Upd D (listOf us.toArray n) (listOf us.dropLast.toArray (n + 1)) news news') (hd : DatAll L9 us (fd fs)) (hz : us.length ≤ 64) (hne : decide (fd fs = []) = false)
    (h : ∀ gs p, fs = gs ++ [p] → ∀ h' a tx ty k, Fr h₀ L h' m → News h₀ L h' news' → (a, ({ cls := .type "tuple", data := .seq #[.int p.1 tx, .int p.2 ty] k } : Obj)) ∈ L9 → DatAll L9 us.dropLast (fd gs) → Q (.ref a) { s with heap := h' }) :
    wpAny (model prog w) A (call (.builtin "list.pop") [.ref D]) Q E s := by
  obtain ⟨gs, p, e⟩ := fs_snoc hne
  rw [e] at hd
  exact pop_fr2 F N U hd hz (h gs p e)
theorem pop_empty {Q : Value → Shared → Prop} (hh : A.handled = none) (N : News h₀ L s.heap news) (hm : (D, listOf (List.toArray []) n) ∈ news)
    (h : ∀ h' tk e, Heap.NewExc s.heap h' e "IndexError" → E (.ref e) { s with heap := h', toks := tk }) : wpAny (model prog w) A (call (.builtin "list.pop") [.ref D]) Q E s :=
  call_meets PySem.F.slot_list_pop ⟨_, (N _ hm).1, rfl⟩ PySem.F.entry_list_pop (PySem.F.args_list_pop_1 _) (PySem.AutoSeq1.list_pop_list_0 D _ n rfl) ⟨(N _ hm).1, hh, h⟩
theorem slice_G {value slice : PySem.Expr} {b : Array UInt8} {t : Tok} {l u : Value} {lo hi : Option Int} {Q : Value → Shared → Prop} (hF : Fr h₀ L s.heap m) (hN : News h₀ L s.heap news) (hl : PySem.IsPart l lo) (hu : PySem.IsPart u hi) (hz : b.size ≤ 16777216)
    (h : ∀ h' t' k, Fr h₀ L h' m → News h₀ L h' news → (KBy.picked b lo hi).size ≤ b.size → Q (.bytes (KBy.picked b lo hi) t') { s with heap := h', toks := k })
    (hs : subscripted slice false (.bytes b t) (.ref s.heap.objs.size) = operate [.ref s.heap.objs.size, .bytes b t] (getItem (.bytes b t) (.ref s.heap.objs.size)) := by with_unfolding_all rfl)
    (ht : ∀ r, letTemporaryGo value (.bytes b t) r = pure () := by intro _; with_unfolding_all rfl) :
    wpAny (model prog w) A (subscriptTail value slice (.bytes b t) (.ref s.heap.objs.size)) Q E { s with heap := s.heap.push { cls := .type "slice", data := .fields #[l, u, .none] } } :=
  KBc.slice_K hF hN rfl hl hu (by rw [KBw.ints_length]; exact hz) (fun h' t' k F' N' _ => h h' t' k F' N' (KBc.size_picked_le b lo hi)) hs ht
theorem ne_self {b : Array UInt8} {t u : Tok} {Q : Value → Shared → Prop} (h : Q (.bool false) s) : wpAny (model prog w) A (compareOp .NotEq (.bytes b t) (.bytes b u)) Q E s :=
  ne_bytes (by rw [show (b.toList != b.toList) = false by simp]; exact h)
theorem tail_eq {b : Array UInt8} {sp : Int} (h0 : 0 ≤ sp) (hb : b.size ≤ 81) : KBy.picked b (some sp) (some (sp + 100)) = KBy.picked b (some sp) none := by
  rw [KBc.picked_eq, KBc.picked_eq]
  have e : clipAt b.size (sp + 100) = b.size := by
    obtain ⟨k, rfl⟩ := Int.eq_ofNat_of_zero_le h0
    rw [show ((k : Int) + 100) = ((k + 100 : Nat) : Int) by omega, clipAt_nat]
    omega
  simp only [Option.elim, e]
theorem eq_tail {b : Array UInt8} {sp : Int} {t u : Tok} {Q : Value → Shared → Prop} (h0 : 0 ≤ sp) (hb : b.size ≤ 81) (h : Q (.bool true) s) :
    wpAny (model prog w) A (compareOp .Eq (.bytes (KBy.picked b (some sp) (some (sp + 100))) t) (.bytes (KBy.picked b (some sp) none) u)) Q E s :=
  eq_bytes (by rw [tail_eq h0 hb, beq_self_eq_true]; exact h)
end
end Mine
namespace Mine
theorem W_nil {j : Nat} {sp : Int} (h0 : 0 ≤ sp) : W j [] [] sp sp (([] : List (Int × Int)).map fun x => x.1).sum :=
  ⟨[], rfl, rfl, rfl, rfl, Nat.zero_le _, h0, fun _ h => nomatch h⟩
theorem W_popJ {gs : List (Int × Int)} {p : Int × Int} {j : Nat} {pl sp tot : Int} (hlen : (gs ++ [p]).length ≤ j) (hfs : ∀ q ∈ gs ++ [p], 0 ≤ q.1 ∧ 0 ≤ q.2) (e1 : pl = p.2) (e2 : sp = p.2) (e3 : tot = ((gs ++ [p]).map fun x => x.1).sum - p.1) :
    W j (fd gs) (fd gs) pl sp tot := by
  have hp := hfs p (List.mem_append.mpr (.inr (.head _)))
  refine ⟨gs, rfl, rfl, by omega, by rw [e3, off_snoc]; omega, ?_, by omega, fun q hq => hfs q (List.mem_append.mpr (.inl hq))⟩
  rw [List.length_append] at hlen
  omega
theorem W_mono {i j : Nat} {ds es : List Dat} {pl sp tot : Int} (h : W i ds es pl sp tot) (hij : i ≤ j) : W j ds es pl sp tot := by
  obtain ⟨fs, h1, h2, h3, h4, h5, h6⟩ := h
  exact ⟨fs, h1, h2, h3, h4, Nat.le_trans h5 hij, h6⟩
theorem fd_less (gs : List (Int × Int)) (p : Int × Int) : (fd gs).length < (fd (gs ++ [p])).length := by
  simp [fd]
section
variable {prog : Program} {w : World} {A : Around} {E : Value → Shared → Prop} {s : Shared} {env : Env} {h₀ : Heap} {L : Addr} {Q : Flow → Shared → Prop}
theorem my_while {test : Expr} {body : List Stmt} {pos : Pos} {m₀ : Str → Option Value} {A1 B1 d : Addr} {e1 : DictEntry} {g2 g3 g4 : Int} {k2 k3 k4 : Value} {vs us : List Value} {ds es : List Dat} {na nb : Nat} {pl sp tot : Int} {tpl tsp tt : Tok} {nd : Nat} {rest L9 : List (Addr × Obj)}
    (F : Fr h₀ L s.heap m₀) (N : News h₀ L s.heap ((B1, listOf us.toArray nb) :: (A1, listOf vs.toArray na) :: (d, dictOf [e1, ⟨g2, k2, .int sp tsp⟩, ⟨g3, k3, .ref A1⟩, ⟨g4, k4, .int tot tt⟩] nd) :: rest))
    (hd1 : DatAll L9 vs ds) (hd2 : DatAll L9 us es) (hk : m₀ (Str.ofString "place") = some (.int pl tpl)) (hw : W 64 ds es pl sp tot)
    (turn : ∀ (vs us : List Value) (ds es : List Dat) (na nb : Nat) (pl sp tot : Int) (tpl tsp tt : Tok) (u : Str → Option Value) h tk, DatAll L9 vs ds → DatAll L9 us es → W 64 ds es pl sp tot →
      Fr h₀ L h (fun y => if y = Str.ofString "place" then some (.int pl tpl) else m₀ y) →
      News h₀ L h ((B1, listOf us.toArray nb) :: (A1, listOf vs.toArray na) :: (d, dictOf [e1, ⟨g2, k2, .int sp tsp⟩, ⟨g3, k3, .ref A1⟩, ⟨g4, k4, .int tot tt⟩] nd) :: rest) →
      wpAny (model prog w) A (isTrue test env (eval test env)) (fun b s₂ =>
        if b = true then wpAny (model prog w) A (execs body env) (KswPost (σ := List Value × List Dat × Nat × List Value × List Dat × Nat × Int × Tok × Int × Tok × Int × Tok) h₀ L s
          (fun c => (B1, listOf c.2.2.2.1.toArray c.2.2.2.2.2.1) :: (A1, listOf c.1.toArray c.2.2.1) :: (d, dictOf [e1, ⟨g2, k2, .int c.2.2.2.2.2.2.2.2.1 c.2.2.2.2.2.2.2.2.2.1⟩, ⟨g3, k3, .ref A1⟩, ⟨g4, k4, .int c.2.2.2.2.2.2.2.2.2.2.1 c.2.2.2.2.2.2.2.2.2.2.2⟩] nd) :: rest)
          (fun c => [(Str.ofString "place", .int c.2.2.2.2.2.2.1 c.2.2.2.2.2.2.2.1)]) (fun c => DatAll L9 c.1 c.2.1 ∧ DatAll L9 c.2.2.2.1 c.2.2.2.2.1) [] m₀
          (fun c => W 64 c.2.1 c.2.2.2.2.1 c.2.2.2.2.2.2.1 c.2.2.2.2.2.2.2.2.1 c.2.2.2.2.2.2.2.2.2.2.1) (fun c => c.2.2.2.2.1.length) Q (vs, ds, na, us, es, nb, pl, tpl, sp, tsp, tot, tt)) E s₂ else Q .next s₂) E { s with heap := h, toks := tk })
    (hE : PassesOwn (model prog w) A env E := by passes_own) :
    wpAny (model prog w) A (exec (.While test body [] pos) env) Q E s := by
  refine ksw_while (σ := List Value × List Dat × Nat × List Value × List Dat × Nat × Int × Tok × Int × Tok × Int × Tok) _ _ _ [] _ _ (vs, ds, na, us, es, nb, pl, tpl, sp, tsp, tot, tt) F N ⟨hd1, hd2⟩ ?_ hw
    (fun c u h tk hf hp F' N' => turn c.1 c.2.2.2.1 c.2.1 c.2.2.2.2.1 c.2.2.1 c.2.2.2.2.2.1 c.2.2.2.2.2.2.1 c.2.2.2.2.2.2.2.2.1 c.2.2.2.2.2.2.2.2.2.2.1 c.2.2.2.2.2.2.2.1 c.2.2.2.2.2.2.2.2.2.1 c.2.2.2.2.2.2.2.2.2.2.2 u h tk hf.1 hf.2 hp ?_ N') hE
  · intro p hp
    rw [List.mem_singleton.mp hp]; exact hk
  · simpa [kstB] using F'
end
end Mine
namespace Mine
/-- an exception that nothing was raised ahead of (its context is none), with its first traceback -/
def Fl2 (B : Heap) (l : List Env) (e : Addr) (cls fl : Value) (h : Heap) : Prop :=
  B.StaysIn h ∧ B.get? e = none ∧ h.FunFrames B l ∧ ∃ oe vs T oT ts, h.get? e = some oe ∧ oe.cls = cls ∧ oe.data = .fields vs ∧ vs[1]? = some (.ref T) ∧ vs[2]? = some .none ∧ B.get? T = none ∧ T ≠ e ∧ h.get? T = some oT ∧ oT.data = .fields ts ∧ ts[3]? = some fl
theorem unchain_entry : entryFor table "proto.unchain" = some Builtin.«proto.unchain» := by first | exact entryFor_of_fast (by kernel_rfl) | exact entryFor_of_tree (by kernel_rfl)
section
variable {M : Model} {A : Around} {E : Value → Shared → Prop} {s : Shared} {env : Env} {outer : List Env}

theorem note2 {B : Heap} {L e : Addr} {oe : Obj} {vs : Array Value} {Q : Unit → Shared → Prop}
    (hfr : A.frames = some (env :: outer)) (hl : s.heap.FunFrames B (env :: outer)) (hf : env.frame = some L) (he : s.heap.get? e = some oe) (hkb : B.StaysIn s.heap) (hen : B.get? e = none)
    (hd : oe.data = .fields vs) (h1 : vs[1]? = some .none) (h2 : vs[2]? = some .none)
    (hQ : ∀ h', Fl2 B (env :: outer) e oe.cls (rawInt L) h' → s.heap.UpToSlots h' → Q () { s with heap := h' }) : wpAny M A (noteFrame (.ref e) env) Q E s := by
  have hsz : 1 < vs.size := (Array.getElem?_eq_some_iff.mp h1).1
  have off : e ∉ (env :: outer).filterMap (·.frame) := fun hm => by
    obtain ⟨_, o, ho, hnf⟩ := hl.mem hm
    have := Option.some.inj (he.symm.trans ho)
    exact hnf vs (this ▸ hd)
  unfold noteFrame
  simp only [hf]
  refine wpAny_bind (wpAny_field he hd h1 ?_)
  rw [if_neg (by decide)]
  refine wpAny_bind (wpAny_frameOf_fun hfr hl hf fun g hs => ?_)
  refine wpAny_bind (wpAny_entryPlaceOf fun pl hpl => ?_)
  unfold EntryCells.newEntry newFields
  refine wpAny_bind (wpAny_newObj_type ?_ (hpl.sizeOk5 _ _ _ _ _))
  have he1 : g.get? e = some oe := (hs.2.1 e off).trans he
  have kb1 : B.StaysIn g := fun b o hb => (hs.2.1 b fun hm => by rw [(hl.mem hm).1] at hb; cases hb).trans (hkb b o hb)
  have hTe : g.objs.size ≠ e := Nat.ne_of_gt (Heap.lt_size he1)
  have hts : (([Value.none, .ref L, .none, rawInt L, .none] ++ (if pl.isEmpty then List.replicate 6 Value.none else pl)).toArray)[3]? = some (rawInt L) := by
    first | (simp; done) | (rcases hpl with rfl | ⟨_, _, _, _, _, _, _, rfl⟩ <;> simp)
  generalize ([Value.none, .ref L, .none, rawInt L, .none] ++ (if pl.isEmpty then List.replicate 6 Value.none else pl)).toArray = ts at hts ⊢
  have he2 := Heap.get?_push_of_some (h := g) { cls := .type "traceback", dict := none, data := .fields ts } he1
  refine wpAny_setField he2 hd hsz (hQ _ ?_ ?_)
  · have hd3 := Obj.data_mapFields hd (·.setIfInBounds 1 (Value.ref g.objs.size))
    have he3 := Heap.get?_update_self (Obj.mapFields (·.setIfInBounds 1 (Value.ref g.objs.size))) he2 (Obj.isFreed_of_fields hd3)
    have hT3 := (Heap.get?_update_other (g.push { cls := .type "traceback", dict := none, data := .fields ts }) (Obj.mapFields (·.setIfInBounds 1 (Value.ref g.objs.size))) (Ne.symm hTe)).trans (Heap.get?_push_size g rfl)
    have keep : ∀ b o, b ≠ e → g.get? b = some o → ((g.push { cls := .type "traceback", dict := none, data := .fields ts }).update e (Obj.mapFields (·.setIfInBounds 1 (Value.ref g.objs.size)))).get? b = some o := fun b o hb ho => by
      rw [Heap.get?_update_other _ _ (Ne.symm hb)]
      exact Heap.get?_push_of_some _ ho
    refine ⟨fun b o hb => keep b o (fun q => by rw [q, hen] at hb; cases hb) (kb1 b o hb), hen, hl.of_keeps fun b o hb hnf => ?_, ?_⟩
    · obtain ⟨sl, hsl⟩ := hs.2.2 b o hb
      exact ⟨_, keep b _ (fun q => by rw [q, he] at hb; exact hnf vs ((Option.some.inj hb) ▸ hd)) hsl, rfl⟩
    · exact ⟨_, _, g.objs.size, _, ts, he3, Obj.cls_mapFields _ _, hd3, by simp [hsz], by rw [Array.getElem?_setIfInBounds_ne (by decide)]; exact h2, kb1.fresh, hTe, hT3, rfl, hts⟩
  · intro b o hb hnf
    obtain ⟨sl, hsl⟩ := hs.2.2 b o hb
    refine ⟨sl, ?_⟩
    rw [Heap.get?_update_other _ _ (fun q => by rw [← q, he] at hb; exact hnf vs ((Option.some.inj hb) ▸ hd))]
    exact Heap.get?_push_of_some _ hsl

theorem land2 {B : Heap} {l : List Env} {e : Addr} {cls fl : Value} {Q : Unit → Shared → Prop} (x : Fl2 B l e cls fl s.heap)
    (hQ : ∀ h', Fl2 B l e cls .none h' → s.heap.UpToSlots h' → Q () { s with heap := h' }) : wpAny M A (setFlight (.ref e) none) Q E s := by
  obtain ⟨x1, x2, x3, oe, vs, T, oT, ts, he, hc, hd, h1, h2, hT0, hTe, hT, hdT, h3⟩ := x
  have hsz : 3 < ts.size := (Array.getElem?_eq_some_iff.mp h3).1
  unfold setFlight
  refine wpAny_bind (wpAny_field he hd h1 ?_)
  rw [if_pos (show (Value.ref T != Value.none) = true from by simp)]
  have other : ∀ b, b ≠ T → (s.heap.update T (Obj.mapFields (·.setIfInBounds 3 ((none : Option Addr).elim Value.none fun f => rawInt f)))).get? b = s.heap.get? b := fun b hb => Heap.get?_update_other _ _ (Ne.symm hb)
  have rec_ : ∀ b o, s.heap.get? b = some o → (∀ ws, o.data ≠ .fields ws) → b ≠ T := fun b o hb hnf q => by
    rw [q, hT] at hb
    exact hnf ts ((Option.some.inj hb) ▸ hdT)
  refine wpAny_setField hT hdT hsz (hQ _ ⟨fun b o hb => (other b fun q => by rw [q, hT0] at hb; cases hb).trans (x1 b o hb), x2, x3.of_keeps fun b o hb hnf => ⟨o, (other b (rec_ b o hb hnf)).trans hb, rfl⟩,
    oe, vs, T, _, _, (other e (Ne.symm hTe)).trans he, hc, hd, h1, h2, hT0, hTe, Heap.get?_update_self _ hT (Obj.isFreed_of_fields (Obj.data_mapFields hdT _)), Obj.data_mapFields hdT _, by simp [hsz]⟩
    fun b o hb hnf => ⟨o.slots, (other b (rec_ b o hb hnf)).trans hb⟩)
end
section
variable {prog : Program} {w : World} {A : Around} {E : Value → Shared → Prop} {s : Shared} {env : Env}
theorem unchain2 {e2 e1 : Addr} {o1 : Obj} {ws : Array Value} {Q : Value → Shared → Prop} (he : s.heap.get? e1 = some o1) (hd : o1.data = .fields ws) (h2 : ws[2]? = some .none) (h : Q .none s) :
    wpAny (model prog w) A (runValue (.builtin "proto.unchain" ⟨[.ref e2, .ref e1, .ref e1, .bool false], []⟩)) Q E s := by
  refine wpAny_runValue (codeAny_builtin unchain_entry ?_)
  unfold Builtin.«proto.unchain»
  refine wpAny_bind (wpAny_field he hd h2 ?_)
  rw [if_pos (by decide)]
  first | exact wpAny_bind (wpAny_pure (wpAny_pure h)) | exact wpAny_bind (wpAny_pure h) | exact wpAny_pure h

/-- an exception is raised while another is handled: the new one's context is the other -/
theorem raise_chain {x : Expr} {pos : Pos} {e1 : Addr} {Q : Flow → Shared → Prop} (hh : A.handled = some (.ref e1))
    (h : wpAny (model prog w) A (eval x env) (fun v s₁ => ∃ a ob vs X N I o1 ws, ExcClass X N I ∧ v = .ref a ∧ s₁.heap.get? a = some ob ∧ ob.cls = .type X ∧ ob.data = .fields vs ∧ vs[1]? = some .none ∧ 2 < vs.size ∧ e1 ≠ a ∧
      s₁.heap.get? e1 = some o1 ∧ o1.data = .fields ws ∧ ws[2]? = some .none ∧ E (.ref a) { s₁ with heap := s₁.heap.update a (Obj.mapFields (·.setIfInBounds 2 (.ref e1))) }) E s) :
    wpAny (model prog w) A (exec (.Raise (some x) none pos) env) Q E s := by
  show wpAny _ A (do standAt pos; raiseStmt env (some (do let v ← eval x env; standAt pos; pure v)) none) Q E s
  refine wpAny_bind (wpAny_standAt ?_)
  unfold raiseStmt
  dsimp only
  refine wpAny_bind (wpAny_bind (wpAny_mono h (fun v s₁ h₁ => wpAny_bind (wpAny_standAt (wpAny_pure ?_))) fun _ _ x => x))
  obtain ⟨a, ob, vs, X, N, I, o1, ws, hc, rfl, ha, hcls, hd, h1, h2s, hne, he1, hd1, hw2, hE⟩ := h₁
  have hT : s₁.TypeIs (.ref a) X := ⟨ob, ha, hcls⟩
  have hnt : ∀ {Q' : Bool → Shared → Prop}, Q' false s₁ → wpAny (model prog w) A (isType (.ref a)) Q' E s₁ := by
    intro Q' hq
    simp only [isType, loadHead]
    refine wpAny_bind (wpAny_loadPart ha ?_)
    rw [hd]; exact wpAny_pure hq
  refine wpAny_bind (wpAny_pure ?_)
  dsimp only
  refine wpAny_bind (wpAny_holding ?_)
  unfold excFromValue isExcClass
  refine wpAny_bind (wpAny_bind (hnt ?_))
  simp only [Bool.false_eq_true, if_false]
  refine wpAny_pure ?_
  simp only [Bool.false_eq_true, if_false]
  refine wpAny_bind (wpAny_isInstance hT hc.base ?_)
  simp only [if_true]
  refine wpAny_pure ?_
  refine wpAny_bind (hnt ?_)
  simp only [Bool.false_eq_true, if_false]
  unfold raisedInstance
  refine wpAny_bind (wpAny_bind (wpAny_typeOf hT (wpAny_bind (m := typeOf (.type X)) (wpAny_pure ?_))))
  rw [if_pos hc.metaType]
  refine wpAny_pure ?_
  unfold setFlight raiseNew
  refine wpAny_bind (wpAny_bind (wpAny_field ha hd h1 ?_))
  rw [if_neg (by decide)]
  refine wpAny_pure (wpAny_bind (wpAny_handled ?_))
  rw [hh]
  dsimp only
  have hb : ((Value.ref e1 != Value.ref a) = true) := by simpa using hne
  rw [if_pos hb]
  refine wpAny_bind (wpAny_holding (unchain2 he1 hd1 hw2 ?_))
  refine wpAny_bind (m := updateField a 2 (.ref e1)) ?_
  show wpAny _ _ (setField (.ref a) 2 (.ref e1)) _ _ _
  exact wpAny_setField ha hd h2s (wpAny_throw hE)

/-- raised in the handler of another, not yet out of the frame -/
def Chained (base : Heap) (l : List Env) (e : Addr) (news : List (Addr × Obj)) (h : Heap) : Prop :=
  ∃ B oe vs a0, base.StaysIn B ∧ (∀ q ∈ news, B.get? q.1 = some q.2 ∧ base.get? q.1 = none) ∧ B.StaysIn h ∧ B.get? e = none ∧ h.FunFrames B l ∧ h.get? e = some oe ∧ oe.cls = .type "IndexError" ∧ oe.data = .fields vs ∧ vs[1]? = some .none ∧ vs[0]? = some a0
end
section
variable {M : Model} {A : Around} {E : Value → Shared → Prop} {s' : Shared} {base g : Heap} {outer : List Env} {L a e : Addr} {name : Str} {scope : Scope} {cd : Value} {Q : Unit → Shared → Prop} {news : List (Addr × Obj)}
theorem leave_chained (K : Below A base outer g) (R : Chained base (envOf name scope L a cd :: outer) e news s'.heap) (hsm : g.UpToSlots s'.heap)
    (hQ : ∀ h', RaisedN base outer e (.type "IndexError") news h' → g.UpToSlots h' → Q () { s' with heap := h' }) : wpAny M (A.deeper (envOf name scope L a cd)) (leaving (envOf name scope L a cd) (.ref e)) Q E s' := by
  obtain ⟨B, oe, vs, a0, hB, hl, hk, hen, hf, he, hc, hd, h1, h0⟩ := R
  refine wpAny_leaving_firstW (Around.frames_deeper K.stack) hf rfl he hk hen hd h1 h0 fun h' x => ?_
  obtain ⟨k1, ⟨_, _, k2⟩, k3, k4⟩ := x
  rw [hc] at k3
  exact hQ h' ⟨B, a0, hB, hl, k1, hen, k2, k3⟩ (hsm.trans k4)
end
section
variable {prog : Program} {w : World} {A₀ : Around} {E : Value → Shared → Prop} {s' : Shared} {base g h h₀ : Heap} {outer : List Env} {L a e : Addr} {m : Str → Option Value} {name : Str} {scope : Scope} {cd : Value}
  {pos np p1 p2 p3 np2 : Pos} {rest : List ExceptHandler} {Q : Flow → Shared → Prop} {news : List (Addr × Obj)} {p : Program} {loose : List Str} {mg mb : Str → Option Value} {msg : Str} {kk : Nat}

theorem name_up {env : Env} {A : Around} {s : Shared} {x : Str} {v : Value} {Q : Value → Shared → Prop} (T : TopRead p loose mg mb g) (sm : g.UpToSlots s.heap) (hv : bootBuiltins x = some v) (hgl : env.globals = mainGlobals) (hbl : env.builtins = builtinsNs)
    (h1 : x ∉ startupNames) (h2 : x ∉ loose) (h3 : x ∉ (recsOf p).map (·.name)) (h4 : x ∉ (litsOf p).map (·.1)) (h4c : x ∉ (clssOf p loose).map (·.name)) (hn : x ≠ "__name__")
    (hk : env.scope.kind = .function) (hx : env.kindOf x = some .globalImplicit) (hd : (x == ("__debug__" : Str)) = false) (h : Q v s) : wpAny (model prog w) A (eval (.Name x np) env) Q E s :=
  Calls.Name_function_global hk hx (Calls.loadGlobal_builtin (env := env) (mg := mg) (by rw [hgl]; exact sm.ns T.g) (T.free x h1 h2 h3 h4 h4c) (by rw [hbl]; exact sm.ns T.b) ((T.builtins x hn).trans hv) h) hd

theorem caught_reraise (K : Below A₀ base outer g) (F : Fr g L h m) (N : News g L h news) (x : Heap.NewExc h s'.heap e "IndexError") (T : TopRead p loose mg mb g)
    (hQ : ∀ h' e2 tk, Chained base (envOf name scope L a cd :: outer) e2 news h' → g.UpToSlots h' → E (.ref e2) { s' with heap := h', toks := tk })
    (h1 : ("IndexError" : Str) ∉ startupNames := by decide +kernel) (h2 : ("IndexError" : Str) ∉ loose := by decide +kernel) (h3 : ("IndexError" : Str) ∉ (recsOf p).map (·.name) := by decide +kernel) (h4 : ("IndexError" : Str) ∉ (litsOf p).map (·.1) := by decide +kernel) (h4c : ("IndexError" : Str) ∉ (clssOf p loose).map (·.name) := by decide +kernel)
    (hk : scope.kind = .function := by rfl) (hx : (envOf name scope L a cd).kindOf ("IndexError" : Str) = some .globalImplicit := by rfl)
    (hE : PassesOwnAt (model prog w) ((A₀.deeper (envOf name scope L a cd)).mark (some (.ref e))) (A₀.deeper (envOf name scope L a cd)) (envOf name scope L a cd) E := by passes_own) :
    wpAny (model prog w) (A₀.deeper (envOf name scope L a cd)) (noteFrame (.ref e) (envOf name scope L a cd))
      (fun _ s₂ => wpAny (model prog w) (A₀.deeper (envOf name scope L a cd)) (setFlight (.ref e) none) (fun _ s₃ =>
        wpAny (model prog w) (A₀.deeper (envOf name scope L a cd)) (handleBy (.ref e) (envOf name scope L a cd) (.ExceptHandler (some (.Name ("IndexError" : Str) np)) none [.Raise (some (.Call (.Name ("IndexError" : Str) np2) [.Constant (.str msg) kk p1] [] p2)) none p3] pos :: rest)) Q E s₃) E s₂) E s' := by
  have K' := K.push (name := name) (a := a) (cd := cd) F hk
  have hin : ∀ env ∈ (envOf name scope L a cd :: outer), ∀ b, env.frame = some b → b ∈ (envOf name scope L a cd :: outer).filterMap (·.frame) := fun env he b hb => List.mem_filterMap.mpr ⟨env, he, hb⟩
  have st : base.StaysIn (hideAll h ((envOf name scope L a cd :: outer).filterMap (·.frame))) := fun b o q => hideAll_get _ (K'.stays b o q) fun hm => by
    rw [(K'.frames.mem hm).1] at q; cases q
  have hl : ∀ q ∈ news, (hideAll h ((envOf name scope L a cd :: outer).filterMap (·.frame))).get? q.1 = some q.2 ∧ base.get? q.1 = none := fun q hq => by
    refine ⟨hideAll_get _ (N q hq).1 fun hm => ?_, fresh_of_stays K.stays (N q hq).2.2⟩
    obtain ⟨env, he, hf⟩ := List.mem_filterMap.mp hm
    rcases List.mem_cons.mp he with rfl | he
    · exact (N q hq).2.1 (Option.some.inj hf).symm
    · obtain ⟨o, ho, _⟩ := (K.frames.mem (List.mem_filterMap.mpr ⟨env, he, hf⟩)).2
      rw [(N q hq).2.2] at ho; cases ho
  have hfr := funFrames_hide K'.frames hin
  have hof : ∀ b o, (hideAll h ((envOf name scope L a cd :: outer).filterMap (·.frame))).get? b = some o → h.get? b = some o := fun b o q => of_hideAll _ q
  generalize hideAll h ((envOf name scope L a cd :: outer).filterMap (·.frame)) = B at st hl hfr hof
  have noB : ∀ {b : Addr} {k : Heap}, B.StaysIn k → k.get? b = none → B.get? b = none := fun hs hb => by
    cases q : B.get? _ with
    | none => rfl
    | some o => have := hs _ o q; rw [hb] at this; cases this
  obtain ⟨oe, t0, he, hec, hed⟩ := x.there
  have sm0 : g.UpToSlots s'.heap := (Heap.UpToSlots.of_keeps F.keep).trans (Heap.UpToSlots.of_keeps x.keeps)
  have kb0 : B.StaysIn s'.heap := fun b o hb => x.keeps b o (hof b o hb)
  refine note2 (Around.frames_deeper K.stack) (hfr.of_keeps fun b o hb _ => ⟨o, x.keeps b o hb, rfl⟩) rfl he kb0 (noB hof x.new) hed rfl rfl fun h₄ x₄ sm₄ => ?_
  rw [hec] at x₄
  refine land2 x₄ fun h₅ x₅ sm₅ => ?_
  have sm5 := (sm0.trans sm₄).trans sm₅
  have hT5 : Shared.TypeIs { s' with heap := h₅ } (.ref e) "IndexError" := by
    obtain ⟨_, _, _, o5, _, _, _, _, he5, hc5, _⟩ := x₅
    exact ⟨o5, he5, hc5⟩
  refine wpAny_handleBy_builtin (X := "IndexError") (T := "IndexError") (b := true) PySem.F.isExc_IndexError PySem.F.notTuple_IndexError (by rw [isSubtype_type]; kernel_rfl)
    (name_up T sm5 PyProof.Rows.Boot.«IndexError» rfl rfl h1 h2 h3 h4 h4c (by decide) hk hx (by decide) ⟨rfl, hT5, ?_⟩)
  refine land2 x₅ fun h₆ x₆ sm₆ => ?_
  refine wpAny_passesOwnAt hE ?_
  have sm6 := sm5.trans sm₆
  refine wpAny_execs_cons (raise_chain rfl ?_)
  refine Call_Name1 (name_up T sm6 PyProof.Rows.Boot.«IndexError» rfl rfl h1 h2 h3 h4 h4c (by decide) hk hx (by decide) ?_)
  refine PyProof.Rows.callWith_type rfl (Calls.evalArgs_plain (Calls.spliced_cons (Calls.Constant_str (Calls.spliced_nil ?_))))
  refine call_exc excClass_IndexError fun h₇ e2 x₇ => ?_
  obtain ⟨y1, y2, y3, o1, ws, T1, oT, ts, z1, z2, z3, z4, z5, z6⟩ := x₆
  obtain ⟨ob, t2, k1, k2, k3⟩ := x₇.there
  have hne : e ≠ e2 := fun q => by
    have := x₇.new
    rw [← q, z1] at this; cases this
  have hd3 := Obj.data_mapFields k3 (·.setIfInBounds 2 (Value.ref e))
  have he3 := Heap.get?_update_self (Obj.mapFields (·.setIfInBounds 2 (Value.ref e))) k1 (Obj.isFreed_of_fields hd3)
  have other : ∀ b, b ≠ e2 → (h₇.update e2 (Obj.mapFields (·.setIfInBounds 2 (Value.ref e)))).get? b = h₇.get? b := fun b hb => Heap.get?_update_other _ _ (Ne.symm hb)
  have hB2 : B.get? e2 = none := noB y1 x₇.new
  have rec_ : ∀ b o, h₆.get? b = some o → b ≠ e2 := fun b o hb q => by
    have := x₇.new
    rw [← q, hb] at this; cases this
  refine ⟨e2, ob, _, _, _, _, o1, ws, excClass_IndexError, rfl, k1, k2, k3, rfl, by simp, hne, x₇.keeps _ _ z1, z3, z5, hQ _ _ _ ⟨B, _, _, t2, st, hl, ?_, hB2, ?_, he3, (Obj.cls_mapFields _ _).trans k2, hd3, rfl, rfl⟩ ?_⟩
  · exact fun b o hb => (other b fun q => by rw [q, hB2] at hb; cases hb).trans (x₇.keeps b o (y1 b o hb))
  · exact y3.of_keeps fun b o hb _ => ⟨o, (other b (rec_ b o hb)).trans (x₇.keeps b o hb), rfl⟩
  · exact sm6.trans fun b o hb _ => ⟨o.slots, (other b (rec_ b o hb)).trans (x₇.keeps b o hb)⟩

/-- caught in a frame with cells -/
theorem caught_C0 {env : Env} {b₀ : Stmt} {suite : List Stmt} (K : Below A₀ h₀ outer h₀) (hfe : env.frame = some L) (F : Fr h₀ L h m) (hsm : h.UpToSlots s'.heap) (R : RaisedN h₀ (env :: outer) e (.type "IndexError") news s'.heap) (T : TopRead p loose mg mb h₀)
    (k : ∀ h', Fr h₀ L h' m → News h₀ L h' news → wpAny (model prog w) ((A₀.deeper env).mark (some (.ref e))) (execs (b₀ :: suite) env) Q E { s' with heap := h' })
    (hgl : env.globals = mainGlobals := by rfl) (hbl : env.builtins = builtinsNs := by rfl)
    (h1 : ("IndexError" : Str) ∉ startupNames := by decide +kernel) (h2 : ("IndexError" : Str) ∉ loose := by decide +kernel) (h3 : ("IndexError" : Str) ∉ (recsOf p).map (·.name) := by decide +kernel) (h4 : ("IndexError" : Str) ∉ (litsOf p).map (·.1) := by decide +kernel) (h4c : ("IndexError" : Str) ∉ (clssOf p loose).map (·.name) := by decide +kernel)
    (hk : env.scope.kind = .function := by rfl) (hx : env.kindOf ("IndexError" : Str) = some .globalImplicit := by rfl)
    (hE : PassesOwnAt (model prog w) ((A₀.deeper env).mark (some (.ref e))) (A₀.deeper env) env E := by passes_own) :
    wpAny (model prog w) (A₀.deeper env) (noteFrame (.ref e) env)
      (fun _ s₂ => wpAny (model prog w) (A₀.deeper env) (setFlight (.ref e) none) (fun _ s₃ =>
        wpAny (model prog w) (A₀.deeper env) (handleBy (.ref e) env (.ExceptHandler (some (.Name ("IndexError" : Str) np)) none (b₀ :: suite) pos :: rest)) Q E s₃) E s₂) E s' := by
  obtain ⟨B, a0, hB, hl, hfl⟩ := R
  have hL : B.get? L = none := by
    obtain ⟨_, ⟨L', _, hf, hn', _⟩, _⟩ := hfl.2.2.1
    have : L = L' := Option.some.inj (hfe.symm.trans hf)
    rw [this]; exact hn'
  refine wpAny_looks_onW (Around.frames_deeper K.stack) hfe hfl fun h₄ hheld₄ hsm₄ => ?_
  refine wpAny_landsW hheld₄ fun h₅ hheld hsm₅' => ?_
  have hsm₅ := hsm.trans (hsm₄.trans hsm₅')
  have hheld' := flyingW_base hB hheld
  have F₅ := F.of_stays hheld'.1 hsm₅
  obtain ⟨ob, hob, hobc⟩ := hheld'.there
  refine wpAny_handleBy_builtin (X := "IndexError") (T := "IndexError") (b := true) PySem.F.isExc_IndexError PySem.F.notTuple_IndexError (by rw [isSubtype_type]; kernel_rfl)
    (name_up T ((Heap.UpToSlots.of_keeps F.keep).trans hsm₅) PyProof.Rows.Boot.«IndexError» hgl hbl h1 h2 h3 h4 h4c (by decide) hk hx (by decide) ⟨rfl, ⟨ob, hob, hobc⟩, ?_⟩)
  refine lands_againW hheld fun h₆ hfl₆ hsm₆ => ?_
  have hfl₆' := flyingW_base hB hfl₆
  have F₆ := F.of_stays hfl₆'.1 (hsm₅.trans hsm₆)
  exact wpAny_passesOwnAt hE (k h₆ F₆ fun q hq => ⟨hfl₆.1 _ _ (hl q hq).1, (fun z => by have := (hl q hq).1; rw [z, hL] at this; cases this), (hl q hq).2⟩)
end
end Mine
namespace Mine
theorem not_dec {b : Bool} (h : (!b) = true) : b = false := by simpa using h
section
variable {prog : Program} {w : World} {A : Around} {E : Value → Shared → Prop} {s : Shared} {h₀ : Heap} {L D : Addr} {m : Str → Option Value} {news : List (Addr × Obj)} {vs : List Value} {ns : List Int}
def Small (s : Shared) (v : Value) (s' : Shared) : Prop := ∃ n t k, v = .int n t ∧ 0 ≤ n ∧ n < 81 ∧ s' = { s with toks := k }
theorem ife_join {e : Expr} {env : Env} {Q : Value → Shared → Prop} (h1 : wpAny (model prog w) A (eval e env) (Small s) E s)
    (h2 : ∀ n t k, 0 ≤ n → n < 81 → Q (.int n t) { s with toks := k }) : wpAny (model prog w) A (eval e env) Q E s :=
  wpAny_mono h1 (fun v s' ⟨n, t, k, hv, h0, h8, hs⟩ => by subst hv; subst hs; exact h2 n t k h0 h8) (fun _ _ e => e)
theorem small_mod {x : Int} {t : Tok} {k : Nat} : Small s (.int (x.fmod 81) t) { s with toks := k } :=
  ⟨_, _, _, rfl, fmod_lo _ (by decide), fmod_hi _ (by decide), rfl⟩
theorem small_mod40 {x : Int} {t : Tok} {k : Nat} : Small s (.int (x.fmod 40) t) { s with toks := k } :=
  ⟨_, _, _, rfl, fmod_lo _ (by decide), Int.lt_trans (fmod_hi _ (by decide)) (by decide), rfl⟩
theorem small_zero {t : Tok} {k : Nat} : Small s (.int 0 t) { s with toks := k } := ⟨_, _, _, rfl, by decide, by decide, rfl⟩
theorem make_G {Q : Value → Shared → Prop} (F : Fr h₀ L s.heap m) (N : News h₀ L s.heap news) (hh : A.handled = none) (hl : s.heap.IsList D vs.toArray) (hi : IntsAre vs ns) (hr : KBa.In ns) (hn : ns.length ≤ 81)
    (h : ∀ h' t' k (b : Array UInt8), b.size ≤ 81 → Fr h₀ L h' m → News h₀ L h' news → Q (.bytes b t') { s with heap := h', toks := k }) : wpAny (model prog w) A (call (.type "bytes") [.ref D]) Q E s :=
  KBa.make_K F N hh hl hi hr (by omega) fun h' t k F' N' _ => h h' t k _ (by rw [byteArr_size]; exact hn) F' N'
end
end Mine
open Mine
local macro_rules | `(tactic| walk_at "eval IfExp") => `(tactic| (k_here; k_dflt (refine ife_join ?ia ?_; (case ia => ((with_reducible refine IfExp_ ?_); (repeat' (first | exact small_mod | exact small_mod40 | exact small_zero | (k_unfold; (try dsimp only)) | walk1 | (dsimp only; walk1))))); intro n t k hn0 hn8)))
local macro_rules | `(tactic| walk_at "call type:bytes") => `(tactic| (k_here; (with_reducible show wpAny _ _ (call (Value.type "bytes") [Value.bytes _ _]) _ _ _); k_dflt (refine bb_call ?_)))
local macro_rules | `(tactic| walk_at "call type:bytes") => `(tactic| (k_here; (with_reducible show wpAny _ _ (call (Value.type "bytes") [Value.ref _]) _ _ _); k_dflt (refine' make_G ?kbaF ?kbaN ?kbah ?kbal ?kbai ?kbar ?kban ?_; (case kbaF => k_asm); (case kbaN => k_asm); (case kbah => rfl); (case kbal => kba_isList); (case kbai => kba_listInts); (case kbar => kba_in); (case kban => ((simp only [List.length_map, rangeKs_length]); omega))); intro h' tb kb bs hbs F' N'; (try k_sweep)))
local macro_rules | `(tactic| walk_at "eval ListComp") => `(tactic| (k_here; (with_reducible show wpAny _ _ (eval (Expr.ListComp (Expr.Subscript (Expr.Name _ _) (Expr.Constant _ _ _) _) _ _ _) _) _ _ _); k_dflt (refine LCg.ListComp_U (F₀ := by k_asm) (by with_unfolding_all rfl) (by decide) (by rfl) (by decide) (by rfl) ?_)))
local macro_rules | `(tactic| walk_at "CompSrc") => `(tactic| (k_here; kd_here; k_dflt (refine' comp_src ?hh ?F ?N ?hk ?hx ?hdb ?hm ?hd ?hL ?hsz ?_; (case hh => rfl); (case F => k_asm); (case N => k_asm); (case hk => rfl); (case hx => rfl); (case hdb => decide); (case hm => k_mem); (case hd => assumption); (case hL => kd_subs); (case hsz => omega)); intro ys D' h' tk' hI8 F' N' o1'; (try simp only [LCg.Off1, and_true] at o1')))
local macro_rules | `(tactic| walk_at "subscriptTail") => `(tactic| (k_here; (with_reducible show wpAny _ _ (subscriptTail _ (Expr.Slice _ _ none _) (Value.bytes _ _) (Value.ref _)) _ _ _); (with_reducible rename Fr _ _ _ _ => F'); (with_reducible rename News _ _ _ _ => N'); k_dflt (refine slice_G (s := ⟨_, _, _, _, _⟩) F' N' (by constructor) (by constructor) (by omega) ?_); intro h' t' k' F' N' hz'; (try k_sweep)))
local macro_rules | `(tactic| walk_at "callWith ref") => `(tactic| (k_here; k_dflt (first | (refine' callWith_K ?k1 ?k2 ?_; (case k1 => with_reducible assumption); (case k2 => k_is); k_whole) | (refine' callWith_K0 ?k1 ?k2 ?_; (case k1 => exact Frag.In.keeps (by with_reducible assumption) (Fr.keep (by with_reducible assumption))); (case k2 => k_is); k_whole))))
local macro_rules | `(tactic| walk_at "compareOp Eq bytes bytes") => `(tactic| (k_here; k_dflt (refine eq_tail (by omega) (by omega) ?_)))
local macro_rules | `(tactic| walk_at "compareOp NotEq bytes bytes") => `(tactic| (k_here; k_dflt (refine ne_self ?_)))
local macro_rules | `(tactic| walk_at "call builtin:len") => `(tactic| (k_here; (with_reducible show wpAny _ _ (call (Value.builtin "len") [Value.bytes _ _]) _ _ _); k_dflt (refine len_bytes (by omega) ?_)))
local macro_rules | `(tactic| walk_at "call builtin:list.append") => `(tactic| (k_here; (with_reducible show wpAny _ _ (call (Value.builtin _) [Value.ref _, _]) _ _ _); k_dflt (refine' append_K ?k1 ?k2 ?k3 ?_ ?z; (case k1 => k_asm); (case k2 => k_asm); (case k3 => k_upd); (case z => ((simp only [List.size_toArray]); rw [sizeLine_eq]; omega))); intro h' F' N'; (try simp only [List.push_toArray] at N'); (try k_sweep)))
local macro_rules | `(tactic| walk_at "call builtin:list.pop") => `(tactic| (k_here; k_dflt (refine' pop_fr1 ?F ?N ?U ?d ?z ?e ?_; (case F => k_asm); (case N => k_asm); (case U => k_upd); (case d => assumption); (case z => omega); (case e => first | assumption | exact not_dec (by assumption))); intro gs' p' e' h' a' tx' ty' k' F' N' hm' hd'; subst e'; (try k_sweep)))
local macro_rules | `(tactic| walk_at "call builtin:list.pop") => `(tactic| (k_here; k_dflt (refine' pop_fr2 ?F ?N ?U ?d ?z ?_; (case F => k_asm); (case N => k_asm); (case U => k_upd); (case d => assumption); (case z => omega)); intro h' a' tx' ty' k' F' N' hm' hd'; (try k_sweep)))
local macro_rules | `(tactic| walk_at "ite") => `(tactic| (k_here; k_dflt (refine no63 (by assumption) ?_)))
local macro_rules | `(tactic| walk_at "call builtin:list.pop") => `(tactic| (k_here; k_dflt (refine' pop_empty ?h ?N ?m ?_; (case h => rfl); (case N => k_asm); (case m => k_mem)); intro h' tk' e' x'))
local macro_rules | `(tactic| walk_at "exec Try") => `(tactic| (k_here; (with_reducible show wpAny _ _ (exec (Stmt.Try _ (_ :: _) _ [] _) (envOfC _ _ _ _ _)) _ _ _); (rename (decide (fd _ = []) = true) => hnil'); (have hnil2 := fs_nil hnil'); clear hnil'; subst hnil2; (rename DatAll _ _ (fd []) => hA1); (have hA2 := dat_nil hA1); clear hA1; subst hA2; (rename DatAll _ _ (fd []) => hA1); (have hA2 := dat_nil hA1); clear hA1; subst hA2; refine wpAny_Try_except ?_))
local macro_rules | `(tactic| walk_at "noteFrame ref") => `(tactic| (k_here; (rename RaisedN _ _ _ _ _ _ => rnX'); k_dflt (refine caught_C0 (by assumption) rfl (by assumption) (by assumption) rnX' (by k_asm) ?_); clear rnX'; intro h' F' N'; ground_anew F'; (have kX := kFor F' (by k_asm)); (try k_sweep)))
local macro_rules | `(tactic| walk_at "noteFrame ref") => `(tactic| (k_here; (rename Heap.NewExc _ _ _ "IndexError" => nxX'); k_dflt (refine caught_reraise (by assumption) (by assumption) (by k_asm) nxX' (by k_asm) ?_); intro h' e' tk' R' U'; (try dsimp only at R' U' ⊢)))
local macro_rules | `(tactic| walk_at "leaving ref") => `(tactic| (k_here; (rename Chained _ _ _ _ _ => rcX'); k_dflt (refine' leave_chained ?K rcX' ?U ?_; (case K => assumption); (case U => assumption)); clear rcX'; intro h' R' U'; (try dsimp only at R' U' ⊢)))
set_option maxRecDepth 100000 in
set_option maxHeartbeats 40000000 in
theorem PySem.Challenge.cw_iv0008_01_holds : PySem.Challenge.rw_iv0008_01.Holds := by
  w_on; o_law; k_head; (case hw => w_witness2)
  k_go0; (all_goals try k_fold)
  k_steps
  (rename Fr _ _ _ _ => lF')
  (rename News _ _ _ _ => lN')
  (rename IsRange _ _ _ _ _ _ _ _ => rgX)
  with_unfolding_all refine' my_for ?mfH rgX ?mf0 ?mf1 lF' lN' ?mfA ?mfK ?mfT ?mfD
  case mfH => rfl
  case mf0 => omega
  case mf1 => omega
  case mfA => ((simp only [List.map_cons, List.map_nil]); exact rfl)
  case mfK => with_unfolding_all rfl
  case mfT =>
    clear lF' lN'
    intro vs us ds es na nb pl sp tot tpl tsp tt tl i t u h tk own hi kSep kO4 hd1 hd2 hW kFr kNews
    obtain ⟨fs, rfl, rfl, rfl, rfl, hlen, hpl, hfs⟩ := hW
    have kMark := kdMark
    have kMark2 := kstMark
    have hi2 := rN_lt hi
    have hf64 : fs.length ≤ 64 := by omega
    have hus : us.length ≤ 64 := by rw [hd2.length]; simpa [fd] using hf64
    have hvs : vs.length ≤ 64 := by rw [hd1.length]; simpa [fd] using hf64
    simp only [List.nil_append, List.cons_append] at kNews hd1 hd2
    k_with "state" => first | exact W_nil (by assumption) | exact W_keep (by assumption) (by assumption) (by first | rfl | omega) (by omega) | exact W_seek (by assumption) (by assumption) (by assumption) | exact W_push (by assumption) (by assumption) (by assumption) (by assumption) (by first | rfl | omega) (by first | rfl | omega) (by first | rfl | omega) | exact W_popJ (by omega) (by assumption) rfl rfl rfl
    k_steps
  case mfD =>
    clear lF' lN'
    intro vs us ds es na nb pl sp tot tpl tsp tt tl u h tk hoff hd1 hd2 hW kFr kNews
    have kMark := kdMark
    have kMark2 := kstMark
    simp only [List.nil_append, List.cons_append] at kNews hd1 hd2
    first | walk1 | (dsimp only; walk1) | (k_unfold; (try dsimp only); walk1)
    (rename Fr _ _ _ _ => lF')
    (rename News _ _ _ _ => lN')
    with_unfolding_all refine' my_while lF' lN' hd1 hd2 ?mwK (W_mono hW ?mwL) ?mwT
    case mwK => with_unfolding_all rfl
    case mwL => unfold rN; omega
    case mwT =>
      clear lF' lN' hd1 hd2 hW
      intro vs us ds es na nb pl sp tot tpl tsp tt u h tk hd1 hd2 hW kFr kNews
      obtain ⟨fs, rfl, rfl, rfl, rfl, hf64, hpl, hfs⟩ := hW
      have hus : us.length ≤ 64 := by rw [hd2.length]; simpa [fd] using hf64
      have hvs : vs.length ≤ 64 := by rw [hd1.length]; simpa [fd] using hf64
      k_with "state" => exact W_popJ (by assumption) (by assumption) rfl rfl rfl
      k_with "measure" => exact fd_less _ _
      k_steps
  all_goals (first | done | k_data)
